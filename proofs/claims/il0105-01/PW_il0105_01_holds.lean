import PyProof.Rows.All
import Wide.All
import OpenK.AllK
import Wide.FinOn
import PyProof.Conv_int
import KE.KStopIter
import Lean
import PySem.Challenge.RW_il0105_01
-- The parts of this proof (Mine: the head; La: the layer, the plain law, the walk) lie apart under long names in the prover's repo (wip); this file is their join,
-- made short by a program (names, spaces), for the lid on its length. La.mD, used on declarations, takes places out of the syntax, marks definitions noncomputable
-- and shares the scripts of default arguments, for the lid on the compiled file: statements and proofs stay as written. La.mT shortens steps of the walk (La.tab).
set_option Elab.async false
set_option maxRecDepth 100000
set_option maxHeartbeats 0
set_option linter.all false
set_option tactic.hygienic false
open PySem PySem.W PyProof.Rows
local macro_rules | `(tactic| omega) => `(tactic| lia)
namespace La
section
open Lean
-- the walk's lines: a key, then its alternatives: a lemma and what its arguments are found by (? is left, _ is found by itself, ! by a key at once, = is a name, # is a template, a key by its line; a figure ahead: in this order)
def tab : String := "has|vf.head|vf.put|vf.over 1has 2kr!|vf.tail has;take|gc.head|gc.tail take|gc.over take;takex|vg.head|vg.tail takex|vg.over takex;takes|cv.nil|cv.cons take takes|cv.chunk takex takes;sub|Sub.nil|Sub.cons has sub;put|un.sym|T7|T8|Fw.new|Fw.here !kr!|Fw.there !kr put;as|kb put|Iy !asm asl;asl|KR.nil|KR.cons as asl;evl|bW|bg ev evl;st|aV ?|U7 ?|jt ev put ?|Qr !asm ev asl ?|fc !asm ev ev take sz ?|Hg !asm ev ev take sz ?|U9 !asm ev take sz nrs ?|Mg has ev op put ?|yf =iw !asm 3cls 2ev 1ev 4take 5put 6kr ?;ite|dY tt ? ?;ret|ly ev ?;new|En evl ?;kp|iu|kP|!asm|Xg =Tm|Xg =Pe|Xg =JZ|Xg =Tg|Xg =Th|Xg =Tj|Xg =Tk|Xg =Tl|Xg =Ti|Xg =Q0|Xg =Q3|Xg =Q1|Xg =Q2|Xg =J1|Xg =J2|Xg =J3|Xg =QZ|Xg =J0;fn|VX|QH|xh|KU|RM|Qq|!asm|qm sz|RK sz|RN sz;mfn|Mc|Qp|!asm|Um kr sz sz|RL sz|IC sz|Am sz;bt|Vw _|Uw _|RT _|KZ _|K8 _|Vq _|Tc _|Vr _|Uu _|RS _|Vs _|Vt _|M7 _|Vu _|TD _|TE _|Uv _|Vv _;gl|RP _|Q5 _|M4 _|Pf _|Ga _|K9 _|TA _|Tz _|J4 _|M5 _|Ie _|Ph _|M6 _|J5 _|HM _|EU _|TC _|Ts _|Pg _|Q6 _|Tu _|RU _|TZ _;evo|xL|xM ev;op|sL|Ab|RI|GJ|ju|jv|RH|gn|CE|Qn|QE|KW|QF urfl|KX urfl|KY|QG|Jc|Hn|iV sz|rQ sz|Ej sz|KV om om|mB sz|x0 sz|!asm;tv|vh|Un|Vj|IF take sz|Vb sz|Bp sz|VY take;tta|eN.last tt|eN.cons tt ^tta;tto|rL.last tt|rL.cons tt ^tto;tt|oL tt|cp ev ev op|ce tta|wH tto|lw ev tv;ty|Bk|uq take;fld|Pl|T3|Lb|No|Lc|Ec|RV|RW|T4|T5|T6|C'.head|C'.tail !kr! fld;nrs|O1;iff|rN tt ?;bind|W8 put ?;kr|#{tacticKernel_rfl x };kr!|#{PyProof.Rows.tacticKernel_rfl! x };rd*|rfl|Exists.intro _ =rfl;asm|#{T.assumption x };urfl*|rfl;om*|#{T.omega omega {T.optConfig {null } } };szs*|#{null {T.simp simp {T.optConfig {null } } {null } {null only } {null [ {null {T.simpLemma {null } {null } 'List.length_map } , {T.simpLemma {null } {null } 'List.length_append } , {T.simpLemma {null } {null } 'List.length_cons } , {T.simpLemma {null } {null } 'List.length_nil } , {T.simpLemma {null } {null } 'PySem.sizeLine_eq } } ] } {null } } {T.allGoals all_goals {T.tacticSeq {T.tacticSeq1Indented {null {T.omega omega {T.optConfig {null } } } } } } } };asmu*|#{T.assumption x };sz*|!asmu|!om|W9 om|!szs|of_decide_eq_true =rfl;ne|W7 ne ne|Xa|VS|Xb|WO|Xh|Xc|Xe|Xd|Xf;cls|ki _|yO _|jy _;ev|Ei|Iv|Uk|xz|U'|U6 has|V4 gl !asm|V5 bt !asm|SO urfl take|fa evl|xC evl|wI ev ev take sz|Mb ev evo evo sz|oM ev evo evo sz|bS ev ev sz sz asm|kB ev ev op|U8 ev tv ^ev|Uq =iw !asm 2cls 1ev 3take 4fld 5kr 6urfl|ka !asm 3kp 1ev 2evl 5takes 4fn|xB !asm 1ev 2ty =gG =PySem.F.slot_str_startswith =PySem.F.type_str_startswith 3evl 5takes 4mfn|xB !asm 1ev 2ty =gG =PySem.F.slot_str_endswith =PySem.F.type_str_endswith 3evl 5takes 4mfn|xB !asm 1ev 2ty =gG =PySem.F.slot_str_split =PySem.F.type_str_split 3evl 5takes 4mfn|xB !asm 1ev 2ty =gG =jC =jD 3evl 5takes 4mfn|xB !asm 1ev 2ty =gG =PySem.F.slot_str_replace =PySem.F.type_str_replace 3evl 5takes 4mfn"
def mp (f : Syntax → Syntax) (l : List Syntax) : List Syntax := l.map f
def zi (f : String × Nat → List Syntax) (l : List (String × Nat)) : List Syntax := l.flatMap f
def fo (f : List (String × List Syntax) → String → List (String × List Syntax)) (i : List (String × List Syntax)) (l : List String) : List (String × List Syntax) := l.foldl f i
def mo (f : Syntax → Option Syntax) (l : List Syntax) : Option (List Syntax) := l.mapM f
-- a template as syntax: {k opens a node of that kind, } closes it, a figure is an argument, 'x a name, all else a sign
def xS (a : List Syntax) (st : List (String × List Syntax)) (w : String) : List (String × List Syntax) :=
  let d := (w.drop 1).toString
  if w.front == '{' then (d, []) :: st else
  match st with
  | [] => []
  | (k, x) :: r =>
    if w != "}" then (k, (if w.front.isDigit then a.getD w.toNat! .missing else if w.front == '\'' then mkIdent d.toName else mkAtom w) :: x) :: r else
    match r with
    | [] => st
    | (l, y) :: r => (l, mkNode k.toName x.reverse.toArray :: y) :: r
def X (t : String) (a : List Syntax) : Syntax :=
  match fo (xS a) [("", [])] (((t.replace "T." "Lean.Parser.Tactic.").replace "M." "Lean.Parser.Term.").splitOn " ") with
  | (_, x :: _) :: _ => x
  | _ => .missing
def nl (r : List Syntax) : Syntax := mkNullNode r.toArray
def sq (t : Syntax) : Syntax := X "{T.tacticSeq {T.tacticSeq1Indented {null 0 } } }" [t]
def qF (r : List Syntax) : Syntax := X "{T.first first 0 }" [nl (mp (fun t => X "{group | 0 }" [t]) r)]
def qW (k : String) : Syntax := X "{PyProof.Rows.tacticWalk_at_ walk_at 0 }" [Syntax.mkStrLit k]
def qR (e : Syntax) : Syntax := X "{T.refine refine 0 }" [e]
def qId (s : String) : Syntax := mkIdent s.toName
def qA (f : Syntax) (l : List Syntax) : Syntax := if l.isEmpty then f else X "{M.app 0 1 }" [f, nl l]
def qH (x : String) : Syntax := X x []
def qIs (l : List Syntax) : Syntax := if l.isEmpty then nl [] else X "{T.intros intros 0 }" [nl l]
def qRi (x : Syntax) : Syntax := X "{T.rintro rintro {null {T.rintroPat.one {T.rcasesPat.one 0 } } } {null } }" [x]
def isK (z : Syntax) (l : List String) : Bool := l.any fun k => z.getKind.toString.endsWith k
def up (n : Nat) : List (String × Nat) := (List.replicate n "").zipIdx
def altT (s : Nat) (a : String) : Syntax :=
  let d := (a.drop 1).toString
  if a.front == '#' then X d [] else if a.front == '!' then qW d else
  let ws := a.splitOn " "
  let r := ws.tail!.zipIdx
  let v (i : Nat) : Syntax := mkIdent (.num (.mkSimple (ws.head! ++ toString i)) s)
  nl (X (if (zi (fun p => if "_!=".contains p.1.front then [] else [.missing]) r).isEmpty then "{T.exact exact 0 }" else "{T.refine' refine' 0 }") [qA (qId ws.head!) (zi (fun (w, i) =>
    let d := (w.drop 1).toString
    [if w == "_" then qH "{M.hole _ }" else if w.front == '!' then X "{M.byTactic by 0 }" [sq (qW d)] else if w.front == '=' then qId d else X "{M.syntheticHole ? 0 }" [v i]]) r)] ::
  zi (fun p => zi (fun (w, i) =>
    let c := w.front
    if (if c.isDigit then c.toNat == 48 + p.2 else p.2 == 0 && !"_!=?".contains c) then [X "{T.case case {null {T.caseArg {Lean.binderIdent 0 } {null } } } => 1 }" [v i, sq (qW (if c.isDigit then (w.drop 1).toString else w))]] else []) r) (up 7))
def walkT (s : Nat) (k : String) : Option Syntax :=
  if k.startsWith "^" then some (X "{null {T.intro intro {null {M.hole _ } } } 0 }" [qW (k.drop 1).toString]) else
  ((tab.splitOn ";").find? fun l => l.startsWith (k ++ "|") || l.startsWith (k ++ "*|")).map fun l =>
    X (if l.startsWith (k ++ "*") then "{T.withUnfoldingAll with_unfolding_all 0 }" else "{T.withReducible with_reducible 0 }") [sq (qF (zi (fun p => [altT s p.1]) (l.splitOn "|").tail!.zipIdx))]
def rwR (x : Syntax) : Syntax :=
  let b := X "{T.rewriteSeq rewrite {T.optConfig {null } } {T.rwRuleSeq [ {null 0 } ] } {null } }" [x]
  if (x.find? fun z => isK z ["syntheticHole", "anonymousCtor", ".fun", "byTactic"] || z.getId == `lz).isSome then b else
  qF [X "{T.withReducible with_reducible 0 }" [sq (qR (qA (qId (if x[0].getNumArgs == 0 then "rwT" else "rwS")) [x[1], qH "{M.syntheticHole ? _ }"]))], b]
def patT (z : Syntax) : Option Syntax :=
  let x := if z.isIdent then z else z[0]
  if isK z ["ident", ".one"] then some (if x.getId == `rfl then qRi x else if z.isIdent then qIs [z] else X "{T.intro intro {null 0 } }" [x])
  else if isK z [".hole"] then some (qH "{T.intros intros {null 'z_ } }")
  else if isK z [".ignore"] then some (qH "{T.intro intro {null {M.hole _ } } }")
  else if isK z [".tuple"] then some (X "{null {T.intro intro {null 'z_ } } {T.obtain obtain {null {T.rcasesPatMed {null 0 } } } {null } {null := {null 'z_ } } } }" [z])
  else if isK z ["anonymousCtor"] then some (X "{null 1 {T.tacticHave__ have {M.letConfig {null } } {M.letDecl {M.letPatDecl 0 {null } {null } := 'z_ } } } }" [z, qRi (qId "z_")])
  else none
def qC (e : Syntax) : Syntax := if e.isIdent then X "{T.tacticTry_ try 0 }" [sq (X "{T.clear clear {null 0 } }" [e])] else nl []
def qB (l : List Syntax) (e : Syntax) : Option Syntax :=
  let n := l.length
  if n < 2 || n > 9 then none else (mo patT l).map fun ts =>
    nl (qF (zi (fun p => let i := 5 - p.2; if i < n && n - i < 9 then [qR (qA (qId s!"eE{i}{n - i}") [e, qH "{M.syntheticHole ? _ }"])] else []) (up 6)) :: qC e :: ts)
def gnT (f : Syntax) : List Syntax → List Syntax
  | [] => []
  | x :: r => X "{T.generalize generalize {null {T.generalizeArg {null } 0 = 1 } } {null } }" [if r.isEmpty then f else X "{M.proj 0 . {fieldIdx 1 } }" [f], x] :: gnT (X "{M.proj 0 . {fieldIdx 2 } }" [f]) r
def inT (xs : List Syntax) : Nat → Syntax
  | 0 => match xs with
    | [] => nl []
    | x :: r => nl [qRi x, qIs r]
  | k + 1 =>
    let s := if k == 0 then "" else toString (k + 1)
    let o := qH "{M.hole _ }"
    let h := qH "{M.syntheticHole ? _ }"
    qF [nl (qR (qA (X "{M.explicit @ 0 }" [qId ("La.ep" ++ s)]) (List.replicate (k + 2) o ++ [h, h])) :: X "{T.focus focus 0 }" [sq (qW "ne")] :: gnT (qA (qId ("La.hc" ++ s)) [o, o]) (xs.take (k + 1)) ++ [qIs (xs.drop (k + 1))]), inT xs k]
def extK (z : Syntax) : String := z[0][0].getId.toString
def exP : List Syntax → List Syntax
  | x :: k :: r => X "{T.case case {null {T.caseArg {Lean.binderIdent 0 } {null } } } => 1 }" [x[0][0], sq (qW (extK k))] :: exP r
  | _ => []
def goT (c : Nat) (s : Syntax) : Option Syntax :=
  let a := s[1]
  let n := a.getNumArgs
  if isK s ["alk_at_"] then walkT c (a.isStrLit?.getD "")
  else if isK s [".ext"] then if n == 1 then walkT c (extK a[0]) else some (nl (exP a.getArgs.toList))
  else if isK s [".symm"] then some (qH "{tacticKernel_rfl kernel_rfl }")
  else if isK s ["Rfl'"] then some (qH "{T.decide decide {T.optConfig {null {T.configItem {T.posConfigItem + 'kernel } } } } }")
  else if isK s ["intros"] then if n == 0 then none else some (inT a.getArgs.toList (min n 8))
  else if isK s ["injections"] then some (X "{null {T.revert revert 0 } {T.intros intros 0 } }" [a])
  else if isK s ["rwSeq"] then if s[3].getNumArgs != 0 then none else some (nl (mp rwR s[2][1].getSepArgs.toList ++ [X "{T.tacticTry_ try 0 }" [sq (X "{T.withReducible with_reducible 0 }" [sq (qH "{T.tacticRfl rfl }")])]]))
  else if isK s ["Have__"] then
    let d := s[2][0]
    if isK d ["letPatDecl"] && d[2].getNumArgs == 0 && isK d[0] ["anonymousCtor"] then qB d[0][1].getSepArgs.toList d[4] else none
  else if isK s ["obtain"] then
    let p := a[0]
    let t := p[0][0]
    let e := s[3][1][0]
    if n != 1 || s[2].getNumArgs != 0 || p[0].getNumArgs != 1 || !isK t ["tuple"] then none else
    (mo (fun q => if q[1].getNumArgs != 0 || q[0][0].getNumArgs != 1 then none else some q[0][0][0]) t[1].getSepArgs.toList).bind fun l => (qB l e).map fun b =>
      qF [b, X "{T.rcases rcases {null {T.elimTarget {null } 0 } } {null with {T.rcasesPatLo 1 {null } } } }" [e, p]]
  else
    let p := s[2][1]
    let e := a[0][1]
    match mo patT p[0][0].getSepArgs.toList with
    | some [x, y] => if n != 1 || a[0][0].getNumArgs != 0 || p[1].getNumArgs != 0 then none else
      let v (i : String) : Syntax := mkIdent (.num (.mkSimple i) c)
      some (X "{null {T.refine refine {M.app 'Or.elim {null 0 {M.syntheticHole ? 1 } {M.syntheticHole ? 2 } } } } {T.case' case' {null {T.caseArg {Lean.binderIdent 2 } {null } } } => 3 } {T.case' case' {null {T.caseArg {Lean.binderIdent 1 } {null } } } => 4 } }" [e, v "x", v "y", sq (nl [qC e, y]), sq (nl [qC e, x])])
    | _ => none
def mT (s : Syntax) : MacroM Syntax := do
  match goT (← read).currMacroScope s with
  | some x => return x
  | none => Macro.throwUnsupported
def kr : Syntax := sq (qH "{tacticKernel_rfl kernel_rfl }")
def kq : Syntax := sq (qH "{T.tacticRfl rfl }")
def kr1 : Syntax := qH "{T.tacticSeq {T.tacticSeq1Indented {null {T.intro intro {null {M.hole _ } } } ; {tacticKernel_rfl kernel_rfl } } } }"
def kr2 : Syntax := qH "{T.tacticSeq {T.tacticSeq1Indented {null {T.intro intro {null {M.hole _ } {M.hole _ } } } ; {tacticKernel_rfl kernel_rfl } } } }"
def kr3 : Syntax := sq (qF [sq (qH "{T.exact exact {M.fun fun {M.basicFun {null 'x_ } {null } => 'rfl } } }"), sq (qH "{T.exact exact {M.fun fun {M.basicFun {null 'h } {null } => {M.nomatch nomatch {null 'h } } } } }")])
-- where the text says symm for kernel_rfl (see goT)
def sy (s : Syntax) : Syntax := s.rewriteBottomUp fun z => if isK z [".symm"] then qH "{tacticKernel_rfl kernel_rfl }" else z
def kA (t : Syntax) : Option String := let t := sy t; if t == kr then some "La.kr" else if t == kr1 then some "La.kr1" else if t == kr2 then some "La.kr2" else if t == kr3 then some "La.kr3" else if t == kq then some "La.kq" else none
-- a declaration without its places, a theorem for this file alone; names for what stands as _
def sN (s : Syntax) : Syntax :=
  if isK s ["basicFun"] then s.modifyArg 0 fun b => nl (mp (fun z => if isK z [".hole"] then qId "x_" else z) b.getArgs.toList)
  else if isK s ["explicitBinder"] && isK s[3][0] ["binderTactic"] then match kA s[3][0][2] with
    | some p => X "{M.explicitBinder ( 0 {null : {M.app 'autoParam {null 1 2 } } } {null } ) }" [s[1], s[2][1], qId p]
    | _ => s
  else s.setInfo .none
def mD (f : Syntax → Syntax) (s : Syntax) : MacroM Syntax :=
  if s.getPos?.isNone then Macro.throwUnsupported else
  let s := s.rewriteBottomUp f
  let d := s[1]
  let u (i : Nat) (t : String) (s : Syntax) := s.modifyArg 0 fun m => m.modifyArg i fun _ => qH t
  return if isK d ["definition", "abbrev"] && s[0][4].getNumArgs == 0 then u 4 "{null {Lean.Parser.Command.noncomputable noncomputable } }" s
  else s
-- the strings of the head's objects: s and a figure stands for one
def hTab : String := "__name__|builtins|__doc__|__package__|__loader__|__spec__|__build_class__|compile|copyright|__main__|_sre|_collections|\x69mport.loaded._sre|class._frozen_importlib.BuiltinImporter|watched.\x69mport|class._frozen_importlib.ModuleSpec|sys.modules.booked-epoch|\x69mport.later-laid._sre|watched.library|watched.library-objects|watched.library-deep._sre|\x69mport.loaded._collections|sys.modules.landed._collections|\x69mport.later-laid._collections|watched.library-deep._collections|__annotations__|__builtins__|__file__|/claim/cut.py|__cached__|deque|<module>||getcodesize|ascii_iscased|unicode_iscased|ascii_tolower|unicode_tolower|MAXREPEAT|MAXGROUPS| SRE 2.2.2 Copyright (c) 1997-2002 by Secret Labs AB |__module__|_frozen_importlib|__firstlineno__|built-in|__static_attributes__|__dict__|__weakref__|BuiltinImporter|name|loader|origin|loader_state|submodule_search_locations|_uninitialized_submodules|_set_fileattr|_cached|_initializing|__init__|__repr__|ModuleSpec|_count_elements|defaultdict|_deque_iterator|_deque_reverse_iterator|_tuplegetter|OrderedDict|cpy313.difflib|_wall|k|__qualname__|__get__|__set__|__delete__|self|index|doc|_tuplegetter.__init__|obj|_tuplegetter.__get__|_tuplegetter.__set__|_tuplegetter.__delete__|Match|Match(a, b, size)|__slots__|_field_defaults|__new__|_make|_replace|__replace__|_asdict|__getnewargs__|__match_args__|a|b|size|Match.__new__|cls|result|Match._make|__class__|Match._replace|Match.__repr__|Match._asdict|Match.__getnewargs__|Alias for field number 0|Alias for field number 1|Alias for field number 2|_calculate_ratio|SequenceMatcher|set_seqs|set_seq1|set_seq2|_SequenceMatcher__chain_b|find_longest_match|get_matching_blocks|get_opcodes|get_grouped_opcodes|ratio|quick_ratio|real_quick_ratio|isjunk|SequenceMatcher.__init__|SequenceMatcher.set_seqs|SequenceMatcher.set_seq1|SequenceMatcher.set_seq2|b2j|i|n|SequenceMatcher.__chain_b|j|SequenceMatcher.find_longest_match|matching_blocks|x|i1|j1|SequenceMatcher.get_matching_blocks|SequenceMatcher.get_opcodes|SequenceMatcher.get_grouped_opcodes|SequenceMatcher.ratio|SequenceMatcher.quick_ratio|SequenceMatcher.real_quick_ratio|collections.abc|_plain_name|ABCMeta|_ABCLike|what|abc|register|ABCMeta.register|__instancecheck__|__subclasscheck__|C|_ABCLike.__instancecheck__|_ABCLike.__subclasscheck__|_ABCLike.register|io|_abc_plain_meta|fspath|_check_arg_types|check_arg_types_genericpath|_get_sep|join|join_posixpath|splitroot|normpath|commonpath|_twin_re_1|_whence|_index|path|args|s|p|sep|UnsupportedOperation|IOBase|IOBase.__new__|BufferedIOBase|TextIOBase|BytesIO|_io|_BytesIO__check|_BytesIO__line|closed|close|__enter__|__exit__|readable|writable|seekable|isatty|flush|fileno|detach|getvalue|getbuffer|tell|seek|truncate|read|read1|readinto|readinto1|readline|readlines|__iter__|__next__|write|writelines|BytesIO.__init__|BytesIO.__check|start|stop|BytesIO.__line|BytesIO.closed|BytesIO.close|BytesIO.__enter__|BytesIO.__exit__|BytesIO.readable|BytesIO.writable|BytesIO.seekable|BytesIO.isatty|BytesIO.flush|BytesIO.fileno|BytesIO.detach|BytesIO.getvalue|BytesIO.getbuffer|BytesIO.tell|pos|BytesIO.seek|BytesIO.truncate|BytesIO.read|BytesIO.read1|BytesIO.readinto|BytesIO.readinto1|BytesIO.readline|BytesIO.readlines|BytesIO.__iter__|BytesIO.__next__|BytesIO.write|BytesIO.writelines|BytesIO.__repr__|StringIO|_StringIO__translated|_StringIO__check|_StringIO__check_dot|_StringIO__line|line_buffering|newlines|encoding|errors|newline|StringIO.__init__|StringIO.__translated|StringIO.__check|StringIO.__check_dot|StringIO.__line|StringIO.closed|StringIO.line_buffering|StringIO.newlines|StringIO.encoding|StringIO.errors|StringIO.close|StringIO.__enter__|StringIO.__exit__|StringIO.readable|StringIO.writable|StringIO.seekable|StringIO.isatty|StringIO.flush|StringIO.fileno|StringIO.detach|StringIO.getvalue|StringIO.tell|StringIO.seek|StringIO.truncate|StringIO.read|StringIO.readline|StringIO.readlines|StringIO.__iter__|StringIO.__next__|StringIO.write|StringIO.writelines|StringIO.__repr__|cpy313.shlex|_kind|_fspath|check_arg_types_path|isabs|join_path|dirname|shlex|punctuation_chars|push_token|push_source|pop_source|get_token|read_token|sourcehook|error_leader|infile|posix|shlex.__init__|shlex.punctuation_chars|shlex.push_token|newstream|newfile|shlex.push_source|shlex.pop_source|shlex.get_token|shlex.read_token|shlex.sourcehook|shlex.error_leader|shlex.__iter__|shlex.__next__|law_il0105_01|split|quote|_law_spelled|_law_drawn|_law_commands|_law_done|_law_shelf|_law_changes|_law_told_back|law"
def hN (s : Syntax) : Syntax :=
  let k := s.getId.toString
  let n := (k.drop 1).toString
  if s.getKind == `num then X "{rawNatLit nat_lit 0 }" [s] else
  if s.isIdent && k.front == 's' && n.isNat then X "{M.app 'Mine.y {null 0 } }" [Syntax.mkStrLit ((hTab.splitOn "|").getD n.toNat! "")] else sN s
end
end La
namespace Mine
local macro_rules (kind:=Lean.Parser.Command.declaration)|s=>La.mD La.sN s
def Ld {α:Type} (p:α->Bool) (l:List α):Bool:=@List.rec α (fun _=>Bool) false (fun c _ d=>@Bool.rec (fun _=>Bool) d true (p c)) l
theorem Lf {α:Type} (p:α->Bool) (l:List α):l.any p=Ld p l:=by
 induction l with
 |nil=>rfl
 |cons a t d=>
  show _=@Bool.rec (fun _=>Bool) (Ld p t) true (p a);rw[List.any_cons,d];cases p a<;>rfl
def Pt {α:Type} (s:Array α) (p:α->Bool) (start:Nat:=0) (stop:Nat:=s.size):Bool:=
 @Bool.rec (fun _=>Bool) (s.any p start stop) (Ld p s.toList) (Nat.beq start 0&&Nat.beq stop s.size)
theorem Lg:@Array.any.{0}=@Pt:=by
 funext α s p start stop
 unfold Pt;cases h:(Nat.beq start 0&&Nat.beq stop s.size) with
 |false=>rfl
 |true=>
  simp only[Bool.and_eq_true,Nat.beq_eq] at h;obtain⟨rfl,rfl⟩:=h;show _=Ld p s.toList;rw[<-Lf,Array.any_toList]
abbrev RX:=∀{α:Type},Array α->(α->Bool)->Nat->Nat->Bool
def fb (any:RX) (e:@Array.any.{0}=@any):Builtin:=by
 refine(?g:PySem.W.Fast.tw4202317264376624991=?f->Builtin) ?h
 case g=>exact fun _=>?f
 case h=>
  delta PySem.W.Fast.tw4202317264376624991
  rw[e]
theorem RY (any:RX) (e:@Array.any.{0}=@any):PySem.W.Fast.tw4202317264376624991=fb any e:=by
 subst e
 kernel_rfl
def Pu:Builtin:=fb @Pt Lg
theorem Lh:PySem.W.Fast.tw4202317264376624991=Pu:=RY _ _
section
noncomputable section
local macro_rules (kind:=Lean.Parser.Command.declaration)|s=>La.mD La.hN s
abbrev O:=Program->Params->Obj
abbrev y (s:String):Str:=s
abbrev z (l:List Nat):Str:=⟨⟨l⟩⟩
abbrev N:Value:=.none
abbrev B (b:Bool):Value:=.bool b
abbrev I (i:Nat) (t:Nat):Value:=.int (Int.ofNat i) t
abbrev Im (t:Nat):Value:=.int (Int.negSucc 0) t
abbrev S (s:Str) (t:Nat):Value:=.str s t
abbrev Y (n:String):Value:=.type n
abbrev U (n:String):Value:=.builtin n
abbrev R (a:Nat):Value:=.ref a
abbrev T (l:List Value):O:=fun q P=>⟨.type "tuple",none,.seq ⟨l⟩ 0,⟨[]⟩⟩
abbrev W (l:List Value):O:=fun q P=>⟨.none,none,.fields ⟨l⟩,⟨[]⟩⟩
abbrev C (l:List Value):O:=fun q P=>⟨.type "code",none,.fields ⟨l⟩,⟨[]⟩⟩
abbrev E (P:Params) (s:Str) (t:Nat) (v:Value):DictEntry:=⟨PyData.keyHash P s,.str s t,v⟩
def body (q:Program):List Stmt:=behindTheImports q
def g (q:Program) (i:Nat):Stmt:=(body q)[i]?.getD (.Pass ⟨0,0,0,0⟩)
def g2 (q:Program) (i j:Nat):Stmt:=match g q i with
 |.ClassDef _ _ _ b _ _ _ _ _ _ _=>b[j]?.getD (.Pass ⟨0,0,0,0⟩)
 |_=>.Pass ⟨0,0,0,0⟩
def NJ (b:List Stmt):Str:=(docOf b).getD ⟨⟨[]⟩⟩
def Lj (st:Stmt):Str:=match st with
 |.FunctionDef _ _ b _ _ _ _ _ _ _=>NJ b
 |_=>⟨⟨[]⟩⟩
def Ig (st:Stmt):Str:=match st with
 |.ClassDef _ _ _ b _ _ _ _ _ _ _=>NJ b
 |_=>⟨⟨[]⟩⟩
def F (st:Stmt) (d:Str) (gl:Nat) (t:List (Str×Addr)) (H v doc pm:Value) (u:Option Addr) (cd ct:Value) (bl:Nat):Data:=match st with
 |.FunctionDef nm a b _ _ _ sc _ _ _=>.func ⟨nm,d,a,.stmts b,sc,gl,t,H,v,doc,pm,u,cd,ct,bl⟩
 |_=>.plain
def sa:=z [4,0,0,11,4,0,0,11,4,0,0,3,4,0,0,11,8,4,100,105,99,116,2]
def sb:=z [4,0,0,29,4,0,0,29,4,0,0,3,4,0,0,29,8,4,100,105,99,116,2]
def sc:=z [91,94,92,119,64,37,43,61,58,44,46,47,45,93]
abbrev t_:O:=T []
abbrev w_:O:=W []
abbrev D (l:List DictEntry) (n:Nat):Obj:=⟨Y "dict",none,.dict ⟨l⟩ n,⟨[]⟩⟩
abbrev A (c:String) (l:List Value):O:=fun q P=>⟨Y c,none,.fields ⟨l⟩,⟨[]⟩⟩
abbrev V1 (t a:Nat):O:=A "getset_descriptor" [S s46 t,R a,U "function.__dict__",U "function.__dict__#set"]
abbrev V2 (t a:Nat):O:=A "getset_descriptor" [S s47 t,R a,U "ExceptionGroup.__weakref__",N]
abbrev Cx (a b:Str) (t l p o f r:Nat) (d:Bool) (z:Nat) (x y v:Value) (u:Nat):O:=C [S a t,S b (t+1),S s28 (t+2),I l 0,I p 0,I o 0,I 0 0,I f 0,R r,B d,I z 0,R (r+1),N,x,y,v,I u 0,I l 0,S s28 (u+1)]
abbrev Cf (a b:Str) (t l p o f r u:Nat):O:=Cx a b t l p o f r true 318 (R (r+2)) (R (r+3)) (R (r+4)) u
abbrev C3 (a b:Str) (t l p r u:Nat):O:=Cf a b t l p 0 3 r u
abbrev Cc (a b:Str) (t l r u:Nat):O:=Cx a b t l 0 0 0 r false 318 N N N u
abbrev Fn (st:Stmt) (a:Str) (c:List (Str×Addr)) (d e p:Value) (n:Option Addr) (r:Nat) (t:Value):Obj:=⟨Y "function",none,F st a 3 c d N e p n (R r) t 0,⟨[]⟩⟩
abbrev G (i j:Nat) (a:Str):O:=fun q P=>⟨N,none,F (g2 q i j) a 0 [] N N N N none N N 0,⟨[]⟩⟩
abbrev J (a b:Nat) (p:Value):O:=fun q P=>⟨Y "frame",none,.plain,⟨[some (R a),some (R 3),some (R b),none,some p,none,some (R 0)]⟩⟩
abbrev K (a:Str) (b m:List Value) (d:Nat) (c:List Value) (n:Option Value) (t u:Nat) (v:Value):O:=fun q P=>⟨Y "type",none,.cls ⟨a,b,m,d,a,true,[],c,false,none,false⟩,⟨[n,none,some (S a t),some (S a u),some v,some (B true)]⟩⟩
def nb:Nat->List O->Program->Params->List (Nat×Obj)
 |_,[],_,_=>[]
 |i,o::l,q,P=>(i,o q P)::nb (i+1) l q P
abbrev TT:=Program->Params->BT
abbrev x:TT:=fun _ _=>.nil
abbrev n (o:O) (l r:TT):TT:=fun q P=>.node (o q P) (l q P) (r q P)
abbrev Et:=Program->Params->DictEntry
abbrev e (s:Str) (t:Nat) (v:Value):Et:=fun _ P=>E P s t v
abbrev r (s:Str) (t a:Nat):Et:=e s t (R a)
def eb (f:String->Value):Nat->List String->List Et
 |_,[]=>[]
 |t,s::l=>e (y s) t (f s)::eb f (t+1) l
abbrev Dn (n:Nat) (l:List Et):O:=fun q P=>D (l.map fun f=>f q P) n
abbrev Dd (l:List Et):O:=Dn l.length l
abbrev Wq (l:List Value):O:=fun q P=>⟨N,none,.seq ⟨l⟩ 1,⟨[]⟩⟩
abbrev Mo (c:Value) (d:Nat):O:=fun q P=>⟨c,some d,.plain,⟨[]⟩⟩
def Ls (k:Nat):List Nat->List Value
 |a::b::l=>I a 0::I k 0::R b::Ls k l
 |_=>[]
def nt:Nat->List Str->List Value
 |_,[]=>[]
 |t,s::l=>S s t::nt (t+1) l
abbrev Tn (t:Nat) (l:List Str):O:=T (nt t l)
def ci:Nat->List Nat->List Value
 |_,[]=>[]
 |t,i::l=>I i t::ci (t+1) l
def kx (n:Nat) (s:String):List Nat:=n::(y s).cps.toList.length::(y s).cps.toList
def k (n:Nat) (s:String):List Nat:=6::kx n s
def j:List (List Nat)->List Nat
 |[]=>[]
 |a::l=>a++j l
def Q (s:Program->Stmt) (a b:Str) (t l p o f r:Nat) (ns:List Str) (c:List (Str×Addr)) (d:Value) (k:Bool) (m:Value) (n:Option Addr) (ct:Value):List O:=
 [t_,w_,Tn (t+3) ns,t_,fun q P=>⟨N,none,F (s q) b 0 [] N N N N none N N 0,⟨[]⟩⟩,Cf a b t l p o f r (t+3+ns.length),fun q P=>Fn (s q) b c d (bif k then S (Lj (s q)) (t+5+ns.length) else N) m n (r+5) ct]
abbrev gg (i j:Nat):Program->Stmt:=fun q=>g2 q i j
abbrev gh (i:Nat):Program->Stmt:=fun q=>g q i
abbrev qn (i j:Nat) (a b:Str) (t l p r:Nat) (m:Value) (ns:List Str):List O:=Q (gg i j) a b t l p 0 3 r ns [] N false m none N
abbrev qd (i j:Nat) (a b:Str) (t l p r:Nat) (m:Value) (ns:List Str):List O:=Q (gg i j) a b t l p 0 3 r ns [] N true m none N
abbrev hn (i:Nat) (a:Str) (t l p r:Nat) (m:Value) (ns:List Str):List O:=Q (gh i) a a t l p 0 3 r ns [] N false m none N
abbrev hd (i:Nat) (a:Str) (t l p r:Nat) (m:Value) (ns:List Str):List O:=Q (gh i) a a t l p 0 3 r ns [] N true m none N
def hf (i:Nat) (a:Str) (t l p r:Nat) (m:Value) (k:Bool):List O:=[t_,w_,fun q P=>⟨N,none,F (g q i) a 0 [] N N N N none N N 0,⟨[]⟩⟩,Cx a a t l p 0 3 r true 318 N N (R (r+2)) (t+3),fun q P=>Fn (g q i) a [] N (bif k then S (Lj (g q i)) (t+5) else N) m none (r+3) N]
abbrev Ia:O:=A "builtin_function_or_method" [U "type.__prepare__",Y "type"]
abbrev UB:O:=fun q P=>⟨Y "list",none,.seq ⟨[]⟩ 0,⟨[]⟩⟩
def ss (a:Nat):List O:=[A "super" [R a,R a,R a],A "builtin_function_or_method" [U "object.__init_subclass__",R a]]
def u0:=S s156 928
def u1:=S s67 331
def u2:=S s285 1645
def u3:=S s316 1813
def u4:=S (y "os.path") 1585
def u5:=S (y "cpy313.posixpath") 833
def u6:=S s142 757
def u7:=S s9 164
def u8:=S (y "os") 720
def u9:=S s147 731
def V8:=S (y "os") 807
def V9:=S (y "cpy313.genericpath") 819
def l3 (d:Nat):List Et:=[e s2 166 N,e s3 167 N,e s4 168 (U "__main__.__loader__#opaque"),e s5 169 N,r s25 170 6,r s26 171 4,e s27 173 (S s28 172),e s29 174 N,r s10 275 12,e s30 317 (Y "collections.deque"),r s68 330 44,r s65 389 83,r s82 517 158,r s108 525 168,r s109 719 265,r s143 730 276,r s144 756 293,r s145 799 326,r s157 806 335,r s158 818 342,r s159 831 (349+d),r s160 832 349,r s161 841 356,r s162 853 (363+d),r s163 854 363,r s164 864 370,r s165 880 377,r s166 887 382,r s167 927 387,r s168 937 394,r s169 945 401,r s175 967 411,r s176 999 431,r s178 1017 446,r s179 1035 458,r s180 1297 688,r s243 1584 935,r s286 1595 944,r s287 1604 951,r s288 1615 958,r s289 1622 965,r s290 1634 972,r s291 1644 979,r s292 1791 1070,r s317 1802 1082,r (y "_find_unsafe") 1804 1083,r s318 1812 1090,r s319 1820 1095,r s320 1826 1100,r s321 1835 1107,r s322 1845 1114,r s323 1851 1119,r s324 1864 1126,r s325 1880 1133,r s326 1886 1138]
abbrev m3 (d:Nat) (v:Value) (n:Nat):O:=Dd (e s0 165 v::(l3 d).take n)
def Ft:List Value:=Ls 0 [3,43,7,50,25,94,68,167,72,174,465,275,471,282,476,301,491,334,495,341,512,348,525,355,530,362,552,369,569,376,595,381,627,393,632,400,639,407,641,420,648,442,650,454,652,466,822,696,1028,943,1049,950,1054,957,1060,964,1063,971,1084,978,1093,985,1350,1081,1360,1089,1368,1094,1376,1099,1402,1106,1410,1113,1420,1118,1426,1125,1451,1132,1463,1137]
def l2:List Et:=[e s12 183 (B true),r s13 185 14,r s14 206 18,r s15 216 22,e s16 245 (I 4 0),e s17 270 (B true),r s18 272 27,e s19 0 (S (z [12,30]) 0),e s20 273 (S sa 0),e s21 280 (B true),e s22 294 (B true),e s23 309 (B true),e s24 311 (S sb 0),e (y "type.__subclasses__.OSError.0") 964 (I 411 0),e (y "type.__subclasses__.OSError.n") 965 (I 1 0)]
abbrev m2 (n:Nat):O:=fun q P=>⟨N,none,.dict ⟨(l2.take n).map fun f=>f q P⟩ n,⟨[]⟩⟩
def cl:List Nat:=[14,17,4,1,1,21,9,0,604043296,1,0,0,0,0,0,8,4,0,13,14,21,9,0,604043296,1,0,0,0,0,0,8,4,0,1]
def ve:List O:=[Dd ([e s0 1 (S s1 160),e s2 2 (U "builtins.__doc__:str#opaque"),e s3 3 (U "builtins.__package__:str#opaque"),e s4 4 (U "builtins.__loader__:shared#opaque"),e s5 5 (U "builtins.__spec__#opaque"),e s6 6 (U "__build_class__")]++eb U 7 ["__import__","abs","all","any","ascii","bin","breakpoint","callable","chr"]++[e s7 16 (U "compile")]++eb U 17 ["delattr","dir","divmod","eval","exec","format","getattr","globals","hasattr","hash","hex","id","input","isinstance","issubclass","iter","aiter","len","locals","max","min","next","anext","oct","ord","pow","print","repr","round","setattr","sorted","sum","vars"]++[e (y "None") 50 N,e (y "Ellipsis") 51 .ellipsis,e (y "NotImplemented") 52 .notImplemented,e (y "False") 53 (B false),e (y "True") 54 (B true)]++eb Y 55 ["bool","memoryview","bytearray","bytes","classmethod","complex","dict","enumerate","filter","float","frozenset","property","int","list","map","object","range","reversed","set","slice","staticmethod","str","super","tuple","type","zip"]++[e (y "__debug__") 81 (B true)]++eb Y 82 ["BaseException","BaseExceptionGroup","Exception","GeneratorExit","KeyboardInterrupt","SystemExit","ArithmeticError","AssertionError","AttributeError","BufferError","EOFError","ImportError","LookupError","MemoryError","NameError","OSError","ReferenceError","RuntimeError","StopAsyncIteration","StopIteration","SyntaxError","SystemError","TypeError","ValueError","Warning","FloatingPointError","OverflowError","ZeroDivisionError","BytesWarning","DeprecationWarning","EncodingWarning","FutureWarning","ImportWarning","PendingDeprecationWarning","ResourceWarning","RuntimeWarning","SyntaxWarning","UnicodeWarning","UserWarning","BlockingIOError","ChildProcessError","ConnectionError","FileExistsError","FileNotFoundError","InterruptedError","IsADirectoryError","NotADirectoryError","PermissionError","ProcessLookupError","TimeoutError","IndentationError","_IncompleteInputError","IndexError","KeyError","ModuleNotFoundError","NotImplementedError","PythonFinalizationError","RecursionError","UnboundLocalError","UnicodeError","BrokenPipeError","ConnectionAbortedError","ConnectionRefusedError","ConnectionResetError","TabError","UnicodeDecodeError","UnicodeEncodeError","UnicodeTranslateError","ExceptionGroup"]++[e (y "EnvironmentError") 151 (Y "OSError"),e (y "IOError") 152 (Y "OSError"),e (y "open") 153 (U "open"),e (y "quit") 154 (U "builtins.quit#opaque"),e (y "exit") 155 (U "builtins.exit#opaque"),e s8 156 (U "builtins.copyright#opaque"),e (y "credits") 157 (U "builtins.credits#opaque"),e (y "license") 158 (U "builtins.license#opaque"),e (y "help") 159 (U "builtins.help#opaque")]),Dd ([r s1 162 4,r s9 163 5,r s10 244 12,r s11 292 30]),m2 15,m3 609 u3 55,Mo (Y "module") 0,Mo (Y "module") 3,Dd [],t_,w_,Cx s31 s31 176 1 0 0 0 7 false 175 N N N 179,J 9 3 u7,Dd ([e s0 247 (S s10 246),e s2 248 N,e s3 250 (S s32 249),e s4 251 (U "off-the-table:_sre.__loader__:shared#opaque"),e s5 252 (U "off-the-table:_sre.__spec__:shared#opaque"),e s7 253 (U "_sre.compile"),e (y "template") 254 (U "off-the-table:_sre.template:shared#opaque"),e s33 255 (U "off-the-table:_sre.getcodesize:shared#opaque"),e s34 256 (U "off-the-table:_sre.ascii_iscased:shared#opaque"),e s35 257 (U "off-the-table:_sre.unicode_iscased:shared#opaque"),e s36 258 (U "off-the-table:_sre.ascii_tolower:shared#opaque"),e s37 259 (U "off-the-table:_sre.unicode_tolower:shared#opaque"),e (y "MAGIC") 261 (I 20230612 260),e (y "CODESIZE") 263 (I 4 262),e s38 265 (I 4294967295 264),e s39 267 (I 1073741823 266),e s8 269 (S s40 268)]),Mo (Y "module") 11,Dd ([e s41 189 (S s42 186),e s43 190 (I 971 187),e s2 191 (U "_frozen_importlib.BuiltinImporter.__doc__:str#opaque"),e (y "_ORIGIN") 192 (S s44 188),e (y "find_spec") 193 (U "_frozen_importlib.BuiltinImporter.find_spec#opaque"),e (y "create_module") 194 (U "_frozen_importlib.BuiltinImporter.create_module#opaque"),e (y "exec_module") 195 (U "_frozen_importlib.BuiltinImporter.exec_module#opaque"),e (y "get_code") 196 (U "_frozen_importlib.BuiltinImporter.get_code#opaque"),e (y "get_source") 197 (U "_frozen_importlib.BuiltinImporter.get_source#opaque"),e (y "is_package") 198 (U "_frozen_importlib.BuiltinImporter.is_package#opaque"),e (y "load_module") 199 (U "_frozen_importlib.BuiltinImporter.load_module#opaque"),r s45 200 15,r s46 202 16,r s47 204 17]),fun q P=>⟨Y "type",none,(.cls ⟨s48,[Y "object"],[R 14,Y "object"],13,s48,true,[],[],false,none,false⟩),⟨[]⟩⟩,t_,V1 201 14,V2 203 14,Wq [I 13 0,S (z (j [k 189 "__module__",k 186 "_frozen_importlib",k 190 "__firstlineno__",[4,187,0,971],k 191 "__doc__",kx 9 "_frozen_importlib.BuiltinImporter.__doc__:str#opaque",k 192 "_ORIGIN",k 188 "built-in",k 193 "find_spec",kx 9 "_frozen_importlib.BuiltinImporter.find_spec#opaque",k 194 "create_module",kx 9 "_frozen_importlib.BuiltinImporter.create_module#opaque",k 195 "exec_module",kx 9 "_frozen_importlib.BuiltinImporter.exec_module#opaque",k 196 "get_code",kx 9 "_frozen_importlib.BuiltinImporter.get_code#opaque",k 197 "get_source",kx 9 "_frozen_importlib.BuiltinImporter.get_source#opaque",k 198 "is_package",kx 9 "_frozen_importlib.BuiltinImporter.is_package#opaque",k 199 "load_module",kx 9 "_frozen_importlib.BuiltinImporter.load_module#opaque",k 200 "__static_attributes__",[4,0,0,15],k 202 "__dict__",[4,0,0,16],k 204 "__weakref__",[4,0,0,17]])) 0,B true,B true,S s32 205,I 21 0,S (z (j [k 227 "__module__",k 217 "_frozen_importlib",k 228 "__firstlineno__",[4,218,0,562],k 229 "__doc__",kx 9 "_frozen_importlib.ModuleSpec.__doc__:str#opaque",k 230 "__init__",kx 9 "_frozen_importlib.ModuleSpec.__init__#opaque",k 231 "__repr__",kx 9 "_frozen_importlib.ModuleSpec.__repr__#opaque",k 232 "__eq__",kx 9 "_frozen_importlib.ModuleSpec.__eq__#opaque",k 233 "cached",kx 9 "_frozen_importlib.ModuleSpec.cached#opaque",k 234 "parent",kx 9 "_frozen_importlib.ModuleSpec.parent#opaque",k 235 "has_location",kx 9 "_frozen_importlib.ModuleSpec.has_location#opaque",k 236 "__static_attributes__",[4,0,0,23],k 238 "__dict__",[4,0,0,24],k 240 "__weakref__",[4,0,0,25],k 241 "__hash__",[0]])) 0,B true,B true,S s32 242],UB,Dd ([e s49 208 (S s10 207),r s50 209 14,e s51 210 (S s44 184),e s52 211 N,e s53 212 N,r s54 213 19,e s55 214 (B false),e s56 215 N,e s57 243 (B false)]),Dd ([e s41 227 (S s42 217),e s43 228 (I 562 218),e s2 229 (U "_frozen_importlib.ModuleSpec.__doc__:str#opaque"),e s58 230 (U "_frozen_importlib.ModuleSpec.__init__#opaque"),e s59 231 (U "_frozen_importlib.ModuleSpec.__repr__#opaque"),e (y "__eq__") 232 (U "_frozen_importlib.ModuleSpec.__eq__#opaque"),e (y "cached") 233 (U "_frozen_importlib.ModuleSpec.cached#opaque"),e (y "parent") 234 (U "_frozen_importlib.ModuleSpec.parent#opaque"),e (y "has_location") 235 (U "_frozen_importlib.ModuleSpec.has_location#opaque"),r s45 236 23,r s46 238 24,r s47 240 25,e (y "__hash__") 241 N]),fun q P=>⟨Y "type",none,(.cls ⟨s60,[Y "object"],[R 22,Y "object"],21,s60,true,[],[],false,none,false⟩),⟨[]⟩⟩,Tn 219 [s56,s55,s54,s50,s52,s49,s51,s53],V1 237 22,V2 239 22,Mo (R 22) 20,Wq [I 11 0,S (z (j [k 247 "__name__",k 246 "_sre",k 248 "__doc__",[0],k 250 "__package__",k 249 "",k 251 "__loader__",[4,0,0,14],k 252 "__spec__",[4,0,0,26],k 253 "compile",kx 9 "_sre.compile",k 254 "template",kx 9 "_sre.template",k 255 "getcodesize",kx 9 "_sre.getcodesize",k 256 "ascii_iscased",kx 9 "_sre.ascii_iscased",k 257 "unicode_iscased",kx 9 "_sre.unicode_iscased",k 258 "ascii_tolower",kx 9 "_sre.ascii_tolower",k 259 "unicode_tolower",kx 9 "_sre.unicode_tolower",k 261 "MAGIC",[4,260,0,20230612],k 263 "CODESIZE",[4,262,0,4],k 265 "MAXREPEAT",[4,264,0,4294967295],k 267 "MAXGROUPS",[4,266,0,1073741823],k 269 "copyright",k 268 " SRE 2.2.2 Copyright (c) 1997-2002 by Secret Labs AB "])) 0,B true,B false,S s10 271,I 29 0,S (z (j [k 296 "__name__",k 295 "_collections",k 297 "__doc__",kx 9 "_collections.__doc__:str#opaque",k 299 "__package__",k 298 "",k 300 "__loader__",[4,0,0,14],k 301 "__spec__",[4,0,0,33],k 302 "_count_elements",kx 9 "_collections._count_elements",k 303 "deque",kx 8 "collections.deque",k 304 "defaultdict",kx 8 "collections.defaultdict",k 305 "_deque_iterator",kx 8 "collections._deque_iterator",k 306 "_deque_reverse_iterator",kx 8 "collections._deque_reverse_iterator",k 307 "_tuplegetter",kx 8 "collections._tuplegetter",k 308 "OrderedDict",kx 8 "collections.OrderedDict"])) 0,B true,B false,S s11 310],Tn 277 [s30],Dd ([e s0 296 (S s11 295),e s2 297 (U "off-the-table:_collections.__doc__:shared#opaque"),e s3 299 (S s32 298),e s4 300 (U "off-the-table:_collections.__loader__:shared#opaque"),e s5 301 (U "off-the-table:_collections.__spec__:shared#opaque"),e s61 302 (U "_collections._count_elements"),e s30 303 (Y "collections.deque"),e s62 304 (Y "collections.defaultdict"),e s63 305 (U "off-the-table:_collections._deque_iterator:shared#opaque"),e s64 306 (U "off-the-table:_collections._deque_reverse_iterator:shared#opaque"),e s65 307 (Y "collections._tuplegetter"),e s66 308 (Y "collections.OrderedDict")]),Mo (Y "module") 29,UB,Dd ([e s49 283 (S s11 282),r s50 284 14,e s51 285 (S s44 281),e s52 286 N,e s53 287 N,r s54 288 31,e s55 289 (B false),e s56 290 N,e s57 291 (B false)]),Mo (R 22) 32]
def vb:List O:=[t_,W (Ft.take 123),Cc s31 s31 319 1 34 322,J 36 3 u7]
def VB:List O:=hn 0 s68 324 3 1 38 u7 [s69]++[t_,Ia,Dd ([e s41 340 (S s67 331),e s70 342 (S s65 341),e s43 344 (I 7 343),r s58 353 58,r s71 362 66,r s72 371 73,r s73 379 80,r s45 382 81]),t_,W (Ls 4 [9,57,13,65,20,72,23,79]),Cc s65 s65 335 7 48 338,J 50 47 u1]++qn 2 0 s58 s77 345 9 3 52 u1 [s74,s75,s76]++[T [N]]++Q (gg 2 1) s71 s79 354 13 3 0 3 60 [s74,s78,y "objtype"] [] (R 59) false u1 none N++qn 2 2 s72 s80 363 20 3 67 u1 [s74,s78,y "value"]++qn 2 3 s73 s81 372 23 2 74 u1 [s74,s78]++[Tn 380 [s2,s75],Dn 4 ([e s41 340 (S s67 331),e s43 344 (I 7 343),r s58 353 58,r s71 362 66,r s72 371 73,r s73 379 80,r s45 382 81,r s46 384 84,r s47 386 85,e s2 387 N]),K s65 [Y "object"] [R 83,Y "object"] 82 [] none 333 341 (U "object.__new__"),V1 383 83,V2 385 83]++ss 83
def UC:List O:=[T [Y "tuple"],Ia,Dd ([e s41 397 (S s67 331),e s70 399 (S s82 398),e s43 401 (I 25 400),e s2 403 (S s83 402),r s84 405 96,r (y "_fields") 409 97,r s85 410 98,r s86 421 105,r s87 443 114,r s88 454 123,r s89 455 123,r s59 463 130,r s90 470 137,r s91 478 144,r s92 482 145,r s93 492 147,r s94 502 150,r s95 512 153,r s45 513 155,r (y "__classcell__") 514 91]),fun q P=>⟨Y "cell",none,(.cell (some (R 158))),⟨[]⟩⟩,t_,W (Ls 4 [31,104,36,111,43,122,54,129,58,136,61,143]),Cc s82 s82 392 25 92 395,J 94 90 u1,t_,Tn 406 [s93,s94,s95],Dd [],t_,w_,Tn 414 [y "_cls",s93,s94,s95],t_,G 3 4 s96,C3 s86 s96 411 31 4 99 418,fun q P=>Fn (g2 q 3 4) s96 [] N (S (y "Create new instance of Match(a, b, size)") 420) u1 none 104 N]++Q (gg 3 5) s87 s99 422 35 2 0 3 106 [s97,y "iterable",s98] [] N true u1 (some 115) N++[Dd ([e s41 432 (S s67 331),e s0 435 (S s87 434),e s70 438 (S s99 437),fun q P=>E P s2 440 (S (Lj (g2 q 3 5)) 430),r s25 442 115]),fun q P=>⟨Y "classmethod",(some 113),(.fields ⟨[R 112,B false]⟩),⟨[]⟩⟩,Dd [],T [R 91],Tn 447 [s100],w_,Tn 448 [s74,y "kwds",s98],t_,G 3 6 s101,Cf s88 s101 444 43 1 1 11 117 451,fun q P=>Fn (g2 q 3 6) s101 [(s100,91)] N (S (Lj (g2 q 3 6)) 453) u1 none 122 (R 116)]++qd 3 8 s59 s102 456 54 1 124 u1 [s74]++qn 3 9 s90 s103 464 58 1 131 u1 [s74]++qd 3 10 s91 s104 471 61 1 138 u1 [s74]++[Tn 479 [s93,s94,s95],Dd ([e s75 489 (I 0 483),e s2 491 (S s105 484)]),Mo (R 83) 146,fun q P=>⟨Y "frame",none,(.dict ⟨[E P s74 485 (R 147),E P s75 486 (I 0 483),E P s76 487 (S s105 484)]⟩ 3),⟨[]⟩⟩,Dd ([e s75 499 (I 1 493),e s2 501 (S s106 494)]),Mo (R 83) 149,fun q P=>⟨Y "frame",none,(.dict ⟨[E P s74 495 (R 150),E P s75 496 (I 1 493),E P s76 497 (S s106 494)]⟩ 3),⟨[]⟩⟩,Dd ([e s75 509 (I 2 503),e s2 511 (S s107 504)]),Mo (R 83) 152,fun q P=>⟨Y "frame",none,(.dict ⟨[E P s74 505 (R 153),E P s75 506 (I 2 503),E P s76 507 (S s107 504)]⟩ 3),⟨[]⟩⟩,t_,UB,Dn 2 ([e s41 397 (S s67 331),e s43 401 (I 25 400),e s2 403 (S s83 402),r s84 405 96,r (y "_fields") 409 97,r s85 410 98,r s86 421 159,r s87 443 114,r s88 454 123,r s89 455 123,r s59 463 130,r s90 470 137,r s91 478 144,r s92 482 145,r s93 492 147,r s94 502 150,r s95 512 153,r s45 513 155]),fun q P=>⟨Y "type",none,(.cls ⟨s82,[Y "tuple"],[R 158,Y "tuple",Y "object"],157,s82,false,[],[],false,none,false⟩),⟨[(some (R 88)),none,(some (S s82 390)),(some (S s82 398)),(some N),(some (B false))]⟩⟩,A "staticmethod" [R 105]]++ss 158
def UD:List O:=hn 4 s108 518 68 2 162 u1 [y "matches",y "length"]
def UE:List O:=[t_,Ia,Dd ([e s41 533 (S s67 331),e s70 535 (S s109 534),e s43 537 (I 72 536),fun q P=>E P s2 539 (S (Ig (g q 5)) 538),r s58 554 183,r s110 564 190,r s111 573 197,r s112 582 204,r s113 600 211,r s114 628 219,r s115 655 226,r s116 670 233,r s117 679 241,r s118 688 248,r s119 695 255,r s120 702 262,r s45 713 263]),t_,W (Ls 4 [147,182,175,189,186,196,211,203,238,210,262,218,337,225,385,232,432,240,435,247,459,254,462,261]),Cc s109 s109 528 72 172 531,J 174 171 u1,T [N,S s32 541,S s32 542,B true]]++Q (gg 5 1) s58 s122 543 147 5 0 3 177 [s74,s121,s93,s94,y "autojunk"] [] (R 176) true u1 none N++qd 5 2 s110 s123 555 175 3 184 u1 [s74,s93,s94]++qd 5 3 s111 s124 565 186 2 191 u1 [s74,s93]++qd 5 4 s112 s125 574 211 2 198 u1 [s74,s94]++qn 5 5 (y "__chain_b") s129 583 238 1 205 u1 [s74,s94,s126,s127,y "elt",y "indices",y "junk",s121,y "popular",s128,y "ntest",y "idxs"]++[T [I 0 601,N,I 0 602,N]]++Q (gg 5 6) s114 s131 603 262 5 0 3 213 [s74,y "alo",y "ahi",y "blo",y "bhi",s93,s94,s126,y "isbjunk",y "besti",y "bestj",y "bestsize",y "j2len",y "nothing",s127,y "j2lenget",y "newj2len",s130,s69] [] (R 212) true u1 none N++qd 5 7 s115 s136 629 337 1 220 u1 [s74,y "la",y "lb",y "queue",s132,y "alo",y "ahi",y "blo",y "bhi",s127,s130,s69,s133,s134,s135,y "k1",y "non_adjacent",y "i2",y "j2",y "k2"]++qd 5 8 s116 s137 656 385 1 227 u1 [s74,s127,s130,y "answer",y "ai",y "bj",s95,y "tag"]++[T [I 3 671]]++Q (gg 5 9) s117 s138 672 432 2 0 3 235 [s74,s128] [] (R 234) false u1 none N++qd 5 10 s118 s139 680 435 1 242 u1 [s74,y "matches"]++qn 5 11 s119 s140 689 459 1 249 u1 [s74]++qn 5 12 s120 s141 696 462 1 256 u1 [s74]++[Tn 703 [s93,y "autojunk",s94,s126,y "bjunk",y "bpopular",y "fullbcount",s121,s132,y "opcodes"],Dn 3 ([e s41 533 (S s67 331),e s43 537 (I 72 536),fun q P=>E P s2 539 (S (Ig (g q 5)) 538),r s58 554 183,r s110 564 190,r s111 573 197,r s112 582 204,r s113 600 211,r s114 628 219,r s115 655 226,r s116 670 233,r s117 679 241,r s118 688 248,r s119 695 255,r s120 702 262,r s45 713 263,r s46 715 266,r s47 717 267]),K s109 [Y "object"] [R 265,Y "object"] 264 [] none 526 534 (U "object.__new__"),V1 714 265,V2 716 265]++ss 265
def UF:List O:=hn 7 s143 722 465 2 270 u8 [s133,s146,y "kind"]++[T [Y "type"],Ia,Dd ([e s41 740 (S s147 731),e s70 742 (S s144 741),e s43 744 (I 471 743),r s148 752 290,r s45 753 291]),t_,W (Ls 4 [473,289]),Cc s144 s144 735 471 280 738,J 282 279 u9]++qn 9 0 s148 s149 745 473 2 284 u9 [s97,y "subclass"]++[t_,Dn 2 ([e s41 740 (S s147 731),e s43 744 (I 471 743),r s148 752 290,r s45 753 291,e s2 754 N]),K s144 [Y "type"] [R 293,Y "type",Y "object"] 292 [R 326] (some (R 277)) 733 741 (U "type.__new__")]++ss 293++[T [R 293],Ia,Dd ([e s41 766 (S s142 757),e s70 768 (S s145 767),e s43 770 (I 476 769),r s150 779 309,r s151 787 316,r s148 795 323,r s45 796 324]),t_,W (Ls 4 [478,308,484,315,489,322]),Cc s145 s145 761 476 299 764,J 301 298 u6]++qn 11 0 s150 s153 771 478 2 303 u6 [s97,y "instance",s152]++qn 11 1 s151 s154 780 484 2 310 u6 [s97,s152]++qn 11 2 s148 s155 788 489 2 317 u6 [s97,y "subclass"]++[t_,Dn 2 ([e s41 766 (S s142 757),e s43 770 (I 476 769),r s150 779 309,r s151 787 316,r s148 795 323,r s45 796 324,e s2 797 N]),K s145 [R 293] [R 326,R 293,Y "type",Y "object"] 325 [] (some (R 296)) 759 767 (U "type.__new__")]++ss 326
def VC:List O:=hn 12 s157 800 491 1 329 u6 [s152]++hn 14 s158 809 495 1 336 V8 [s170,y "kind",y "hook",y "given"]++Q (gh 16) s159 s159 821 512 1 0 7 343 [y "funcname",s171,y "hasstr",y "hasbytes",s172] [] N false V9 none N++hn 19 s161 835 525 1 350 u5 [s170]++Q (gh 20) s162 s162 842 530 1 0 7 357 [s93,s173,s174,s170,s94] [] N true u5 none N++hd 22 s164 855 552 1 364 u5 [s173,s174,y "empty"]++hd 23 s165 865 569 1 371 u5 [s170,s174,y "dot",y "dotdot",y "_",y "initial_slashes",y "comps",y "new_comps",y "comp"]++hf 24 s166 881 595 1 378 u5 true++[fun q P=>⟨Y "list",none,.seq ⟨ci 891 cl⟩ 0,⟨[]⟩⟩,Dd [],T [N],T (cl.map (I · 0)),fun q P=>⟨Y "re.Pattern",none,(.fields ⟨[S sc 889,I 256 926,I 0 0,N,N,R 386,I 0 0]⟩),⟨[]⟩⟩]++hn 27 s168 930 627 2 388 u0 [s128,s146]++hn 28 s169 938 632 2 395 u0 [s128,s146]
def VD:List O:=[T [Y "OSError",Y "ValueError"],Ia,Dd ([e s41 953 (S s156 958),e s70 955 (S s175 954),e s43 957 (I 639 956),r s45 960 409]),t_,w_,Cc s175 s175 948 639 405 951,J 407 404 u0,t_,Dn 3 ([e s41 953 (S s156 958),e s43 957 (I 639 956),r s45 960 409,r s47 962 412,e s2 963 N]),K s175 [Y "OSError",Y "ValueError"] [R 411,Y "OSError",Y "ValueError",Y "Exception",Y "BaseException",Y "object"] 410 [] (some (R 402)) 946 954 (U "OSError.__new__"),V2 961 411]++ss 411++[t_,Ia,Dd ([e s41 975 (S s156 980),e s70 977 (S s176 976),e s43 979 (I 641 978),r s86 990 428,r s45 991 429]),t_,W (Ls 4 [644,427]),Cc s176 s176 970 641 418 973,J 420 417 u0]++Q (gg 30 1) s86 s177 982 644 1 1 15 422 [s97,s171,y "kwargs"] [] N false u0 none N++[t_,Dn 4 ([e s41 975 (S s156 980),e s43 979 (I 641 978),r s86 990 432,r s45 991 429,r s46 994 433,r s47 996 434,e s2 997 N]),K s176 [Y "object"] [R 431,Y "object"] 430 [R 446,R 458] none 968 976 N,A "staticmethod" [R 428],V1 993 431,V2 995 431]++ss 431
def VE:List O:=[T [R 431],Ia,Dd ([e s41 1007 (S s156 1012),e s70 1009 (S s178 1008),e s43 1011 (I 648 1010),r s45 1014 444]),t_,w_,Cc s178 s178 1002 648 440 1005,J 442 439 u0,t_,Dn 2 ([e s41 1007 (S s156 1012),e s43 1011 (I 648 1010),r s45 1014 444,e s2 1015 N]),K s178 [R 431] [R 446,R 431,Y "object"] 445 [R 688] (some (R 437)) 1000 1008 N]++ss 446++[T [R 431],Ia,Dd ([e s41 1025 (S s156 1030),e s70 1027 (S s179 1026),e s43 1029 (I 650 1028),r s45 1032 456]),t_,w_,Cc s179 s179 1020 650 452 1023,J 454 451 u0,t_,Dn 2 ([e s41 1025 (S s156 1030),e s43 1029 (I 650 1028),r s45 1032 456,e s2 1033 N]),K s179 [R 431] [R 458,R 431,Y "object"] 457 [R 935] (some (R 449)) 1018 1026 N]++ss 458
def VF:List O:=[T [R 446],Ia,Dd ([e s41 1043 (S s181 1048),e s70 1045 (S s180 1044),e s43 1047 (I 652 1046),r s58 1057 475,r s182 1064 482,r s183 1075 489,r s184 1083 497,r s185 1090 504,r s186 1097 511,r s187 1105 518,r s188 1112 525,r s189 1119 532,r s190 1126 539,r s191 1133 546,r s192 1140 553,r s193 1147 560,r s194 1154 567,r s195 1161 574,r s196 1168 581,r s197 1175 588,r s198 1185 596,r s199 1193 604,r s200 1205 612,r s201 1215 620,r s202 1225 627,r s203 1233 634,r s204 1243 642,r s205 1251 650,r s206 1258 657,r s207 1266 664,r s208 1276 671,r s209 1284 678,r s59 1291 685,r s45 1294 686]),t_,W (Ls 4 [655,474,661,481,665,488,679,495,682,503,685,510,689,517,692,524,696,531,700,538,704,545,708,552,711,559,714,566,717,573,720,580,723,587,727,595,744,603,747,611,761,619,764,626,778,633,781,641,788,649,791,656,794,663,801,670,817,677,820,684]),Cc s180 s180 1038 652 464 1041,J 466 463 u0,T [N]]++Q (gg 33 1) s58 s210 1050 655 2 0 3 469 [s74,y "initial_bytes"] [] (R 468) false u0 none N++qn 33 2 (y "__check") s211 1058 661 1 476 u0 [s74]++qn 33 3 (y "__line") s214 1065 665 2 483 u0 [s74,y "limit",s212,s213,s127]++qn 33 4 s184 s215 1076 678 1 490 u0 [s74]++[A "property" [R 496,N,N,N,S s184 1083,B false]]++qn 33 5 s185 s216 1084 682 1 498 u0 [s74]++qn 33 6 s186 s217 1091 685 1 505 u0 [s74]++Q (gg 33 7) s187 s218 1098 689 1 0 7 512 [s74,s171] [] N false u0 none N++qn 33 8 s188 s219 1106 692 1 519 u0 [s74]++qn 33 9 s189 s220 1113 696 1 526 u0 [s74]++qn 33 10 s190 s221 1120 700 1 533 u0 [s74]++qn 33 11 s191 s222 1127 704 1 540 u0 [s74]++qn 33 12 s192 s223 1134 708 1 547 u0 [s74]++qn 33 13 s193 s224 1141 711 1 554 u0 [s74]++qn 33 14 s194 s225 1148 714 1 561 u0 [s74]++qn 33 15 s195 s226 1155 717 1 568 u0 [s74]++qn 33 16 s196 s227 1162 720 1 575 u0 [s74]++qn 33 17 s197 s228 1169 723 1 582 u0 [s74]++[T [I 0 1176]]++Q (gg 33 18) s198 s230 1177 727 3 3 3 590 [s74,s229,y "whence"] [] (R 589) false u0 none N++[T [N]]++Q (gg 33 19) s199 s231 1186 744 2 2 3 598 [s74,s95] [] (R 597) false u0 none N++[T [Im 1195]]++Q (gg 33 20) s200 s232 1196 747 2 2 3 606 [s74,s95,s212,s213] [] (R 605) false u0 none N++[T [Im 1207]]++Q (gg 33 21) s201 s233 1208 761 2 2 3 614 [s74,s95] [] (R 613) false u0 none N++Q (gg 33 22) s202 s234 1216 764 2 2 3 621 [s74,y "buffer",s212,s128] [] N false u0 none N++Q (gg 33 23) s203 s235 1226 778 2 2 3 628 [s74,y "buffer"] [] N false u0 none N++[T [Im 1235]]++Q (gg 33 24) s204 s236 1236 781 2 2 3 636 [s74,s95] [] (R 635) false u0 none N++[T [N]]++Q (gg 33 25) s205 s237 1244 788 2 2 3 644 [s74,s95] [] (R 643) false u0 none N++qn 33 26 s206 s238 1252 791 1 651 u0 [s74]++qn 33 27 s207 s239 1259 794 1 658 u0 [s74,y "line"]++Q (gg 33 28) s208 s240 1267 801 2 2 3 665 [s74,s94,s128,s212] [] N false u0 none N++Q (gg 33 29) s209 s241 1277 817 2 2 3 672 [s74,y "lines"] [] N false u0 none N++qn 33 30 s59 s242 1285 820 1 679 u0 [s74]++[Tn 1292 [y "__buf",y "__pos"],Dn 2 ([e s41 1043 (S s181 1048),e s43 1047 (I 652 1046),r s58 1057 475,r s182 1064 482,r s183 1075 489,r s184 1083 497,r s185 1090 504,r s186 1097 511,r s187 1105 518,r s188 1112 525,r s189 1119 532,r s190 1126 539,r s191 1133 546,r s192 1140 553,r s193 1147 560,r s194 1154 567,r s195 1161 574,r s196 1168 581,r s197 1175 588,r s198 1185 596,r s199 1193 604,r s200 1205 612,r s201 1215 620,r s202 1225 627,r s203 1233 634,r s204 1243 642,r s205 1251 650,r s206 1258 657,r s207 1266 664,r s208 1276 671,r s209 1284 678,r s59 1291 685,r s45 1294 686,e s2 1295 N]),K s180 [R 446] [R 688,R 446,R 431,Y "object"] 687 [] (some (R 461)) 1036 1044 N]++ss 688
def VG:List O:=[T [R 458],Ia,Dd ([e s41 1305 (S s181 1310),e s70 1307 (S s243 1306),e s43 1309 (I 822 1308),r s58 1322 705,r s244 1331 712,r s245 1338 719,r s246 1345 726,r s247 1360 733,r s184 1368 741,r s248 1376 749,r s249 1384 757,r s250 1392 765,r s251 1400 773,r s185 1407 780,r s186 1414 787,r s187 1422 794,r s188 1429 801,r s189 1436 808,r s190 1443 815,r s191 1450 822,r s192 1457 829,r s193 1464 836,r s194 1471 843,r s195 1478 850,r s197 1485 857,r s198 1495 865,r s199 1503 873,r s200 1515 881,r s204 1525 889,r s205 1535 897,r s206 1542 904,r s207 1550 911,r s208 1562 918,r s209 1570 925,r s59 1577 932,r s45 1581 933]),t_,W (Ls 4 [825,704,838,711,846,718,850,725,854,732,887,739,891,747,895,755,899,763,903,771,906,779,909,786,913,793,916,800,920,807,924,814,928,821,932,828,935,835,938,842,941,849,944,856,948,864,965,872,968,880,982,888,989,896,992,903,996,910,1003,917,1022,924,1025,931]),Cc s243 s243 1300 822 694 1303,J 696 693 u0,T [S s32 1312,S (z [10]) 1313]]++Q (gg 34 1) s58 s253 1314 825 3 0 3 699 [s74,y "initial_value",s252] [] (R 698) false u0 none N++qn 34 2 (y "__translated") s254 1323 838 2 706 u0 [s74,s172,s252]++qn 34 3 (y "__check") s255 1332 846 1 713 u0 [s74]++qn 34 4 (y "__check_dot") s256 1339 850 1 720 u0 [s74]++qn 34 5 (y "__line") s257 1346 854 2 727 u0 [s74,y "limit",s212,s213,y "cut",s252,s127,s130,y "end"]++qn 34 6 s184 s258 1361 886 1 734 u0 [s74]++[A "property" [R 740,N,N,N,S s184 1368,B false]]++qn 34 7 s248 s259 1369 890 1 742 u0 [s74]++[A "property" [R 748,N,N,N,S s248 1376,B false]]++qn 34 8 s249 s260 1377 894 1 750 u0 [s74]++[A "property" [R 756,N,N,N,S s249 1384,B false]]++qn 34 9 s250 s261 1385 898 1 758 u0 [s74]++[A "property" [R 764,N,N,N,S s250 1392,B false]]++qn 34 10 s251 s262 1393 902 1 766 u0 [s74]++[A "property" [R 772,N,N,N,S s251 1400,B false]]++qn 34 11 s185 s263 1401 906 1 774 u0 [s74]++qn 34 12 s186 s264 1408 909 1 781 u0 [s74]++Q (gg 34 13) s187 s265 1415 913 1 0 7 788 [s74,s171] [] N false u0 none N++qn 34 14 s188 s266 1423 916 1 795 u0 [s74]++qn 34 15 s189 s267 1430 920 1 802 u0 [s74]++qn 34 16 s190 s268 1437 924 1 809 u0 [s74]++qn 34 17 s191 s269 1444 928 1 816 u0 [s74]++qn 34 18 s192 s270 1451 932 1 823 u0 [s74]++qn 34 19 s193 s271 1458 935 1 830 u0 [s74]++qn 34 20 s194 s272 1465 938 1 837 u0 [s74]++qn 34 21 s195 s273 1472 941 1 844 u0 [s74]++qn 34 22 s197 s274 1479 944 1 851 u0 [s74]++[T [I 0 1486]]++Q (gg 34 23) s198 s275 1487 948 3 3 3 859 [s74,s229,y "whence"] [] (R 858) false u0 none N++[T [N]]++Q (gg 34 24) s199 s276 1496 965 2 2 3 867 [s74,s229] [] (R 866) false u0 none N++[T [Im 1505]]++Q (gg 34 25) s200 s277 1506 968 2 2 3 875 [s74,s95,s212,s213] [] (R 874) false u0 none N++[T [Im 1517]]++Q (gg 34 26) s204 s278 1518 982 2 2 3 883 [s74,s95] [] (R 882) false u0 none N++[T [Im 1527]]++Q (gg 34 27) s205 s279 1528 989 2 2 3 891 [s74,y "hint"] [] (R 890) false u0 none N++qn 34 28 s206 s280 1536 992 1 898 u0 [s74]++qn 34 29 s207 s281 1543 996 1 905 u0 [s74,y "line"]++Q (gg 34 30) s208 s282 1551 1003 2 2 3 912 [s74,s172,s128,y "m",s212,y "buf"] [] N false u0 none N++Q (gg 34 31) s209 s283 1563 1022 2 2 3 919 [s74,y "lines"] [] N false u0 none N++qn 34 32 s59 s284 1571 1025 1 926 u0 [s74]++[Tn 1578 [y "__buf",y "__newline",y "__pos"],Dn 2 ([e s41 1305 (S s181 1310),e s43 1309 (I 822 1308),r s58 1322 705,r s244 1331 712,r s245 1338 719,r s246 1345 726,r s247 1360 733,r s184 1368 741,r s248 1376 749,r s249 1384 757,r s250 1392 765,r s251 1400 773,r s185 1407 780,r s186 1414 787,r s187 1422 794,r s188 1429 801,r s189 1436 808,r s190 1443 815,r s191 1450 822,r s192 1457 829,r s193 1464 836,r s194 1471 843,r s195 1478 850,r s197 1485 857,r s198 1495 865,r s199 1503 873,r s200 1515 881,r s204 1525 889,r s205 1535 897,r s206 1542 904,r s207 1550 911,r s208 1562 918,r s209 1570 925,r s59 1577 932,r s45 1581 933,e s2 1582 N]),K s243 [R 458] [R 935,R 458,R 431,Y "object"] 934 [] (some (R 691)) 1298 1306 N]++ss 935
def RZ:List O:=hn 36 s286 1587 1028 2 938 u4 [s49,s133,y "t"]++hn 37 s287 1596 1049 2 945 u4 [s49,s133,s69]++Q (gh 38) s159 s159 1605 1054 1 0 7 952 [y "funcname",s171,s172,s69] [] N false u4 none N++hn 40 s289 1616 1060 1 959 u4 [s172]++Q (gh 41) s162 s162 1623 1063 1 0 7 966 [s93,s173,s94,s174,s170] [] N false u4 none N++hn 43 s291 1635 1084 1 973 u4 [s173,s174,s127,y "head"]
def R0:List O:=[t_,Ia,Dd ([e s41 1654 (S s285 1645),e s70 1656 (S s292 1655),e s43 1658 (I 1093 1657),fun q P=>E P s2 1660 (S (Ig (g q 45)) 1659),r s58 1673 994,r s293 1681 1002,r s294 1689 1009,r s295 1699 1017,r s296 1707 1024,r s297 1720 1031,r s298 1731 1038,r s299 1740 1045,r s300 1749 1053,r s206 1756 1060,r s207 1764 1067,r s45 1785 1068]),t_,W (Ls 4 [1096,993,1138,1000,1141,1008,1144,1016,1158,1023,1166,1030,1194,1037,1331,1044,1339,1052,1342,1059,1345,1066]),Cc s292 s292 1649 1093 983 1652,J 985 982 u2,T [N,N,B false,B false]]++Q (gg 45 1) s58 s303 1662 1096 5 0 3 988 [s74,y "instream",s301,s302,s293,y "t"] [] (R 987) false u2 none N++qn 45 2 s293 s304 1674 1137 1 995 u2 [s74]++[A "property" [R 1001,N,N,N,S s293 1681,B false]]++qn 45 3 s294 s305 1682 1141 2 1003 u2 [s74,y "tok"]++[T [N]]++Q (gg 45 4) s295 s308 1690 1144 3 0 3 1011 [s74,s306,s307] [] (R 1010) true u2 none N++[t_,w_,Tn 1703 [s74],t_,G 45 5 s309,C3 s296 s309 1700 1158 1 1018 1704,fun q P=>Fn (g2 q 45 5) s309 [] N (S (y "Pop the input source stack.") 1706) u2 none 1023 N]++qd 45 6 s297 s310 1708 1166 1 1025 u2 [s74,y "tok",y "raw",y "spec",s307,s306]++qn 45 7 s298 s311 1721 1194 1 1032 u2 [s74,y "quoted",y "escapedstate",y "nextchar",s98]++[t_,w_,Tn 1735 [s74,s307],t_,G 45 8 s312,C3 s299 s312 1732 1331 2 1039 1737,fun q P=>Fn (g2 q 45 8) s312 [] N (S (y "Hook called on a filename to be sourced.") 1739) u2 none 1044 N,T [N,N]]++Q (gg 45 9) s300 s313 1741 1339 3 0 3 1047 [s74,s301,y "lineno"] [] (R 1046) false u2 none N++qn 45 10 s206 s314 1750 1342 1 1054 u2 [s74]++qn 45 11 s207 s315 1757 1345 1 1061 u2 [s74,y "token"]++[Tn 1765 [y "_punctuation_chars",y "_pushback_chars",y "commenters",y "debug",y "eof",y "escape",y "escapedquotes",y "filestack",s301,y "instream",y "lineno",s302,y "pushback",y "quotes",y "source",y "state",y "token",y "whitespace",y "whitespace_split",y "wordchars"],Dn 3 ([e s41 1654 (S s285 1645),e s43 1658 (I 1093 1657),fun q P=>E P s2 1660 (S (Ig (g q 45)) 1659),r s58 1673 994,r s293 1681 1002,r s294 1689 1009,r s295 1699 1017,r s296 1707 1024,r s297 1720 1031,r s298 1731 1038,r s299 1740 1045,r s300 1749 1053,r s206 1756 1060,r s207 1764 1067,r s45 1785 1068,r s46 1787 1071,r s47 1789 1072]),K s292 [Y "object"] [R 1070,Y "object"] 1069 [] none 1647 1655 (U "object.__new__"),V1 1786 1070,V2 1788 1070]++ss 1070
def R1:List O:=[T [B false,B true]]++Q (gh 46) s317 s317 1792 1350 3 0 3 1076 [s172,y "comments",s302,y "lex"] [] (R 1075) true u2 none N++[A "builtin_function_or_method" [U "re.Pattern.search",R 387]]++hd 48 s318 1805 1360 1 1084 u2 [s172]++hf 50 s319 1815 1368 2 1091 u3 false++hf 51 s320 1821 1376 1 1096 u3 false++hn 52 s321 1827 1402 1 1101 u3 [y "words",y "commands",y "word"]++hn 53 s322 1836 1410 2 1108 u3 [y "ways",y "command",y "left",y "way"]++hf 54 s323 1846 1420 2 1115 u3 false++hn 55 s324 1852 1426 2 1120 u3 [y "old",y "new",y "codes",s127,s130,s134,s135]++hn 56 s325 1865 1451 3 1127 u3 [y "old",y "new",y "codes",y "gone",y "come",y "tag",s134,y "i2",s135,y "j2"]++hf 57 s326 1881 1463 1 1134 u3 false
def UG (q:Program) (P:Params):List (Nat×Obj):=nb 0 ve q P++[(2,(m2 13) q P),(3,(m3 609 u7 10) q P),(11,(Dd ([e s0 247 (S s10 246),e s2 248 N,e s3 250 (S s32 249),r s4 251 14,r s5 252 26,e s7 253 (U "_sre.compile"),e (y "template") 254 (U "_sre.template"),e s33 255 (U "_sre.getcodesize"),e s34 256 (U "_sre.ascii_iscased"),e s35 257 (U "_sre.unicode_iscased"),e s36 258 (U "_sre.ascii_tolower"),e s37 259 (U "_sre.unicode_tolower"),e (y "MAGIC") 261 (I 20230612 260),e (y "CODESIZE") 263 (I 4 262),e s38 265 (I 4294967295 264),e s39 267 (I 1073741823 266),e s8 269 (S s40 268)])) q P),(29,(Dd ([e s0 296 (S s11 295),e s2 297 (U "_collections.__doc__:str#opaque"),e s3 299 (S s32 298),r s4 300 14,r s5 301 33,e s61 302 (U "_collections._count_elements"),e s30 303 (Y "collections.deque"),e s62 304 (Y "collections.defaultdict"),e s63 305 (Y "collections._deque_iterator"),e s64 306 (Y "collections._deque_reverse_iterator"),e s65 307 (Y "collections._tuplegetter"),e s66 308 (Y "collections.OrderedDict")])) q P)]
def VH (q:Program) (P:Params):List (Nat×Obj):=[(11,(Dd ([e s0 247 (S s10 246),e s2 248 N,e s3 250 (S s32 249),e s4 251 (U "off-the-table:_sre.__loader__:shared#opaque"),e s5 252 (U "off-the-table:_sre.__spec__:shared#opaque"),e s7 253 (U "_sre.compile"),e (y "template") 254 (U "off-the-table:_sre.template:shared#opaque"),e s33 255 (U "off-the-table:_sre.getcodesize:shared#opaque"),e s34 256 (U "off-the-table:_sre.ascii_iscased:shared#opaque"),e s35 257 (U "off-the-table:_sre.unicode_iscased:shared#opaque"),e s36 258 (U "off-the-table:_sre.ascii_tolower:shared#opaque"),e s37 259 (U "off-the-table:_sre.unicode_tolower:shared#opaque"),e (y "MAGIC") 261 (I 20230612 260),e (y "CODESIZE") 263 (I 4 262),e s38 265 (I 4294967295 264),e s39 267 (I 1073741823 266),e s8 269 (S s40 268)])) q P),(29,(Dd ([e s0 296 (S s11 295),e s2 297 (U "off-the-table:_collections.__doc__:shared#opaque"),e s3 299 (S s32 298),e s4 300 (U "off-the-table:_collections.__loader__:shared#opaque"),e s5 301 (U "off-the-table:_collections.__spec__:shared#opaque"),e s61 302 (U "_collections._count_elements"),e s30 303 (Y "collections.deque"),e s62 304 (Y "collections.defaultdict"),e s63 305 (U "off-the-table:_collections._deque_iterator:shared#opaque"),e s64 306 (U "off-the-table:_collections._deque_reverse_iterator:shared#opaque"),e s65 307 (Y "collections._tuplegetter"),e s66 308 (Y "collections.OrderedDict")])) q P)]
def V' (q:Program) (P:Params):List (Nat×Obj):=nb 34 vb q P++[(35,(w_) q P)]
def UH (q:Program) (P:Params):List (Nat×Obj):=nb 38 VB q P++[(3,(m3 609 u1 12) q P),(35,(W (Ft.take 6)) q P)]
def UI (q:Program) (P:Params):List (Nat×Obj):=nb 88 UC q P++[(3,(m3 609 u1 13) q P),(35,(W (Ft.take 9)) q P)]
def UJ (q:Program) (P:Params):List (Nat×Obj):=nb 162 UD q P++[(3,(m3 609 u1 14) q P),(35,(W (Ft.take 12)) q P)]
def UK (q:Program) (P:Params):List (Nat×Obj):=nb 169 UE q P++[(3,(m3 609 u1 15) q P),(35,(W (Ft.take 15)) q P)]
def UL (q:Program) (P:Params):List (Nat×Obj):=nb 270 UF q P++[(3,(m3 609 u6 18) q P),(35,(W (Ft.take 24)) q P)]
def UM (q:Program) (P:Params):List (Nat×Obj):=nb 329 VC q P++[(3,(m3 0 u0 31) q P),(35,(W (Ft.take 54)) q P)]
def UN (q:Program) (P:Params):List (Nat×Obj):=nb 402 VD q P++[(431,(K s176 [Y "object"] [R 431,Y "object"] 430 [] none 968 976 N) q P),(3,(m3 0 u0 33) q P),(35,(W (Ft.take 60)) q P),(2,(m2 15) q P)]
def UO (q:Program) (P:Params):List (Nat×Obj):=nb 437 VE q P++[(446,(K s178 [R 431] [R 446,R 431,Y "object"] 445 [] (some (R 437)) 1000 1008 N) q P),(458,(K s179 [R 431] [R 458,R 431,Y "object"] 457 [] (some (R 449)) 1018 1026 N) q P),(3,(m3 0 u0 35) q P),(35,(W (Ft.take 66)) q P),(431,(K s176 [Y "object"] [R 431,Y "object"] 430 [R 446,R 458] none 968 976 N) q P)]
def UP (q:Program) (P:Params):List (Nat×Obj):=nb 461 VF q P++[(3,(m3 0 u0 36) q P),(35,(W (Ft.take 69)) q P),(446,(K s178 [R 431] [R 446,R 431,Y "object"] 445 [R 688] (some (R 437)) 1000 1008 N) q P)]
def UQ (q:Program) (P:Params):List (Nat×Obj):=nb 691 VG q P++[(3,(m3 0 u0 37) q P),(35,(W (Ft.take 72)) q P),(458,(K s179 [R 431] [R 458,R 431,Y "object"] 457 [R 935] (some (R 449)) 1018 1026 N) q P)]
def R2 (q:Program) (P:Params):List (Nat×Obj):=nb 938 RZ q P++[(3,(m3 609 u2 43) q P),(35,(W (Ft.take 90)) q P)]
def R3 (q:Program) (P:Params):List (Nat×Obj):=nb 980 R0 q P++[(3,(m3 609 u2 44) q P),(35,(W (Ft.take 93)) q P)]
def VI (q:Program) (P:Params):List (Nat×Obj):=nb 1075 R1 q P++[(3,(m3 609 u3 55) q P),(35,(W (Ft.take 123)) q P)]
def VJ:List (Nat×List O)->Nat->O
 |[],_=>t_
 |(n,l)::r,a=>match Nat.blt a n with
  |true=>l.getD a t_
  |false=>VJ r (a-n)
def ob:Nat->O:=VJ [(34,ve),(4,vb),(50,VB),(74,UC),(7,UD),(101,UE),(59,UF),(73,VC),(35,VD),(24,VE),(230,VF),(247,VG),(42,RZ),(95,R0),(64,R1)]
def mk:Nat->Nat->Nat->TT
 |.zero,_,_=>x
 |.succ d,a,s=>match Nat.blt a 1139 with
  |true=>n (ob a) (mk d (a+s) (2*s)) (mk d (a+2*s) (2*s))
  |false=>x
def tF:TT:=mk 12 0 1
end
end
abbrev pw:Program:=PySem.Challenge.pw_il0105_01
def Pw (t:Str):Stmt->Stmt
 |.ClassDef n b k (_::r) d u s o m l p=>.ClassDef n b k (.Expr (.Constant (.str t) 0 ⟨73,4,145,7⟩) ⟨73,4,145,7⟩::r) d u s o m l p
 |s=>s
def VK:Nat->Nat->List Char
 |0,_=>[]
 |k+1,n=>Char.ofNat (n%128)::VK k (n/128)
def DC:List Char:=by
 refine(?g:(Ig (pw.main.body.getD 7 (.Pass ⟨0,0,0,0⟩))=Str.ofString ?s->(String.toList ?s).foldr (fun c n=>c.toNat+128*n) 0=?n->(String.toList ?s).length=?k->List Char)) ?h1 ?h2 ?h3
 case g=>exact fun _ _ _=>VK ?k ?n
 case h1=>exact rfl
 case h2=>
  simp only[String.reduceToList,List.foldr,Char.reduceToNat,Nat.reduceMul,Nat.reduceAdd];exact rfl
 case h3=>
  simp only[String.reduceToList,List.length_cons,List.length_nil,Nat.reduceAdd];exact rfl
def qT:Program:={pw with main:={pw.main with body:=pw.main.body.modify 7 (Pw ⟨(DC.map Char.toNat).toArray⟩)}}
theorem CC:pw=qT:=by
 refine(?a:pw={pw with main:={pw.main with body:=pw.main.body.modify 7 (Pw (Str.ofString (String.ofList DC)))}}).trans ?b
 case a=>kernel_rfl
 case b=>exact congrArg (fun t=>({pw with main:={pw.main with body:=pw.main.body.modify 7 (Pw t)}}:Program)) (PySem.W.Fast.ofString_ofList DC)
noncomputable section
def xg (q:Program):Env:={scope:=q.main.scope,locals:=mainNs,globals:=mainNs,cells:=[],code:=.ref 36,frame:=some 37}
abbrev Sg:=(String->Option Builtin)->Program->World->Nat->Option Value->Nat->Nat->SharedT->Thread->Option (Flow×SharedT×Code×Pos)
abbrev Tq:=Program->Params->BT
def kz (sr:Sg) (d:String->Option Builtin) (q:Program) (lo len k:Nat) (t t':Tq) (n m n' v:Nat) (p u:Pos):Prop:=
 ∀w:World,(fun os=>sr d q w 34 (some (.ref 6)) 1 k ⟨t q w.params,n,{},⟨[]⟩,{},m,os⟩ (piecesOf (((body q).drop lo).take len) (xg q) (.body (body q) (xg q)) p [topFrame ⟨0,0,0,0⟩]))
  =fun os=>some (.next,⟨t' q w.params,n',{},⟨[]⟩,{},v,os⟩,.body (body q) (xg q),u)
def put (t:BT) (l:List (Nat×Obj)):BT:=l.foldl (fun t p=>t.ins p.1 p.2) t
abbrev sT:Sg:=@PySem.W.Fast.tw10110043849684766642
def bT (id:String):Option Builtin:=@Bool.rec (fun _=>Option Builtin) (PySem.W.Fast.tw14364793385576792824 id) (some Pu) (Nat.beq (PySem.code id) 29827186395103491166823348853)
def UR:Tq:=fun q P=>put (put (put .nil (UG q P)) (VH q P)) (V' q P)
def t0:Tq:=fun q P=>put (UR q P) (UH q P)
theorem p0:kz sT bT qT 0 3 362 UR t0 38 324 88 390 ⟨0,0,0,0⟩ ⟨7,0,24,54⟩:=by intro w;kernel_rfl
def t1:Tq:=fun q P=>put (t0 q P) (UI q P)
theorem p1:kz sT bT qT 3 1 1047 t0 t1 88 390 162 518 ⟨7,0,24,54⟩ ⟨25,0,67,54⟩:=by intro w;kernel_rfl
def t2:Tq:=fun q P=>put (t1 q P) (UJ q P)
theorem p2:kz sT bT qT 4 1 31 t1 t2 162 518 169 526 ⟨25,0,67,54⟩ ⟨68,0,71,14⟩:=by intro w;kernel_rfl
def t3:Tq:=fun q P=>put (t2 q P) (UK q P)
theorem p3:kz sT bT qT 5 1 657 t2 t3 169 526 270 720 ⟨68,0,71,14⟩ ⟨72,0,463,16⟩:=by intro w;kernel_rfl
def t4:Tq:=fun q P=>put (t3 q P) (UL q P)
theorem p4:kz sT bT qT 6 6 577 t3 t4 270 720 329 800 ⟨72,0,463,16⟩ ⟨476,0,490,16⟩:=by intro w;kernel_rfl
def t5:Tq:=fun q P=>put (t4 q P) (UM q P)
theorem p5:kz sT bT qT 12 17 454 t4 t5 329 800 402 946 ⟨476,0,490,16⟩ ⟨632,0,638,12⟩:=by intro w;kernel_rfl
def t6:Tq:=fun q P=>put (t5 q P) (UN q P)
theorem p6:kz sT bT qT 29 2 448 t5 t6 402 946 437 1000 ⟨632,0,638,12⟩ ⟨641,0,647,34⟩:=by intro w;kernel_rfl
def t7:Tq:=fun q P=>put (t6 q P) (UO q P)
theorem p7:kz sT bT qT 31 2 447 t6 t7 437 1000 461 1036 ⟨641,0,647,34⟩ ⟨650,0,651,21⟩:=by intro w;kernel_rfl
def t8:Tq:=fun q P=>put (t7 q P) (UP q P)
theorem p8:kz sT bT qT 33 1 1278 t7 t8 461 1036 691 1298 ⟨650,0,651,21⟩ ⟨652,0,821,17⟩:=by intro w;kernel_rfl
def t9:Tq:=fun q P=>put (t8 q P) (UQ q P)
theorem p9:kz sT bT qT 34 1 1578 t8 t9 691 1298 938 1585 ⟨652,0,821,17⟩ ⟨822,0,1026,17⟩:=by intro w;kernel_rfl
def US:Tq:=fun q P=>put (t9 q P) (R2 q P)
theorem Wc:kz sT bT qT 35 10 227 t9 US 938 1585 980 1647 ⟨822,0,1026,17⟩ ⟨1092,0,1092,8⟩:=by intro w;kernel_rfl
def VL:Tq:=fun q P=>put (US q P) (R3 q P)
theorem We:kz sT bT qT 45 1 641 US VL 980 1647 1075 1792 ⟨1092,0,1092,8⟩ ⟨1093,0,1349,20⟩:=by intro w;kernel_rfl
theorem Wf:kz sT bT qT 46 12 341 VL tF 1075 1792 1139 1887 ⟨1093,0,1349,20⟩ ⟨1463,0,1478,15⟩:=by intro w;kernel_rfl
end
noncomputable section
def Px (f:SharedT->Thread->Option (SharedT×Thread)) (k:Nat):SharedT->Thread->Option SharedT:=
 Nat.rec (fun _ _=>none) (fun _ r s t=>match t.atExitBegin with
  |some []=>some s
  |some (_::_)=>none
  |none=>(f s t).bind fun q=>r q.1 q.2) k
theorem Ll {d:String->Option Builtin} {p:Program} {w:World} {k:Nat} {s r:SharedT} {t:Thread} (h:Px (stepT (denote d) p w) k s t=some r):importEnds d p w k s.abs t=some r.abs:=by
 induction k generalizing s t with
 |zero=>cases h
 |succ k H=>
  change (match t.atExitBegin with
   |some []=>some s
   |some (_::_)=>none
   |none=>(stepT (denote d) p w s t).bind fun q=>Px (stepT (denote d) p w) k q.1 q.2)=some r at h
  show(match t.atExitBegin with
   |some []=>some s.abs
   |some (_::_)=>none
   |none=>match step (denote d) p w s.abs t with
    |.go v t'=>importEnds d p w k v t'
    |.halt _ _=>none)=some r.abs
  cases u:t.atExitBegin with
  |some l=>
   rw[u] at h;cases l with
   |nil=>cases h;rfl
   |cons a l=>cases h
  |none=>
   rw[u] at h;obtain⟨q,hs,h⟩:=Option.bind_eq_some_iff.mp h;rw[stepT_spec hs];exact H h
def UT:Tq:=fun q P=>put .nil (UG q P)
def Wg:Tq:=fun q P=>put (put .nil (UG q P)) (VH q P)
def hA (q:Program) (P:Params):Heap:=absHeap (Wg q P) 34 {}
def hE (q:Program) (P:Params):Heap:=absHeap (UT q P) 34 {}
def hB (q:Program) (P:Params):Heap:=absHeap (UR q P) 38 {}
abbrev VM:=@PySem.W.Fast.tw10156331382660048174
abbrev Ui:=@PySem.W.Fast.tw11892475500146522536
abbrev startT:=@PySem.W.Fast.tw1435165496053646825
abbrev Ih:=@PySem.W.Fast.tw14289696077712309145
abbrev Ii:=@PySem.W.Fast.tw15667345088766844465
abbrev R4:=@PySem.W.Fast.tw14374325043358763698
abbrev Tb:=String->Option Builtin
def VN (sp:(Code->Sem Fin)->Program->World->SharedT->Thread->Option (SharedT×Thread)) (t:Tb->Code->Sem Fin) (d:Tb) (st:Program->Shared×Thread) (q:Program):Prop:=
 ∀w:World,Px (sp (t d) (opening q) w) 1086 ⟨.nil,0,{},⟨[]⟩,{},1,(st (opening q)).1.os⟩ (st (opening q)).2=some ⟨UT q w.params,34,{},⟨[]⟩,{},318,(st (opening q)).1.os⟩
theorem Wh:VN VM Ui bT startT qT:=by intro w;kernel_rfl
def VO (d:Program->Shared->Option Shared) (q:Program):Prop:=
 ∀w:World,(fun os=>(d q ⟨hE q w.params,⟨[]⟩,{},318,os⟩).map (fun s=>(s.heap,s.gens,s.drawn,s.toks)))=fun _=>some (hA q w.params,⟨[]⟩,{},318)
theorem Wj:VO Ih qT:=by intro w;kernel_rfl
def VP (t:Tb->Program->World->Nat->Option Value->Nat->Shared->Thread->Option (Shared×Thread)) (u:Tb->Code->Sem Fin) (d:Tb) (q:Program):Prop:=
 ∀w:World,(fun os=>t d q w 34 (some (.ref 6)) 12 ⟨hA q w.params,⟨[]⟩,{},318,os⟩ (topStub q))=fun os=>some (⟨hB q w.params,⟨[]⟩,{},324,os⟩,⟨u d (.body (body q) (xg q)),.body (body q) (xg q),⟨0,0,0,0⟩,[topFrame ⟨0,0,0,0⟩]⟩)
theorem Wk:VP Ii Ui bT qT:=by intro w;kernel_rfl
def VQ (sr:Tb->Program->World->Nat->Option Value->Nat->Nat->Shared->Thread->Option (Flow×Shared×Code×Pos)) (d:Tb) (q:Program):Prop:=
 ∀w:World,(fun os=>sr d q w 34 (some (.ref 6)) 1 1 ⟨hB q w.params,⟨[]⟩,{},324,os⟩ (blockOf (body q) (xg q) (.body (body q) (xg q)) ⟨0,0,0,0⟩ [topFrame ⟨0,0,0,0⟩]))=fun os=>some (.next,⟨hB q w.params,⟨[]⟩,{},324,os⟩,.body (body q) (xg q),⟨0,0,0,0⟩)
theorem Wl:VQ R4 bT qT:=by intro w;kernel_rfl
end
noncomputable section
theorem UU:@segRunT=sT:=PySem.W.Fast.te10110043849684766642
theorem Lm:treeTable=bT:=by
 have u:treeTable=PySem.W.Fast.tw14364793385576792824:=PySem.W.Fast.te14364793385576792824
 funext id
 unfold bT;cases h:Nat.beq (PySem.code id) 29827186395103491166823348853 with
 |false=>exact congrFun u id
 |true=>
  have d:id="type.__new__":=PySem.code_inj _ _ ((Nat.eq_of_beq_eq_true h).trans (by decide+kernel));subst d;show treeTable "type.__new__"=some Pu;rw[<-Lh];have t:treeTable "type.__new__"=some PySem.Builtin.«type.__new__»:=by kernel_rfl
  rw[t];exact congrArg some PySem.W.Fast.te4202317264376624991
theorem lZ {lo len k:Nat} {t t':Tq} {n m n' u:Nat} {p d:Pos} (h:kz sT bT qT lo len k t t' n m n' u p d):kz @segRunT treeTable PySem.Challenge.pw_il0105_01 lo len k t t' n m n' u p d:=by
 rw[UU,Lm,show PySem.Challenge.pw_il0105_01=qT from CC];exact h
end
noncomputable section
def hF (q:Program) (P:Params):Heap:=absHeap (tF q P) 1139 {}
theorem UV:VN @stepT @denote treeTable @start pw:=by
 rw[Lm,show pw=qT from CC,show@stepT=VM from PySem.W.Fast.te10156331382660048174,show@denote=Ui from PySem.W.Fast.te11892475500146522536,show@start=startT from PySem.W.Fast.te1435165496053646825];exact Wh
theorem UW:VO @fenceModules? pw:=by
 rw[show pw=qT from CC,show@fenceModules? =Ih from PySem.W.Fast.te14289696077712309145];exact Wj
theorem UX:VP @topGo @denote treeTable pw:=by
 rw[Lm,show pw=qT from CC,show@topGo=Ii from PySem.W.Fast.te15667345088766844465,show@denote=Ui from PySem.W.Fast.te11892475500146522536];exact Wk
theorem UY:VQ @segRun treeTable pw:=by
 rw[Lm,show pw=qT from CC,show@segRun=R4 from PySem.W.Fast.te14374325043358763698];exact Wl
theorem UZ (p:Program):(SharedT.mk .nil 0 {} ⟨[]⟩ {} 1 (start p).1.os).abs=(start p).1:=by kernel_rfl
theorem U0 (q:Program) (w:World) (os:OsState):some (SharedT.mk (UT q w.params) 34 {} ⟨[]⟩ {} 318 os).abs=some ⟨hE q w.params,⟨[]⟩,{},318,os⟩:=by kernel_rfl
theorem U1 (w:World):importEnds treeTable (opening pw) w 1086 (start (opening pw)).1 (start (opening pw)).2=some ⟨hE pw w.params,⟨[]⟩,{},318,(start (opening pw)).1.os⟩:=by
 have h:=Ll (UV w);rw[UZ] at h;exact h.trans (U0 pw w _)
theorem R5 (N:Nat) (d:Nat.ble 1086 N=true):∀w:World,(fencedOpening treeTable pw w N).map (fun s=>(s.heap,s.gens,s.drawn,s.toks))=some (hA pw w.params,⟨[]⟩,{},318):=
 open_cut U1 d UW
theorem pk {q:Program} {lo len k N:Nat} {t t':Tq} {n m n' v:Nat} {p u:Pos} (h:kz @segRunT treeTable q lo len k t t' n m n' v p u) (w:World) (os:OsState) {r:Shared} {hi:Nat} (d:lo+len=hi)
  (K:topRun treeTable q w 34 (some (.ref 6)) N ⟨absHeap (t' q w.params) n' {},⟨[]⟩,{},v,os⟩ (restOf ((body q).drop hi) (xg q) (.body (body q) (xg q)) u [topFrame ⟨0,0,0,0⟩])=some r):
  topRun treeTable q w 34 (some (.ref 6)) (k+N) ⟨absHeap (t q w.params) n {},⟨[]⟩,{},m,os⟩ (restOf ((body q).drop lo) (xg q) (.body (body q) (xg q)) p [topFrame ⟨0,0,0,0⟩])=some r:=by
 have e:(body q).drop lo=((body q).drop lo).take len++(body q).drop hi:=by rw[<-d,<-List.drop_drop,List.take_append_drop]
 rw[e];have g:=segRun_of (congrFun (h w) os);exact piece_app g K
theorem run (w:World) (os:OsState):topRun treeTable pw w 34 (some (.ref 6)) (12+(1+(362+(1047+(31+(657+(577+(454+(448+(447+(1278+(1578+(227+(641+(341+2))))))))))))))) ⟨hA pw w.params,⟨[]⟩,{},318,os⟩ (topStub pw)=some ⟨hF pw w.params,⟨[]⟩,{},1887,os⟩:=
 go_top (N:=1+(362+(1047+(31+(657+(577+(454+(448+(447+(1278+(1578+(227+(641+(341+2)))))))))))))) (congrFun (UX w) os) (piece_block (congrFun (UY w) os) (pk (lZ p0) w os (hi:=3) rfl (pk (lZ p1) w os (hi:=4) rfl (pk (lZ p2) w os (hi:=5) rfl (pk (lZ p3) w os (hi:=6) rfl (pk (lZ p4) w os (hi:=12) rfl (pk (lZ p5) w os (hi:=29) rfl (pk (lZ p6) w os (hi:=31) rfl (pk (lZ p7) w os (hi:=33) rfl (pk (lZ p8) w os (hi:=34) rfl (pk (lZ p9) w os (hi:=35) rfl (pk (lZ Wc) w os (hi:=45) rfl (pk (lZ We) w os (hi:=46) rfl (pk (lZ Wf) w os (hi:=58) rfl (by
  have e:(body pw).drop 58=[]:=List.drop_eq_nil_of_le (by decide+kernel);rw[e]
  kernel_rfl)))))))))))))))
end
noncomputable section
def vw (q:Program):Program:={q with main:={q.main with body:=q.main.body.drop 59}}
theorem size (w:World):((hA pw w.params).isNs mainGlobals&&(⟨[]⟩:Array GenState).size==0,(hA pw w.params).objs.size,(hA pw w.params).nsMap mainGlobals "__annotations__")=(true,34,some (.ref 6)):=by kernel_rfl
theorem Wm (w:World):(fun os=>staticsOk (importedModules pw.main.body) (hA pw w.params) (hF pw w.params)&&namesBound pw (hF pw w.params)&&gensDone ⟨hF pw w.params,⟨[]⟩,{},1887,os⟩&&laidKept (hA pw w.params) (hF pw w.params))=fun _=>true:=by kernel_rfl
end
noncomputable section
def kW (q:Program):List Str:=q.boundNames.filter fun x=>!(Nat.beq x.cps.size 3)
def R6 (q:Program) (s:Shared):Bool:=xlAt (vw q) [] s&&recOk [] s
theorem Ws (w:World):(fun os=>(seen ((recsOf (vw qT)).map (·.name)) (ownsOf (vw qT)) [] {(⟨hF qT w.params,⟨[]⟩,{},1887,os⟩:Shared) with gens:=#[]}))=fun _=>expectedOf (vw qT):=by kernel_rfl
theorem Wt (w:World):(hF qT w.params).bltView=bltViewBooted:=by kernel_rfl
theorem Wu (w:World):(fun os=>tabsOk (vw qT) ⟨hF qT w.params,⟨[]⟩,{},1887,os⟩)=fun _=>true:=by kernel_rfl
theorem Wv (w:World):(fun os=>pinSeenD (vw qT) (drecsOf (vw qT)) ⟨hF qT w.params,⟨[]⟩,{},1887,os⟩)=fun _=>pinGoodD (drecsOf (vw qT)):=by kernel_rfl
theorem Ww (w:World):(fun os=>plainSeenE (vw qT) (looseW (vw qT) (kW qT)) ⟨hF qT w.params,⟨[]⟩,{},1887,os⟩)=fun _=>plainGoodE (vw qT) (looseW (vw qT) (kW qT)):=by kernel_rfl
theorem Wx (w:World):(fun os=>plainSeenD (vw qT) (kW qT) ⟨hF qT w.params,⟨[]⟩,{},1887,os⟩)=fun _=>plainGoodD (vw qT) (kW qT):=by kernel_rfl
theorem Wy (w:World):(fun os=>wideSeen (vw qT) ⟨hF qT w.params,⟨[]⟩,{},1887,os⟩)=fun _=>wideGood (vw qT):=by kernel_rfl
theorem Wz (w:World):(fun os=>clsSeenW (vw qT) (kW qT) ⟨hF qT w.params,⟨[]⟩,{},1887,os⟩)=fun _=>clsGoodW (vw qT) (kW qT):=by kernel_rfl
theorem WA (w:World):((hF qT w.params).keysOk (looseW (vw qT) (kW qT)) ((recsOf (vw qT)).map (·.name)) ((litsOf (vw qT)).map (·.1)) ((clssOf (vw qT) (looseW (vw qT) (kW qT))).map (·.name)))=true:=by kernel_rfl
theorem WB (w:World):(hF qT w.params).accountedOkI (importedModules qT.main.body)=true:=by kernel_rfl
theorem WC (w:World):((hF qT w.params).isNs mainGlobals&&(hF qT w.params).isNs builtinsNs)=true:=by kernel_rfl
theorem WD (w:World):(tablesOk (vw qT) (hF qT w.params))=true:=by kernel_rfl
theorem WE (w:World):(fun os=>R6 qT ⟨hF qT w.params,⟨[]⟩,{},1887,os⟩)=fun _=>true:=by kernel_rfl
end
noncomputable section
theorem R7 (w:World) (os:OsState):openSeen (vw qT) (kW qT) (importedModules qT.main.body) (R6 qT) true ⟨hF qT w.params,⟨[]⟩,{},1887,os⟩=openGood (vw qT) (kW qT):=by
 unfold openSeen openGood;have e1:=congrFun (Ws w) os;have e3:=congrFun (Wu w) os;have V:=congrFun (Wv w) os;have M:=congrFun (Ww w) os;have H:=congrFun (Wx w) os;have v:=congrFun (Wy w) os;have u:=congrFun (Wz w) os;have t:=congrFun (WE w) os;have d:=WC w;simp only[Bool.and_eq_true] at d;dsimp only at e1 e3 V M H v u t⊢;rw[e1,Wt w,e3,V,M,H,v,u,WA w,WB w,d.1,d.2,WD w,t]
 rfl
def Lk (q:Program):Prop:=∀(w:World) (os:OsState),openSeen (vw q) (kW q) (importedModules q.main.body) (R6 q) true ⟨hF q w.params,⟨[]⟩,{},1887,os⟩=openGood (vw q) (kW q)
theorem U2:Lk pw:=by rw[show pw=qT from CC];exact R7
theorem left:LeftO pw (vw pw) (kW pw) (R6 pw) (fun s=>s.heap) (fun w=>hF pw w.params) 20000 true:=
 LeftO.of_pieces (H₁:=hF pw) (gs₁:=⟨[]⟩) (d₁:={}) (k₁:=1887) (R5 20000 (by decide)) size (fun w os=>run w os) (by decide) (fun w=>by
  funext os
  have e:=congrFun (Wm w) os;dsimp only at e⊢;rw[e,U2 w os])
end
noncomputable section
def YP (w:World) (h:Heap):Prop:=∀b o,(hF pw w.params).get? b=some o->h.get? b=some o
def WF (st:Stmt):Arguments:=match st with
 |.FunctionDef _ a _ _ _ _ _ _ _ _=>a
 |_=>⟨[],[],none,[],[],none,[]⟩
def fnB (st:Stmt):List Stmt:=match st with
 |.FunctionDef _ _ b _ _ _ _ _ _ _=>b
 |_=>[]
def WG (st:Stmt):Scope:=match st with
 |.FunctionDef _ _ _ _ _ _ sc _ _ _=>sc
 |_=>default
def WH (st:Stmt):Pos:=match st with
 |.FunctionDef _ _ _ _ _ _ _ _ _ p=>p
 |_=>default
def R8:DefRec:=⟨"law",WF (g pw 57),fnB (g pw 57),WG (g pw 57),WH (g pw 57)⟩
abbrev Walk:Prop:=WalkO (vw pw) (kW pw) (XL (vw pw) []) YP (PySem.Challenge.rw_il0105_01.row).toRowW R8 [] fun f vs=>PySem.call f vs
theorem Py:defOf (vw pw) (PySem.Challenge.rw_il0105_01.row).name=some (R8,[]):=by kernel_rfl
def R9 (p:Program):OpenLaw:={prog:=p,name:="law",about:=["SequenceMatcher","get_opcodes"],foot:=8,most:=some 63,bound:=none,writes:=false}
theorem bt {a b:Bool} (h:a=true) (k:b=true):(a&&b)=true:=by rw[h,k];rfl
theorem WI (k:Look) (a b:List Stmt):noRoadLSs k (a++b)=(noRoadLSs k a&&noRoadLSs k b):=by
 induction a with
 |nil=>kernel_rfl
 |cons x a d=>
  refine(?p:noRoadLSs k (x::a++b)=(noRoadLS k x&&noRoadLSs k (a++b))).trans ?q
  case p=>kernel_rfl
  rw[d,<-Bool.and_assoc]
  kernel_rfl
theorem VR (n:Nat) {k d:Look} {b:List Stmt} (e:k=d) (h:PySem.W.Fast.tw8326940854005059898 d (b.take n)=true) (j:PySem.W.Fast.tw8326940854005059898 d (b.drop n)=true):PySem.W.Fast.tw8326940854005059898 k b=true:=by
 rw[e,<-List.take_append_drop n b];rw[<-PySem.W.Fast.te8326940854005059898] at h j⊢;rw[WI,h,j]
 rfl
abbrev mQ:OpenRow:=PySem.W.Fast.tw2368527892694137696 (R9 qT)
theorem w1:PySem.W.Fast.tw11788848310118352699 mQ.prog.main=true:=by kernel_rfl
theorem w2:({strict:=!R.allR (PySem.W.Fast.tw5923862056798008813 mQ.prog.main.body) (PySem.W.Fast.tw3471404346716756564 PySem.W.Fast.tw17691160309236699985),foot:=none,bare:=R.filterR (PySem.W.Fast.tw13343964577679436407 mQ.prog mQ.prog.main.body) [⟨⟨[118,97,114,115]⟩⟩,⟨⟨[100,105,114]⟩⟩,⟨⟨[108,111,99,97,108,115]⟩⟩]}:Look)={strict:=false,foot:=none}:=by kernel_rfl
theorem w3:PySem.W.Fast.tw8326940854005059898 {strict:=false,foot:=none} (List.take 8 mQ.prog.main.body)=true:=by kernel_rfl
theorem w4:PySem.W.Fast.tw8326940854005059898 {strict:=false,foot:=none} (List.take 27 (List.drop 8 mQ.prog.main.body))=true:=by kernel_rfl
theorem w5:PySem.W.Fast.tw8326940854005059898 {strict:=false,foot:=none} (List.drop 27 (List.drop 8 mQ.prog.main.body))=true:=by kernel_rfl
theorem w6:PySem.W.Fast.tw17119622794617984870 mQ.prog mQ.prog.main.body (fun x n=>PySem.W.Fast.tw17868728402115742887 n)=true:=by kernel_rfl
theorem U3:PySem.W.Fast.tw9446332074065402090 (R9 qT)=true:=by
 delta PySem.W.Fast.tw9446332074065402090 PySem.W.Fast.tw17960256430627541270 PySem.W.Fast.tw2436336058641802641 PySem.W.Fast.tw12908688711261696721
 repeat' with_reducible refine bt ?_ ?_
 .exact w1
 .kernel_rfl
 .kernel_rfl
 .kernel_rfl
 .exact VR 8 w2 w3 (VR 27 rfl w4 w5)
 .exact w6
 all_goals kernel_rfl
theorem WJ:PySem.Challenge.rw_il0105_01.wellSaid=true:=by
 show(R9 pw).wellSaid=true;rw[show pw=qT from CC,show@OpenLaw.wellSaid=PySem.W.Fast.tw9446332074065402090 from PySem.W.Fast.te9446332074065402090];exact U3
def U4 (q:Program):Bool:=chainsOk (vw q)&&opensWell q&&(frees (R9 q).row.toRowW&&(R9 q).row.within.isEmpty)
theorem WK:U4 qT=true:=by kernel_rfl
theorem WL:U4 pw=true:=by rw[show pw=qT from CC];exact WK
theorem bare:pw.bare:=⟨rfl,rfl,rfl,rfl,rfl,by decide+kernel⟩
theorem head (call:Walk):PySem.Challenge.rw_il0105_01.Holds:=
 holds_law WJ fun d=>
  PySem.W.holds_open (r:=PySem.Challenge.rw_il0105_01.row) (q:=vw pw) (loose:=kW pw) (Xt:=R6 pw) (XP:=XL (vw pw) []) (Yf:=fun s=>s.heap) (Ya:=fun w=>hF pw w.params) (YP:=YP) (N:=20000)
   left (fun w s e b o h=>e▸h) (fun w h h' y k b o e=>k b o (y b o e)) (fun s e=>xl_of s (Bool.and_eq_true_iff.mp e).1) XL.keeps Py (by kernel_rfl) (by kernel_rfl) (fun s e=>recFacts_of (Bool.and_eq_true_iff.mp e).2) (by rfl) d ((by kernel_rfl:U4 pw=(chainsOk (vw pw)&&opensWell PySem.Challenge.rw_il0105_01.row.prog&&(frees PySem.Challenge.rw_il0105_01.row.toRowW&&PySem.Challenge.rw_il0105_01.row.within.isEmpty)))▸WL) bare ⟨[.list []],by decide+kernel,by decide+kernel⟩ call
end
end Mine
open _root_.PySem renaming wpAny_bind->ae,wpAny_pure->af,Value->aj,Shared->ak,sizeLine_eq->ay,World->aB,Builtin->aC,wpAny_holding->aD,Program->aG,Addr->aM,sizeLine->aO,wpAny_standAt->bn,compareOp->bq,attributeBase->bE,wpAny_seqItems->bI,codeAny_builtin->bJ,wpAny_newObj_type->bK,builtinLookup_eq_fast->bM,Around->bU,wpAny_call_entry->bV,wpAny_mono->bX,callEnv->cx,wpAny_of_eq->cz,plainId_quiet->cG,Expr->cX,typeLookup_type->cY,wpAny_askSetting->cZ,Params->dg,wpAny_updateSeq->dk,DictEntry->dv,wpAny_Call_NameR->dw,isSubtype_type->dy,wpAny_callSpecial?_slot->dz,Heap->dM,wpAny_specialOf->dN,wpAny_call->dR,wpAny_tryCatch->ed,entryFor_of_tree->et,wpAny_isInstance->ey,specialOf->eK,codeAny->eQ,Stmt->eX,wpAny_truthy_bool->fu,codeAny_mono->fv,checkBuiltinCall->fT,builtinKind->fY,wpAny_letGo->fZ,wpAny_setState_of->gk,assignEach->gu,wpAny_rule->gw,wpAny_attempt->gH,starEach->gQ,entryFor->gR,wpAny_storeName_local->gV,isSubtype->hZ,wpAny_newFunctionEnv->ik,wpAny_field->il,codeAny_call_builtin->ip,typeLookup->iy,methodCallPos->iz,wpAny_execs_cons->iI,mainGlobals->iS,updateSeq->jw,standAt->jG,holding->jH,wpAny_pyIter_list->jI,binaryOp->jQ,recursionLimit->jS,wpAny_load->jT,typeIs_str->jV,wpAny_loadPart->jZ,methodCallForm->j0,swapsWith->km,wpAny_typeOf->ko,codeAny_of_tree->kS,wpAny_Constant_str->k8,wpAny_Call_method_late->lG,wpAny_fieldsOf->lI,codeAny_call_function->lV,wpAny_eqBool_str->mn,signature?_of->mw,wpAny_alloc->mK,Result->mS,wpAny_richCompare_same_room->nq,FuncData->nL,JoinOk->nP,wpAny_newTuple->nQ,isSubtype_stop->nS,wpAny_setField_rec->nT,codeAny_call_builtin_code->oj,wpAny_Assign_Name->oG,wpAny_nsGet->oH,Thread->oT,evalPart_none->oU,wpAny_comprehension_free->oX,arm_eval_Call->pg,inplaceOp->pO,Args->pP,wpAny_callSpecial?_none->qg,wpAny_Call_method2_late->qh,OsState->qy,builtinsNs->qD,wpAny_Name->qE,wpAny_Expr->qG,call_meets->qJ,wpAny_allTrue_And_cons->qK,wpAny_richCompare_same->qN,strKind_is->qX,wpAny_execs_nil->rh,wpAny_isTrue_Compare1->ry,wpAny_allTrue_And_nil->rz,wpAny_allTrue_Or_cons->rA,wpAny_Subscript_Slice->rG,Model->sk,wpAny_loadName_local->sn,wpAny_allTrue_Or_nil->sv,callType_codes->sw,wpAny_mkInt->sF,ClassData->tf,wpAny_Constant_none->tm,wpAny_Tuple_spliced->tn,call_function_meets->to,wpAny_isTrue_BoolOp->tu,sub_list_self->ug,wpAny_release->uk,wpAny_List_spliced->uM,call_function_tree->uQ,codeAny_func->vK,wpAny_pyIter_enum->vL,fastTable_eq_tree->vN,wpAny_pyIter_slot->vO,wpAny_setEpoch_of->vP,codeAny_call_def->wt,wpAny_ite->wx,noFill_tuple_add->wB,wpAny_eqBool_int->wE,wpAny_Slice->xe,plainId->xH,GenState->yZ,Scope->y0,PyData->y6,Slot->y7,sliceRange_one->y9,wpAny_runValue->zb,SetTable->zc,wpAny_cRoomFor->zf,wpAny_setField->zn,code_list_new->zT,wpAny_handled->zU,wpAny_newList->zX,seq_tuple_add->zY,wpAny_is_self->zZ,Keyword->Cv,Operator->DX,Data->Fk,code->Fl,Flow->H9
open _root_.List renaming mem_cons_self->ag,length_map->ah,toArray->al,getElem?_eq_getElem->am,mem_cons_of_mem->ao,mem_cons->ap,map_cons->aq,getElem?_eq_some_iff->au,map_append->av,mem_singleton->aw,append_nil->ax,mem_map->az,length_cons->aE,length_append->aF,perm_append_singleton->aI,drop_eq_getElem_cons->aJ,not_mem_nil->aK,size_toArray->aN,mem_append_left->aP,mem_append->aQ,mem_append_right->aS,map_nil->aX,mem_map_of_mem->aZ,getElem?_map->a9,nil_append->be,foldl_cons->bf,cons_append->bh,length_nil->bp,getD_eq_getElem?_getD->bu,mem_of_getElem?->bD,take_length->bF,map_map->bH,length_take->bL,drop_eq_nil_of_le->bN,flatMap_cons->bR,take_add_one->bY,nodup_cons->bZ,foldl_append->cq,getElem_mem->cE,nodup_append->cP,filter_cons->dc,append_assoc->de,range->dD,map_congr_left->dQ,pairwise_map->dU,length_drop->eo,getElem?_eq_none->eL,pairwise_cons->eY,perm_middle->fj,getElem?_append_right->fy,append_eq_nil_iff->fA,filterMap_cons->fC,take_succ_cons->fD,getElem?_append_left->fJ,perm_append_comm->fP,eq_nil_or_concat->fR,pairwise_singleton->gm,lookup_cons->gK,foldl_nil->gS,take_append_drop->gT,concat_eq_append->gW,pairwise_iff_getElem->gZ,mem_filter->hY,drop_eq_nil_iff->im,pairwise_append->ir,takeWhile_append_dropWhile->iA,getElem_inj->iL,length->iT,filterMap_map->jg,of_mem_zip->jo,forIn_cons->jq,filterMap_eq_map->jA,length_filter_le->jB,rec->jN,drop_drop->jO,map_id->jY,getElem?_of_mem->j8,cons_ne_nil->ks,takeWhile_cons->kE,drop_succ_cons->kF,flatMap_append->kH,length_pos_iff->kI,getElem?_drop->lc,drop_zero->lL,take_of_length_le->lM,take_left->lO,drop_left->lP,map_take->mx,mem_iff_getElem->mO,mem_of_mem_take->mP,map_eq_nil_iff->mY,filter_eq_self->nc,nodup_nil->nJ,zip_cons_cons->nM,take_zero->nO,forIn_nil->nR,mem_range->nU,reverse_cons->oI,length_filterMap_le->oY,idxOf_lt_length_iff->pi,isEmpty_nil->pX,ext_getElem->pY,all_eq_true->qf,find?_cons->rl,filterMap_append->rC,singleton_append->rD,length_singleton->rI,dropLast_subset->sH,map->sI,getElem?_range->tC,sum_cons->ui,forIn_toArray->uO,Nodup->uY,filter_append->vc,length_range->vI,take_sublist->vJ,push_toArray->vM,drop->wo,map_fst_zip->wr,nodup_range->wy,getElem_map->wA,mem_flatMap->wG,lookup->xc,range_succ->xy,take_take->za,any_cons->zM,map_drop->z8,take->AY
open _root_.Nat renaming le_antisymm->ai,le_trans->aL,le_refl->aR,zero_le->aU,lt_or_gt_of_ne->bc,sub_le->bG,min_le_left->bO,min_le_right->cD,le_of_not_lt->cO,lt_irrefl->cU,le_of_lt->di,beq->eG,add_zero->gD,ne_of_lt->gE,le_of_ble_eq_true->gU,le_add_right->iM,le_of_eq->iX,lt_of_le_of_lt->je,lt_of_lt_of_le->jf,add_sub_cancel->ji,mul_le_mul_right->jP,le_succ->jW,zero_add->kj,min_eq_left->kR,le_add_left->kT,lt_trans->lH,not_lt_zero->mV,sub_self->nr,add_le_add->nI,lt_trichotomy->oK,not_le_of_lt->pL,lt_of_not_le->pM,not_lt_of_le->pN,eq_of_beq_eq_true->rx,add_add_add_comm->si,mul_add->sj,rec->te,mul_le_mul_left->tl,le_succ_of_le->vV,min_eq_right->wq,le_of_not_le->wv,succ_ne_zero->wF,add_mul->w9,one_mul->w',one_ne_zero->xx,reduceAdd->zO,blt->Co,zero_mul->Cp,succ_pos->Cu,not_lt->Fs
open _root_.PySem.Heap renaming get?_push_of_some->aA,get?_update_self->bo,get?_push_size->bv,get?_update_other->bz,lt_size->cC,SameBut->iY,size_push->jU,dictOf_iff->rn,ExtBut->sB
open _root_.Option renaming none->aH,toList_some->cr,map_eq_some_iff->cN,bind_some->fU,map_none->gv,map_some->js,isSome_iff_exists->ph,bind_eq_some_iff->pK,getD_none->pQ,toList_none->uN,isSome_none->uP,any_some->xu
open _root_.Bool renaming false_ne_true->aT,and_eq_true->bB,false_eq_true->bQ,eq_iff_iff->cQ,and_eq_false_iff->lX,and_eq_true_iff->sh,or_eq_true_iff->tB,rec->yY,false_and->zj,or_false->zS,and_true->z9
open _root_.PySem.Txt renaming join->bw,startswith->eO,contains->eR,endswith->qI
open _root_.PySem.Value renaming none->bx,ref->iK,builtin->kM,isStrByCps_eq->tA,type->uV,str->wC,bool->zd,int->A6
open _root_.PySem.Str renaming length->bA,ofString->cw,length_append->cF,join->D9,mk->KN
open _root_.PySem.Around renaming under_plainId->bC,frames_deeper->sG
open _root_.PySem.Builtin.List renaming listItems->bP,listExtendWith->cM,listSameRef->ix,listLengthHint->np,listUpdate->pW,listTouch->qL
open _root_.PySem.Obj renaming mapSeq->cg,data_mapFields->uX,putName->xf,mapFields->z6,putSet->Fp
open _root_.PySem.Challenge renaming rw_il0105_01->cH,pw_il0105_01->jn
open _root_.Array renaming getElem?_eq_getElem->cJ,length_toList->iC,getD_eq_getD_getElem?->jJ,toList_inj->mj,any_toList->pJ,toList_map->wz,size_push->xp,any->AX,toList->Cz
open _root_.PySem.W.Fast renaming tw8326940854005059898->cS,tw4202317264376624991->eW,tw9446332074065402090->gP,tw14364793385576792824->kK,te11892475500146522536->kL,tw10110043849684766642->tL,tw10156331382660048174->tM,tw11892475500146522536->tN,tw14289696077712309145->tO,tw15667345088766844465->tP,tw14374325043358763698->tQ,te10110043849684766642->tR,te14364793385576792824->tS,te10156331382660048174->tU,te14289696077712309145->tV,te15667345088766844465->tW,te14374325043358763698->tX,tw11788848310118352699->tY,tw17691160309236699985->tZ,tw13343964577679436407->ua,tw17119622794617984870->ub,tw17868728402115742887->uc,tw17960256430627541270->ud,tw12908688711261696721->ue,tw1435165496053646825->uD,te4202317264376624991->uE,te1435165496053646825->uF,te8326940854005059898->uG,tw2368527892694137696->uH,tw5923862056798008813->uI,tw3471404346716756564->uJ,tw2436336058641802641->uK,te9446332074065402090->uL,ofString_ofList->xn
open _root_.Classical renaming byContradiction->cV,epsilon_spec->dI,epsilon->ft
open _root_.PySem.F renaming plain_extend_loop->cW,slot_tuple_iterator_next->dW,plain_min_loop->eA,plain_max_loop->eB,plainAttrs_list->fk,slot_list_lt->f0,plainAttrs_str->gG,entry_extend_loop->gY,slot_bool_hash->jd,slot_str_join->jC,type_str_join->jD,args_tuple_iterator_next_1->k9,entry_tuple_iterator_next->lu,entry_min_loop->lJ,entry_max_loop->lK,slot_list_pop->lU,slot_set_iter->lW,slot_dict_get->lY,called_tuple->mJ,slot_list_gt->mN,slot_dict_setdefault->mU,entry_object_init->og,slot_set_contains->ol,slot_list_append->oV,type_list_append->oW,args_list_init_2->oZ,args_tuple_add_2->pd,slot_list_extend->pe,plain_list_iadd->pS,plain_tuple_new->pT,typeCall_list_1->pU,entry_list_init->pV,entry_tuple_add->pZ,plainAttrs_dict->qi,slot_tuple_iter->qj,args_set_add_2->qM,args_list_lt_2->qO,slot_tuple_add->qP,slot_list_sort->qY,slot_tuple_len->qZ,type_list_pop->rB,entry_set_add->rE,entry_list_lt->rF,type_dict_get->rJ,slot_tuple_lt->rK,slot_set_add->sA,called_list->tx
open _root_.PySem.MeetsSeq3 renaming plain_eq_loop->dH,entry_eq_loop->mM
open _root_.PySem.Calls renaming spliced_cons->dJ,spliced_nil->gj,evalArgs_plain->ij,call_function_entry->oh
open _root_.PySem.W renaming looks_findIn->dK,findIn->fx,Looks->iJ,Frag->jK,callWith_of->jR,SharedT->oF,handed_on->th,InstAt->uU,kas_desc->vQ,kas_rev->vR,looks_specialIn->xv,check_slot->zm,kas_place->A7,kas_ask->Cs,bind_fn->Cy,kas_sort->D3,kas_item->D5,any_some->D6
open _root_.List.cons renaming injEq->dO
open _root_.PySem.PyData renaming canLayAll0->eH,depthAll->fE,list->gI,keyHash->gO,canLay0->iN,eqv->iZ,eqvAll->kO,depth->qU,tuple->Ct,str->Fq
open _root_.Int renaming toNat_natCast->eI,le_antisymm->eS,fmod_nonneg_of_pos->lN,ofNat->nz,natCast_nonneg->nN,fmod_lt_of_pos->nW,toNat_lt->vU,ofNat_lt->Cq
open _root_.PySem.Builtin.Tuple renaming tupleExact->eP,tupleItemsOf->fw,tupleIsExact->zh
open _root_.PySem.Heap.SameBut renaming update->fB,refl->Gz
open _root_.List.Perm renaming refl->fX,swap->iH,of_eq->xt
open _root_.PySem.Builtin.Builtins renaming bindParams->gF
open _root_.PySem.Builtin.Slice renaming slicePlaces->g0,sliceAdjust->ky,sliceApplied->nV,sliceFields->zr
open _root_.List.Pairwise renaming nil->iq,imp_of_mem->pj
open _root_.PySem.Manifest renaming varargsMethods->iP,Signature->jh,signature?->kG,owners->xq,isStub->xw
open _root_.PySem.Code renaming quiet_builtin->jc
open _root_.PySem.Builtin renaming divisionGoesByPylong->jp
open _root_.Option.some renaming inj->jr,injEq->oJ
open _root_.PySem.W.Looks renaming of_pure->jx,ld->mI,here->zl,now->AZ
open _root_.PySem.StrLaws renaming glued_eq_join->jz,subAt_eq->qk,join_split->uZ,split_free->va
open _root_.PySem.Builtin.Frozenset renaming oneOther->jX,addrOf->kN,sizeOf->o0,withSetAsKey->wD
open _root_.PySem.Bind renaming madeBy->j7,staticBase->kU,checkArgs->nX,madeHere->z7
open _root_.PySem.Builtin.Str renaming strSliceIndices->nk,strKind->nZ,occurrences->pR,glued->qc,partsBetween->zR
open _root_.PyProof.Rows renaming slot_str_gt->pb,get?_update_seq->ri,loadName_read->uf,listUpdate_at->uh,slot_tuple_getitem->uS,seqEpoch_at->xd,Subscript_->y8,keyLt'_oneType->ze,slicePart_none->zg,entry_str_gt->zq,slot_str_lt->zV,args_str_gt->zW,iadd_str->CB,mod_int->DY,add_str->DZ,IsTup->D2
open _root_.PySem.AutoSeq1 renaming tuple___add___tuple_tuple_0->qQ,tuple___add___tuple_tuple_1->qS,list_extend_list_list_0->sC,wpAny_loadPart'->ww
open _root_.PySem.Sre renaming isWord->qV,Seen->sD,forSearch->uj,category->vS,M->zk,inSet->A8
open _root_.ForInStep renaming yield->rj
open _root_.PySem.Builtin.Deque renaming newArgs->rH,size->uW,new->vT,items->Ee
open _root_.PySem.Sre.M renaming admitted->sE
open _root_.String renaming reduceToList->ti,ofList->tK,toList->zN
open _root_.Prod.mk renaming injEq->um
open _root_.PyProof.Rows.SortSt renaming mk'->uR
open _root_.PySem.Heap.IsSliceOf renaming new->uT
open _root_.PySem.Keeper renaming boundFrame->vH,machine->y5,frame->Cr
open _root_.PySem.MeetsSeq renaming list_pop_last->xo
open _root_.List.Sublist renaming eq_of_length->zp
open _root_.PySem.EqNone renaming eq_none_none->zt,eq_str_none->z5
open _root_.PySem.BindsTo renaming of_eq->zP
open _root_.Lean.Omega.Int renaming ofNat_min->zQ
open _root_.PySem.Builtin.Range renaming rangeSize->A9
open _root_.PySem.Meets renaming of_wp->D7
open _root_.Eq renaming mp->D8
open _root_.PySem.Builtin.Dict renaming missed->Ef
open _root_.PySem.W.SharedT renaming mk->Fo
open _root_.PySem.Data renaming dict->H'
namespace La
local macro_rules (kind:=Lean.Parser.Command.declaration)|s=>La.mD La.sN s
def hc {α:Type} (n:Nonempty α) (P:α->Prop):α:=@ft α n λ y=>¬P y
theorem ep {α:Type} {P:α->Prop} (n:Nonempty α) (h:P (hc n P)) (y:α):P y:=cV λ q=>@dI α (λ y=>¬P y) ⟨y,q⟩ h
def hc2 {α β:Type} (n:Nonempty (α×β)) (P:α->β->Prop):α×β:=@ft _ n λ p=>¬P p.1 p.2
theorem ep2 {α β:Type} {P:α->β->Prop} (n:Nonempty (α×β)) (h:P (hc2 n P).1 (hc2 n P).2) (a:α) (b:β):P a b:=cV λ q=>@dI _ (λ p=>¬P p.1 p.2) ⟨(a,b),q⟩ h
def hc3 {α β γ:Type} (n:Nonempty (α×β×γ)) (P:α->β->γ->Prop):α×β×γ:=@ft _ n λ p=>¬P p.1 p.2.1 p.2.2
theorem ep3 {α β γ:Type} {P:α->β->γ->Prop} (n:Nonempty (α×β×γ)) (h:P (hc3 n P).1 (hc3 n P).2.1 (hc3 n P).2.2) (a:α) (b:β) (c:γ):P a b c:=cV λ q=>@dI _ (λ p=>¬P p.1 p.2.1 p.2.2) ⟨(a,b,c),q⟩ h
def hc4 {α β γ δ:Type} (n:Nonempty (α×β×γ×δ)) (P:α->β->γ->δ->Prop):α×β×γ×δ:=@ft _ n λ p=>¬P p.1 p.2.1 p.2.2.1 p.2.2.2
theorem ep4 {α β γ δ:Type} {P:α->β->γ->δ->Prop} (n:Nonempty (α×β×γ×δ)) (h:P (hc4 n P).1 (hc4 n P).2.1 (hc4 n P).2.2.1 (hc4 n P).2.2.2) (a:α) (b:β) (c:γ) (d:δ):P a b c d:=cV λ q=>@dI _ (λ p=>¬P p.1 p.2.1 p.2.2.1 p.2.2.2) ⟨(a,b,c,d),q⟩ h
def hc5 {α β γ δ ε:Type} (n:Nonempty (α×β×γ×δ×ε)) (P:α->β->γ->δ->ε->Prop):α×β×γ×δ×ε:=@ft _ n λ p=>¬P p.1 p.2.1 p.2.2.1 p.2.2.2.1 p.2.2.2.2
theorem ep5 {α β γ δ ε:Type} {P:α->β->γ->δ->ε->Prop} (n:Nonempty (α×β×γ×δ×ε)) (h:P (hc5 n P).1 (hc5 n P).2.1 (hc5 n P).2.2.1 (hc5 n P).2.2.2.1 (hc5 n P).2.2.2.2) (a:α) (b:β) (c:γ) (d:δ) (e:ε):P a b c d e:=cV λ q=>@dI _ (λ p=>¬P p.1 p.2.1 p.2.2.1 p.2.2.2.1 p.2.2.2.2) ⟨(a,b,c,d,e),q⟩ h
def hc6 {α β γ δ ε ζ:Type} (n:Nonempty (α×β×γ×δ×ε×ζ)) (P:α->β->γ->δ->ε->ζ->Prop):α×β×γ×δ×ε×ζ:=@ft _ n λ p=>¬P p.1 p.2.1 p.2.2.1 p.2.2.2.1 p.2.2.2.2.1 p.2.2.2.2.2
theorem ep6 {α β γ δ ε ζ:Type} {P:α->β->γ->δ->ε->ζ->Prop} (n:Nonempty (α×β×γ×δ×ε×ζ)) (h:P (hc6 n P).1 (hc6 n P).2.1 (hc6 n P).2.2.1 (hc6 n P).2.2.2.1 (hc6 n P).2.2.2.2.1 (hc6 n P).2.2.2.2.2) (a:α) (b:β) (c:γ) (d:δ) (e:ε) (f:ζ):P a b c d e f:=cV λ q=>@dI _ (λ p=>¬P p.1 p.2.1 p.2.2.1 p.2.2.2.1 p.2.2.2.2.1 p.2.2.2.2.2) ⟨(a,b,c,d,e,f),q⟩ h
def hc7 {α β γ δ ε ζ η:Type} (n:Nonempty (α×β×γ×δ×ε×ζ×η)) (P:α->β->γ->δ->ε->ζ->η->Prop):α×β×γ×δ×ε×ζ×η:=@ft _ n λ p=>¬P p.1 p.2.1 p.2.2.1 p.2.2.2.1 p.2.2.2.2.1 p.2.2.2.2.2.1 p.2.2.2.2.2.2
theorem ep7 {α β γ δ ε ζ η:Type} {P:α->β->γ->δ->ε->ζ->η->Prop} (n:Nonempty (α×β×γ×δ×ε×ζ×η)) (h:P (hc7 n P).1 (hc7 n P).2.1 (hc7 n P).2.2.1 (hc7 n P).2.2.2.1 (hc7 n P).2.2.2.2.1 (hc7 n P).2.2.2.2.2.1 (hc7 n P).2.2.2.2.2.2) (a:α) (b:β) (c:γ) (d:δ) (e:ε) (f:ζ) (g:η):P a b c d e f g:=cV λ q=>@dI _ (λ p=>¬P p.1 p.2.1 p.2.2.1 p.2.2.2.1 p.2.2.2.2.1 p.2.2.2.2.2.1 p.2.2.2.2.2.2) ⟨(a,b,c,d,e,f,g),q⟩ h
def hc8 {α β γ δ ε ζ η κ:Type} (n:Nonempty (α×β×γ×δ×ε×ζ×η×κ)) (P:α->β->γ->δ->ε->ζ->η->κ->Prop):α×β×γ×δ×ε×ζ×η×κ:=@ft _ n λ p=>¬P p.1 p.2.1 p.2.2.1 p.2.2.2.1 p.2.2.2.2.1 p.2.2.2.2.2.1 p.2.2.2.2.2.2.1 p.2.2.2.2.2.2.2
theorem ep8 {α β γ δ ε ζ η κ:Type} {P:α->β->γ->δ->ε->ζ->η->κ->Prop} (n:Nonempty (α×β×γ×δ×ε×ζ×η×κ)) (z:P (hc8 n P).1 (hc8 n P).2.1 (hc8 n P).2.2.1 (hc8 n P).2.2.2.1 (hc8 n P).2.2.2.2.1 (hc8 n P).2.2.2.2.2.1 (hc8 n P).2.2.2.2.2.2.1 (hc8 n P).2.2.2.2.2.2.2) (a:α) (b:β) (c:γ) (d:δ) (e:ε) (f:ζ) (g:η) (h:κ):P a b c d e f g h:=cV λ q=>@dI _ (λ p=>¬P p.1 p.2.1 p.2.2.1 p.2.2.2.1 p.2.2.2.2.1 p.2.2.2.2.2.1 p.2.2.2.2.2.2.1 p.2.2.2.2.2.2.2) ⟨(a,b,c,d,e,f,g,h),q⟩ z
theorem W7 {α β:Type} (a:Nonempty α) (b:Nonempty β):Nonempty (α×β):=a.elim λ x=>b.elim λ y=>⟨(x,y)⟩
theorem eE02 {A B:Prop} {G:Prop} (h:A /\ B) (k:A->B->G):G:=k h.1 h.2
theorem eE11 {α:Sort _} {A:α->Prop} {G:Prop} (h:∃x,A x) (k:∀x,A x->G):G:=h.elim λ x h=>k x h
theorem eE03 {A B C:Prop} {G:Prop} (h:A /\ B /\ C) (k:A->B->C->G):G:=k h.1 h.2.1 h.2.2
theorem eE12 {α:Sort _} {A B:α->Prop} {G:Prop} (h:∃x,A x /\ B x) (k:∀x,A x->B x->G):G:=h.elim λ x h=>k x h.1 h.2
theorem eE21 {α:Sort _} {β:Sort _} {A:α->β->Prop} {G:Prop} (h:∃x,∃y,A x y) (k:∀x,∀y,A x y->G):G:=h.elim λ x h=>h.elim λ y h=>k x y h
theorem eE04 {A B C D:Prop} {G:Prop} (h:A /\ B /\ C /\ D) (k:A->B->C->D->G):G:=k h.1 h.2.1 h.2.2.1 h.2.2.2
theorem eE13 {α:Sort _} {A B C:α->Prop} {G:Prop} (h:∃x,A x /\ B x /\ C x) (k:∀x,A x->B x->C x->G):G:=h.elim λ x h=>k x h.1 h.2.1 h.2.2
theorem eE22 {α:Sort _} {β:Sort _} {A B:α->β->Prop} {G:Prop} (h:∃x,∃y,A x y /\ B x y) (k:∀x,∀y,A x y->B x y->G):G:=h.elim λ x h=>h.elim λ y h=>k x y h.1 h.2
theorem eE31 {α:Sort _} {β:Sort _} {γ:Sort _} {A:α->β->γ->Prop} {G:Prop} (h:∃x,∃y,∃z,A x y z) (k:∀x,∀y,∀z,A x y z->G):G:=h.elim λ x h=>h.elim λ y h=>h.elim λ z h=>k x y z h
theorem eE05 {A B C D E:Prop} {G:Prop} (h:A /\ B /\ C /\ D /\ E) (k:A->B->C->D->E->G):G:=k h.1 h.2.1 h.2.2.1 h.2.2.2.1 h.2.2.2.2
theorem eE14 {α:Sort _} {A B C D:α->Prop} {G:Prop} (h:∃x,A x /\ B x /\ C x /\ D x) (k:∀x,A x->B x->C x->D x->G):G:=h.elim λ x h=>k x h.1 h.2.1 h.2.2.1 h.2.2.2
theorem eE23 {α:Sort _} {β:Sort _} {A B C:α->β->Prop} {G:Prop} (h:∃x,∃y,A x y /\ B x y /\ C x y) (k:∀x,∀y,A x y->B x y->C x y->G):G:=h.elim λ x h=>h.elim λ y h=>k x y h.1 h.2.1 h.2.2
theorem eE32 {α:Sort _} {β:Sort _} {γ:Sort _} {A B:α->β->γ->Prop} {G:Prop} (h:∃x,∃y,∃z,A x y z /\ B x y z) (k:∀x,∀y,∀z,A x y z->B x y z->G):G:=h.elim λ x h=>h.elim λ y h=>h.elim λ z h=>k x y z h.1 h.2
theorem eE41 {α:Sort _} {β:Sort _} {γ:Sort _} {δ:Sort _} {A:α->β->γ->δ->Prop} {G:Prop} (h:∃x,∃y,∃z,∃u,A x y z u) (k:∀x,∀y,∀z,∀u,A x y z u->G):G:=h.elim λ x h=>h.elim λ y h=>h.elim λ z h=>h.elim λ u h=>k x y z u h
theorem eE06 {A B C D E F:Prop} {G:Prop} (h:A /\ B /\ C /\ D /\ E /\ F) (k:A->B->C->D->E->F->G):G:=k h.1 h.2.1 h.2.2.1 h.2.2.2.1 h.2.2.2.2.1 h.2.2.2.2.2
theorem eE15 {α:Sort _} {A B C D E:α->Prop} {G:Prop} (h:∃x,A x /\ B x /\ C x /\ D x /\ E x) (k:∀x,A x->B x->C x->D x->E x->G):G:=h.elim λ x h=>k x h.1 h.2.1 h.2.2.1 h.2.2.2.1 h.2.2.2.2
theorem eE24 {α:Sort _} {β:Sort _} {A B C D:α->β->Prop} {G:Prop} (h:∃x,∃y,A x y /\ B x y /\ C x y /\ D x y) (k:∀x,∀y,A x y->B x y->C x y->D x y->G):G:=h.elim λ x h=>h.elim λ y h=>k x y h.1 h.2.1 h.2.2.1 h.2.2.2
theorem eE33 {α:Sort _} {β:Sort _} {γ:Sort _} {A B C:α->β->γ->Prop} {G:Prop} (h:∃x,∃y,∃z,A x y z /\ B x y z /\ C x y z) (k:∀x,∀y,∀z,A x y z->B x y z->C x y z->G):G:=h.elim λ x h=>h.elim λ y h=>h.elim λ z h=>k x y z h.1 h.2.1 h.2.2
theorem eE42 {α:Sort _} {β:Sort _} {γ:Sort _} {δ:Sort _} {A B:α->β->γ->δ->Prop} {G:Prop} (h:∃x,∃y,∃z,∃u,A x y z u /\ B x y z u) (k:∀x,∀y,∀z,∀u,A x y z u->B x y z u->G):G:=h.elim λ x h=>h.elim λ y h=>h.elim λ z h=>h.elim λ u h=>k x y z u h.1 h.2
theorem eE51 {α:Sort _} {β:Sort _} {γ:Sort _} {δ:Sort _} {ε:Sort _} {A:α->β->γ->δ->ε->Prop} {G:Prop} (h:∃x,∃y,∃z,∃u,∃v,A x y z u v) (k:∀x,∀y,∀z,∀u,∀v,A x y z u v->G):G:=h.elim λ x h=>h.elim λ y h=>h.elim λ z h=>h.elim λ u h=>h.elim λ v h=>k x y z u v h
theorem eE07 {A B C D E F H:Prop} {G:Prop} (h:A /\ B /\ C /\ D /\ E /\ F /\ H) (k:A->B->C->D->E->F->H->G):G:=k h.1 h.2.1 h.2.2.1 h.2.2.2.1 h.2.2.2.2.1 h.2.2.2.2.2.1 h.2.2.2.2.2.2
theorem eE16 {α:Sort _} {A B C D E F:α->Prop} {G:Prop} (h:∃x,A x /\ B x /\ C x /\ D x /\ E x /\ F x) (k:∀x,A x->B x->C x->D x->E x->F x->G):G:=h.elim λ x h=>k x h.1 h.2.1 h.2.2.1 h.2.2.2.1 h.2.2.2.2.1 h.2.2.2.2.2
theorem eE25 {α:Sort _} {β:Sort _} {A B C D E:α->β->Prop} {G:Prop} (h:∃x,∃y,A x y /\ B x y /\ C x y /\ D x y /\ E x y) (k:∀x,∀y,A x y->B x y->C x y->D x y->E x y->G):G:=h.elim λ x h=>h.elim λ y h=>k x y h.1 h.2.1 h.2.2.1 h.2.2.2.1 h.2.2.2.2
theorem eE34 {α:Sort _} {β:Sort _} {γ:Sort _} {A B C D:α->β->γ->Prop} {G:Prop} (h:∃x,∃y,∃z,A x y z /\ B x y z /\ C x y z /\ D x y z) (k:∀x,∀y,∀z,A x y z->B x y z->C x y z->D x y z->G):G:=h.elim λ x h=>h.elim λ y h=>h.elim λ z h=>k x y z h.1 h.2.1 h.2.2.1 h.2.2.2
theorem eE43 {α:Sort _} {β:Sort _} {γ:Sort _} {δ:Sort _} {A B C:α->β->γ->δ->Prop} {G:Prop} (h:∃x,∃y,∃z,∃u,A x y z u /\ B x y z u /\ C x y z u) (k:∀x,∀y,∀z,∀u,A x y z u->B x y z u->C x y z u->G):G:=h.elim λ x h=>h.elim λ y h=>h.elim λ z h=>h.elim λ u h=>k x y z u h.1 h.2.1 h.2.2
theorem eE52 {α:Sort _} {β:Sort _} {γ:Sort _} {δ:Sort _} {ε:Sort _} {A B:α->β->γ->δ->ε->Prop} {G:Prop} (h:∃x,∃y,∃z,∃u,∃v,A x y z u v /\ B x y z u v) (k:∀x,∀y,∀z,∀u,∀v,A x y z u v->B x y z u v->G):G:=h.elim λ x h=>h.elim λ y h=>h.elim λ z h=>h.elim λ u h=>h.elim λ v h=>k x y z u v h.1 h.2
theorem eE08 {A B C D E F H I:Prop} {G:Prop} (h:A /\ B /\ C /\ D /\ E /\ F /\ H /\ I) (k:A->B->C->D->E->F->H->I->G):G:=k h.1 h.2.1 h.2.2.1 h.2.2.2.1 h.2.2.2.2.1 h.2.2.2.2.2.1 h.2.2.2.2.2.2.1 h.2.2.2.2.2.2.2
theorem eE17 {α:Sort _} {A B C D E F H:α->Prop} {G:Prop} (h:∃x,A x /\ B x /\ C x /\ D x /\ E x /\ F x /\ H x) (k:∀x,A x->B x->C x->D x->E x->F x->H x->G):G:=h.elim λ x h=>k x h.1 h.2.1 h.2.2.1 h.2.2.2.1 h.2.2.2.2.1 h.2.2.2.2.2.1 h.2.2.2.2.2.2
theorem eE26 {α:Sort _} {β:Sort _} {A B C D E F:α->β->Prop} {G:Prop} (h:∃x,∃y,A x y /\ B x y /\ C x y /\ D x y /\ E x y /\ F x y) (k:∀x,∀y,A x y->B x y->C x y->D x y->E x y->F x y->G):G:=h.elim λ x h=>h.elim λ y h=>k x y h.1 h.2.1 h.2.2.1 h.2.2.2.1 h.2.2.2.2.1 h.2.2.2.2.2
theorem eE35 {α:Sort _} {β:Sort _} {γ:Sort _} {A B C D E:α->β->γ->Prop} {G:Prop} (h:∃x,∃y,∃z,A x y z /\ B x y z /\ C x y z /\ D x y z /\ E x y z) (k:∀x,∀y,∀z,A x y z->B x y z->C x y z->D x y z->E x y z->G):G:=h.elim λ x h=>h.elim λ y h=>h.elim λ z h=>k x y z h.1 h.2.1 h.2.2.1 h.2.2.2.1 h.2.2.2.2
theorem eE44 {α:Sort _} {β:Sort _} {γ:Sort _} {δ:Sort _} {A B C D:α->β->γ->δ->Prop} {G:Prop} (h:∃x,∃y,∃z,∃u,A x y z u /\ B x y z u /\ C x y z u /\ D x y z u) (k:∀x,∀y,∀z,∀u,A x y z u->B x y z u->C x y z u->D x y z u->G):G:=h.elim λ x h=>h.elim λ y h=>h.elim λ z h=>h.elim λ u h=>k x y z u h.1 h.2.1 h.2.2.1 h.2.2.2
theorem eE53 {α:Sort _} {β:Sort _} {γ:Sort _} {δ:Sort _} {ε:Sort _} {A B C:α->β->γ->δ->ε->Prop} {G:Prop} (h:∃x,∃y,∃z,∃u,∃v,A x y z u v /\ B x y z u v /\ C x y z u v) (k:∀x,∀y,∀z,∀u,∀v,A x y z u v->B x y z u v->C x y z u v->G):G:=h.elim λ x h=>h.elim λ y h=>h.elim λ z h=>h.elim λ u h=>h.elim λ v h=>k x y z u v h.1 h.2.1 h.2.2
theorem eE18 {α:Sort _} {A B C D E F H I:α->Prop} {G:Prop} (h:∃x,A x /\ B x /\ C x /\ D x /\ E x /\ F x /\ H x /\ I x) (k:∀x,A x->B x->C x->D x->E x->F x->H x->I x->G):G:=h.elim λ x h=>k x h.1 h.2.1 h.2.2.1 h.2.2.2.1 h.2.2.2.2.1 h.2.2.2.2.2.1 h.2.2.2.2.2.2.1 h.2.2.2.2.2.2.2
theorem eE27 {α:Sort _} {β:Sort _} {A B C D E F H:α->β->Prop} {G:Prop} (h:∃x,∃y,A x y /\ B x y /\ C x y /\ D x y /\ E x y /\ F x y /\ H x y) (k:∀x,∀y,A x y->B x y->C x y->D x y->E x y->F x y->H x y->G):G:=h.elim λ x h=>h.elim λ y h=>k x y h.1 h.2.1 h.2.2.1 h.2.2.2.1 h.2.2.2.2.1 h.2.2.2.2.2.1 h.2.2.2.2.2.2
theorem eE36 {α:Sort _} {β:Sort _} {γ:Sort _} {A B C D E F:α->β->γ->Prop} {G:Prop} (h:∃x,∃y,∃z,A x y z /\ B x y z /\ C x y z /\ D x y z /\ E x y z /\ F x y z) (k:∀x,∀y,∀z,A x y z->B x y z->C x y z->D x y z->E x y z->F x y z->G):G:=h.elim λ x h=>h.elim λ y h=>h.elim λ z h=>k x y z h.1 h.2.1 h.2.2.1 h.2.2.2.1 h.2.2.2.2.1 h.2.2.2.2.2
theorem eE45 {α:Sort _} {β:Sort _} {γ:Sort _} {δ:Sort _} {A B C D E:α->β->γ->δ->Prop} {G:Prop} (h:∃x,∃y,∃z,∃u,A x y z u /\ B x y z u /\ C x y z u /\ D x y z u /\ E x y z u) (k:∀x,∀y,∀z,∀u,A x y z u->B x y z u->C x y z u->D x y z u->E x y z u->G):G:=h.elim λ x h=>h.elim λ y h=>h.elim λ z h=>h.elim λ u h=>k x y z u h.1 h.2.1 h.2.2.1 h.2.2.2.1 h.2.2.2.2
theorem eE54 {α:Sort _} {β:Sort _} {γ:Sort _} {δ:Sort _} {ε:Sort _} {A B C D:α->β->γ->δ->ε->Prop} {G:Prop} (h:∃x,∃y,∃z,∃u,∃v,A x y z u v /\ B x y z u v /\ C x y z u v /\ D x y z u v) (k:∀x,∀y,∀z,∀u,∀v,A x y z u v->B x y z u v->C x y z u v->D x y z u v->G):G:=h.elim λ x h=>h.elim λ y h=>h.elim λ z h=>h.elim λ u h=>h.elim λ v h=>k x y z u v h.1 h.2.1 h.2.2.1 h.2.2.2
theorem VS:Nonempty aB:=⟨⟨λ _ _=>0,⟨λ _=>0,λ _=>0,λ x=>x,λ _=>0,λ _ _=>0,λ _=>false,λ _=>0,.refcount,.text,λ _=>0,λ _=>none,λ _=>false,λ _ _ _=>true,λ _ _ _=>true,true,λ _=>false,λ _=>none,λ _=>none,λ _ _ _=>0,λ _ _=>none,λ _=>none,λ _=>(0,false,"UTC"),λ _=>none,λ d=>d,λ _=>false⟩⟩⟩
@[elab_as_elim] theorem rwT {α:Sort _} {a b:α} {m:α->Prop} (e:a=b) (p:m b):m a:=e▸p
@[elab_as_elim] theorem rwS {α:Sort _} {a b:α} {m:α->Prop} (e:b=a) (p:m b):m a:=e▸p
theorem W8 {α:Type} {P Q:α->Prop} {x:α} (p:P x) (k:Q x):∃x,P x /\ Q x:=⟨x,p,k⟩
theorem W9 {n:Nat} (h:n <= 16777216):n <= aO:=ay▸h
theorem Xa {α:Type} [Inhabited α]:Nonempty α:=⟨default⟩
theorem Xb:Nonempty bU:=⟨{}⟩
theorem Sa {α β:Type} {P:α×β->Prop} (h:∀a b,P (a,b)) (p:α×β):P p:=h p.1 p.2
theorem Sb {α β γ:Type} {P:α×β×γ->Prop} (h:∀a b c,P (a,b,c)) (p:α×β×γ):P p:=h p.1 p.2.1 p.2.2
theorem Fu {α β γ δ:Type} {P:α×β×γ×δ->Prop} (h:∀a b c d,P (a,b,c,d)) (p:α×β×γ×δ):P p:=h p.1 p.2.1 p.2.2.1 p.2.2.2
set_option tactic.hygienic false
local macro_rules (kind:=PyProof.Rows.tacticWalk_at_)|s=>mT s
local macro_rules (kind:=Lean.Parser.Tactic.intros)|s=>mT s
local macro_rules (kind:=Lean.Parser.Tactic.injections)|s=>mT s
local macro_rules (kind:=Lean.Parser.Tactic.tacticHave__)|s=>mT s
local macro_rules (kind:=Lean.Parser.Tactic.obtain)|s=>mT s
local macro_rules (kind:=Lean.Parser.Tactic.rcases)|s=>mT s
local macro_rules (kind:=Lean.Parser.Tactic.rwSeq)|s=>mT s
local macro_rules (kind:=Lean.Elab.Tactic.Ext.ext)|s=>mT s
local macro_rules (kind:=Lean.Parser.Tactic.symm)|s=>mT s
local macro_rules (kind:=Lean.Parser.Tactic.tacticRfl')|s=>mT s
inductive Lx where
 |v (i:Nat)|n (k:Nat)|a (x y:Lx)|m (k:Nat) (x:Lx)|r (x:Lx) (k:Nat)|z (x:Lx)
inductive Rk where
 |le|lt|eq|qe|nle|nlt|no|zle|zlt|zeq|zqe|znle|znlt
abbrev Fm:=List Nat×Nat
abbrev Pz (l:List Nat):Nat->Nat:=jN (λ _=>0) (λ x _ f i=>te x (λ j _=>f j) i) l
abbrev Lx.den (l:List Nat) (x:Lx):Nat:=Lx.rec (λ i=>Pz l i) (λ k=>k) (λ _ _ p q=>p+q) (λ k _ p=>k*p) (λ _ k p=>p*k) (λ _ p=>p) x
abbrev Lx.denZ (l:List Nat) (x:Lx):Int:=Lx.rec (λ i=>((Pz l i:Nat):Int)) (λ k=>nz k) (λ _ _ p q=>p+q) (λ k _ p=>nz k*p) (λ _ k p=>p*nz k) (λ x _=>((x.den l:Nat):Int)) x
theorem Lx.denZ_eq (l:List Nat) (x:Lx):x.denZ l=nz (x.den l):=by
 induction x with
 |v i=>rfl
 |n k=>rfl
 |a x y p q=>exact congr (congrArg (·+·) p) q
 |m k x p=>exact congrArg (nz k*·) p
 |r x k p=>exact congrArg (·*nz k) p
 |z x p=>rfl
def Sc (l:List Nat):List Nat->List Nat:=jN (λ r=>r) (λ a l f r=>jN (a::l) (λ b r _=>(a+b)::f r) r) l
def NK (i:Nat):List Nat:=te [1] (λ _ l=>0::l) i
def PA (k:Nat) (l:List Nat):List Nat:=jN [] (λ a _ r=>k*a::r) l
def Lx.lin (x:Lx):Fm:=Lx.rec (λ i=>(NK i,0)) (λ k=>([],k)) (λ _ _ p q=>(Sc p.1 q.1,p.2+q.2)) (λ k _ p=>(PA k p.1,k*p.2)) (λ _ k p=>(PA k p.1,k*p.2)) (λ _ p=>p) x
def KO (c:List Nat):List Nat->Nat:=jN (λ _=>0) (λ a _ f l=>jN 0 (λ x l _=>a*x+f l) l) c
theorem Uj (c:List Nat):KO c []=0:=List.casesOn c rfl λ _ _=>rfl
theorem Ln (c d l:List Nat):KO (Sc c d) l=KO c l+KO d l:=by
 induction c generalizing d l with
 |nil=>exact(kj _).symm
 |cons a c t=>cases d with
  |nil=>exact(gD _).symm
  |cons b d=>cases l with
   |nil=>rfl
   |cons x l=>exact(congr (congrArg _ (w9 a b x)) (t d l)).trans (si ..)
theorem Fv (k:Nat) (c l:List Nat):KO (PA k c) l=k*KO c l:=by
 induction c generalizing l with
 |nil=>rfl
 |cons a c d=>cases l with
  |nil=>rfl
  |cons x l=>exact(congr (congrArg _ (Nat.mul_assoc k a x)) (d l)).trans (sj ..).symm
theorem Ij (i:Nat) (l:List Nat):KO (NK i) l=Pz l i:=by
 induction i generalizing l with
 |zero=>cases l with
  |nil=>rfl
  |cons x l=>exact w' x
 |succ i d=>cases l with
  |nil=>rfl
  |cons x l=>exact(congrArg (·+_) (Cp x)).trans ((kj _).trans (d l))
def WM (l:List Nat) (f:Fm):Nat:=KO f.1 l+f.2
theorem Lx.lin_den (l:List Nat) (x:Lx):x.den l=WM l x.lin:=by
 induction x with
 |v i=>exact(Ij i l).symm
 |n k=>exact(kj k).symm
 |a x y p q=>exact(congr (congrArg _ p) q).trans ((si ..).trans (congrArg (·+_) (Ln ..).symm))
 |m k x p=>exact(congrArg _ p).trans ((sj ..).trans (congrArg (·+_) (Fv ..).symm))
 |z x p=>exact p
 |r x k p=>exact(congrArg (·*k) p).trans ((Nat.mul_comm ..).trans ((sj ..).trans (congrArg (·+_) (Fv ..).symm)))
abbrev Ik (l:List Nat) (r:Rk) (x y:Lx):Prop:=Rk.rec (x.den l <= y.den l) (x.den l<y.den l) (x.den l=y.den l) (x.den l=y.den l) (¬x.den l <= y.den l) (¬x.den l<y.den l) False (x.denZ l <= y.denZ l) (x.denZ l<y.denZ l) (x.denZ l=y.denZ l) (x.denZ l=y.denZ l) (¬x.denZ l <= y.denZ l) (¬x.denZ l<y.denZ l) r
structure Hy where
 r:Rk
 m:Nat
 x:Lx
 y:Lx
def Rk.lo (r:Rk) (x y:Lx):Lx:=Rk.rec x (.a x (.n 1)) x y (.a y (.n 1)) y (.n 1) x (.a x (.n 1)) x y (.a y (.n 1)) y r
def Rk.hi (r:Rk) (x y:Lx):Lx:=Rk.rec y y y x x x (.n 0) y y y x x x r
def NL (t:List Hy):Lx:=jN (.n 0) (λ h _ p=>.a (.m h.m (h.r.lo h.x h.y)) p) t
def NM (t:List Hy):Lx:=jN (.n 0) (λ h _ p=>.a (.m h.m (h.r.hi h.x h.y)) p) t
def VT (c:List Nat):List Nat->Bool:=jN (λ _=>true) (λ a _ f d=>jN (eG a 0&&f []) (λ b d _=>Nat.ble a b&&f d) d) c
def VU (hi lo:Fm):Bool:=Co hi.2 lo.2&&VT hi.1 lo.1
theorem xI {a b:Bool} (h:(a&&b)=true):a=true /\ b=true:=by cases a<;>cases b<;>first|exact⟨rfl,rfl⟩|exact nomatch h
theorem PB (c d l:List Nat) (h:VT c d=true):KO c l <= KO d l:=by
 induction c generalizing d l with
 |nil=>exact aU _
 |cons a c t=>cases l with
  |nil=>exact aU _
  |cons x l=>cases d with
   |nil=>
    have q:=xI h;have q1:a=0:=rx q.1;refine aL (nI (iX ?_) (t [] l q.2)) (aR 0);rw[q1];exact Cp x
   |cons b d=>exact nI (jP x (gU (xI h).1)) (t d l (xI h).2)
theorem PC {x y:Lx} (h:VU x.lin y.lin=true) (l:List Nat):¬y.den l <= x.den l:=by
 rw[Lx.lin_den,Lx.lin_den];exact pL (Nat.add_lt_add_of_le_of_lt (PB _ _ l (xI h).2) (gU (xI h).1))
theorem Lo {l:List Nat} {x y:Lx}:x.denZ l <= y.denZ l↔x.den l <= y.den l:=by rw[x.denZ_eq,y.denZ_eq];exact Int.ofNat_le
theorem Lp {l:List Nat} {x y:Lx}:x.denZ l<y.denZ l↔x.den l<y.den l:=by rw[x.denZ_eq,y.denZ_eq];exact Cq
theorem Sd {l:List Nat} {x y:Lx} (h:x.denZ l=y.denZ l):x.den l=y.den l:=by rw[x.denZ_eq,y.denZ_eq] at h;exact Int.ofNat.inj h
theorem PD (l:List Nat) (r:Rk) (x y:Lx) (p:Ik l r x y):(r.lo x y).den l <= (r.hi x y).den l:=by
 cases r with
 |le=>exact p
 |lt=>exact p
 |eq=>exact iX p
 |qe=>exact iX (Eq.symm p)
 |nle=>exact pM p
 |nlt=>exact cO p
 |no=>exact False.elim p
 |zle=>exact Lo.1 p
 |zlt=>exact Lp.1 p
 |zeq=>exact iX (Sd p)
 |zqe=>exact iX (Sd p).symm
 |znle=>exact pM λ q=>p (Lo.2 q)
 |znlt=>exact cO λ q=>p (Lp.2 q)
def PE (r:Rk):Bool:=Rk.rec false false true true false false false false false true true false false r
theorem PG (l:List Nat) (r:Rk) (x y:Lx) (h:PE r=false) (p:(r.lo x y).den l <= (r.hi x y).den l):Ik l r x y:=by
 cases r with
 |le=>exact p
 |lt=>exact p
 |eq=>exact nomatch h
 |qe=>exact nomatch h
 |nle=>exact pL p
 |nlt=>exact pN p
 |no=>exact nomatch p
 |zle=>exact Lo.2 p
 |zlt=>exact Lp.2 p
 |zeq=>exact nomatch h
 |zqe=>exact nomatch h
 |znle=>exact λ q=>pL p (Lo.1 q)
 |znlt=>exact λ q=>pN p (Lp.1 q)
abbrev den (l:List Nat) (g:Prop) (t:List Hy):Prop:=jN g (λ h _ p=>Ik l h.r h.x h.y->p) t
theorem PH (l:List Nat) (g:Prop) (t:List Hy):((NL t).den l <= (NM t).den l->g)->den l g t:=by
 induction t generalizing g with
 |nil=>exact λ k=>k (aR 0)
 |cons h t d=>exact λ k p=>d g λ q=>k (nI (tl h.m (PD l h.r h.x h.y p)) q)
def VV (g:Hy) (t:List Hy):Bool:=(!PE g.r)&&VU (Lx.a (.m g.m (g.r.lo g.x g.y)) (NM t)).lin (Lx.a (.m g.m (.a (g.r.hi g.x g.y) (.n 1))) (NL t)).lin
theorem Se (l:List Nat) (g:Hy) (t:List Hy) (h:VV g t=true):den l (Ik l g.r g.x g.y) t:=
 PH l _ t λ k=>PG l g.r g.x g.y (by cases e:PE g.r with
  |false=>rfl
  |true=>exact absurd (xI h).1 (by rw[e];exact nofun)) (cO λ q=>PC (xI h).2 l (nI (tl g.m q) k))
abbrev rk (d:Nat):Rk:=bif eG d 0 then .le else bif eG d 1 then .lt else bif eG d 2 then .eq else bif eG d 3 then .qe else bif eG d 4 then .nle else bif eG d 5 then .nlt else bif eG d 6 then .zle else bif eG d 7 then .zlt else bif eG d 8 then .zeq else bif eG d 9 then .zqe else bif eG d 10 then .znle else bif eG d 11 then .znlt else .no
abbrev Sf {α:Type} (n:Nat) (k:Nat->α):α:=te (k 0) (λ m _=>k (Nat.succ m)) n
abbrev dx {α:Type} (f:Nat):Nat->(Lx->Nat->α)->α:=te (λ c k=>k (.n 0) c) (λ _ dx c k=>
  bif Co (c%16) 8 then k (.v (c%16)) (c/16)
  else bif eG (c%16) 8 then dx (c/16) λ x c=>dx c λ y c=>k (.a x y) c
  else bif eG (c%16) 9 then Sf (c/16%16) λ v=>k (.n v) (c/256)
  else bif eG (c%16) 10 then Sf (c/256%16^(c/16%16)) λ v=>k (.n v) (c/256/16^(c/16%16))
  else bif eG (c%16) 11 then Sf (c/256%16^(c/16%16)) λ v=>dx (c/256/16^(c/16%16)) λ x d=>k (.m v x) d
  else bif eG (c%16) 13 then Sf (2^(c/16%256)) λ v=>k (.n v) (c/4096)
  else bif eG (c%16) 15 then k (.v (8+c/16%16)) (c/256)
  else bif eG (c%16) 14 then dx (c/16) λ x d=>k (.z x) d
  else Sf (c/256%16^(c/16%16)) λ v=>dx (c/256/16^(c/16%16)) λ x d=>k (.r x v) d) f
abbrev dh {α:Type} (c:Nat) (k:Hy->Nat->α):α:=dx 9 (c/256) λ x d=>dx 9 d λ y e=>k ⟨rk (c%16),c/16%16,x,y⟩ e
abbrev dl {α:Type} (n:Nat):Nat->(List Hy->α)->α:=te (λ _ k=>k []) (λ _ dl c k=>dh c λ h c=>dl c λ t=>k (h::t)) n
abbrev Sh (n:Nat):(List Nat->Prop)->Prop:=te (λ p=>p []) (λ _ f p=>∀{x:Nat},f λ l=>p (x::l)) n
theorem Lq (n:Nat):∀{p:List Nat->Prop},(∀l,p l)->Sh n p:=by
 induction n with
 |zero=>exact λ h=>h []
 |succ n d=>exact λ h x=>d λ l=>h (x::l)
abbrev ct (c:Nat):Hy×List Hy:=dh (c/256) λ g d=>dl (c/16%16) d λ t=>(g,t)
abbrev Li (c:Nat) (g:Hy) (t:List Hy):Prop:=Sh (c%16) λ l=>den l (Ik l g.r g.x g.y) t
theorem lz (c:Nat) (h:VV (ct c).1 (ct c).2=true:=by symm):Li c (ct c).1 (ct c).2:=Lq _ λ l=>Se l _ _ h
abbrev tG:=@lz 69071867922 (by symm)
abbrev zu:=@lz 282647922741266 (by symm)
abbrev zw:=@lz 623040335889 (by symm)
abbrev GA:=@lz 1104093450258 (by symm)
abbrev GC:=@lz 593921 (by symm)
abbrev Il:=@lz 308997430186258 (by symm)
abbrev KP:=@lz 118801072163339126378788 (by symm)
abbrev KQ:=@lz 151178485402964243 (by symm)
abbrev Lr:=@lz 4504620043296837649 (by symm)
abbrev Lu:=@lz 1808204121921556482 (by symm)
abbrev Ba:=@lz 1265661136649850882 (by symm)
abbrev Bb:=@lz 595457 (by symm)
abbrev CD:=@lz 1255261781701157799688709004070930 (by symm)
abbrev Eg:=@lz 904041638097171190052 (by symm)
abbrev Eh:=@lz 1157452695524085778 (by symm)
abbrev GD:=@lz 37474734593106055203 (by symm)
abbrev GF:=@lz 681007064948261908647830193705013 (by symm)
abbrev GG:=@lz 730806172325942307316615494045749 (by symm)
abbrev GH:=@lz 158522176703670513569827 (by symm)
abbrev GI:=@lz 69005743890 (by symm)
abbrev Io:=@lz 1197110921574743082526576914 (by symm)
abbrev Ip:=@lz 3062639795458270354090032018750815980752914 (by symm)
abbrev Iq:=@lz 14766700137252029337892 (by symm)
abbrev Ir:=@lz 9297548172333075 (by symm)
abbrev It:=@lz 5085310316843299 (by symm)
abbrev Iu:=@lz 905241385783791633 (by symm)
abbrev Lv:=@lz 17680221059684113 (by symm)
abbrev Lw:=@lz 7424895714440598655267 (by symm)
abbrev Ly:=@lz 1229924152476959010 (by symm)
abbrev Lz:=@lz 29003480736435540003 (by symm)
abbrev LA:=@lz 2821795155985 (by symm)
abbrev LC:=@lz 9429480749666323 (by symm)
abbrev LD:=@lz 19745698388101894178 (by symm)
abbrev LF:=@lz 649306797225749324958863155 (by symm)
abbrev LG:=@lz 300235664392483 (by symm)
abbrev LH:=@lz 581710640189731 (by symm)
abbrev LJ:=@lz 7804905410285408343960850468 (by symm)
abbrev LK:=@lz 17661215903763 (by symm)
abbrev LL:=@lz 3782652554634638212010036 (by symm)
abbrev LM:=@lz 73166032657 (by symm)
abbrev LP:=@lz 451098903686680593 (by symm)
abbrev LQ:=@lz 231926391471008124945 (by symm)
abbrev LR:=@lz 203414156873745 (by symm)
abbrev LU:=@lz 11703045199671763942243914715764549 (by symm)
abbrev LV:=@lz 69072853778 (by symm)
abbrev LY:=@lz 71102436866 (by symm)
abbrev LZ:=@lz 24283760718840666179852055353140 (by symm)
abbrev L1:=@lz 1434502915407627090105910562867 (by symm)
abbrev L2:=@lz 1158850144469847842 (by symm)
abbrev L3:=@lz 1157724261742874402 (by symm)
abbrev PI:=@lz 4903365836847492592221083406371 (by symm)
abbrev PJ:=@lz 11963436579549116110297458403710689873955 (by symm)
abbrev PK:=@lz 21836242295496578817986611 (by symm)
abbrev PL:=@lz 69038313490 (by symm)
abbrev PM:=@lz 158522131509969490022419 (by symm)
abbrev PN:=@lz 308997396631570 (by symm)
abbrev PO:=@lz 5087509291733027 (by symm)
abbrev PQ:=@lz 163244543072190949494819 (by symm)
abbrev PR:=@lz 441454204817426 (by symm)
abbrev PS:=@lz 581710673744163 (by symm)
abbrev PT:=@lz 22896959544973065796297155940403 (by symm)
abbrev PU:=@lz 200801723405217579615545431819817234 (by symm)
abbrev PV:=@lz 924071670153682096164 (by symm)
abbrev PW:=@lz 3062639795458270354090032018750807390818322 (by symm)
abbrev PX:=@lz 107508994305 (by symm)
abbrev PY:=@lz 159498309799954 (by symm)
abbrev P4:=@lz 58227620193437749284 (by symm)
abbrev P5:=@lz 2887089940231426083 (by symm)
abbrev P6:=@lz 1896086645323432215449636 (by symm)
abbrev P7:=@lz 282581224394770 (by symm)
abbrev P8:=@lz 1431059975773132152442447859763 (by symm)
abbrev P9:=@lz 38082739823008288787 (by symm)
abbrev Qa:=@lz 440414956426753 (by symm)
abbrev Qb:=@lz 440361127122433 (by symm)
abbrev Qc:=@lz 4503601210736375762961 (by symm)
abbrev Qd:=@lz 3692375516871608766481 (by symm)
abbrev Qe:=@lz 59373156174686672916497 (by symm)
abbrev Qf:=@lz 977298979821719569 (by symm)
abbrev Qg:=@lz 1060764496069563322402 (by symm)
abbrev Qh:=@lz 649533507788665250402013493 (by symm)
abbrev Qi:=@lz 5875723941509640561073809533702195 (by symm)
abbrev Qj:=@lz 56577596718059537 (by symm)
abbrev Qk:=@lz 107508995585 (by symm)
abbrev Si:=@lz 5087509325287459 (by symm)
abbrev Sj:=@lz 1500575144427036375480809978621071411 (by symm)
abbrev Sk:=@lz 159979211329554 (by symm)
abbrev Sl:=@lz 5184116349856184274962 (by symm)
abbrev Sm:=@lz 580611162116131 (by symm)
abbrev Sn:=@lz 9028158964764707 (by symm)
abbrev So:=@lz 20084186467728953273524434485383203 (by symm)
abbrev Sp:=@lz 1900772109602321172791603 (by symm)
abbrev Sq:=@lz 107510042625 (by symm)
abbrev Sr:=@lz 462903068318876897058 (by symm)
abbrev Ss:=@lz 158522671941379061452819 (by symm)
abbrev Su:=@lz 2821794107665 (by symm)
abbrev Sv:=@lz 45022055036229124802340675920197 (by symm)
abbrev Sw:=@lz 30384213243018385001881635 (by symm)
abbrev Sx:=@lz 1823454959419109969240099 (by symm)
abbrev Sy:=@lz 5087509308510499 (by symm)
abbrev Sz:=@lz 7424895995915592143139 (by symm)
abbrev NN:=@lz 4526758378406179 (by symm)
abbrev NO:=@lz 77408440408412194 (by symm)
abbrev NP:=@lz 748044720690903210900066577 (by symm)
abbrev NQ:=@lz 9024860481196067 (by symm)
abbrev NR:=@lz 5590078013909439891674107955 (by symm)
abbrev NS:=@lz 923494646465683787812 (by symm)
abbrev NT:=@lz 107508994049 (by symm)
abbrev NU:=@lz 1808222772809175058 (by symm)
abbrev NV:=@lz 4522360400118052 (by symm)
abbrev NW:=@lz 158503734304323466825763 (by symm)
abbrev NX:=@lz 15339460908118177717522993204 (by symm)
abbrev NY:=@lz 27591005769730 (by symm)
abbrev NZ:=@lz 3815976561937147274727444 (by symm)
abbrev N0:=@lz 1308241574759475302375889568036 (by symm)
abbrev N1:=@lz 31969338534089092395492469968676 (by symm)
abbrev N2:=@lz 10556455187816452131 (by symm)
abbrev N3:=@lz 27492363538449 (by symm)
abbrev N4:=@lz 507710314729369237481648900280373 (by symm)
abbrev N5:=@lz 391075841958727438479855469203509 (by symm)
abbrev N6:=@lz 38701692263175033107 (by symm)
abbrev N7:=@lz 282578934829074 (by symm)
abbrev N8:=@lz 1308262770447821780356914 (by symm)
abbrev N9:=@lz 15174536704513400073506852660 (by symm)
abbrev N':=@lz 305601341010704142627 (by symm)
abbrev Oa:=@lz 356566695471595631898040650436661 (by symm)
abbrev Oc:=@lz 681085249130003911937135787380789 (by symm)
abbrev Od:=@lz 305601341010705190947 (by symm)
abbrev Oe:=@lz 37001856052394791203 (by symm)
abbrev Of:=@lz 159498308751634 (by symm)
abbrev Og:=@lz 5439567067021789140584239140 (by symm)
abbrev Oh:=@lz 1085098307749662127854587940 (by symm)
abbrev Oi:=@lz 20891451978381862939424985397 (by symm)
abbrev Oj:=@lz 101274867067456517623777335339690356749876592641718567262752346491 (by symm)
abbrev Ol:=@lz 99217986378467487318693808188790076420440525820804881560846733691 (by symm)
abbrev On:=@lz 38118477232401289251 (by symm)
abbrev Oo:=@lz 17674335752211 (by symm)
abbrev Op:=@lz 495672933875803627687396787097618 (by symm)
abbrev Oq:=@lz 2821795156241 (by symm)
abbrev Ot:=@lz 3921307832593 (by symm)
abbrev Ou:=@lz 295214779157063290327057 (by symm)
abbrev Ov:=@lz 1917621709574161 (by symm)
abbrev Ow:=@lz 2746484503205669326074836197823746099 (by symm)
abbrev Ox:=@lz 4504620043934372113 (by symm)
abbrev Oy:=@lz 118501969656310215020322 (by symm)
abbrev Oz:=@lz 1265653474444972050 (by symm)
abbrev OA:=@lz 47809918883214243474557726712321904900125393216589385265432760683 (by symm)
abbrev OB:=@lz 47758496865798704074575909754521676249303411148167379679635313003 (by symm)
abbrev OC:=@lz 889443567279080294119225567762667600681358527937398004580646041151021257084 (by symm)
abbrev OD:=@lz 888891427571337551184367747506057730935455535936083514914363639355193954684 (by symm)
abbrev OE:=@lz 9297543893096211 (by symm)
abbrev OF:=@lz 462900483912498681346 (by symm)
abbrev OG:=@lz 462361635255965586946 (by symm)
abbrev OH:=@lz 27522570391553 (by symm)
abbrev OI:=@lz 225918922318155793 (by symm)
abbrev OJ:=@lz 406062907412975633 (by symm)
abbrev OK:=@lz 2954644535660515345 (by symm)
abbrev OL:=@lz 2954644536053731345 (by symm)
abbrev OM:=@lz 721348763586577 (by symm)
abbrev ON:=@lz 328780633480368145 (by symm)
abbrev OO:=@lz 56577580611932177 (by symm)
abbrev OP:=@lz 84167800279567175697 (by symm)
abbrev OQ:=@lz 314499890638846234658 (by symm)
abbrev OR:=@lz 441454237388818 (by symm)
abbrev OS:=@lz 12272778475176429783598628510705211674677 (by symm)
abbrev OT:=@lz 1265653682607820818 (by symm)
abbrev OU:=@lz 7387997766128497659938 (by symm)
abbrev OV:=@lz 1808196494075891730 (by symm)
abbrev OW:=@lz 451098904324215057 (by symm)
abbrev OX:=@lz 313625331220642598946 (by symm)
abbrev OY:=@lz 125673339208721764369 (by symm)
abbrev OZ:=@lz 18450923697344250122257 (by symm)
theorem rM {a b:Prop} (h:¬(a /\ b)):¬a \/ ¬b:=(Classical.em a).elim (λ p=>.inr λ q=>h ⟨p,q⟩) .inl
theorem Bc {a b:Nat}:min a b=a \/ min a b=b:=(Nat.le_total a b).elim (λ h=>.inl (kR h)) λ h=>.inr (wq h)
theorem dX {a b:Nat}:a <= a-b+b:=Nat.le_add_of_sub_le (aR _)
theorem dE {a b:Nat} (h:b <= a):a-b+b=a:=Nat.sub_add_cancel h
theorem WN {a b:Nat} (h:a <= b):a-b=0:=Nat.sub_eq_zero_of_le h
theorem L4 {a:Nat}:2*(a/2) <= a:=Nat.mul_div_le a 2
theorem U5 {a:Nat}:a <= 2*(a/2)+1:=Nat.le_of_lt_succ (Nat.lt_mul_div_succ (b:=2) a (by decide))
abbrev FM:=aM->Option Obj
def FM.Le (K K':FM):Prop:=∀b o,K b=some o->K' b=some o
theorem FM.Le.rfl {K:FM}:FM.Le K K:=λ _ _ h=>h
theorem FM.Le.trans {K K' d:FM} (h:FM.Le K K') (h':FM.Le K' d):FM.Le K d:=λ b o e=>h' b o (h b o e)
def FM.In (K:FM) (h:dM):Prop:=∀b o,K b=some o->h.get? b=some o
inductive D where
 |none|bool (b:Bool)|int (i:Int)|str (s:Str)|sq (c:aj) (l:List D)|inst (C a da:aM)|val (v:aj)|rcd (C:aM) (l:List D)
 deriving Inhabited
abbrev D.tup (l:List D):D:=.sq (.type "tuple") l
abbrev D.lst (l:List D):D:=.sq (.type "list") l
mutual
noncomputable def Rd (K:FM):D->aj->Prop
 |.none,v=>v=.none
 |.bool b,v=>v=.bool b
 |.int i,v=>∃t,v=.int i t
 |.str s,v=>∃t,v=.str s t
 |.sq c l,v=>∃a vs e,v=.ref a /\ K a=some ⟨c,aH,.seq (al vs) e,#[]⟩ /\ cB K l vs
 |.inst C a da,v=>v=.ref a /\ K a=some ⟨.ref C,some da,.plain,#[]⟩
 |.val w,v=>v=w
 |.rcd C l,v=>∃a da vs e,v=.ref a /\ K a=some ⟨.ref C,some da,.seq (al vs) e,#[]⟩ /\ cB K l vs
noncomputable def cB (K:FM):List D->List aj->Prop
 |[],vs=>vs=[]
 |d::l,vs=>∃v r,vs=v::r /\ Rd K d v /\ cB K l r
end
theorem j9:(∀(K:FM) (v:aj),Rd K .none v=(v=.none)) /\ (∀(K:FM) (b:Bool) (v:aj),Rd K (.bool b) v=(v=.bool b)) /\ (∀(K:FM) (i:Int) (v:aj),Rd K (.int i) v=∃t,v=.int i t) /\ (∀(K:FM) (s:Str) (v:aj),Rd K (.str s) v=∃t,v=.str s t) /\
  (∀(K:FM) (c:aj) (l:List D) (v:aj),Rd K (.sq c l) v=∃a vs e,v=.ref a /\ K a=some ⟨c,aH,.seq (al vs) e,#[]⟩ /\ cB K l vs) /\ (∀(K:FM) (C a da:aM) (v:aj),Rd K (.inst C a da) v=(v=.ref a /\ K a=some ⟨.ref C,some da,.plain,#[]⟩)) /\
  (∀(K:FM) (w v:aj),Rd K (.val w) v=(v=w)) /\ (∀(K:FM) (C:aM) (l:List D) (v:aj),Rd K (.rcd C l) v=∃a da vs e,v=.ref a /\ K a=some ⟨.ref C,some da,.seq (al vs) e,#[]⟩ /\ cB K l vs):=
 ⟨λ _ _=>rfl,λ _ _ _=>rfl,λ _ _ _=>rfl,λ _ _ _=>rfl,λ _ _ _ _=>rfl,λ _ _ _ _ _=>rfl,λ _ _ _=>rfl,λ _ _ _ _=>rfl⟩
theorem ro:(∀(K:FM) (vs:List aj),cB K [] vs=(vs=[])) /\ (∀(K:FM) (d:D) (l:List D) (vs:List aj),cB K (d::l) vs=∃v r,vs=v::r /\ Rd K d v /\ cB K l r):=⟨λ _ _=>rfl,λ _ _ _ _=>rfl⟩
mutual
theorem Rd.mono {K K':FM} (k:FM.Le K K'):∀(d:D) {v:aj},Rd K d v->Rd K' d v
 |.none,_,h|.bool _,_,h|.int _,_,h|.str _,_,h|.val _,_,h=>by simpa only[j9] using h
 |.inst ..,_,h=>by simp only[j9] at h⊢;exact⟨h.1,k _ _ h.2⟩
 |.sq _ l,_,h=>by
  simp only[j9] at h⊢;obtain⟨a,vs,e,h1,h2,h3⟩:=h;exact⟨a,vs,e,h1,k _ _ h2,cB.mono k l h3⟩
 |.rcd _ l,_,h=>by
  simp only[j9] at h⊢;obtain⟨a,da,vs,e,h1,h2,h3⟩:=h;exact⟨a,da,vs,e,h1,k _ _ h2,cB.mono k l h3⟩
theorem cB.mono {K K':FM} (k:FM.Le K K'):∀(l:List D) {vs:List aj},cB K l vs->cB K' l vs
 |[],_,h=>by simpa only[ro] using h
 |d::l,_,h=>by
  simp only[ro] at h⊢;obtain⟨v,r,h1,h2,h3⟩:=h;exact⟨v,r,h1,Rd.mono k d h2,cB.mono k l h3⟩
end
theorem cB.length {K:FM}:∀{l:List D} {vs:List aj},cB K l vs->vs.length=l.length
 |[],_,h=>by simp only[ro] at h;subst h;rfl
 |d::l,_,h=>by
  simp only[ro] at h;obtain⟨v,r,rfl,_,h3⟩:=h;simp[cB.length h3]
theorem cB.get {K:FM}:∀{l:List D} {vs:List aj} {i:Nat} {d:D},cB K l vs->l[i]?=some d->∃v,vs[i]?=some v /\ Rd K d v
 |[],_,_,_,_,e=>by simp at e
 |d::l,_,i,H,h,e=>by
  simp only[ro] at h;obtain⟨v,r,rfl,h2,h3⟩:=h;cases i with
  |zero=>simp at e;subst e;exact⟨v,by simp,h2⟩
  |succ i=>simp at e;obtain⟨t,u,h'⟩:=cB.get h3 e;exact⟨t,by simpa using u,h'⟩
theorem cB.append {K:FM}:∀{l l':List D} {vs t:List aj},cB K l vs->cB K l' t->cB K (l++l') (vs++t)
 |[],_,_,_,h,h'=>by simp only[ro] at h;subst h;exact h'
 |d::l,l',_,t,h,h'=>by
  simp only[ro] at h;obtain⟨v,r,rfl,h2,h3⟩:=h;simp only[bh,ro];exact⟨v,r++t,rfl,h2,cB.append h3 h'⟩
theorem cB.nil {K:FM}:cB K [] []:=by simp only[ro]
theorem cB.cons {K:FM} {d:D} {l:List D} {v:aj} {vs:List aj} (h:Rd K d v) (h':cB K l vs):cB K (d::l) (v::vs):=by simp only[ro];exact⟨v,vs,rfl,h,h'⟩
theorem cB.hd {K:FM} {d:D} {l:List D} {v:aj} {r:List aj} (h:cB K (d::l) (v::r)):Rd K d v /\ cB K l r:=by
 obtain⟨_,_,e,h⟩:=h;cases e;exact h
def SA (P:dg):D->Int->Prop
 |.str s,h=>h=gO P s
 |_,_=>True
def zo (P:dg) (K:FM):List (D×D)->List dv->Prop
 |[],es=>es=[]
 |p::m,es=>∃e r,es=e::r /\ Rd K p.1 e.key /\ Rd K p.2 e.val /\ SA P p.1 e.hash /\ zo P K m r
theorem zo.mono {P:dg} {K K':FM} (k:FM.Le K K'):∀{m:List (D×D)} {es:List dv},zo P K m es->zo P K' m es
 |[],_,h=>h
 |p::m,_,⟨e,r,h1,h2,h3,h4,d⟩=>⟨e,r,h1,Rd.mono k _ h2,Rd.mono k _ h3,h4,zo.mono k d⟩
inductive Ob where
 |list (l:List D)
 |cell (d:Option D)
 |dct (P:dg) (m:List (D×D))
 |raw (o:Obj)
 |pred (P:Obj->Prop)
def Ob.is (K:FM):Ob->Obj->Prop
 |.list l,o=>∃vs e,o=⟨.type "list",aH,.seq (al vs) e,#[]⟩ /\ cB K l vs
 |.cell (some d),o=>∃v,o.data=.cell (some v) /\ Rd K d v
 |.cell aH,o=>o.data=.cell aH
 |.dct P m,o=>∃es e,o=⟨.type "dict",aH,.dict (al es) e,#[]⟩ /\ zo P K m es
 |.raw t,o=>o=t
 |.pred P,o=>P o
theorem Ob.is.mono {K K':FM} (k:FM.Le K K'):∀{b:Ob} {o:Obj},b.is K o->b.is K' o
 |.list _,_,⟨vs,e,h1,h2⟩=>⟨vs,e,h1,cB.mono k _ h2⟩
 |.cell (some _),_,⟨v,h1,h2⟩=>⟨v,h1,Rd.mono k _ h2⟩
 |.cell aH,_,h=>h
 |.dct _ _,_,⟨es,e,h1,h2⟩=>⟨es,e,h1,zo.mono k h2⟩
 |.raw _,_,h=>h
 |.pred _,_,h=>h
abbrev Om:=List (aM×Ob)
abbrev Gm:=List (Str×D)
structure gx (K:FM) (h:dM) (W:Om):Prop where
 at_:∀p∈W,∃o,h.get? p.1=some o /\ p.2.is K o /\ K p.1=none
 nd:(W.map (·.1)).Nodup
theorem gx.perm {K:FM} {h:dM} {W W':Om} (o:gx K h W) (p:W.Perm W'):gx K h W':=⟨λ q d=>o.at_ q (p.mem_iff.mpr d),(p.map _).nodup_iff.mp o.nd⟩
theorem gx.left {K:FM} {h:dM} {W W':Om} (o:gx K h (W++W')):gx K h W:=⟨λ q d=>o.at_ q (aP _ d),by have:=o.nd;rw[av,cP] at this;exact this.1⟩
theorem gx.nil {K:FM} {h:dM}:gx K h []:=⟨λ _ h=>(nomatch h),nJ⟩
structure Bs where
 K:FM
 U:FM
theorem Xc:Nonempty ak:=⟨{}⟩
theorem Xd:Nonempty sk:=VS.elim λ w=>⟨model default w⟩
theorem WO:Nonempty Bs:=⟨⟨λ _=>aH,λ _=>aH⟩⟩
structure f' (B:Bs) (L:aM) (h:dM) (K:FM) (G:Gm) (W:Om):Prop where
 ns:∃m,h.Ns L m /\ ∀p∈G,∃v,m p.1=some v /\ Rd K p.2 v
 kp:FM.In K h
 up:FM.In B.U h
 kl:K L=none
 ul:B.U L=none
 k0:FM.Le B.K K
 fz:∀b o,K b=some o->B.K b=some o \/ B.U b=none
 own:gx K h W
 wu:∀p∈W,B.U p.1=none /\ p.1≠L
structure Aft (K:FM) (h:dM) (Wi:Om) (K':FM) (h':dM) (Wo:Om):Prop where
 le:FM.Le K K'
 kp:FM.In K' h'
 old:∀b o,h.get? b=some o->b∉Wi.map (·.1)->h'.get? b=some o
 new:∀b o,K' b=some o->K b=some o \/ h.get? b=none \/ b∈Wi.map (·.1)
 own:gx K' h' Wo
 wn:∀p∈Wo,h.get? p.1=none \/ p.1∈Wi.map (·.1)
section
variable{B:Bs} {L:aM} {h h':dM} {K K':FM} {G:Gm} {W Wi Wo Wr:Om}
theorem f'.perm {W':Om} (S:f' B L h K G W) (p:W.Perm W'):f' B L h K G W':=
 ⟨S.ns,S.kp,S.up,S.kl,S.ul,S.k0,S.fz,S.own.perm p,λ q d=>S.wu q (p.mem_iff.mpr d)⟩
theorem f'.weak {G':Gm} (S:f' B L h K G W) (g:∀p∈G',p∈G):f' B L h K G' W:=
 ⟨let⟨m,n,q⟩:=S.ns;⟨m,n,λ p d=>q p (g p d)⟩,S.kp,S.up,S.kl,S.ul,S.k0,S.fz,S.own,S.wu⟩
theorem f'.left (S:f' B L h K G (W++Wr)):f' B L h K G W:=⟨S.ns,S.kp,S.up,S.kl,S.ul,S.k0,S.fz,S.own.left,λ q d=>S.wu q (aP _ d)⟩
theorem f'.atL (S:f' B L h K G W):∃o,h.get? L=some o:=let⟨_,⟨o,_,_,e,_⟩,_⟩:=S.ns;⟨o,e⟩
theorem f'.call (S:f' B L h K G (Wi++Wr)) (A:Aft K h Wi K' h' Wo):f' B L h' K' G (Wo++Wr):=by
 have nd:=S.own.nd;rw[av,cP] at nd;have V:L∉Wi.map (·.1):=λ H=>by
  obtain⟨p,d,e⟩:=az.mp H;exact(S.wu p (aP _ d)).2 e
 have hU:∀b o,B.U b=some o->b∉Wi.map (·.1):=λ b o e H=>by
  obtain⟨p,d,q⟩:=az.mp H;have:=(S.wu p (aP _ d)).1;rw[q,e] at this;cases this
 refine⟨?_,A.kp,λ b o e=>A.old b o (S.up b o e) (hU b o e),?_,S.ul,S.k0.trans A.le,?_,⟨?_,?_⟩,?_⟩
 .obtain⟨m,⟨o,es,ep,q1,q2⟩,g⟩:=S.ns;exact⟨m,⟨o,es,ep,A.old _ _ q1 V,q2⟩,λ p d=>let⟨v,e,r⟩:=g p d;⟨v,e,Rd.mono A.le _ r⟩⟩
 .cases e:K' L with
  |none=>rfl
  |some o=>
   obtain⟨t,q⟩:=S.atL;rcases A.new L o e with z|z|z
   .rw[S.kl] at z;cases z
   .rw[q] at z;cases z
   .exact absurd z V
 .intro b o e;rcases A.new b o e with z|z|z
  .exact S.fz b o z
  .right
   cases M:B.U b with
   |none=>rfl
   |some t=>rw[S.up b t M] at z;cases z
  .right
   obtain⟨p,d,q⟩:=az.mp z;exact q▸(S.wu p (aP _ d)).1
 .intro p d;rcases aQ.mp d with d|d
  .exact A.own.at_ p d
  .obtain⟨o,q1,q2,q3⟩:=S.own.at_ p (aS _ d);have hn:p.1∉Wi.map (·.1):=λ z=>nd.2.2 p.1 z p.1 (aZ (f:=(·.1)) d) rfl;refine⟨o,A.old _ _ q1 hn,q2.mono A.le,?_⟩;cases e:K' p.1 with
   |none=>rfl
   |some t=>
    rcases A.new _ _ e with z|z|z
    .rw[q3] at z;cases z
    .rw[q1] at z;cases z
    .exact absurd z hn
 .rw[av,cP];refine⟨A.own.nd,nd.2.1,?_⟩;intro x hx y hy e;subst e;obtain⟨p,d,rfl⟩:=az.mp hx;obtain⟨q,u,e⟩:=az.mp hy;rcases A.wn p d with z|z
  .obtain⟨o,q1,_⟩:=S.own.at_ q (aS _ u);have e:q.1=p.1:=e;rw[e,z] at q1;cases q1
  .exact nd.2.2 p.1 z p.1 hy rfl
 .intro p d;rcases aQ.mp d with d|d
  .rcases A.wn p d with z|z
   .refine⟨?_,λ e=>?_⟩
    .cases M:B.U p.1 with
     |none=>rfl
     |some t=>rw[S.up _ t M] at z;cases z
    .obtain⟨t,q⟩:=S.atL;rw[e,q] at z;cases z
   .obtain⟨q,u,e⟩:=az.mp z;have:=S.wu q (aP _ u)
    rwa [show q.1=p.1 from e] at this
  .exact S.wu p (aS _ d)
theorem Aft.same (kp:FM.In K h) (o:gx K h Wi):Aft K h Wi K h Wi:=
 ⟨FM.Le.rfl,kp,λ _ _ e _=>e,λ _ _ e=>.inl e,o,λ p d=>.inr (aZ (f:=(·.1)) d)⟩
theorem Aft.grow (kp:FM.In K h) (o:gx K h Wi) (k:∀b o,h.get? b=some o->h'.get? b=some o):Aft K h Wi K h' Wi:=
 ⟨FM.Le.rfl,λ b o e=>k b o (kp b o e),λ b o e _=>k b o e,λ _ _ e=>.inl e,⟨λ p d=>let⟨x,q1,q2⟩:=o.at_ p d;⟨x,k _ _ q1,q2⟩,o.nd⟩,λ p d=>.inr (aZ (f:=(·.1)) d)⟩
def FM.add (K:FM) (a:aM) (o:Obj):FM:=λ b=>if b=a then some o else K b
theorem FM.le_add {a:aM} {o:Obj} (h:K a=none):FM.Le K (K.add a o):=λ b d e=>by
 unfold FM.add;split
 .rename_i q;subst q;rw[h] at e;cases e
 .exact e
theorem FM.add_self {a:aM} {o:Obj}:K.add a o a=some o:=by unfold FM.add;rw[if_pos rfl]
theorem FM.add_ne {a b:aM} {o:Obj} (h:b≠a):K.add a o b=K b:=by unfold FM.add;rw[if_neg h]
theorem iU (kp:FM.In K h):K h.objs.size=none:=by
 cases e:K h.objs.size with
 |none=>rfl
 |some o=>exact absurd (cC (kp _ _ e)) (cU _)
theorem kX:h.get? h.objs.size=none:=by
 cases e:h.get? h.objs.size with
 |none=>rfl
 |some o=>exact absurd (cC e) (cU _)
theorem Aft.newFz (kp:FM.In K h) (o:gx K h Wi) {a:aM} {x:Obj} (ha:h.get? a=none) (u:K a=none) (k:∀b o,h.get? b=some o->h'.get? b=some o) (H:h'.get? a=some x):Aft K h Wi (K.add a x) h' Wi:=by
 refine⟨FM.le_add u,?_,λ b o e _=>k b o e,?_,⟨?_,o.nd⟩,λ p t=>.inr (aZ (f:=(·.1)) t)⟩
 .intro b d e;unfold FM.add at e;split at e
  .rename_i q;subst q;cases e;exact H
  .exact k b d (kp b d e)
 .intro b d e;unfold FM.add at e;split at e
  .rename_i q;subst q;exact .inr (.inl ha)
  .exact .inl e
 .intro p t;obtain⟨y,q1,q2,v⟩:=o.at_ p t;refine⟨y,k _ _ q1,q2.mono (FM.le_add u),?_⟩;rw[FM.add_ne (λ z=>by rw[z,ha] at q1;cases q1)];exact v
theorem Aft.pushFz (kp:FM.In K h) (o:gx K h Wi) (x:Obj) (hf:x.isFreed=false:=by symm):Aft K h Wi (K.add h.objs.size x) (h.push x) Wi:=
 Aft.newFz kp o kX (iU kp) (λ _ _ e=>aA _ e) (bv _ hf)
theorem Aft.newOwn (kp:FM.In K h) (o:gx K h Wi) {a:aM} {x:Obj} {b:Ob} (ha:h.get? a=none) (k:∀b o,h.get? b=some o->h'.get? b=some o) (t:h'.get? a=some x) (hb:b.is K x):Aft K h Wi K h' ((a,b)::Wi):=by
 have u:K a=none:=by
  cases e:K a with
  |none=>rfl
  |some y=>rw[kp _ _ e] at ha;cases ha
 refine⟨FM.Le.rfl,λ b o e=>k b o (kp b o e),λ b o e _=>k b o e,λ _ _ e=>.inl e,⟨?_,?_⟩,?_⟩
 .intro p d;rcases ap.mp d with rfl|d
  .exact⟨x,t,hb,u⟩
  .obtain⟨y,q1,q2⟩:=o.at_ p d;exact⟨y,k _ _ q1,q2⟩
 .rw[aq,bZ];refine⟨λ z=>?_,o.nd⟩;obtain⟨p,d,e⟩:=az.mp z;obtain⟨y,q1,_⟩:=o.at_ p d;rw[show p.1=a from e,ha] at q1;cases q1
 .intro p d;rcases ap.mp d with rfl|d
  .exact .inl ha
  .exact .inr (aZ (f:=(·.1)) d)
theorem Aft.pushOwn (kp:FM.In K h) (o:gx K h Wi) (x:Obj) {b:Ob} (hb:b.is K x) (hf:x.isFreed=false:=by symm):Aft K h Wi K (h.push x) ((h.objs.size,b)::Wi):=
 Aft.newOwn kp o kX (λ _ _ e=>aA _ e) (bv _ hf) hb
theorem Aft.turn {a:aM} {b b':Ob} (kp:FM.In K h) (o:gx K h ((a,b)::Wi)) {x:Obj} (k:∀c o,c≠a->h.get? c=some o->h'.get? c=some o) (v:h'.get? a=some x) (hb:b'.is K x):Aft K h ((a,b)::Wi) K h' ((a,b')::Wi):=by
 obtain⟨y,q1,q2,u⟩:=o.at_ _ (ag ..);refine⟨FM.Le.rfl,?_,?_,λ _ _ e=>.inl e,⟨?_,o.nd⟩,?_⟩
 .intro c z e;exact k c z (λ q=>by rw[q,u] at e;cases e) (kp c z e)
 .intro c z e hc;exact k c z (λ q=>hc (by rw[q];exact ag ..)) e
 .intro p d;rcases ap.mp d with rfl|d
  .exact⟨x,v,hb,u⟩
  .obtain⟨z,r1,r2⟩:=o.at_ p (ao _ d);have t:p.1≠a:=λ q=>(bZ.mp o.nd).1 (q▸aZ (f:=(·.1)) d);exact⟨z,k _ _ t r1,r2⟩
 .intro p d;rcases ap.mp d with rfl|d
  .exact .inr (ag ..)
  .exact .inr (ao _ (aZ (f:=(·.1)) d))
theorem Aft.drop {p:aM×Ob} {K':FM} {h':dM} {Wo:Om} (A:Aft K h Wi K' h' (p::Wo)):Aft K h Wi K' h' Wo:=
 ⟨A.le,A.kp,A.old,A.new,⟨λ q d=>A.own.at_ q (ao _ d),(bZ.mp A.own.nd).2⟩,λ q d=>A.wn q (ao _ d)⟩
theorem Aft.perm {d:Om} (A:Aft K h Wi K' h' Wo) (p:Wo.Perm d):Aft K h Wi K' h' d:=⟨A.le,A.kp,A.old,A.new,A.own.perm p,λ q t=>A.wn q (p.mem_iff.mpr t)⟩
theorem Aft.freeze {a:aM} {b:Ob} (A:Aft K h Wi K' h' ((a,b)::Wo)):∃x,b.is K' x /\ FM.Le K' (K'.add a x) /\ Aft K h Wi (K'.add a x) h' Wo:=by
 obtain⟨x,q1,q2,d⟩:=A.own.at_ _ (ag ..);refine⟨x,q2,FM.le_add d,A.le.trans (FM.le_add d),?_,A.old,?_,⟨?_,(bZ.mp A.own.nd).2⟩,λ q v=>A.wn q (ao _ v)⟩
 .intro c z e;unfold FM.add at e;split at e
  .rename_i q;subst q;cases e;exact q1
  .exact A.kp c z e
 .intro c z e;unfold FM.add at e;split at e
  .rename_i q;subst q;exact .inr (A.wn _ (ag ..))
  .exact A.new c z e
 .intro p u;obtain⟨z,r1,r2,r3⟩:=A.own.at_ p (ao _ u);have t:p.1≠a:=λ q=>(bZ.mp A.own.nd).1 (q▸aZ (f:=(·.1)) u);exact⟨z,r1,r2.mono (FM.le_add d),by rw[FM.add_ne t];exact r3⟩
end
inductive gc:Om->aM×Ob->Om->Prop
 |head {p:aM×Ob} {W:Om}:gc (p::W) p W
 |tail {p q:aM×Ob} {W Wr:Om} (h:gc W p Wr):gc (q::W) p (q::Wr)
 |over {p:aM×Ob} {X W Wr:Om} (h:gc W p Wr):gc (X++W) p (X++Wr)
theorem gc.perm {W Wr:Om} {p:aM×Ob} (h:gc W p Wr):W.Perm (p::Wr):=by
 induction h with
 |head=>exact fX _
 |tail _ d=>exact(d.cons _).trans (iH ..)
 |over _ d=>exact(d.append_left _).trans fj
inductive vg:Om->Om->Om->Prop
 |head {X W:Om}:vg (X++W) X W
 |tail {q:aM×Ob} {X W Wr:Om} (h:vg W X Wr):vg (q::W) X (q::Wr)
 |over {X Y W Wr:Om} (h:vg W X Wr):vg (Y++W) X (Y++Wr)
theorem vg.perm {W X Wr:Om} (h:vg W X Wr):W.Perm (X++Wr):=by
 induction h with
 |head=>exact fX _
 |tail _ d=>exact(d.cons _).trans fj.symm
 |@over X Y W Wr _ d=>
  refine(d.append_left _).trans ?_;rw[<-de,<-de];exact fP.append_right _
inductive cv:Om->Om->Om->Prop
 |nil {W:Om}:cv W [] W
 |cons {W W1 Wi Wr:Om} {p:aM×Ob} (h:gc W p W1) (t:cv W1 Wi Wr):cv W (p::Wi) Wr
 |chunk {W W1 X Wi Wr:Om} (h:vg W X W1) (t:cv W1 Wi Wr):cv W (X++Wi) Wr
theorem cv.perm {W Wi Wr:Om} (h:cv W Wi Wr):W.Perm (Wi++Wr):=by
 induction h with
 |nil=>exact fX _
 |cons h _ d=>exact h.perm.trans (d.cons _)
 |chunk h _ d=>exact h.perm.trans (by rw[de];exact d.append_left _)
def Cl (pr:aG) (w:aB) (A:bU) (T:FM) (f:aj) (ds:List D) (Wi:Om) (P:D->Om->Prop):Prop:=
 ∀(s:ak) (K:FM) (vs:List aj) (Q:aj->ak->Prop) (E:aj->ak->Prop),FM.Le T K->FM.In K s.heap->cB K ds vs->gx K s.heap Wi->
  (∀v h' K' t' d Wo,Aft K s.heap Wi K' h' Wo->Rd K' d v->P d Wo->Q v {s with heap:=h',toks:=t'})->wpAny (model pr w) A (call f vs) Q E s
def Fn (pr:aG) (w:aB) (T:FM) (n:Nat) (f:aj) (ds:List D) (Wi:Om) (P:D->Om->Prop):Prop:=
 ∀A:bU,A.handled=none->A.depth+n <= 990->A.units+3*n <= 9000->Cl pr w A T f ds Wi P
def Is (d:D) (W:Om):D->Om->Prop:=λ t W'=>t=d /\ W'=W
theorem Fn.le {pr:aG} {w:aB} {T:FM} {n m:Nat} {f:aj} {ds:List D} {Wi:Om} {P:D->Om->Prop} (h:Fn pr w T n f ds Wi P) (hn:n <= m):Fn pr w T m f ds Wi P:=λ A h1 h2 h3=>h A h1 (PI hn h2) (PJ hn h3)
theorem Fn.mono {pr:aG} {w:aB} {T:FM} {n:Nat} {f:aj} {ds:List D} {Wi:Om} {P P':D->Om->Prop} (h:Fn pr w T n f ds Wi P) (t:∀d W,P d W->P' d W):Fn pr w T n f ds Wi P':=
 λ A h1 h2 h3 s K vs Q E a b c d k=>h A h1 h2 h3 s K vs Q E a b c d λ v h' K' t' d Wo x y z=>k v h' K' t' d Wo x y (t _ _ z)
structure Cx where
 pr:aG
 w:aB
 T:FM
 A:bU
 env:Env
 B:Bs
abbrev Cx.M (c:Cx):sk:=model c.pr c.w
abbrev Cx.S (c:Cx) (s:ak) (K:FM) (G:Gm) (W:Om):Prop:=f' c.B c.env.locals s.heap K G W
structure Ok (c:Cx) (n:Nat):Prop where
 T:FM.Le c.T c.B.K
 h:c.A.handled=none
 d:c.A.depth+n <= 990
 u:c.A.units+3*n <= 9000
def rq (c:Cx) (G:Gm) (W:Om) (e:cX) (P:D->Om->Prop):Prop:=
 ∀(s:ak) (K:FM) (Q:aj->ak->Prop) (E:aj->ak->Prop),c.S s K G W->
  (∀v h' K' t' d W',FM.Le K K'->f' c.B c.env.locals h' K' G W'->Rd K' d v->P d W'->Q v {s with heap:=h',toks:=t'})->wpAny c.M c.A (eval e c.env) Q E s
def Ev (c:Cx) (G:Gm) (W:Om) (e:cX) (d:D):Prop:=
 ∀(s:ak) (K:FM) (Q:aj->ak->Prop) (E:aj->ak->Prop),c.S s K G W->
  (∀v h' K' t',FM.Le K K'->f' c.B c.env.locals h' K' G W->Rd K' d v->Q v {s with heap:=h',toks:=t'})->wpAny c.M c.A (eval e c.env) Q E s
def eM (c:Cx) (G:Gm) (W:Om) (a b d:D) (f:aj->aj->Sem aj):Prop:=
 ∀(s:ak) (K:FM) (x y:aj) (Q:aj->ak->Prop) (E:aj->ak->Prop),c.S s K G W->Rd K a x->Rd K b y->
   (∀v h' K' t',FM.Le K K'->f' c.B c.env.locals h' K' G W->Rd K' d v->Q v {s with heap:=h',toks:=t'})->wpAny c.M c.A (f x y) Q E s
def Tv (c:Cx) (G:Gm) (W:Om) (d:D) (b:Bool):Prop:=
 ∀(s:ak) (K:FM) (x:aj) (Q:Bool->ak->Prop) (E:aj->ak->Prop),c.S s K G W->Rd K d x->(∀t',Q b {s with toks:=t'})->wpAny c.M c.A (truthy x) Q E s
def Tt (c:Cx) (G:Gm) (W:Om) (e:cX) (b:Bool):Prop:=
 ∀(s:ak) (K:FM) (Q:Bool->ak->Prop) (E:aj->ak->Prop),c.S s K G W->
  (∀h' K' t',FM.Le K K'->f' c.B c.env.locals h' K' G W->Q b {s with heap:=h',toks:=t'})->wpAny c.M c.A (isTrue e c.env (eval e c.env)) Q E s
inductive iD where
 |next (G:Gm) (W:Om)|brk (G:Gm) (W:Om)|cont (G:Gm) (W:Om)|ret (d:D) (W:Om)
def SD (c:Cx) (R:iD->Prop) (h:dM) (K:FM):H9->Prop
 |.next=>∃G W,f' c.B c.env.locals h K G W /\ R (.next G W)
 |.brk=>∃G W,f' c.B c.env.locals h K G W /\ R (.brk G W)
 |.cont=>∃G W,f' c.B c.env.locals h K G W /\ R (.cont G W)
 |.ret v=>∃d G W,f' c.B c.env.locals h K G W /\ Rd K d v /\ R (.ret d W)
def Ex (c:Cx) (G:Gm) (W:Om) (l:List eX) (R:iD->Prop):Prop:=
 ∀(s:ak) (K:FM) (Q:H9->ak->Prop) (E:aj->ak->Prop),c.S s K G W->
  (∀f h' K' t',FM.Le K K'->SD c R h' K' f->Q f {s with heap:=h',toks:=t'})->wpAny c.M c.A (execs l c.env) Q E s
def WP (c:Cx) (G:Gm) (W:Om) (st:eX) (R:iD->Prop):Prop:=
 ∀(s:ak) (K:FM) (Q:H9->ak->Prop) (E:aj->ak->Prop),c.S s K G W->
  (∀f h' K' t',FM.Le K K'->SD c R h' K' f->Q f {s with heap:=h',toks:=t'})->wpAny c.M c.A (exec st c.env) Q E s
def q6 (c:Cx) (rest:List eX) (R:iD->Prop):iD->Prop
 |.next G W=>Ex c G W rest R
 |o=>R o
section
variable{c:Cx} {G:Gm} {W:Om}
theorem Ev.toP {e:cX} {d:D} (h:Ev c G W e d):rq c G W e (Is d W):=λ s K Q E S k=>h s K Q E S λ v h' K' t' a b r=>k v h' K' t' d W a b r ⟨rfl,rfl⟩
theorem Ei {i:Int} {k:Nat} {pos:Pos}:Ev c G W (.Constant (.int i) k pos) (.int i):=λ s K Q E S h=>
 wpAny_Constant_int (h _ s.heap K _ FM.Le.rfl S ⟨_,rfl⟩)
theorem Iv {x:Str} {k:Nat} {pos:Pos}:Ev c G W (.Constant (.str x) k pos) (.str x):=λ s K Q E S h=>
 k8 (h _ s.heap K _ FM.Le.rfl S ⟨_,rfl⟩)
theorem Uk {b:Bool} {k:Nat} {pos:Pos}:Ev c G W (.Constant (.bool b) k pos) (.bool b):=λ s K Q E S h=>
 wpAny_Constant_bool (h _ s.heap K _ FM.Le.rfl S rfl)
theorem xz {k:Nat} {pos:Pos}:Ev c G W (.Constant .none k pos) .none:=λ s K Q E S h=>
 tm (h _ s.heap K _ FM.Le.rfl S rfl)
theorem L5 {x:Str} {pos:Pos} {d:D} (t:(x,d)∈G) (u:c.env.scope.kind=.function:=by symm) (hl:c.env.kindOf x=some .local:=by symm) (hd:(x==("__debug__":Str))=false:=by symm):
  Ev c G W (.Name x pos) d:=λ s K Q E S h=>by
 obtain⟨m,n,g⟩:=S.ns;obtain⟨v,e,r⟩:=g _ t;exact qE (sn u hl n e (h _ s.heap K s.toks FM.Le.rfl S r)) hd
theorem kB {l r:cX} {op:DX} {pos:Pos} {a b d:D} (hl:Ev c G W l a) (hr:Ev c G W r b) (M:eM c G W a b d (jQ op)):Ev c G W (.BinOp l op r pos) d:=λ s K Q E S h=>
 wpAny_BinOp (hl s K _ E S λ x h1 K1 t1 H S1 r1=>hr _ K1 _ E S1 λ y h2 K2 t2 t S2 r2=>
  M _ K2 x y Q E S2 (Rd.mono t _ r1) r2 λ v h3 K3 t3 u V r3=>h v h3 K3 t3 ((H.trans t).trans u) V r3)
theorem cp {l r:cX} {op:CmpOp} {pos:Pos} {a b:D} {v:Bool} (hl:Ev c G W l a) (hr:Ev c G W r b) (H:eM c G W a b (.bool v) (bq op)) (M:behindInMarks op r=false:=by symm):
  Tt c G W (.Compare l [op] [r] pos) v:=λ s K Q E S h=>
 ry (hl s K _ E S λ x h1 K1 t1 u S1 r1=>hr _ K1 _ E S1 λ y h2 K2 t2 d S2 r2=>
  H _ K2 x y _ E S2 (Rd.mono d _ r1) r2 λ v h3 K3 t3 t V r3=>by
   simp only[j9] at r3;subst r3;exact fu (h h3 K3 t3 ((u.trans d).trans t) V)) M
theorem oL {e:cX} {pos:Pos} {b:Bool} (h:Tt c G W e b):Tt c G W (.UnaryOp .Not e pos) (!b):=λ s K Q E S k=>
 wpAny_isTrue_Not (h s K _ E S k)
def Aa (e:cX):Bool:=!(e.ctorIdx==0||e.ctorIdx==3||e.ctorIdx==5||e.ctorIdx==15)
theorem Be {e:cX} {env:Env} (h:Aa e=true):isTrue e env (eval e env)=(do let v<-eval e env;jG e.pos;jH [v] (truthy v)):=by
 cases e<;>first|rfl|exact(aT h).elim
theorem lw {e:cX} {d:D} {b:Bool} (h:Ev c G W e d) (H:Tv c G W d b) (M:Aa e=true:=by kernel_rfl!):Tt c G W e b:=λ s K Q E S k=>
 have V:=Be M
 wpAny_isTrue_value (h s K _ E S λ v h1 K1 t1 u t r1=>H _ K1 v _ E t r1 λ t'=>k h1 K1 t' u t) V
theorem vh {b:Bool}:Tv c G W (.bool b) b:=λ s K x Q E S r k=>by simp only[j9] at r;subst r;exact fu (k _)
theorem aY {R:iD->Prop} (h:R (.next G W)):Ex c G W [] R:=λ s K Q E S k=>rh (k _ s.heap K s.toks FM.Le.rfl ⟨G,W,S,h⟩)
theorem gy {st:eX} {rest:List eX} {R:iD->Prop} (h:WP c G W st (q6 c rest R)):Ex c G W (st::rest) R:=λ s K Q E S k=>
 iI (h s K _ E S λ f h1 K1 t1 d t=>by
  cases f with
  |next=>obtain⟨G1,W1,M,r⟩:=t;exact r _ K1 Q E M λ f h2 K2 t2 u H=>k f h2 K2 t2 (d.trans u) H
  |brk=>exact k _ h1 K1 t1 d t
  |cont=>exact k _ h1 K1 t1 d t
  |ret v=>exact k _ h1 K1 t1 d t)
theorem Bf {e:cX} {pos:Pos} {rest:List eX} {P:D->Om->Prop} {R:iD->Prop} (u:rq c G W e P) (h:∀d W',P d W'->R (.ret d W')):Ex c G W (.Return (some e) pos::rest) R:=
 gy λ s K Q E S k=>wpAny_Return_some (u s K _ E S λ v h1 K1 t1 d W' t H r1 p=>k _ h1 K1 t1 t ⟨d,G,W',H,r1,h d W' p⟩)
theorem ly {e:cX} {pos:Pos} {rest:List eX} {d:D} {R:iD->Prop} (t:Ev c G W e d) (h:R (.ret d W)):Ex c G W (.Return (some e) pos::rest) R:=
 Bf t.toP λ u W' p=>by obtain⟨rfl,rfl⟩:=p;exact h
theorem rN {t:cX} {body d rest:List eX} {pos:Pos} {b:Bool} {R:iD->Prop} (V:Tt c G W t b) (h:Ex c G W (cond b body d) (q6 c rest R)):Ex c G W (.If t body d pos::rest) R:=
 gy λ s K Q E S k=>wpAny_If (V s K _ E S λ h1 K1 t1 H M=>by
  cases b with
  |true=>exact h _ K1 Q E M λ f h2 K2 t2 u v=>k f h2 K2 t2 (H.trans u) v
  |false=>exact h _ K1 Q E M λ f h2 K2 t2 u v=>k f h2 K2 t2 (H.trans u) v)
theorem L6 {G':Gm} {st:List eX} {R:iD->Prop} (g:∀p∈G',p∈G) (h:Ex c G' W st R):Ex c G W st R:=λ s K Q E S k=>h s K Q E (S.weak g) k
theorem L7 {W':Om} {st:List eX} {R:iD->Prop} (p:cv W W' []) (h:Ex c G W' st R):Ex c G W st R:=λ s K Q E S k=>h s K Q E (S.perm (by have:=p.perm;rwa [ax] at this)) k
theorem Bg {st:List eX} {R H:iD->Prop} (h:Ex c G W st R) (hr:∀o,R o->H o):Ex c G W st H:=λ s K Q E S k=>h s K Q E S λ f h1 K1 t1 M u=>k f h1 K1 t1 M (by
 cases f with
 |next=>obtain⟨G1,W1,t,r⟩:=u;exact⟨G1,W1,t,hr _ r⟩
 |brk=>obtain⟨G1,W1,t,r⟩:=u;exact⟨G1,W1,t,hr _ r⟩
 |cont=>obtain⟨G1,W1,t,r⟩:=u;exact⟨G1,W1,t,hr _ r⟩
 |ret v=>obtain⟨d,G1,W1,t,r1,r⟩:=u;exact⟨d,G1,W1,t,r1,hr _ r⟩)
theorem rO {pos:Pos} {rest:List eX} {R:iD->Prop} (h:R (.cont G W)):Ex c G W (.Continue pos::rest) R:=gy λ s K Q E S k=>
 wpAny_Continue (k _ s.heap K s.toks FM.Le.rfl ⟨G,W,S,h⟩)
theorem rP {pos:Pos} {rest:List eX} {R:iD->Prop} (h:R (.brk G W)):Ex c G W (.Break pos::rest) R:=gy λ s K Q E S k=>
 wpAny_Break (k _ s.heap K s.toks FM.Le.rfl ⟨G,W,S,h⟩)
end
inductive Fw:Gm->Str->D->Gm->Prop
 |new {x:Str} {d:D}:Fw [] x d [(x,d)]
 |here {x:Str} {d d₀:D} {G:Gm} (hn:G.any (λ p=>p.1==x)=false):Fw ((x,d₀)::G) x d ((x,d)::G)
 |there {x y:Str} {d d₀:D} {G G':Gm} (hn:(y==x)=false) (h:Fw G x d G'):Fw ((y,d₀)::G) x d ((y,d₀)::G')
theorem Fw.mem {G G':Gm} {x:Str} {d:D} (h:Fw G x d G'):∀p∈G',p=(x,d) \/ (p∈G /\ p.1≠x):=by
 induction h with
 |new=>intro p t;exact .inl (by simpa using t)
 |here hn=>
  intro p t;rcases ap.mp t with rfl|t
  .exact .inl rfl
  .have:=List.any_eq_false.mp hn p t;exact .inr ⟨ao _ t,by simpa using this⟩
 |there hn _ u=>
  intro p t;rcases ap.mp t with rfl|t
  .exact .inr ⟨ag ..,by simpa using hn⟩
  .rcases u p t with h|h
   .exact .inl h
   .exact .inr ⟨ao _ h.1,h.2⟩
def un (G:Gm) (x:Str) (d:D) (G':Gm):Prop:=∀p∈G',p=(x,d) \/ (p∈G /\ p.1≠x)
def L8 (G:Gm) (x:Str) (d:D):Gm:=(x,d)::G.filter λ p=>!(p.1==x)
theorem un.sym {G:Gm} {x:Str} {d:D}:un G x d (L8 G x d):=by
 intro p t;rcases ap.mp t with h|h
 .exact .inl h
 .have h:=hY.mp h;exact .inr ⟨h.1,by simpa using h.2⟩
theorem f'.store {B:Bs} {L:aM} {h h':dM} {K:FM} {G G':Gm} {W:Om} {x:Str} {v:aj} {d:D} (S:f' B L h K G W) (P:un G x d G') (m:Str->Option aj) (M:∀p∈G,∃v,m p.1=some v /\ Rd K p.2 v)
  (hn:h'.Ns L (λ y=>if y=x then some v else m y)) (hs:iY L h h') (r:Rd K d v):f' B L h' K G' W where
 ns:=⟨_,hn,λ p t=>by
  rcases P p t with rfl|⟨t,q⟩
  .exact⟨v,by simp,r⟩
  .obtain⟨u,e,H⟩:=M p t;exact⟨u,by simp[q,e],H⟩⟩
 kp b o e:=by
  have hb:b≠L:=λ q=>by rw[q,S.kl] at e;cases e
  rw[hs.2 b hb];exact S.kp b o e
 up b o e:=by
  have hb:b≠L:=λ q=>by rw[q,S.ul] at e;cases e
  rw[hs.2 b hb];exact S.up b o e
 kl:=S.kl
 ul:=S.ul
 k0:=S.k0
 fz:=S.fz
 own:=⟨λ p t=>by
  obtain⟨o,a1,a2,V⟩:=S.own.at_ p t;exact⟨o,by rw[hs.2 _ (S.wu p t).2];exact a1,a2,V⟩,S.own.nd⟩
 wu:=S.wu
section
variable{c:Cx} {G G':Gm} {W:Om}
theorem eU {x:Str} {e:cX} {p pos:Pos} {rest:List eX} {P:D->Om->Prop} {R:iD->Prop} (he:rq c G W e P) (h:∀d W',P d W'->∃G',un G x d G' /\ Ex c G' W' rest R)
  (hl:c.env.kindOf x=some .local:=by symm) (V:(c.env.scope.kind==.class||(c.env.scope.kind==.module&&c.env.locals !=c.env.globals))=false:=by symm)
  (hs:km e (some (.Name x p)) pos.line c.env=pure false:=by symm):Ex c G W (.Assign [.Name x p] e pos::rest) R:=
 gy λ s K Q E S k=>oG (he s K _ E S λ v h1 K1 t1 d W' M H r1 p1=>by
  obtain⟨G',P',h'⟩:=h d W' p1;obtain⟨m,hn,hm⟩:=H.ns;exact gV hl hn (λ h2 u t=>k _ h2 K1 _ M ⟨_,_,H.store P' m hm u t r1,h'⟩) V) hs
theorem jt {x:Str} {e:cX} {p pos:Pos} {rest:List eX} {d:D} {R:iD->Prop} (u:Ev c G W e d) (P:un G x d G') (h:Ex c G' W rest R)
  (hl:c.env.kindOf x=some .local:=by symm) (t:(c.env.scope.kind==.class||(c.env.scope.kind==.module&&c.env.locals !=c.env.globals))=false:=by symm)
  (hs:km e (some (.Name x p)) pos.line c.env=pure false:=by symm):Ex c G W (.Assign [.Name x p] e pos::rest) R:=
 eU u.toP (λ v W' q=>by obtain⟨rfl,rfl⟩:=q;exact⟨G',P,h⟩) hl t hs
theorem Ql {x:Str} {op:DX} {e:cX} {p pos:Pos} {rest:List eX} {a b d:D} {R:iD->Prop} (hx:(x,a)∈G) (he:Ev c G W e b) (ho:eM c G W a b d (pO op)) (P:un G x d G') (h:Ex c G' W rest R)
  (hk:c.env.scope.kind=.function:=by symm) (hl:c.env.kindOf x=some .local:=by symm) (hp:(c.env.scope.kind==.class||(c.env.scope.kind==.module&&c.env.locals !=c.env.globals))=false:=by symm):
  Ex c G W (.AugAssign (.Name x p) op e pos::rest) R:=gy λ s K Q E S k=>by
 obtain⟨m,n,g⟩:=S.ns;obtain⟨v,ev,r⟩:=g _ hx;refine wpAny_AugAssign_Name (sn hk hl n ev ?_);refine he s K _ E S λ y h1 K1 t1 V S1 r1=>?_;refine ho {s with heap:=h1,toks:=t1} K1 v y _ E S1 (Rd.mono V _ r) r1 λ z h2 K2 t2 k2 S2 r2=>?_;obtain⟨m2,H,M⟩:=S2.ns;exact gV hl H (λ h3 u t=>k _ h3 K2 _ (V.trans k2) ⟨_,_,S2.store P m2 M u t r2,h⟩) hp
theorem L9 {p:aM×Ob} {W₁:Om} {st:List eX} {R:iD->Prop} (t:gc W p W₁) (h:Ex c G W₁ st R):Ex c G W st R:=λ s K Q E S k=>
 h s K Q E ((S.perm (t.perm.trans (aI p W₁).symm)).left (Wr:=[p])) k
theorem gd {x:Str} {a:aM} {l:List D} {st:List eX} {R:iD->Prop} {W₁:Om} (hx:(x,.val (.ref a))∈G) (t:gc W (a,.list l) W₁) (P:un G x (.lst l) G') (h:Ex c G' W₁ st R):Ex c G W st R:=λ s K Q E S k=>by
 have M:=S.perm t.perm;obtain⟨o,q,le,A⟩:=(Aft.same M.kp M.own).freeze;obtain⟨vs,e,rfl,r⟩:=q;have d:=(M.perm (W':=((a,.list l)::W₁)++[]) (by simp)).call A;rw[ax] at d;refine h s _ Q E ⟨?_,d.kp,d.up,d.kl,d.ul,d.k0,d.fz,d.own,d.wu⟩ λ f h1 K1 t1 V H=>k f h1 K1 t1 (le.trans V) H;obtain⟨m,n,g⟩:=d.ns;refine⟨m,n,λ p u=>?_⟩;rcases P p u with rfl|⟨u,_⟩
 .obtain⟨v,H,r1⟩:=g _ hx;simp only[j9] at r1;subst r1;refine⟨_,H,?_⟩;simp only[j9];exact⟨a,vs,e,rfl,FM.add_self,cB.mono le _ r⟩
 .exact g p u
end
theorem Xe:Nonempty Cx:=VS.elim λ w=>WO.elim λ b=>⟨⟨default,w,λ _=>aH,{},default,b⟩⟩
theorem Xf:Nonempty iD:=⟨.next [] []⟩
theorem ku {α:Type} {P:List α->Prop} (h:∀v,P [v]) (vs:List α) (e:vs.length=1):P vs:=by
 rcases vs with _|⟨v,r⟩
 .cases e
 .obtain rfl:r=[]:=List.length_eq_zero_iff.mp (by simpa using e);exact h v
theorem pn {α:Type} {P:List α->Prop} (h:∀v d,P [v,d]) (vs:List α) (e:vs.length=2):P vs:=by
 rcases vs with _|⟨v,r⟩
 .cases e
 .exact ku (P:=λ r=>P (v::r)) (λ d=>h v d) r (by simpa using e)
theorem Fx {α:Type} {P:List α->Prop} (h:∀v t d,P [v,t,d]) (vs:List α) (e:vs.length=3):P vs:=by
 rcases vs with _|⟨v,r⟩
 .cases e
 .exact pn (P:=λ r=>P (v::r)) (λ t d=>h v t d) r (by simpa using e)
theorem Iw {α:Type} {P:List α->Prop} (h:∀v t d v4,P [v,t,d,v4]) (vs:List α) (e:vs.length=4):P vs:=by
 rcases vs with _|⟨v,r⟩
 .cases e
 .exact Fx (P:=λ r=>P (v::r)) (λ t d v4=>h v t d v4) r (by simpa using e)
theorem SE {α:Type} {P:List α->Prop} (h:∀v u t v4 d,P [v,u,t,v4,d]) (vs:List α) (e:vs.length=5):P vs:=by
 rcases vs with _|⟨v,r⟩
 .cases e
 .exact Iw (P:=λ r=>P (v::r)) (λ u t v4 d=>h v u t v4 d) r (by simpa using e)
def Kp (pr:aG) (w:aB) (T:FM) (f:aj):Prop:=∀h:dM,FM.In T h->∃k,(k=Cr \/ k=y5 \/ k=vH) /\ iJ (model pr w) h (keeperOf f) k
theorem iu {pr:aG} {w:aB} {T:FM} {id:String}:Kp pr w T (.builtin id):=λ h _=>⟨.machine,.inr (.inl rfl),AZ⟩
theorem kP {pr:aG} {w:aB} {T:FM} {id:String}:Kp pr w T (.type id):=λ h _=>⟨.machine,.inr (.inl rfl),AZ⟩
structure FnAt (T:FM) (a:aM) (fd:nL) (body:List eX):Prop where
 at_:∃cl d sl,T a=some ⟨cl,d,.func fd,sl⟩
 code:∃c o vs t,fd.code=.ref c /\ T c=some o /\ o.data=.fields vs /\ vs[1]?=some (.str fd.qualname t)
 body:fd.body=.stmts body
def xJ (T:FM):Prop:=∀h:dM,FM.In T h->h.NoLimit
theorem FnAt.kp {pr:aG} {w:aB} {T:FM} {a:aM} {t:nL} {body:List eX} (hf:FnAt T a t body):Kp pr w T (.ref a):=λ h k=>by
 obtain⟨cl,d,sl,e⟩:=hf.at_;exact⟨.frame,.inl rfl,(mI (part:=none) (k _ _ e)).andThen .now⟩
structure Qm (T:FM) (mg mb:Str->Option aj):Prop where
 g:∀h:dM,FM.In T h->h.Ns iS mg
 b:∀h:dM,FM.In T h->h.Ns qD mb
def ge (e:cX):Bool:=!(e.ctorIdx==22)
theorem cj (h:ge e=true):gQ (e::r) env=(false,eval e env)::gQ r env:=by
 cases e<;>first|rfl|exact(aT h).elim
def vd (c:Cx) (G:Gm) (W:Om):List cX->List D->Prop
 |[],ds=>ds=[]
 |e::r,ds=>∃d t,ds=d::t /\ ge e=true /\ Ev c G W e d /\ vd c G W r t
section
variable{c:Cx} {G:Gm} {W:Om}
theorem f'.inT {n:Nat} (ok:Ok c n) {h:dM} {K:FM} (S:f' c.B c.env.locals h K G W):FM.In c.T h:=λ b o e=>S.kp _ _ (S.k0 _ _ (ok.T _ _ e))
theorem bW:vd c G W [] []:=rfl
theorem bg (h:Ev c G W e d) (u:vd c G W r t) (hs:ge e=true:=by symm):vd c G W (e::r) (d::t):=⟨d,t,rfl,hs,h,u⟩
theorem ql:∀{es:List cX} {ds:List D},vd c G W es ds->∀(s:ak) (K:FM) (Q:List aj->ak->Prop) (E:aj->ak->Prop),c.S s K G W->
  (∀vs h' K' t',FM.Le K K'->f' c.B c.env.locals h' K' G W->cB K' ds vs->Q vs {s with heap:=h',toks:=t'})->wpAny c.M c.A (spliced (backTo pos (gQ es c.env))) Q E s:=by
 intro es
 induction es with
 |nil=>
  intro ds h s K Q E S k;exact gj (by
   have h:ds=[]:=h;subst h;exact k [] s.heap K s.toks FM.Le.rfl S cB.nil)
 |cons e r V=>
  intro ds h s K Q E S k;obtain⟨d,t,rfl,hs,he,hr⟩:=h;rw[cj hs];refine dJ (he s K _ E S λ v h1 K1 t1 H S1 r1=>?_);exact V hr _ K1 _ E S1 λ vs h2 K2 t2 u S2 r2=>k (v::vs) h2 K2 t2 (H.trans u) S2 (by
   simp only[ro];exact⟨v,vs,rfl,Rd.mono u _ r1,r2⟩)
theorem Bh (h:vd c G W es ds) (s:ak) (K:FM) (Q:pP->ak->Prop) (E:aj->ak->Prop) (S:c.S s K G W)
  (k:∀vs h' K' t',FM.Le K K'->f' c.B c.env.locals h' K' G W->cB K' ds vs->Q ⟨vs,[]⟩ {s with heap:=h',toks:=t'}):wpAny c.M c.A (evalArgs f true (backTo pos (gQ es c.env)) []) Q E s:=by
 cases es with
 |nil=>
  have h:ds=[]:=h;subst h;exact evalArgs_nil3 (k [] s.heap K s.toks FM.Le.rfl S cB.nil)
 |cons e r=>
  have h':=ql (pos:=pos) h s K (λ vs u=>Q ⟨vs,[]⟩ u) E S k;obtain⟨d,t,_,hs,_,_⟩:=h;rw[cj hs] at h'⊢;exact ij h'
theorem nf:∀{es:List cX} {ds:List D},vd c G W es ds->(backTo pos (gQ es c.env)).any (·.1)=false
 |[],_,_=>rfl
 |e::r,ds,h=>by
  obtain⟨d,t,rfl,hs,u,hr⟩:=h;rw[cj hs];show(false||(backTo pos (gQ r c.env)).any (·.1))=false;rw[nf hr];rfl
theorem jk (ok:Ok c n) (v:Kp c.pr c.w c.T f) (d:vd c G W es ds) (s:ak) (K:FM) (Q:aj->ak->Prop) (E:aj->ak->Prop) (S:c.S s K G W)
  (k:∀vs h' K' t',FM.Le K K'->f' c.B c.env.locals h' K' G W->cB K' ds vs->wpAny c.M c.A (call f (first++vs)) Q E {s with heap:=h',toks:=t'}):
  wpAny c.M c.A (callWith pos f first (backTo pos (gQ es c.env)) []) Q E s:=
 jR (P:=FM.In c.T) (by rw[nf d];rfl) v (Bh d s K _ E S λ vs h1 K1 t1 u t r1=>⟨t.inT ok,k vs h1 K1 t1 u t r1⟩)
theorem sJ {P:D->Om->Prop} (ok:Ok c n) (t:cv W Wi Wr) (hf:Fn c.pr c.w c.T n f ds Wi P) (s:ak) (K:FM) (vs:List aj) (Q:aj->ak->Prop) (E:aj->ak->Prop) (S:c.S s K G W) (r:cB K ds vs)
  (k:∀v h' K' t' d Wo,FM.Le K K'->f' c.B c.env.locals h' K' G (Wo++Wr)->Rd K' d v->P d Wo->Q v {s with heap:=h',toks:=t'}):wpAny c.M c.A (call f vs) Q E s:=by
 have H:=S.perm t.perm;exact hf c.A ok.h ok.d ok.u s K vs Q E (ok.T.trans S.k0) S.kp r H.own.left λ v h' K' t' d Wo A rd p=>k v h' K' t' d Wo A.le (H.call A) rd p
theorem vX {Wi Wr:Om} {h:dM} {K:FM} (t:cv W Wi Wr) (S:f' c.B c.env.locals h K G (Wi++Wr)):f' c.B c.env.locals h K G W:=S.perm t.perm.symm
theorem my {P:D->Om->Prop} (ok:Ok c n) (hk:Kp c.pr c.w c.T f) (V:Ev c G W (.Name x p) (.val f)) (he:vd c G W es ds) (t:cv W Wi Wr) (hf:Fn c.pr c.w c.T n f ds Wi P):
  rq c G W (.Call (.Name x p) es [] pos) (λ d W'=>∃Wo,P d Wo /\ W'=Wo++Wr):=λ s K Q E S k=>by
 refine dw (V s K _ E S λ v g1 K1 t1 M S1 r1=>?_);obtain rfl:=r1;refine jk ok hk he _ K1 Q E S1 λ vs g2 K2 t2 H S2 r2=>?_;rw[be];exact sJ ok t hf _ K2 vs Q E S2 r2 λ v g3 K3 t3 d Wo u S3 r3 p3=>k v g3 K3 t3 d _ ((M.trans H).trans u) S3 r3 ⟨Wo,p3,rfl⟩
theorem ka (ok:Ok c n) (H:Kp c.pr c.w c.T f) (u:Ev c G W (.Name x p) (.val f)) (M:vd c G W es ds) (t:cv W Wi Wr) (hf:Fn c.pr c.w c.T n f ds Wi (Is d Wi)):
  Ev c G W (.Call (.Name x p) es [] pos) d:=λ s K Q E S k=>
 my ok H u M t hf s K Q E S λ v h' K' t' V W' a b r p=>by
  obtain⟨Wo,⟨rfl,rfl⟩,rfl⟩:=p;exact k v h' K' t' a (vX t b) r
theorem L' {n:Nat} {d t:Str->Option aj} {x:Str} {pos:Pos} {v:aj} (ok:Ok c n) (hF:Qm c.T d t) (u:d x=some v) (M:c.env.globals=iS:=by symm) (H:c.env.scope.kind=.function:=by symm)
  (hl:c.env.kindOf x=some .globalImplicit:=by symm) (hd:(x==("__debug__":Str))=false:=by symm):Ev c G W (.Name x pos) (.val v):=λ s K Q E S k=>by
 refine qE ?_ hd;rw[uf H hl];have hn:=hF.g s.heap (S.inT ok);show wpAny _ _ (nsGet c.env.globals x>>=_) Q E s;rw[M];refine ae (oH hn ?_);rw[u];exact af (k v s.heap K s.toks FM.Le.rfl S (by ext rd))
theorem Ma {t u:Str->Option aj} (ok:Ok c n) (hF:Qm c.T t u) (hn:t x=none) (H:u x=some v) (V:c.env.globals=iS:=by symm) (hb:c.env.builtins=qD:=by symm)
  (M:c.env.scope.kind=.function:=by symm) (hl:c.env.kindOf x=some .globalImplicit:=by symm) (hd:(x==("__debug__":Str))=false:=by symm):Ev c G W (.Name x pos) (.val v):=λ s K Q E S k=>by
 refine qE ?_ hd;rw[uf M hl];have d:=S.inT ok;show wpAny _ _ (nsGet c.env.globals x>>=_) Q E s;rw[V];refine ae (oH (hF.g s.heap d) ?_);rw[hn];show wpAny _ _ (nsGet c.env.builtins x>>=_) Q E s;rw[hb];refine ae (oH (hF.b s.heap d) ?_);rw[H];exact af (k v s.heap K s.toks FM.Le.rfl S (by ext rd))
end
def Gives (P:D->Om->Prop):iD->Prop
 |.ret d W=>∃Wo Wr,cv W Wo Wr /\ P d Wo
 |.next _ W=>∃Wo Wr,cv W Wo Wr /\ P .none Wo
 |_=>False
theorem sK {K:FM}:∀(ps:List Str) (ds:List D) (vs:List aj),ps.Nodup->cB K ds vs->ps.length=ds.length->∀p∈ps.zip ds,∃v,(ps.zip vs).reverse.lookup p.1=some v /\ Rd K p.2 v:=by
 intro ps ds vs β M ε p t;have key:∀(ps:List Str) (ds:List D) (vs:List aj),ps.Nodup->cB K ds vs->∀p∈ps.zip ds,∃v,(p.1,v)∈ps.zip vs /\ Rd K p.2 v:=by
  intro ps
  induction ps with
  |nil=>intro ds vs _ _ p t;simp at t
  |cons x ps ih=>
   intro ds vs nd r p t;cases ds with
   |nil=>simp at t
   |cons d ds=>
    obtain⟨v,δ,rfl,r1,r2⟩:=r;rw[nM] at t;rcases ap.mp t with rfl|t
    .exact⟨v,by simp,r1⟩
    .obtain⟨v',m,r'⟩:=ih ds δ (bZ.mp nd).2 r2 p t;exact⟨v',by rw[nM];exact ao _ m,r'⟩
 obtain⟨v,m,r⟩:=key ps ds vs β M p t;refine⟨v,?_,r⟩;have lk:∀(l:List (Str×aj)) (x:Str) (v:aj),(l.map (·.1)).Nodup->(x,v)∈l->l.lookup x=some v:=by
  intro l
  induction l with
  |nil=>intro x v _ H;simp at H
  |cons q l ih=>
   intro x v nd H;obtain⟨y,u⟩:=q;rw[aq,bZ] at nd;rcases ap.mp H with e|H
   .cases e;simp[xc]
   .have:x≠y:=λ e=>nd.1 (e▸aZ (f:=(·.1)) H);rw[gK];have hb:(x==y)=false:=by simpa using this
    rw[hb];exact ih x v nd.2 H
 have γ:=M.length;have V:((ps.zip vs).map (·.1)).Nodup:=by
  have:(ps.zip vs).map (·.1)=ps:=by rw[wr];exact Si ε γ
  rw[this];exact β
 exact lk (ps.zip vs).reverse p.1 v (by rw[List.map_reverse];exact List.pairwise_reverse.mpr (V.imp λ h=>h.symm)) (List.mem_reverse.mpr m)
theorem dF {P:D->Om->Prop} (ps:List Str) (G₀:Gm) (hf:FnAt T a H body) (hn:xJ T)
  (β:∀vs:List aj,vs.length=ds.length->bindArgs H ⟨vs,[]⟩=pure (ps.zip vs)) (ι:ps.length=ds.length) (κ:ps.Nodup)
  (V:∀x∈H.scope.names,x.2≠.cell) (δ:∀x∈ps,H.scope.names.lookup x=some .local)
  (hb:∀(A:bU) (L:aM) (B:Bs),Ok ⟨pr,w,T,A,cx H L a,B⟩ n->Ex ⟨pr,w,T,A,cx H L a,B⟩ G₀ Wi body (Gives P))
  (hG:ps.zip ds=G₀:=by rfl)
  (μ:H.scope.isCoroutine=false:=by symm) (η:H.scope.isGenerator=false:=by symm) (hk:H.scope.kind=.function:=by symm):
  Fn pr w T (n+1) (.ref a) ds Wi P:=by
 subst hG;intro A hA hd hu s K vs Q E hT hK γ hO h;obtain⟨cl,dd,sl,ο⟩:=hf.at_;obtain⟨cc,co,σ,ct,ξ,hc2,hc3,hc4⟩:=hf.code;have ho:s.heap.get? a=some ⟨cl,dd,.func H,sl⟩:=hK _ _ (hT _ _ ο);have ν:s.heap.CodeRec H.code H.qualname:=⟨cc,co,σ,ct,ξ,hK _ _ (hT _ _ hc2),hc3,hc4⟩;have ε:s.heap.NoLimit:=hn _ λ b o e=>hK _ _ (hT _ _ e);have ζ:=γ.length;refine dR ?_;refine fv (wt (R:=λ r s'=>match r with|.ok (.ret v)=>Q v s'|_=>False) (binds:=ps.zip vs) (by have:jS=1000:=rfl;exact Io hd) ho rfl ε ν hf.body (zP (β vs ζ)) V
  (λ x hx=>δ x.1 (jo hx).1) ?_ μ η hk) ?_
 .intro h₀ ns keep;have hL:s.heap.get? s.heap.objs.size=none:=kX;have ρ:K s.heap.objs.size=none:=iU hK
  let U:FM:=λ b=>if b∈Wi.map (·.1) then none else s.heap.get? b
  have hU:∀b,U b=none->b∈Wi.map (·.1) \/ s.heap.get? b=none:=λ b e=>by
   by_cases q:b∈Wi.map (·.1)
   .exact .inl q
   .exact .inr (by simpa only[U,if_neg q] using e)
  have θ:∀b,b∈Wi.map (·.1) \/ s.heap.get? b=none->U b=none:=λ b e=>by
   by_cases q:b∈Wi.map (·.1)
   .simp only[U,if_pos q]
   .simp only[U,if_neg q];exact e.resolve_left q
  have S:f' ⟨K,U⟩ s.heap.objs.size h₀ K (ps.zip ds) Wi:=by
   refine⟨⟨_,ns,?_⟩,λ b o e=>keep _ _ (hK _ _ e),?_,ρ,θ _ (.inr hL),FM.Le.rfl,λ b o e=>.inl e,⟨λ p M=>?_,hO.nd⟩,λ p M=>⟨θ _ (.inl (aZ (f:=(·.1)) M)),λ e=>?_⟩⟩
   .intro p M;exact sK ps ds vs κ γ ι p M
   .intro b o e;by_cases q:b∈Wi.map (·.1)
    .simp only[U,if_pos q] at e;cases e
    .simp only[U,if_neg q] at e;exact keep _ _ e
   .obtain⟨o,q1,q2⟩:=hO.at_ p M;exact⟨o,keep _ _ q1,q2⟩
   .obtain⟨o,q1,q2⟩:=hO.at_ p M;rw[e,hL] at q1;cases q1
  refine hb (A.deeper _) _ ⟨K,U⟩ ⟨hT,hA,by show A.depth+1+n <= 990;exact CD hd,by show A.units+3+3*n <= 9000;exact Ip hu⟩ _ K _ _ S ?_;intro f h' K' t' k1 e1;have fin:∀G' W' Wo Wr d (v:aj),f' ⟨K,U⟩ s.heap.objs.size h' K' G' W'->cv W' Wo Wr->Rd K' d v->P d Wo->Q v {s with heap:=h',toks:=t'}:=λ G' W' Wo Wr d v u t r' p=>by
   have u:=(u.perm t.perm).left;refine h v h' K' t' d Wo ⟨k1,u.kp,λ b o e hb=>u.up b o ?_,?_,u.own,?_⟩ r' p
   .show U b=some o;simp only[U,if_neg hb];exact e
   .intro b o e;rcases u.fz b o e with q|q
    .exact .inl q
    .exact .inr ((hU b q).symm)
   .intro p M;exact(hU _ (u.wu p M).1).symm
  cases f with
  |next=>
   obtain⟨G',W',u,Wo,Wr,t,p⟩:=e1;exact fin G' W' Wo Wr .none .none u t (by ext rd) p
  |brk=>obtain⟨G',W',u,r⟩:=e1;exact r.elim
  |cont=>obtain⟨G',W',u,r⟩:=e1;exact r.elim
  |ret v=>
   obtain⟨d',G',W',u,r1,Wo,Wr,t,p⟩:=e1;exact fin G' W' Wo Wr d' v u t r1 p
 .intro r s' hr;cases r with
  |error e=>exact hr.elim
  |ok f=>cases f<;>first|exact hr.elim|exact hr
section
variable{c:Cx} {G:Gm} {W:Om}
theorem gn:eM c G W (.int i) (.int j) (.int (i+j)) (jQ .Add):=λ s K x y Q E S r1 r2 h=>by
 obtain⟨t,rfl⟩:=r1;obtain⟨u,rfl⟩:=r2;exact wpAny_add_int (h _ s.heap K _ FM.Le.rfl S ⟨_,rfl⟩)
theorem CE:eM c G W (.int i) (.int j) (.int (i+j)) (pO .Add):=λ s K x y Q E S r1 r2 h=>by
 obtain⟨t,rfl⟩:=r1;obtain⟨u,rfl⟩:=r2;exact wpAny_iadd_int (h _ s.heap K _ FM.Le.rfl S ⟨_,rfl⟩)
theorem Qn:eM c G W (.int i) (.int j) (.int (i-j)) (jQ .Sub):=λ s K x y Q E S r1 r2 h=>by
 obtain⟨t,rfl⟩:=r1;obtain⟨u,rfl⟩:=r2;exact PySem.P.sub_int (h _ s.heap K _ FM.Le.rfl S ⟨_,rfl⟩)
theorem Ej (hj:j≠0):eM c G W (.int i) (.int j) (.int (i.fmod j)) (jQ .Mod):=λ s K x y Q E S r1 r2 h=>by
 obtain⟨t,rfl⟩:=r1;obtain⟨u,rfl⟩:=r2;exact DY hj (h _ s.heap K _ FM.Le.rfl S ⟨_,rfl⟩)
theorem CF (hj:j≠0) (d:jp i j=false):eM c G W (.int i) (.int j) (.int (i.fdiv j)) (jQ .FloorDiv):=λ s K x y Q E S r1 r2 h=>by
 obtain⟨t,rfl⟩:=r1;obtain⟨u,rfl⟩:=r2;exact floordiv_int hj (h _ s.heap K _ FM.Le.rfl S ⟨_,rfl⟩) (.inl d)
theorem ju:eM c G W (.int i) (.int j) (.bool (decide (i<j))) (bq .Lt):=λ s K x y Q E S r1 r2 h=>by
 obtain⟨t,rfl⟩:=r1;obtain⟨u,rfl⟩:=r2;exact wpAny_lt_int (h _ s.heap K _ FM.Le.rfl S (by ext rd))
theorem jv:eM c G W (.int i) (.int j) (.bool (decide (i>j))) (bq .Gt):=λ s K x y Q E S r1 r2 h=>by
 obtain⟨t,rfl⟩:=r1;obtain⟨u,rfl⟩:=r2;exact PySem.P.gt_int (h _ s.heap K _ FM.Le.rfl S (by ext rd))
theorem RH:eM c G W (.int i) (.int j) (.bool (decide (i >= j))) (bq .GtE):=λ s K x y Q E S r1 r2 h=>by
 obtain⟨t,rfl⟩:=r1;obtain⟨u,rfl⟩:=r2;exact PySem.P.ge_int (h _ s.heap K _ FM.Le.rfl S (by ext rd))
theorem RI:eM c G W (.int i) (.int j) (.bool (decide (i=j))) (bq .Eq):=λ s K x y Q E S r1 r2 h=>by
 obtain⟨t,rfl⟩:=r1;obtain⟨u,rfl⟩:=r2;exact PySem.P.eq_int (h _ s.heap K _ FM.Le.rfl S (by simp only[j9];rw[show(i==j)=decide (i=j) from rfl]))
theorem GJ:eM c G W (.int i) (.int j) (.bool (decide (i≠j))) (bq .NotEq):=λ s K x y Q E S r1 r2 h=>by
 obtain⟨t,rfl⟩:=r1;obtain⟨u,rfl⟩:=r2;exact PySem.P.ne_int (h _ s.heap K _ FM.Le.rfl S (by simp only[j9];rw[show(i !=j)=!decide (i=j) from rfl];simp))
theorem iV (d:x.length+y.length <= aO):eM c G W (.str x) (.str y) (.str (x++y)) (jQ .Add):=λ s K a b Q E S r1 r2 k=>by
 obtain⟨t,rfl⟩:=r1;obtain⟨u,rfl⟩:=r2;exact DZ (λ t' tk=>k _ s.heap K _ FM.Le.rfl S ⟨_,rfl⟩) d
theorem rQ (d:x.length+y.length <= aO):eM c G W (.str x) (.str y) (.str (x++y)) (pO .Add):=λ s K a b Q E S r1 r2 k=>by
 obtain⟨t,rfl⟩:=r1;obtain⟨u,rfl⟩:=r2;exact CB (λ t' tk=>k _ s.heap K _ FM.Le.rfl S ⟨_,rfl⟩) d
theorem Fy (x y:Str):(x.cps.toList==y.cps.toList)=decide (x=y):=by
 rw[cQ,beq_iff_eq,decide_eq_true_iff];exact⟨λ h=>by cases x;cases y;exact congrArg KN (mj.mp h),λ h=>by rw[h]⟩
theorem sL:eM c G W (.str x) (.str y) (.bool (decide (x=y))) (bq .Eq):=λ s K a b Q E S r1 r2 k=>by
 obtain⟨t,rfl⟩:=r1;obtain⟨u,rfl⟩:=r2;exact PySem.P.eq_str (k _ s.heap K s.toks FM.Le.rfl S (by simp only[j9,Fy]))
theorem Ab:eM c G W (.str x) (.str y) (.bool (decide (x≠y))) (bq .NotEq):=λ s K a b Q E S r1 r2 k=>by
 obtain⟨t,rfl⟩:=r1;obtain⟨u,rfl⟩:=r2;refine PySem.P.ne_str (k _ s.heap K s.toks FM.Le.rfl S ?_);simp only[j9];rw[show(x.cps.toList !=y.cps.toList)=!(x.cps.toList==y.cps.toList) from rfl,Fy];simp
end
def Ib (d:D) (p:y6):Prop:=∀(K:FM) (h:dM) (v:aj),FM.In K h->Rd K d v->∃as,Reads h v p as
def CG (l:List D) (ps:List y6):Prop:=∀(K:FM) (h:dM) (vs:List aj),FM.In K h->cB K l vs->∃as,ReadsAll h vs ps as
theorem xA:Ib (.int i) (.int i):=by
 rintro _ _ _ _ ⟨t,e⟩;exact e▸⟨_,.int i t⟩
theorem Fz:Ib (.str x) (.str x):=by
 rintro _ _ _ _ ⟨t,e⟩;exact e▸⟨_,.str x t⟩
theorem Bi (h:CG l ps):Ib (.tup l) (.tuple ps):=by
 rintro _ _ _ d ⟨_,_,_,e,ha,hr⟩;exact(h _ _ _ d hr).elim λ _ q=>e▸⟨_,.tuple (d _ _ ha) rfl rfl q⟩
theorem Bj (h:CG l ps):Ib (.lst l) (.list ps):=by
 rintro _ _ _ d ⟨_,_,_,e,ha,hr⟩;exact(h _ _ _ d hr).elim λ _ q=>e▸⟨_,.list (d _ _ ha) rfl rfl q⟩
theorem CH:CG [] []:=λ _ _ _ _ e=>e▸⟨_,.nil⟩
theorem nu (h:Ib d p) (t:CG l ps):CG (d::l) (p::ps):=by
 rintro K g _ u ⟨_,_,e,r1,r2⟩;exact(h K g _ u r1).elim λ _ q1=>(t K g _ u r2).elim λ _ q2=>e▸⟨_,.cons q1 q2⟩
section
variable{c:Cx} {G:Gm} {W:Om}
theorem SF (ha:Ib a p) (hb:Ib b q) (t:p.canLay0=true) (d:q.canLay0=true) (u:c.A.units+min p.depth q.depth<cLine):eM c G W a b (.bool (iZ p q)) (bq .Eq):=λ s K x y Q E S r1 r2 k=>by
 obtain⟨as,q1⟩:=ha _ _ _ S.kp r1;obtain⟨bs,q2⟩:=hb _ _ _ S.kp r2;exact SeqAt.compareEq_reads q1 q2 t d u (k _ s.heap K s.toks FM.Le.rfl S (by ext rd))
theorem SG (ha:Ib a p) (hb:Ib b q) (t:p.canLay0=true) (d:q.canLay0=true) (u:c.A.units+min p.depth q.depth<cLine):eM c G W a b (.bool (!iZ p q)) (bq .NotEq):=λ s K x y Q E S r1 r2 k=>by
 obtain⟨as,q1⟩:=ha _ _ _ S.kp r1;obtain⟨bs,q2⟩:=hb _ _ _ S.kp r2;exact SeqAt.compareNe_reads q1 q2 t d u (k _ s.heap K s.toks FM.Le.rfl S (by ext rd))
theorem SH (ha:Ib a p) (hb:CG l ps) (t:p.canLay0=true) (d:eH ps=true) (u:c.A.units+1+min (fE ps) p.depth<cLine):
  eM c G W a (.lst l) (.bool (ps.any λ y=>iZ y p)) (bq .In):=λ s K x y Q E S r1 r2 k=>by
 obtain⟨as,q1⟩:=ha _ _ _ S.kp r1;obtain⟨bs,q2⟩:=Bj hb _ _ _ S.kp r2;exact SeqAt.in_list_reads q2 q1 d t u (k _ s.heap K s.toks FM.Le.rfl S (by ext rd))
theorem Ix (ha:Ib a p) (hb:CG l ps) (t:p.canLay0=true) (d:eH ps=true) (u:c.A.units+1+min (fE ps) p.depth<cLine):
  eM c G W a (.lst l) (.bool (!ps.any λ y=>iZ y p)) (bq .NotIn):=λ s K x y Q E S r1 r2 k=>by
 obtain⟨as,q1⟩:=ha _ _ _ S.kp r1;obtain⟨bs,q2⟩:=Bj hb _ _ _ S.kp r2;exact SeqAt.notIn_list_reads q2 q1 d t u (k _ s.heap K s.toks FM.Le.rfl S (by ext rd))
def As (c:Cx) (G:Gm) (W:Om) (t:cX) (d:D) (G':Gm):Prop:=
 ∀(s:ak) (K:FM) (v:aj) (Q:Unit->ak->Prop) (E:aj->ak->Prop),c.S s K G W->Rd K d v->
  (∀h' K' t',FM.Le K K'->f' c.B c.env.locals h' K' G' W->Q () {s with heap:=h',toks:=t'})->wpAny c.M c.A (assign t c.env v) Q E s
theorem kb (P:un G x d G') (hl:c.env.kindOf x=some .local:=by symm) (H:(c.env.scope.kind==.class||(c.env.scope.kind==.module&&c.env.locals !=c.env.globals))=false:=by symm):
  As c G W (.Name x p) d G':=λ s K v Q E S r k=>by
 refine wpAny_assign_Name ?_;obtain⟨m,hn,M⟩:=S.ns;exact gV hl hn (λ h2 u t=>k h2 K _ FM.Le.rfl (S.store P m M u t r)) H
inductive KR (c:Cx) (W:Om):Gm->List cX->List D->Gm->Prop
 |nil {G:Gm}:KR c W G [] [] G
 |cons {G G1 G':Gm} {e:cX} {r:List cX} {d:D} {t:List D} (h:As c G W e d G1) (hr:KR c W G1 r t G') (hs:ge e=true:=by symm):KR c W G (e::r) (d::t) G'
theorem hH (h:ge e=true):gu (e::r) env=(false,assign e env)::gu r env:=by
 cases e<;>first|rfl|exact(aT h).elim
theorem KR.go (h:KR c W G es ds G'):∀(s:ak) (K:FM) (vs:List aj) (Q:Unit->ak->Prop) (E:aj->ak->Prop),c.S s K G W->cB K ds vs->
  (∀h' K' t',FM.Le K K'->f' c.B c.env.locals h' K' G' W->Q () {s with heap:=h',toks:=t'})->wpAny c.M c.A (assignInOrder ((gu es c.env).map (·.2)) vs) Q E s:=by
 induction h with
 |nil=>intro s K vs Q E S r k;obtain rfl:=r;exact af (k s.heap K s.toks FM.Le.rfl S)
 |cons h hr hs H=>
  intro s K vs Q E S r k;obtain⟨v,d,rfl,r1,r2⟩:=r;rw[hH hs];show wpAny c.M c.A (jH d (assign _ c.env v)>>=λ _=>assignInOrder _ d) Q E s;refine ae (aD (h s K v _ E S r1 λ h1 K1 t1 t S1=>?_));exact H _ K1 d Q E S1 (cB.mono t _ r2) λ h2 K2 t2 u V=>k h2 K2 t2 (t.trans u) V
theorem KR.len (h:KR c W G es ds G'):(gu es c.env).length=ds.length /\ (gu es c.env).findIdx? (·.1)=aH:=by
 induction h with
 |nil=>exact⟨rfl,rfl⟩
 |cons h hr hs d=>
  rw[hH hs];refine⟨by rw[aE,aE,d.1],?_⟩;rw[List.findIdx?_cons,if_neg (by simp),d.2];rfl
theorem Iy (ok:Ok c n) (h:KR c W G es ds G'):As c G W (.Tuple es k p) (.tup ds) G':=λ s K v Q E S r q=>by
 obtain⟨a,vs,ep,rfl,ha,hr⟩:=r;have l:=h.len;refine assign_Tuple_tuple ok.h (items:=al vs) ⟨_,S.kp _ _ ha,rfl,_,rfl⟩ (by rw[l.1];simp[hr.length]) l.2 λ h' t=>?_;have H:f' c.B c.env.locals h' K G W:=by
  have A:=Aft.grow (h':=h') S.kp (S.own) (λ b o e=>t b o (gE (cC e)) e);have:=(S.perm (W':=W++[]) (by simp)).call A
  rwa [ax] at this
 exact h.go _ K vs Q E H hr λ h2 K2 t2 d u=>q h2 K2 t2 d u
theorem sM {P:D->Om->Prop} {R:iD->Prop} (ok:Ok c n) (he:rq c G W e P) (h:∀d W',P d W'->∃G',As c G W' (.Tuple es k tp) d G' /\ Ex c G' W' rest R)
  (hs:swappedStores [.Tuple es k tp] e c.env=pure aH:=by symm) (V:swapsWithSole [.Tuple es k tp] e pos.line c.env=pure false:=by symm):Ex c G W (.Assign [.Tuple es k tp] e pos::rest) R:=
 gy λ s K Q E S t=>by
  show wpAny c.M c.A (jG pos>>=λ _=>swapsWithSole [.Tuple es k tp] e pos.line c.env>>=_) Q E s;refine ae (bn ?_);rw[V];refine ae (af ?_);simp only[bQ,if_false];refine ae (he s K _ E S λ v h1 K1 t1 d W' H S1 r1 p1=>?_);rw[hs];refine ae (af ?_);obtain⟨G',ha,h'⟩:=h d W' p1;show wpAny c.M c.A (assignAll v [assign (.Tuple es k tp) c.env]>>=λ _=>pure .next) Q E _;refine ae (ha _ K1 v _ E S1 r1 λ h2 K2 t2 u S2=>af ?_);exact t .next h2 K2 t2 (H.trans u) ⟨G',W',S2,h'⟩
def GK (e:cX):Bool:=e.ctorIdx==25
structure vi (pr:aG) (w:aB) (A:bU) (K₀:FM) (P P':Nat->Om) (ds:List D) (it:aM) (TB:Bool:=false):Prop where
 item:∀(i:Nat) (d:D),ds[i]?=some d->∀(s:ak) (K:FM) (Q:Option aj->ak->Prop) (E:aj->ak->Prop),FM.Le K₀ K->FM.In K s.heap->gx K s.heap (P i)->
  (∀v h' K' t',Aft K s.heap (P i) K' h' (P' (i+1))->Rd K' d v->
   (∀(target:cX),(TB=true->GK target=true)->∀(s₂:ak) (Q₂:Unit->ak->Prop) (E₂:aj->ak->Prop),s₂.heap=h'->(∀h'',Aft K' h' (P' (i+1)) K' h'' (P (i+1))->Q₂ () {s₂ with heap:=h''})->wpAny (model pr w) A (letOwnedTupleGo target (.ref it) v) Q₂ E₂ s₂)->
   Q (some v) {s with heap:=h',toks:=t'})->wpAny (model pr w) A (pyNext (.ref it)) Q E s
 done:∀(s:ak) (K:FM) (Q:Option aj->ak->Prop) (E:aj->ak->Prop),FM.Le K₀ K->FM.In K s.heap->gx K s.heap (P ds.length)->
  (∀h' K' t',Aft K s.heap (P ds.length) K' h' []->Q none {s with heap:=h',toks:=t'})->wpAny (model pr w) A (pyNext (.ref it)) Q E s
 self:∀(i:Nat) (s:ak) (K:FM) (Q:aj->ak->Prop) (E:aj->ak->Prop),FM.Le K₀ K->FM.In K s.heap->gx K s.heap (P i)->(∀t',Q (.ref it) {s with toks:=t'})->wpAny (model pr w) A (pyIter (.ref it)) Q E s
def RJ (c:Cx) (G:Gm) (W W':Om) (e:cX) (ds:List D) (TB:Bool:=false):Prop:=
 ∀(s:ak) (K:FM) (Q:aj->ak->Prop) (E:aj->ak->Prop),c.S s K G W->
  (∀it P P' h' K' t',FM.Le K K'->f' c.B c.env.locals h' K' G (P 0++W')->vi c.pr c.w c.A K' P P' ds it TB->Q (.ref it) {s with heap:=h',toks:=t'})->
  wpAny c.M c.A (eval e c.env) (λ x d=>wpAny c.M c.A (pyIter x) Q E d) E s
abbrev KS (c:Cx) (G:Gm) (W:Om) (e:cX) (ds:List D) (TB:Bool:=false):Prop:=RJ c G W W e ds TB
theorem f'.grow {B:Bs} {L:aM} {h h':dM} {K:FM} (S:f' B L h K G W) (k:∀b o,h.get? b=some o->h'.get? b=some o):f' B L h' K G W:=by
 have:=(S.perm (W':=W++[]) (by simp)).call (Aft.grow S.kp S.own k)
 rwa [ax] at this
theorem f'.new {B:Bs} {L:aM} {h:dM} {K:FM} (S:f' B L h K G W) (x:Obj) {b:Ob} (hb:b.is K x) (hf:x.isFreed=false:=by symm):f' B L (h.push x) K G ((h.objs.size,b)::W):=
 (S.perm (W':=[]++W) (by simp)).call (Aft.pushOwn (Wi:=[]) S.kp gx.nil x hb hf)
theorem f'.newFz {B:Bs} {L:aM} {h:dM} {K:FM} (S:f' B L h K G W) (x:Obj) (hf:x.isFreed=false:=by symm):f' B L (h.push x) (K.add h.objs.size x) G W:=
 (S.perm (W':=[]++W) (by simp)).call (Aft.pushFz (Wi:=[]) S.kp gx.nil x hf)
theorem f'.turn {B:Bs} {L:aM} {h h':dM} {K:FM} {a:aM} {b b':Ob} (S:f' B L h K G ((a,b)::W)) (hs:∀x o,x≠a->h.get? x=some o->h'.get? x=some o) {o:Obj} (d:h'.get? a=some o) (hb:b'.is K o):f' B L h' K G ((a,b')::W):=
 (S.perm (W':=[(a,b)]++W) (by simp)).call (Aft.turn (Wi:=[]) S.kp (gx.left (W':=W) S.own) hs d hb)
theorem f'.drop {B:Bs} {L:aM} {h:dM} {K:FM} {p:aM×Ob} (S:f' B L h K G (p::W)):f' B L h K G W:=(S.perm (aI p W).symm).left
theorem f'.turnDrop {B:Bs} {L:aM} {h h':dM} {K:FM} {a:aM} {b:Ob} (S:f' B L h K G ((a,b)::W)) (hs:∀x o,x≠a->h.get? x=some o->h'.get? x=some o):f' B L h' K G W:=by
 refine(S.perm (W':=[(a,b)]++W) (by simp)).call (Wo:=[]) ⟨FM.Le.rfl,?_,?_,λ _ _ e=>.inl e,gx.nil,λ _ h=>(nomatch h)⟩
 .intro x o e;exact hs x o (λ q=>by obtain⟨u,q1,q2,d⟩:=S.own.at_ _ (ag ..);rw[q,d] at e;cases e) (S.kp _ _ e)
 .intro x o e t;exact hs x o (λ q=>t (by rw[q];simp)) e
theorem uo {Q:Unit->ak->Prop} {E:aj->ak->Prop} (d:s.heap.get? it=some o) (hc:o.cls=.type T) (hd:o.data=.fields vs)
  (t:["enumerate","zip","dict_itemiterator","dict_reverseitemiterator","odict_iterator","itertools.zip_longest","itertools.pairwise"].contains T=false) (h:Q () s):wpAny (model pr w) A (letOwnedTupleGo target (.ref it) v) Q E s:=by
 have key:∀a,wpAny (model pr w) A (do
   let o<-load it
   match o.cls,o.data with
   |.type n,.fields vs=>
    if["enumerate","zip","dict_itemiterator","dict_reverseitemiterator","odict_iterator","itertools.zip_longest","itertools.pairwise"].contains n&&vs[0]?==some (rawInt a) then
     rule "for.unpacks-the-owned-tuple"
     updateField it 0 .none
   |_,_=>pure ():Sem Unit) Q E s:=λ a=>by
  refine ae (jT d ?_);rw[hc,hd];dsimp only;rw[t];exact af h
 cases target<;>first|exact af h|(cases v<;>first|exact af h|exact key _)
theorem Aft.end1 {K:FM} {h h':dM} {a:aM} {b:Ob} (kp:FM.In K h) (o:gx K h [(a,b)]) (k:∀c o,c≠a->h.get? c=some o->h'.get? c=some o):Aft K h [(a,b)] K h' []:=by
 obtain⟨y,q1,q2,d⟩:=o.at_ _ (ag ..);exact⟨FM.Le.rfl,λ c z e=>k c z (λ q=>by rw[q,d] at e;cases e) (kp c z e),λ c z e hc=>k c z (λ q=>hc (by rw[q];exact ag ..)) e,λ _ _ e=>.inl e,gx.nil,λ _ h=>(nomatch h)⟩
def eg (l:aM) (i:Nat) (o:Obj):Prop:=o.cls=.type "list_iterator" /\ o.data=.fields #[.ref l,.int i 0]
theorem sO {e} (hA:A.handled=none) (hl:K₀ l=some ⟨.type "list",aH,.seq (al vs) e,#[]⟩) (hr:cB K₀ ds vs):vi pr w A K₀ (λ i=>[(it,.pred (eg l i))]) (λ i=>[(it,.pred (eg l i))]) ds it where
 item i d hd s K Q E k0 kp o k:=by
  obtain⟨v,hv,r⟩:=hr.get hd;obtain⟨ob,H,⟨u,t⟩,a3⟩:=o.at_ _ (ag ..);have V:s.heap.IsList l (al vs):=⟨_,kp _ _ (k0 _ _ hl),rfl,_,rfl⟩;refine wpAny_pyNext_list_item (x:=v) ⟨ob,H,u,t⟩ V (by simpa using hv) λ h' hi hs=>?_;obtain⟨o',c1,c2,c3⟩:=hi;have A1:=Aft.turn (b':=.pred (eg l (i+1))) kp o (λ x o M e=>(hs.2 x M).trans e) c1 ⟨c2,c3⟩;refine k v h' K s.toks A1 (Rd.mono k0 _ r) λ target _ γ δ ε β q=>uo (β▸c1) c2 c3 (by decide) ?_;have:=q h' (Aft.same A1.kp A1.own);rw[<-β] at this;exact this
 done s K Q E k0 kp o k:=by
  obtain⟨ob,H,⟨u,t⟩,a3⟩:=o.at_ _ (ag ..);have V:s.heap.IsList l (al vs):=⟨_,kp _ _ (k0 _ _ hl),rfl,_,rfl⟩;refine wpAny_pyNext_list_end hA ⟨ob,H,u,t⟩ V (by simp[hr.length]) λ h' hs=>?_;exact k h' K s.toks (Aft.end1 kp o λ x o M e=>hs x o M e)
 self i s K Q E k0 kp o k:=by
  obtain⟨ob,H,⟨u,t⟩,a3⟩:=o.at_ _ (ag ..);exact wpAny_pyIter_listiter ⟨ob,H,u,t⟩ (k s.toks)
theorem eZ (ok:Ok c n) (u:Ev c G W e (.lst ds)):KS c G W e ds:=λ s K Q E S k=>
 u s K _ E S λ v h1 K1 t1 t d r1=>by
  obtain⟨l,vs,ep,rfl,hl,hr⟩:=r1;refine jI (items:=al vs) ⟨_,d.kp _ _ hl,rfl,_,rfl⟩ ?_;exact k _ (λ i=>[(_,.pred (eg l i))]) (λ i=>[(_,.pred (eg l i))]) _ K1 t1 t (d.new _ (b:=.pred (eg l 0)) ⟨rfl,rfl⟩) (sO ok.h hl hr)
def SI (c:Cx) (p:Nat->Om) (i:Nat) (I:Nat->Gm->Om->Prop) (rest:List eX) (R:iD->Prop):iD->Prop
 |.next G' W'=>∃t,W'.Perm (p i++t) /\ I i G' t
 |.cont G' W'=>∃t,W'.Perm (p i++t) /\ I i G' t
 |.brk G' W'=>Ex c G' W' rest R
 |.ret d W'=>R (.ret d W')
theorem Ek {R:iD->Prop} (hi:RJ c G W W₁ iter ds TB) (I:Nat->Gm->Om->Prop) (h0:I 0 G W₁)
  (β:∀i d,ds[i]?=some d->∀G W,I i G W->∀p:Nat->Om,∃G',As c G (p (i+1)++W) target d G' /\ Ex c G' (p (i+1)++W) body (SI c p (i+1) I rest R))
  (done:∀G W,I ds.length G W->Ex c G W rest R)
  (hs:∀x,foldedSetIterable iter c.env x=pure x:=by intro _;symm) (ht:TB=true->GK target=true:=by first|exact λ _=>rfl|exact λ h=>nomatch h):Ex c G W (.For target iter body [] pos::rest) R:=by
 intro s K Q E S k;refine iI (wpAny_For (hi s K _ E S λ it P P' ε K0 t0 k0 S0 IT=>?_) hs)
 let PP:H9->ak->Prop:=λ f H=>match f with
  |.next=>wpAny c.M c.A (execs rest c.env) Q E H
  |f=>Q f H
 refine fv (R:=λ r H=>match r with|.ok f=>PP f H|.error _=>False) ?_ ?_
 .let J:Nat->ak->Prop:=λ n H=>∃i K' h' t' G' W',n=ds.length-i /\ i <= ds.length /\ H={s with heap:=h',toks:=t'} /\ FM.Le K0 K' /\ f' c.B c.env.locals h' K' G' (P i++W') /\ I i G' W'
  refine codeAny_forLoop_any J ?_ ds.length ⟨0,K0,ε,t0,G,W₁,rfl,aU _,rfl,FM.Le.rfl,S0,h0⟩;rintro n H ⟨i,K1,h1,t1,G1,W1,rfl,γ,rfl,k1,S1,i1⟩;have go:∀(G2:Gm) (W2:Om) (K2:FM) (h2:dM) (t2:Nat),FM.Le K K2->f' c.B c.env.locals h2 K2 G2 W2->Ex c G2 W2 rest R->wpAny c.M c.A (execs rest c.env) Q E {s with heap:=h2,toks:=t2}:=
   λ G2 W2 K2 h2 t2 k2 S2 r=>r {s with heap:=h2,toks:=t2} K2 Q E S2 λ f h3 K3 t3 k3 e3=>k f h3 K3 t3 (k2.trans k3) e3
  by_cases t:i<ds.length
  .refine IT.item i ds[i] (by simp[t]) {s with heap:=h1,toks:=t1} K1 _ _ k1 S1.kp S1.own.left λ v h2 K2 t2 A2 r2 lg=>?_;have k2:=A2.le;have S2:=S1.call A2;obtain⟨G3,ha,hb⟩:=β i ds[i] (by simp[t]) G1 W1 i1 P;refine lg target ht _ _ _ rfl λ δ η=>?_;have ζ:=S2.call η;refine ha {s with heap:=δ,toks:=t2} K2 v _ _ ζ r2 λ h3 K3 t3 k3 S3=>?_;refine hb {s with heap:=h3,toks:=t3} K3 _ _ S3 λ f h4 K4 t4 k4 e4=>?_;have u:FM.Le K0 K4:=((k1.trans k2).trans k3).trans k4;cases f with
   |next=>obtain⟨G4,W4,V,W5,tk,i4⟩:=e4;exact⟨ds.length-(i+1),KP dX (dE (zu t)),i+1,K4,h4,t4,G4,W5,rfl,t,rfl,u,V.perm tk,i4⟩
   |cont=>obtain⟨G4,W4,V,W5,tk,i4⟩:=e4;exact⟨ds.length-(i+1),KP dX (dE (zu t)),i+1,K4,h4,t4,G4,W5,rfl,t,rfl,u,V.perm tk,i4⟩
   |brk=>obtain⟨G4,W4,V,r4⟩:=e4;exact go G4 W4 K4 h4 t4 (k0.trans u) V r4
   |ret v=>obtain⟨d,G4,W4,V,r4,q4⟩:=e4;exact k _ h4 K4 t4 (k0.trans u) ⟨d,G4,W4,V,r4,q4⟩
  .have e:i=ds.length:=ai γ (tG t);subst e;refine IT.done {s with heap:=h1,toks:=t1} K1 _ _ k1 S1.kp S1.own.left λ h2 K2 t2 A2=>?_;exact rh (go G1 W1 K2 h2 t2 ((k0.trans k1).trans A2.le) (S1.call A2) (done G1 W1 i1))
 .intro r H h;cases r with
  |ok f=>exact h
  |error e=>exact h.elim
end
inductive vf:Gm->Str->D->Prop
 |head {x:Str} {d:D} {G:Gm}:vf ((x,d)::G) x d
 |tail {x:Str} {d:D} {p:Str×D} {G:Gm} (h:vf G x d):vf (p::G) x d
theorem vf.mem (h:vf G x d):(x,d)∈G:=by
 induction h with
 |head=>exact ag ..
 |tail _ t=>exact ao _ t
theorem vf.put:vf (L8 G x d) x d:=by unfold L8;exact .head
theorem vf.of_mem:∀{G:Gm},(x,d)∈G->vf G x d
 |p::G,h=>by
  rcases ap.mp h with rfl|h
  .exact .head
  .exact .tail (vf.of_mem h)
theorem vf.over (h:vf G y e) (hn:(y==x)=false):vf (L8 G x d) y e:=
 vf.of_mem (ao _ (hY.mpr ⟨h.mem,by simp[hn]⟩))
inductive Sub:Gm->Gm->Prop
 |nil {G:Gm}:Sub [] G
 |cons {G G':Gm} {x:Str} {d:D} (h:vf G x d) (t:Sub G' G):Sub ((x,d)::G') G
theorem Sub.all (h:Sub G' G):∀p∈G',p∈G:=by
 induction h with
 |nil=>intro p d;cases d
 |cons h _ t=>
  intro p d;rcases ap.mp d with rfl|d
  .exact h.mem
  .exact t p d
section
variable{c:Cx} {G:Gm} {W:Om}
theorem U6 (t:vf G x d) (u:c.env.scope.kind=.function:=by symm) (hl:c.env.kindOf x=some .local:=by symm) (hd:(x==("__debug__":Str))=false:=by symm):
  Ev c G W (.Name x pos) d:=L5 t.mem u hl hd
theorem Iz {G':Gm} {W':Om} {st:List eX} {R:iD->Prop} (g:Sub G' G) (p:cv W W' []) (h:Ex c G' W' st R):Ex c G W st R:=L6 g.all (L7 p h)
def Ty (c:Cx) (W:Om) (d:D) (T:String):Prop:=∀(s:ak) (K:FM) (G:Gm) (v:aj),c.S s K G W->Rd K d v->s.TypeIs v T /\ ∀a,v=.ref a->∃ob,s.heap.get? a=some ob /\ ob.dict=aH
theorem Bk:Ty c W (.str x) "str":=λ s K G v S r=>by obtain⟨t,rfl⟩:=r;exact⟨rfl,λ a e=>nomatch e⟩
theorem uq (t:gc W (a,.list l) Wr):Ty c W (.val (.ref a)) "list":=λ s K G v S r=>by
 simp only[j9] at r;subst r;obtain⟨o,h1,⟨vs,e,rfl,_⟩,_⟩:=(S.perm t.perm).own.at_ _ (ag ..);exact⟨⟨_,h1,rfl⟩,λ b q=>by cases q;exact⟨_,h1,rfl⟩⟩
theorem Bl:∀{es:List cX} {ds:List D},vd c G W es ds->(backTo pos (gQ es c.env)).all (λ x=>!x.1)=true
 |[],_,_=>rfl
 |e::r,ds,h=>by
  obtain⟨d,t,rfl,hs,u,hr⟩:=h;rw[cj hs];show(true&&(backTo pos (gQ r c.env)).all (λ x=>!x.1))=true;rw[Bl hr];rfl
theorem pq {n:Nat} {T:String} {o:cX} {name:Str} {apos pos:Pos} {es:List cX} {β:D} {ds:List D} {id:String} {Wi Wr:Om} {P:D->Om->Prop} (ok:Ok c n) (ho:Ev c G W o β) (ty:Ty c W β T) (pa:PlainAttrs T) (slot:y7 T name id)
  (V:typeOf (.builtin id)=pure (.type "method_descriptor")) (he:vd c G W es ds) (t:cv W Wi Wr) (hf:Fn c.pr c.w c.T n (.builtin id) (β::ds) Wi P)
  (H:bE o name c.env (eval o c.env)=eval o c.env:=by symm) (u:(apos.endLine==pos.line)=true:=by symm) (M:decide (es.length<30)=true:=by symm):
  rq c G W (.Call (.Attribute o name apos) es [] pos) (λ d W'=>∃Wo,P d Wo /\ W'=Wo++Wr):=λ s K Q E S k=>by
 refine lG H ?_ u rfl (ho s K _ E S λ v h1 K1 t1 k1 S1 r1=>?_)
 .rw[Bl he];show(true&&true&&decide (es.length+0+0<30))=true;simpa using M
 .obtain⟨hT,hD⟩:=ty {s with heap:=h1,toks:=t1} K1 G v S1 r1;refine⟨T,id,pa,slot,V,hT,hD,?_⟩;refine jk ok iu he _ K1 Q E S1 λ vs h2 K2 t2 k2 S2 r2=>?_;refine sJ ok t hf _ K2 (v::vs) Q E S2 (cB.cons (Rd.mono k2 _ r1) r2) λ v h3 K3 t3 d Wo k3 S3 r3 p=>k v h3 K3 t3 d _ ((k1.trans k2).trans k3) S3 r3 ⟨Wo,p,rfl⟩
theorem xB {n:Nat} {T:String} {o:cX} {name:Str} {apos pos:Pos} {es:List cX} {β d:D} {ds:List D} {id:String} {Wi Wr:Om} (ok:Ok c n) (ho:Ev c G W o β) (ty:Ty c W β T) (pa:PlainAttrs T) (slot:y7 T name id)
  (V:typeOf (.builtin id)=pure (.type "method_descriptor")) (he:vd c G W es ds) (t:cv W Wi Wr) (hf:Fn c.pr c.w c.T n (.builtin id) (β::ds) Wi (Is d Wi))
  (H:bE o name c.env (eval o c.env)=eval o c.env:=by symm) (u:(apos.endLine==pos.line)=true:=by symm) (M:decide (es.length<30)=true:=by symm):
  Ev c G W (.Call (.Attribute o name apos) es [] pos) d:=λ s K Q E S k=>
 pq ok ho ty pa slot V he t hf H u M s K Q E S λ v h' K' t' d' W' a b r p=>by
  obtain⟨Wo,⟨rfl,rfl⟩,rfl⟩:=p;exact k v h' K' t' a (vX t b) r
theorem SJ {α β γ δ:Type} {F:α->β->γ->δ->Prop} (a:α) (b:β) (c:γ) (d:δ) (h:∀X:α->β->γ->δ->Prop,(∀a b c d,F a b c d->X a b c d)->X a b c d):F a b c d:=h F λ _ _ _ _ q=>q
theorem SK {α β γ δ ε:Type} {F:α->β->γ->δ->ε->Prop} (a:α) (b:β) (c:γ) (d:δ) (e:ε) (h:∀X:α->β->γ->δ->ε->Prop,(∀a b c d e,F a b c d e->X a b c d e)->X a b c d e):F a b c d e:=h F λ _ _ _ _ _ q=>q
theorem Ul {R:iD->Prop} (h:∀d:iD->Prop,(∀o,R o->d o)->Ex c G W l d):Ex c G W l R:=h R λ _ q=>q
theorem fG {R:iD->Prop} (u:Tt c G W d true) (h:Ex c G W body (q6 c rest R)):Ex c G W (.If d body t pos::rest) R:=rN u h
theorem br {R:iD->Prop} (u:Tt c G W t false) (h:Ex c G W d (q6 c rest R)):Ex c G W (.If t body d pos::rest) R:=rN u h
theorem dY {R:iD->Prop} (u:Tt c G W t b) (h1:b=true->Ex c G W body (q6 c rest R)) (h2:b=false->Ex c G W d (q6 c rest R)):Ex c G W (.If t body d pos::rest) R:=
 rN u (by cases b with
  |true=>exact h1 rfl
  |false=>exact h2 rfl)
theorem FA {R:iD->Prop} (H:rq c G W e (λ d W₁=>d=.none /\ W₁=W')) (h:Ex c G W' rest R)
  (hi:interactive c.env=false:=by symm) (t:km e aH pos.line c.env=pure false:=by symm):Ex c G W (.Expr e pos::rest) R:=
 gy λ s K Q E S k=>qG (H s K _ E S λ v h1 K1 t1 d W1 u M r1 p1=>by
  obtain⟨rfl,rfl⟩:=p1;simp only[j9] at r1;subst r1;exact k .next h1 K1 t1 u ⟨G,_,M,h⟩) hi t
theorem aV {R:iD->Prop} (h:Ex c G W rest R):Ex c G W [] (q6 c rest R):=aY h
theorem U7 {R:iD->Prop} (h:Ex c G W rest R) (hi:interactive c.env=false:=by symm):Ex c G W (.Expr (.Constant (.str x) k p) pos::rest) R:=
 gy λ s K Q E S q=>qG (Iv (c:=c) (G:=G) (W:=W) s K _ E S λ v h1 K1 t1 d u r1=>by
  obtain⟨t,rfl⟩:=r1;exact q .next h1 K1 t1 d ⟨G,_,u,h⟩) hi rfl
theorem fa (u:vd c G W es ds) (hn:decide (ds.length <= 1000)=true:=by symm):Ev c G W (.Tuple es k pos) (.tup ds):=λ s K Q E S h=>
 tn (ql u s K _ E S λ vs h1 K1 t1 t d r1=>⟨by rw[r1.length,ay];have:=of_decide_eq_true hn;exact Lr this,by
  have v:=d.newFz {cls:=.type "tuple",data:=.seq vs.toArray};have le:=FM.le_add (o:={cls:=.type "tuple",data:=.seq vs.toArray}) (iU d.kp);refine h _ _ _ t1 (t.trans le) v ?_;simp only[j9];exact⟨_,vs,0,rfl,FM.add_self,cB.mono le _ r1⟩⟩)
theorem xC (u:vd c G W es ds) (hn:decide (ds.length <= 1000)=true:=by symm):Ev c G W (.List es pos) (.lst ds):=λ s K Q E S h=>
 uM (ql u s K _ E S λ vs h1 K1 t1 t d r1=>⟨by rw[r1.length,ay];have:=of_decide_eq_true hn;exact Lr this,by
  have v:=d.newFz {cls:=.type "list",data:=.seq vs.toArray};have le:=FM.le_add (o:={cls:=.type "list",data:=.seq vs.toArray}) (iU d.kp);refine h _ _ _ t1 (t.trans le) v ?_;simp only[j9];exact⟨_,vs,0,rfl,FM.add_self,cB.mono le _ r1⟩⟩)
theorem nA (u:vd c G W es ds) (hn:decide (ds.length <= 1000)=true:=by symm):rq c G W (.List es pos) (λ d W'=>∃a,d=.val (.ref a) /\ W'=(a,.list ds)::W):=λ s K Q E S h=>
 uM (ql u s K _ E S λ vs h1 K1 t1 t H r1=>⟨by rw[r1.length,ay];have:=of_decide_eq_true hn;exact Lr this,by
  have v:=H.new {cls:=.type "list",data:=.seq vs.toArray} (b:=.list ds) ⟨vs,0,rfl,r1⟩;exact h _ _ _ t1 _ _ t v (by simp only[j9]) ⟨_,rfl,rfl⟩⟩)
theorem xK (ht:Tt c G W t v) (h:Ev c G W (cond v a b) d):Ev c G W (.IfExp t a b pos) d:=λ s K Q E S k=>
 wpAny_IfExp (ht s K _ E S λ h1 K1 t1 M V=>by
  cases v with
  |true=>exact h _ K1 Q E V λ v h2 K2 t2 u H r2=>k v h2 K2 t2 (M.trans u) H r2
  |false=>exact h _ K1 Q E V λ v h2 K2 t2 u H r2=>k v h2 K2 t2 (M.trans u) H r2)
theorem bS (ho:Ev c G W o (.lst l)) (hi:Ev c G W i (.int k)) (h0:0 <= k) (hk:k<2^63) (hd:l[k.toNat]?=some d)
  (hs:∀(a:aM) (u:Tok),subscripted i false (.ref a) (.int k u)=operate [.ref a,.int k u] (getItem (.ref a) (.int k u)):=by intro _ _;symm):Ev c G W (.Subscript o i pos) d:=λ s K Q E S h=>
 y8 (ho s K _ E S λ x h1 K1 t1 V S1 r1=>hi _ K1 _ E S1 λ y h2 K2 t2 t M r2=>by
  have r1:=Rd.mono t _ r1;simp only[j9] at r1 r2;obtain⟨a,vs,ep,rfl,ha,hr⟩:=r1;obtain⟨u,rfl⟩:=r2;obtain⟨v,hv,r⟩:=hr.get hd;have H:({s with heap:=h2,toks:=t2}:ak).heap.IsList a (al vs):=⟨_,M.kp _ _ ha,rfl,_,rfl⟩;exact tail_any H.typeIs slot_list_getitem.lookup (wpAny_getItem_list H h0 hk (by simpa using hv) (h v h2 K2 t2 (V.trans t) M r)) (hs a u))
theorem ur (ho:Ev c G W o (.tup l)) (hi:Ev c G W i (.int k)) (h0:-(2^63) <= k) (hk:k<2^63) (hj:seqIndex? k l.length=some j) (hd:l[j]?=some d)
  (hs:∀(a:aM) (u:Tok),subscripted i false (.ref a) (.int k u)=operate [.ref a,.int k u] (getItem (.ref a) (.int k u)):=by intro _ _;symm):Ev c G W (.Subscript o i pos) d:=λ s K Q E S h=>
 y8 (ho s K _ E S λ x h1 K1 t1 M S1 r1=>hi _ K1 _ E S1 λ y h2 K2 t2 t H r2=>by
  have r1:=Rd.mono t _ r1;simp only[j9] at r1 r2;obtain⟨a,vs,ep,rfl,ha,hr⟩:=r1;obtain⟨u,rfl⟩:=r2;obtain⟨v,V,r⟩:=hr.get hd;have hL:D2 ({s with heap:=h2,toks:=t2}:ak).heap a (al vs):=⟨_,H.kp _ _ ha,rfl,_,rfl⟩;exact item_tupleT hL h0 hk (by rw[hr.length];exact hj) V (h v h2 K2 t2 (M.trans t) H r) (hs a u))
def sl {α:Type} (lo hi:Option Int) (l:List α):List α:=(l.drop (lo.elim 0 (clipAt l.length))).take (hi.elim l.length (clipAt l.length)-lo.elim 0 (clipAt l.length))
def GL (c:Cx) (G:Gm) (W:Om):Option cX->Option Int->Prop
 |.none,k=>k=.none
 |some e,k=>∃i,k=some i /\ Ev c G W e (.int i)
theorem xL:GL c G W .none .none:=rfl
theorem xM (h:Ev c G W e (.int i)):GL c G W (some e) (some i):=⟨i,rfl,h⟩
theorem GL.go (h:GL c G W e k) (s:ak) (K:FM) (Q:aj->ak->Prop) (E:aj->ak->Prop) (S:c.S s K G W)
  (q:∀v h' K' t',FM.Le K K'->f' c.B c.env.locals h' K' G W->(∃l:Option (Int×Tok),v=partValue l /\ l.map (·.1)=k)->Q v {s with heap:=h',toks:=t'}):wpAny c.M c.A (evalPart e c.env) Q E s:=by
 cases e with
 |none=>
  have h:k=.none:=h;subst h;rw[oU];exact af (q _ s.heap K s.toks FM.Le.rfl S ⟨.none,rfl,rfl⟩)
 |some e=>
  obtain⟨i,rfl,h⟩:=h;exact h s K Q E S λ v h' K' t' a b r=>by
   obtain⟨t,rfl⟩:=r;exact q _ h' K' t' a b ⟨some (i,t),rfl,rfl⟩
theorem FC (lo hi:Option Int) (n:Nat):nk lo hi 1 n=sliceRange (((lo.elim 0 (clipAt n):Nat):Int)) (((hi.elim n (clipAt n):Nat):Int)) 1:=by
 have h:nk lo hi 1 n=sliceRange (sliceBounds lo hi none n).1 (sliceBounds lo hi none n).2.1 1:=by
  cases lo<;>cases hi<;>rfl
 rw[h,sliceBounds_plain]
theorem IA (x:Str) (l u:Option (Int×Tok)):(slicePicked x l u .none).filterMap (x.cps[·]?)=sl (l.map (·.1)) (u.map (·.1)) x.cps.toList:=by
 unfold slicePicked sl;simp only[pQ,gv];rw[FC,y9,pick_run];simp[bA]
theorem GN (n:Nat) (i:Int):clipAt n i <= n:=Int.toNat_le.2 (Int.max_le.2 ⟨nN n,Int.min_le_right _ _⟩)
theorem IB (x:Str) (l u:Option (Int×Tok)) (h:(slicePicked x l u .none).length=x.length):x=⟨(sl (l.map (·.1)) (u.map (·.1)) x.cps.toList).toArray⟩:=by
 have e:=IA x l u;have d:=h;unfold slicePicked at d;simp only[pQ,gv] at d;rw[FC,y9] at d;simp only[ah,vI] at d;have v:((u.map (·.1)).elim x.length (clipAt x.length)) <= x.length:=by
  cases u.map (·.1) with
  |none=>exact aR _
  |some i=>exact GN _ i
 have t:(sl (l.map (·.1)) (u.map (·.1)) x.cps.toList).length=x.cps.toList.length:=by
  unfold sl;simp only[bL,eo,iC];have q:x.length=x.cps.size:=rfl;rw[q] at d v;rw[d];exact kR (aL (iX d.symm) (Nat.sub_le_sub_right v _))
 have hs:(sl (l.map (·.1)) (u.map (·.1)) x.cps.toList)=x.cps.toList:=by
  apply zp ?_ t;unfold sl;exact(vJ ..).trans (List.drop_sublist ..)
 rw[hs]
theorem vj (n i:Nat):clipAt n (i:Int)=min i n:=by
 unfold clipAt;rw[if_neg (Int.not_lt.mpr (nN i)),<-zQ,Int.max_eq_right (nN _),eI]
theorem xN {α:Type} {i j:Nat} {l:List α} (h1:i <= j) (h2:j <= l.length):sl (some (i:Int)) (some (j:Int)) l=(l.drop i).take (j-i):=by
 show(l.drop (clipAt l.length i)).take (clipAt l.length j-clipAt l.length i)=_;rw[vj,vj,kR h2,kR (aL h1 h2)]
theorem Bm {α:Type} (l:List α) (i:Nat):sl none (some (i:Int)) l=l.take i:=by
 show l.take (clipAt l.length i)=_;rw[vj,<-za,bF]
theorem FD {α:Type} (k:Nat) (l:List α):sl (some (k:Int)) none l=l.drop k:=by
 show(l.drop (clipAt l.length k)).take (l.length-clipAt l.length k)=_;rw[vj,<-eo,bF];by_cases h:k <= l.length
 .rw[kR h]
 .rw[wq (wv h),List.drop_length,bN (wv h)]
theorem Bn {α:Type} (l u:Option Int) (xs:List α):(sl l u xs).length <= xs.length:=by
 unfold sl;simp only[bL,eo];exact aL (cD _ _) (bG _ _)
theorem xO {Q:aj->ak->Prop} (d:x.length <= aO) (h:∀t' tk,Q (.str ⟨(sl (l.map (·.1)) (u.map (·.1)) x.cps.toList).toArray⟩ t') {s with toks:=tk}):(sliceMade x t l u .none).post Q s:=by
 unfold sliceMade
 split
 .rename_i hc;simp only[gv,pQ,bB,beq_iff_eq] at hc;have:=h t s.toks;rw[<-IB x l u hc.2] at this;exact this
 .rw[IA];refine⟨?_,h _ _⟩;refine aL ?_ d;show(al _).size <= x.cps.size;rw[aN];exact Bn ..
def sP (l u:Option Int) (x:Str):Str:=⟨(sl l u x.cps.toList).toArray⟩
theorem Mb {o:cX} {lo hi:Option cX} {p pos:Pos} {x:Str} {l u:Option Int} (ho:Ev c G W o (.str x)) (hl:GL c G W lo l) (hu:GL c G W hi u) (d:x.length <= aO)
  (ht:∀a b,letTemporaryGo o a b=pure ():=by intro _ _;symm):Ev c G W (.Subscript o (.Slice lo hi .none p) pos) (.str (sP l u x)):=λ s K Q E S k=>
 wpAny_Subscript_str_slice (ho s K _ E S λ v h1 K1 t1 k1 S1 r1=>hl.go _ K1 _ E S1 λ vl h2 K2 t2 V S2 el=>hu.go _ K2 _ E S2 λ vu h3 K3 t3 M S3 eu=>by
  obtain⟨t,rfl⟩:=r1;obtain⟨l',rfl,rfl⟩:=el;obtain⟨H,rfl,rfl⟩:=eu;refine⟨x,t,l',H,rfl,rfl,rfl,xO d λ t' tk=>?_⟩;exact k _ _ K3 tk ((k1.trans V).trans M) (S3.grow (λ b o e=>aA _ e)) ⟨t',rfl⟩) ht
theorem GL.part (h:l.map (·.1)=k):IsPart (partValue l) k:=by
 cases l with
 |none=>subst h;exact .none
 |some p=>subst h;exact .int p.1 p.2
theorem cB.sl {K:FM} {ds:List D} {vs:List aj} (h:cB K ds vs) (l u:Option Int):cB K (La.sl l u ds) (La.sl l u vs):=by
 have H:∀(n:Nat) {ds:List D} {vs:List aj},cB K ds vs->cB K (ds.drop n) (vs.drop n):=by
  intro n
  induction n with
  |zero=>intro ds vs h;simpa using h
  |succ n t=>
   intro ds vs h;cases ds with
   |nil=>simp only[ro] at h;subst h;simp only[List.drop_nil,ro]
   |cons d ds=>simp only[ro] at h;obtain⟨v,r,rfl,_,h⟩:=h;simpa using t h
 have tk:∀(n:Nat) {ds:List D} {vs:List aj},cB K ds vs->cB K (ds.take n) (vs.take n):=by
  intro n
  induction n with
  |zero=>intro ds vs h;simp only[nO,ro]
  |succ n t=>
   intro ds vs h;cases ds with
   |nil=>simp only[ro] at h;subst h;simp only[List.take_nil,ro]
   |cons d ds=>simp only[ro] at h;obtain⟨v,r,rfl,h1,h⟩:=h;exact cB.cons h1 (t h)
 unfold La.sl;rw[h.length];exact tk _ (H _ h)
theorem oM {o:cX} {lo hi:Option cX} {p pos:Pos} {x:List D} {l u:Option Int} (ho:Ev c G W o (.lst x)) (hl:GL c G W lo l) (hu:GL c G W hi u) (d:x.length <= aO)
  (ht:∀a b,letTemporaryGo o a b=pure ():=by intro _ _;symm):Ev c G W (.Subscript o (.Slice lo hi .none p) pos) (.lst (sl l u x)):=λ s K Q E S k=>
 wpAny_Subscript_list_slice (ho s K _ E S λ v h1 K1 t1 k1 S1 r1=>hl.go _ K1 _ E S1 λ vl h2 K2 t2 V S2 H=>hu.go _ K2 _ E S2 λ vu h3 K3 t3 M S3 t=>by
  have r1:=Rd.mono (V.trans M) _ r1;simp only[j9] at r1;obtain⟨a,vs,ep,rfl,ha,hr⟩:=r1;obtain⟨l',rfl,H⟩:=H;obtain⟨u',rfl,t⟩:=t;refine⟨a,al vs,l,u,rfl,⟨_,S3.kp _ _ ha,rfl,_,rfl⟩,by simpa [hr.length] using d,GL.part H,GL.part t,?_⟩;have e:slicePick (al vs) l u .none=al (sl l u vs):=by rw[slicePick_plain];rfl
  rw[e];have S4:=S3.grow (h':=h3.push {cls:=.type "slice",data:=.fields #[partValue l',partValue u',.none]}) (λ b o e=>aA _ e);have S5:=S4.newFz {cls:=.type "list",data:=.seq (al (sl l u vs))};have le:=FM.le_add (o:={cls:=.type "list",data:=.seq (al (sl l u vs))}) (iU S4.kp);rw[jU] at S5 le;refine k _ _ _ t3 (((k1.trans V).trans M).trans le) S5 ?_;simp only[j9];exact⟨_,_,0,rfl,FM.add_self,cB.mono le _ (hr.sl l u)⟩) ht
end
section
variable{pr:aG} {w:aB} {T:FM} {n:Nat}
theorem iW (h:∀(A:bU) (s:ak) (K:FM) (vs:List aj) (Q:aj->ak->Prop) (E:aj->ak->Prop),A.handled=none->A.depth+n <= 990->A.units+3*n <= 9000->FM.Le T K->FM.In K s.heap->gx K s.heap Wi->cB K ds vs->
  (∀v h' t',(∀b o,s.heap.get? b=some o->h'.get? b=some o)->Rd K d v->Q v {s with heap:=h',toks:=t'})->wpAny (model pr w) A (call f vs) Q E s):Fn pr w T n f ds Wi (Is d Wi):=
 λ A h1 h2 h3 s K vs Q E u t r o k=>h A s K vs Q E h1 h2 h3 u t o r λ v h' t' g rd=>k v h' K t' d Wi (Aft.grow t o g) rd ⟨rfl,rfl⟩
theorem Qo (h:∀(A:bU) (s:ak) (K:FM) (vs:List aj) (Q:aj->ak->Prop) (E:aj->ak->Prop),A.handled=none->A.depth+n <= 990->A.units+3*n <= 9000->FM.Le T K->FM.In K s.heap->gx K s.heap Wi->cB K ds vs->
  (∀a d e h' t',s.heap.get? a=none->(∀b o,s.heap.get? b=some o->h'.get? b=some o)->h'.get? a=some ⟨c,none,.seq (al d) e,#[]⟩->cB K l d->Q (.ref a) {s with heap:=h',toks:=t'})->wpAny (model pr w) A (call f vs) Q E s):Fn pr w T n f ds Wi (Is (.sq c l) Wi):=
 λ A h1 h2 h3 s K vs Q E H t r o k=>h A s K vs Q E h1 h2 h3 H t o r λ a d e h' t' ha g v rd=>by
  have u:K a=none:=by
   cases q:K a with
   |none=>rfl
   |some y=>rw[t _ _ q] at ha;cases ha
  refine k (.ref a) h' _ t' (.sq c l) Wi (Aft.newFz t o ha u g v) ?_ ⟨rfl,rfl⟩;show∃_,_;exact⟨a,d,e,rfl,FM.add_self,cB.mono (FM.le_add u) _ rd⟩
theorem xh:Fn pr w T n (.builtin "isinstance") [.str x,.val (.type "bytes")] [] (Is (.bool false) []):=iW λ A s K vs Q E _ _ _ _ _ _ r k=>by
 obtain⟨_,_,rfl,⟨t,rfl⟩,_,_,rfl,rfl,rfl⟩:=r;exact IsiPair.str_bytes (k _ s.heap _ (λ _ _ e=>e) (by ext rd))
theorem KU:Fn pr w T n (.builtin "isinstance") [.str x,.val (.type "str")] [] (Is (.bool true) []):=iW λ A s K vs Q E _ _ _ _ _ _ r k=>by
 obtain⟨_,_,rfl,⟨t,rfl⟩,_,_,rfl,rfl,rfl⟩:=r;exact IsiPair.str_str (k _ s.heap _ (λ _ _ e=>e) (by ext rd))
theorem qm (hn:l.length<2^62):Fn pr w T n (.builtin "len") [.lst l] [] (Is (.int l.length) []):=iW λ A s K vs Q E _ _ _ _ t _ r k=>by
 obtain⟨_,_,rfl,⟨a,d,ep,rfl,ha,hr⟩,rfl⟩:=r;refine Calls.call_len_list (items:=al d) ⟨_,t _ _ ha,rfl,_,rfl⟩ (by simp[hr.length];exact Lv hn) ?_;have e:((al d).size:Int)=(l.length:Int):=by simp[hr.length]
 rw[e];exact k _ s.heap _ (λ _ _ e=>e) ⟨_,rfl⟩
theorem RK (hn:x.length<2^62):Fn pr w T n (.builtin "len") [.str x] [] (Is (.int x.length) []):=iW λ A s K vs Q E _ _ _ _ d _ r k=>by
 obtain⟨_,_,rfl,⟨t,rfl⟩,rfl⟩:=r;exact PySem.P.len_str (by omega) (k _ s.heap _ (λ _ _ e=>e) ⟨_,rfl⟩)
theorem Mc:Fn pr w T n (.builtin "str.startswith") [.str x,.str y] [] (Is (.bool (eO x y)) []):=iW λ A s K vs Q E _ _ _ _ d _ r k=>by
 obtain⟨_,_,rfl,⟨t,rfl⟩,_,_,rfl,⟨u,rfl⟩,rfl⟩:=r;exact SC.startswith (k _ s.heap _ (λ _ _ e=>e) (by ext rd))
theorem Qp:Fn pr w T n (.builtin "str.endswith") [.str x,.str y] [] (Is (.bool (qI x y)) []):=iW λ A s K vs Q E _ _ _ _ d _ r k=>by
 obtain⟨_,_,rfl,⟨t,rfl⟩,_,_,rfl,⟨u,rfl⟩,rfl⟩:=r;exact SC.endswith (k _ s.heap _ (λ _ _ e=>e) (by ext rd))
theorem CI {K:FM}:∀(l:List (Str×Tok)),cB K (l.map λ p=>.str p.1) (strValues l)
 |[]=>cB.nil
 |p::l=>cB.cons ⟨p.2,rfl⟩ (CI l)
theorem vk {K:FM}:∀{xs:List Str} {vs:List aj},cB K (xs.map .str) vs->∃l:List (Str×Tok),vs=strValues l /\ l.map (·.1)=xs
 |[],_,h=>by simp only[aX,ro] at h;subst h;exact⟨[],rfl,rfl⟩
 |x::xs,_,h=>by
  simp only[aq,ro] at h;obtain⟨v,r,rfl,⟨t,rfl⟩,h⟩:=h;obtain⟨l,rfl,rfl⟩:=vk h;exact⟨(x,t)::l,rfl,rfl⟩
theorem GO {K:FM} {l:List (Str×Tok)} {xs:List Str} (h:l.map (·.1)=xs):cB K (xs.map .str) (strValues l):=by
 have:=CI (K:=K) l;subst h;rw[bH];exact this
theorem Um (hy:(y.length==0)=false) (d:x.length <= aO) (v:(Txt.split x y).length <= aO):Fn pr w T n (.builtin "str.split") [.str x,.str y] [] (Is (.lst ((Txt.split x y).map .str)) []):=Qo λ A s K vs Q E _ _ _ _ H _ r k=>by
 obtain⟨_,_,rfl,⟨t,rfl⟩,_,_,rfl,⟨u,rfl⟩,rfl⟩:=r;have fin:∀(l:List (Str×Tok)) (t':Nat),l.map (·.1)=Txt.split x y->Q (.ref s.heap.objs.size) {s with heap:=s.heap.push {cls:=.type "list",data:=.seq (strValues l).toArray},toks:=t'}:=λ l t' e=>
  k s.heap.objs.size (strValues l) 0 _ t' kX (λ b o e=>aA _ e) (bv _ rfl) (GO e)
 cases h1:(decide (x.length<y.length)||decide (nZ x<nZ y))
 .cases hf:(pR x y 0 x.length (x.length+1)).isEmpty
  .have es:Txt.split x y=zR x (pR x y 0 x.length (x.length+1)) y.length:=(if_neg (ne_true_of_eq_false h1)).trans (if_neg (ne_true_of_eq_false hf));refine qJ F.slot_str_split (jV _ _ _) F.entry_str_split (F.args_str_split_2 _ _) (meets_str_split_sep x y t u h1 hy hf d (es▸v)) ?_;rw[strsFrom_eq];exact fin _ _ ((numbered_texts _ _).trans es.symm)
  .exact qJ F.slot_str_split (jV _ _ _) F.entry_str_split (F.args_str_split_2 _ _) (meets_str_split_not_found x y t u h1 hy hf) (fin [(x,t)] s.toks ((if_neg (ne_true_of_eq_false h1)).trans (if_pos hf)).symm)
 .exact qJ F.slot_str_split (jV _ _ _) F.entry_str_split (F.args_str_split_2 _ _) (meets_str_split_cannot_occur x y t u h1) (fin [(x,t)] s.toks (if_pos h1).symm)
theorem IC {x:Str} {ys:List Str} (d:nP x ys=true):Fn pr w T n (.builtin "str.join") [.str x,.lst (ys.map .str)] [] (Is (.str (bw x ys)) []):=iW λ A s K vs Q E _ _ _ _ u _ r k=>by
 obtain⟨_,_,rfl,⟨t,rfl⟩,_,_,rfl,⟨a,v,ep,rfl,ha,hr⟩,rfl⟩:=r;obtain⟨l,rfl,e⟩:=vk hr;exact SC.join (l:=l) ⟨_,u _ _ ha,rfl,_,rfl⟩ e d λ t' H=>k _ s.heap _ (λ _ _ e=>e) ⟨_,rfl⟩
theorem RL {x:Str} {a:aM} {ys:List Str} (d:nP x ys=true):Fn pr w T n (.builtin "str.join") [.str x,.val (.ref a)] [(a,.list (ys.map .str))] (Is (.str (bw x ys)) [(a,.list (ys.map .str))]):=iW λ A s K vs Q E _ _ _ _ H o r k=>by
 obtain⟨_,_,rfl,⟨t,rfl⟩,_,_,rfl,rfl,rfl⟩:=r;obtain⟨ob,h1,⟨u,ep,rfl,hr⟩,_⟩:=o.at_ _ (ag ..);obtain⟨l,rfl,e⟩:=vk hr;exact SC.join (l:=l) ⟨_,h1,rfl,_,rfl⟩ e d λ t' v=>k _ s.heap _ (λ _ _ e=>e) ⟨_,rfl⟩
theorem xP (hl:l.length <= aO):Fn pr w T n (.builtin "list.append") [.val (.ref a),d] [(a,.list l)] (Is .none [(a,.list (l++[d]))]):=λ A h1 h2 h3 s K vs Q E hT V r o k=>by
 obtain⟨_,_,rfl,H,y,_,rfl,r1,rfl⟩:=r;obtain rfl:=H;obtain⟨ob,g1,⟨v,ep,rfl,hr⟩,_⟩:=o.at_ _ (ag ..);refine wpAny_list_append_plain (l:=a) (items:=al v) ⟨ep,g1⟩ (λ h3 u t=>?_) (by simp[hr.length];exact hl);obtain⟨M,u⟩:=u;refine k .none h3 K s.toks .none _ (Aft.turn (b':=.list (l++[d])) V o (λ c z q e=>(t.2 c q).trans e) u ⟨v++[y],M,by simp,hr.append (cB.cons r1 cB.nil)⟩) (by ext rd) ⟨rfl,rfl⟩
theorem cB.snoc {K:FM}:∀{l:List D} {d:D} {u:List aj},cB K (l++[d]) u->∃t v,u=t++[v] /\ cB K l t /\ Rd K d v
 |[],d,u,h=>by
  simp only[be,ro] at h;obtain⟨v,r,rfl,h1,rfl⟩:=h;exact⟨[],v,rfl,cB.nil,h1⟩
 |x::l,d,u,h=>by
  simp only[bh,ro] at h;obtain⟨v,r,rfl,h1,h2⟩:=h;obtain⟨t,y,rfl,h3,h4⟩:=cB.snoc h2;exact⟨v::t,y,rfl,cB.cons h1 h3,h4⟩
theorem El (d:List aj) (v:aj):(al (d++[v])).eraseIdxIfInBounds ((al (d++[v])).size-1)=al d:=by
 apply mj.mp;simp[Array.eraseIdxIfInBounds];rw[List.eraseIdx_append_of_length_le (aR _)];simp
theorem O0 {a:aM} {l:List D} {d:D} (hl:l.length+1 <= aO):Fn pr w T n (.builtin "list.pop") [.val (.ref a)] [(a,.list (l++[d]))] (Is d [(a,.list l)]):=λ A h1 h2 h3 s K vs Q E hT V r o k=>by
 obtain⟨_,_,rfl,M,rfl⟩:=r;obtain rfl:=M;obtain⟨ob,g1,⟨us,ep,rfl,hr⟩,_⟩:=o.at_ _ (ag ..);obtain⟨t,v,rfl,r1,r2⟩:=hr.snoc;have u:=r1.length;refine qJ lU ⟨_,g1,rfl⟩ PySem.F.entry_list_pop (PySem.F.args_list_pop_1 _) (xo a _ ep v (by simp) (by simp[u];exact hl)) ⟨g1,?_⟩;have hs:=fB s.heap a (cg λ xs=>xs.eraseIdxIfInBounds ((al (t++[v])).size-1));obtain⟨H,hc⟩:∃H,(s.heap.update a (cg λ xs=>xs.eraseIdxIfInBounds ((al (t++[v])).size-1))).get? a=some ⟨.type "list",none,.seq (al t) H,#[]⟩:=by
  have:=ri g1 (λ xs=>xs.eraseIdxIfInBounds ((al (t++[v])).size-1));rw[El] at this;exact⟨_,this⟩
 exact k v _ K s.toks d _ (Aft.turn (b':=.list l) V o (λ c z q e=>(hs.2 c q).trans e) hc ⟨t,H,rfl,r1⟩) r2 ⟨rfl,rfl⟩
end
theorem ID:fY "issubclass"=none:=by rfl'
theorem GP:xH "issubclass"=true:=by rfl'
theorem entry_sub:gR table "issubclass"=some aC.«issubclass»:=et (by symm)
theorem IE (a b:aj):argsOk "issubclass" ⟨[a,b],[]⟩:=by unfold argsOk;symm
theorem GQ:fY "issubclass.nested"=none:=by rfl'
theorem Em:xH "issubclass.nested"=true:=by rfl'
theorem xQ:gR table "issubclass.nested"=some Builtin.«issubclass.nested»:=et (by symm)
theorem GR (a b c:aj):argsOk "issubclass.nested" ⟨[a,b,c],[]⟩:=by unfold argsOk;symm
theorem Md (dep:Int) (tk:Tok):Builtin.«issubclass.nested» ⟨[.type "str",.type "str",.int dep tk],[]⟩=pure (.done (.ret (.bool true))):=by symm
theorem Bo {prog:aG} {w:aB} {A:bU} {E:aj->ak->Prop} {tk:Tok} {tp:aM} {l cs:List aj} {ep:Nat} {s:ak} {Q:Fin->ak->Prop} (hl:l=.type "str"::cs)
  (v:s.heap.get? tp=some {cls:=.type "tuple",data:=.seq l.toArray ep}) (h:∀u,Q (.done (.ret (.bool true))) {s with toks:=u}):
  wpAny (model prog w) A (Builtin.«issubclass.nested» ⟨[.type "str",.ref tp,.int 0 tk],[]⟩) Q E s:=by
 obtain⟨H,g,d,t,os⟩:=s;have M:(⟨H,g,d,t,os⟩:ak).TypeIs (.ref tp) "tuple":=⟨_,v,rfl⟩;have f1:=F.isi_sub_tuple
 repeat (any_goals (first|assumption|wp_step))
 refine wpAny_arrayLoop ?_;simp only[Option.getD_some,List.toList_toArray];subst hl;rw[jq];refine ae (ae (to (S:=λ _ R s=>R (.ok (.ret (.bool true))) s) GQ Em xQ (GR _ _ _) ?_ ?_))
 .intro prog w A R s hs;rw[show rawInt (0+1)=A6 (0+1) 0 from rfl,Md];exact af hs
 .show wpAny _ _ (truthy (.bool true)>>=_) _ _ _;refine ae (m:=truthy (.bool true)) (af ?_);exact ae (af (af (af (af (h t)))))
theorem GS {R:mS->ak->Prop}
  (h:wpAny (model prog w) A.in1 (Builtin.«issubclass.nested» ⟨[x,c,rawInt 0],[]⟩) (λ fin d=>match fin with|.done f=>R (.ok f) d|.again t=>t.quiet=true /\ eQ (model prog w) A t R d) (λ e d=>R (.error e) d) s):
  wpAny (model prog w) A.in1 (aC.«issubclass» ⟨[x,c],[]⟩) (λ fin d=>match fin with|.done f=>R (.ok f) d|.again t=>t.quiet=true /\ eQ (model prog w) A t R d) (λ e d=>R (.error e) d) s:=by
 repeat (any_goals (first|assumption|wp_step))
 refine⟨jc _ (by rfl'),bJ xQ ?_⟩;rw[Around.under_plain (show(Code.builtin "issubclass.nested" ⟨[x,c,rawInt 0],[]⟩).weight=0 from rfl) rfl];exact h
section
variable{pr:aG} {w:aB} {T:FM} {n:Nat}
theorem RM:Fn pr w T n (.builtin "issubclass") [.val (.type "str"),.tup (.val (.type "str")::l)] [] (Is (.bool true) []):=iW λ A s K vs Q E _ _ _ _ H _ r k=>by
 simp only[ro,j9] at r;obtain⟨_,_,rfl,rfl,_,_,rfl,⟨tp,M,ep,rfl,ha,u,t,rfl,rfl,hr⟩,rfl⟩:=r;refine to (S:=λ _ R v=>(∃(ep:Nat),v.heap.get? tp=some {cls:=.type "tuple",data:=.seq (.type "str"::t).toArray ep}) /\ ∀d,R (.ok (.ret (.bool true))) {v with toks:=d}) ID GP entry_sub (IE _ _) ?_ ?_
 .rintro prog w A R v ⟨⟨ep,h1⟩,h2⟩;exact GS (Bo rfl h1 λ d=>h2 d)
 .exact⟨⟨ep,H _ _ ha⟩,λ d=>k _ s.heap d (λ _ _ e=>e) (by simp only[j9])⟩
theorem Qq:Fn pr w T n (.type "type") [.str x] [] (Is (.val (.type "str")) []):=iW λ A s K vs Q E _ _ _ _ d _ r k=>by
 simp only[ro,j9] at r;obtain⟨_,_,rfl,⟨t,rfl⟩,rfl⟩:=r;exact call_type_of (Tx:="str") rfl (by rfl') (k _ s.heap s.toks (λ _ _ e=>e) (by simp only[j9]))
end
section
variable{c:Cx} {G:Gm} {W:Om}
theorem IF (t:gc W (a,.list l) Wr) (hl:l.length<2^62):Tv c G W (.val (.ref a)) (!l.isEmpty):=λ s K x Q E S r k=>by
 simp only[j9] at r;subst r;obtain⟨ob,h1,⟨u,ep,rfl,hr⟩,_⟩:=(S.perm t.perm).own.at_ _ (ag ..);have d:=hr.length;refine wpAny_truthy_list (items:=al u) ⟨_,h1,rfl,_,rfl⟩ (by simp[d];exact Lv hl) ?_;have e:(!(al u).isEmpty)=!l.isEmpty:=by
  cases l with
  |nil=>simp at d;subst d;rfl
  |cons a l=>cases u with
         |nil=>simp at d
         |cons=>rfl
 rw[e];exact k _
theorem Bp (hl:x.length<2^62):Tv c G W (.str x) (decide (x.length≠0)):=λ s K v Q E S r k=>by
 obtain⟨t,rfl⟩:=r;refine PySem.P.truthy_str (by omega) ?_;have e:((x.length:Int)!=0)=decide (x.length≠0):=by
  by_cases h:x.length=0
  .simp[h]
  .have:(x.length:Int)≠0:=by omega
   simp[h,this]
 rw[e];exact k _
theorem Un:Tv c G W .none false:=λ s K v Q E S r k=>by
 simp only[j9] at r;subst r;exact af (k s.toks)
end
section
variable{c:Cx} {G G':Gm} {W:Om}
inductive eN (c:Cx) (G:Gm) (W:Om):List cX->Bool->Prop
 |nil:eN c G W [] true
 |last {e:cX} {a:Bool} (h:Tt c G W e a):eN c G W [e] a
 |cons {e:cX} {r:List cX} {a b:Bool} (h:Tt c G W e a) (t:a=true->eN c G W r b):eN c G W (e::r) (a&&b)
set_option tactic.hygienic true in
theorem eN.go (h:eN c G W es b):∀(s:ak) (K:FM) (Q:Bool->ak->Prop) (E:aj->ak->Prop),c.S s K G W->
  (∀h' K' t',FM.Le K K'->f' c.B c.env.locals h' K' G W->Q b {s with heap:=h',toks:=t'})->wpAny c.M c.A (allTrue .And es c.env) Q E s:=by
 induction h with
 |nil=>intro s K Q E S k;exact rz (k s.heap K s.toks FM.Le.rfl S)
 |last h=>
  rename_i e a;intro s K Q E S k;refine qK (h s K _ E S λ h1 K1 t1 d u=>?_);cases a with
  |false=>exact k h1 K1 t1 d u
  |true=>exact rz (k h1 K1 t1 d u)
 |cons h t H=>
  rename_i e r a b;intro s K Q E S k;refine qK (h s K _ E S λ h1 K1 t1 d u=>?_);cases a with
  |false=>exact k h1 K1 t1 d u
  |true=>exact H rfl _ K1 Q E u λ h2 K2 t2 v V=>k h2 K2 t2 (d.trans v) V
theorem ce (h:eN c G W es b):Tt c G W (.BoolOp .And es pos) b:=λ s K Q E S k=>tu (h.go s K Q E S k)
inductive rL (c:Cx) (G:Gm) (W:Om):List cX->Bool->Prop
 |nil:rL c G W [] false
 |last {e:cX} {a:Bool} (h:Tt c G W e a):rL c G W [e] a
 |cons {e:cX} {r:List cX} {a b:Bool} (h:Tt c G W e a) (t:a=false->rL c G W r b):rL c G W (e::r) (a||b)
set_option tactic.hygienic true in
theorem rL.go (h:rL c G W es b):∀(s:ak) (K:FM) (Q:Bool->ak->Prop) (E:aj->ak->Prop),c.S s K G W->
  (∀h' K' t',FM.Le K K'->f' c.B c.env.locals h' K' G W->Q b {s with heap:=h',toks:=t'})->wpAny c.M c.A (allTrue .Or es c.env) Q E s:=by
 induction h with
 |nil=>intro s K Q E S k;exact sv (k s.heap K s.toks FM.Le.rfl S)
 |last h=>
  rename_i e a;intro s K Q E S k;refine rA (h s K _ E S λ h1 K1 t1 d u=>?_);cases a with
  |true=>exact k h1 K1 t1 d u
  |false=>exact sv (k h1 K1 t1 d u)
 |cons h t H=>
  rename_i e r a b;intro s K Q E S k;refine rA (h s K _ E S λ h1 K1 t1 d u=>?_);cases a with
  |true=>exact k h1 K1 t1 d u
  |false=>exact H rfl _ K1 Q E u λ h2 K2 t2 v V=>k h2 K2 t2 (d.trans v) V
theorem wH (h:rL c G W es b):Tt c G W (.BoolOp .Or es pos) b:=λ s K Q E S k=>tu (h.go s K Q E S k)
theorem Tt.cast (h:Tt c G W e a) (q:a=b):Tt c G W e b:=q▸h
theorem Ev.cast (h:Ev c G W e a) (q:a=b):Ev c G W e b:=q▸h
theorem rL.cast (h:rL c G W e a) (q:a=b):rL c G W e b:=q▸h
theorem eN.cast (h:eN c G W e a) (q:a=b):eN c G W e b:=q▸h
theorem rL.hit (h:Tt c G W e true):rL c G W (e::r) true:=rL.cast (rL.cons (b:=true) h λ z=>nomatch z) (by simp)
theorem rL.skip (h:Tt c G W e false) (t:rL c G W r b):rL c G W (e::r) b:=rL.cast (rL.cons h λ _=>t) (by simp)
theorem eN.miss (h:Tt c G W e false):eN c G W (e::r) false:=eN.cast (eN.cons (b:=true) h λ z=>nomatch z) (by simp)
theorem eN.step (h:Tt c G W e true) (t:eN c G W r b):eN c G W (e::r) b:=eN.cast (eN.cons h λ _=>t) (by simp)
theorem U8 (hx:Ev c G W x a) (hv:Tv c G W a v) (hy:v=false->Ev c G W y b):Ev c G W (.BoolOp .Or [x,y] pos) (cond v a b):=λ s K Q E S k=>by
 show wpAny c.M c.A (eval x c.env>>=λ u=>jG pos>>=λ _=>jH [u] (truthy u)>>=λ t=>match BoolOp.Or,t with
  |.And,false|.Or,true=>pure u
  |_,_=>eval y c.env) Q E s
 refine ae (hx s K _ E S λ u h1 K1 t1 H d r1=>ae (bn (ae (aD (hv _ K1 u _ E d r1 λ t'=>?_)))));cases v with
 |true=>exact af (k u h1 K1 t' H d r1)
 |false=>exact hy rfl _ K1 Q E d λ z h2 K2 t2 V S2 r2=>k z h2 K2 t2 (H.trans V) S2 r2
theorem Qr {R:iD->Prop} (ok:Ok c n) (u:Ev c G W e (.tup ds)) (ha:KR c W G es ds G') (h:Ex c G' W rest R)
  (hs:swappedStores [.Tuple es k tp] e c.env=pure aH:=by symm) (t:swapsWithSole [.Tuple es k tp] e pos.line c.env=pure false:=by symm):Ex c G W (.Assign [.Tuple es k tp] e pos::rest) R:=
 sM ok u.toP (λ d W' p=>by obtain⟨rfl,rfl⟩:=p;exact⟨G',Iy ok ha,h⟩) hs t
theorem En {R:iD->Prop} (v:vd c G W es ds) (h:∀a,∃G',un G x (.val (.ref a)) G' /\ Ex c G' ((a,.list ds)::W) rest R) (hn:decide (ds.length <= 1000)=true:=by symm)
  (hl:c.env.kindOf x=some .local:=by symm) (u:(c.env.scope.kind==.class||(c.env.scope.kind==.module&&c.env.locals !=c.env.globals))=false:=by symm)
  (hs:km (.List es t) (some (.Name x p)) pos.line c.env=pure false:=by symm):Ex c G W (.Assign [.Name x p] (.List es t) pos::rest) R:=
 eU (nA v hn) (λ d W' q=>by obtain⟨a,rfl,rfl⟩:=q;exact h a) hl u hs
theorem fc {R:iD->Prop} (ok:Ok c n) (V:Ev c G W o (.val (.ref a))) (he:Ev c G W e d) (t:gc W (a,.list l) Wr) (hl:l.length <= aO)
  (h:Ex c G ((a,.list (l++[d]))::Wr) rest R) (hn:ge e=true:=by symm) (H:bE o "append" c.env (eval o c.env)=eval o c.env:=by symm) (u:(apos.endLine==pos.line)=true:=by symm)
  (hi:interactive c.env=false:=by symm):Ex c G W (.Expr (.Call (.Attribute o "append" apos) [e] [] pos) M::rest) R:=
 FA (W':=(a,.list (l++[d]))::Wr) (λ s K Q E S k=>pq ok V (uq t) fk oV oW (bg he bW hn) (.cons t .nil) (xP hl) H u rfl s K Q E S λ v h' K' t' d' W' x y z p=>by
  obtain⟨Wo,⟨rfl,rfl⟩,rfl⟩:=p;exact k v h' K' t' _ _ x y z ⟨rfl,rfl⟩) h hi rfl
theorem U9 {R:iD->Prop} (ok:Ok c n) (V:Ev c G W o (.val (.ref a))) (t:gc W (a,.list (l++[d])) Wr) (hl:l.length+1 <= aO) (hd:∀K a,¬Rd K d (.ref a))
  (h:Ex c G ((a,.list l)::Wr) rest R) (H:bE o "pop" c.env (eval o c.env)=eval o c.env:=by symm) (u:(apos.endLine==pos.line)=true:=by symm)
  (hi:interactive c.env=false:=by symm):Ex c G W (.Expr (.Call (.Attribute o "pop" apos) [] [] pos) M::rest) R:=
 gy λ s K Q E S k=>qG (pq ok V (uq t) fk lU rB bW (.cons t .nil) (O0 hl) H u rfl s K _ E S λ v h1 K1 t1 d' W' x y z p=>by
  obtain⟨Wo,⟨rfl,rfl⟩,rfl⟩:=p;cases v with
  |ref b=>exact hd _ _ z
  |_=>exact k .next h1 K1 t1 x ⟨G,_,y,h⟩) hi rfl
theorem O1 (K:FM) (a:aM):¬Rd K (.str x) (.ref a):=λ⟨t,e⟩=>nomatch e
theorem wI (ho:Ev c G W o (.val (.ref a))) (hi:Ev c G W i (.int (-1))) (t:gc W (a,.list (l++[d])) Wr) (hl:l.length<2^62)
  (hs:∀(a:aM) (u:Tok),subscripted i false (.ref a) (.int (-1) u)=operate [.ref a,.int (-1) u] (getItem (.ref a) (.int (-1) u)):=by intro _ _;symm):Ev c G W (.Subscript o i pos) d:=λ s K Q E S h=>
 y8 (ho s K _ E S λ x h1 K1 t1 k1 S1 r1=>hi _ K1 _ E S1 λ y h2 K2 t2 k2 V r2=>by
  simp only[j9] at r1 r2;subst r1;obtain⟨u,rfl⟩:=r2;obtain⟨ob,g1,⟨us,ep,rfl,hr⟩,_⟩:=(V.perm t.perm).own.at_ _ (ag ..);obtain⟨H,v,rfl,q1,q2⟩:=hr.snoc;have M:({s with heap:=h2,toks:=t2}:ak).heap.IsList a (al (H++[v])):=⟨_,g1,rfl,_,rfl⟩;exact tail_any M.typeIs slot_list_getitem.lookup (wpAny_getItem_list_neg M (by decide) (by simp;exact lz 107510044161) (by decide) (by
   have e:((-1:Int)+((al (H++[v])).size:Nat)).toNat=H.length:=by simp;omega
   rw[e];simp) (h v h2 K2 t2 (k1.trans k2) V q2)) (hs a u))
theorem U':Ev c G W (.UnaryOp .USub (.Constant (.int i) k p) pos) (.int (-i)):=λ s K Q E S h=>by
 show wpAny c.M c.A (eval (.Constant (.int i) k p) c.env>>=λ v=>jG pos>>=λ _=>jH [v] (unaryOp .USub v)) Q E s;refine ae (Ei (c:=c) (G:=G) (W:=W) s K _ E S λ v h1 K1 t1 d u r1=>ae (bn (aD ?_)));obtain⟨t,rfl⟩:=r1;exact PySem.P.neg_int (h _ h1 K1 _ d u ⟨_,rfl⟩)
def Qs (c:Cx) (p:Nat->Om) (G₀:Gm) (t:Om) (rest:List eX) (R:iD->Prop) (i:Nat):iD->Prop
 |.next G' W'=>Sub G₀ G' /\ cv W' (p i++t) []
 |.cont G' W'=>Sub G₀ G' /\ cv W' (p i++t) []
 |.brk G' W'=>Ex c G' W' rest R
 |.ret d W'=>R (.ret d W')
theorem lA {R:iD->Prop} (hi:RJ c G W W₁ iter ds TB) (G₀:Nat->Gm) (H:Nat->Om) (hG:Sub (G₀ 0) G) (hW:cv W₁ (H 0) [])
  (M:∀i d,ds[i]?=some d->∀p:Nat->Om,∃G',As c (G₀ i) (p (i+1)++H i) target d G' /\ Ex c G' (p (i+1)++H i) body (Qs c p (G₀ (i+1)) (H (i+1)) rest R (i+1)))
  (done:Ex c (G₀ ds.length) (H ds.length) rest R)
  (hs:∀x,foldedSetIterable iter c.env x=pure x:=by intro _;symm) (ht:TB=true->GK target=true:=by first|exact λ _=>rfl|exact λ h=>nomatch h):Ex c G W (.For target iter body [] pos::rest) R:=by
 refine Ek hi (λ i G' W'=>Sub (G₀ i) G' /\ W'.Perm (H i)) ⟨hG,by have:=hW.perm;rwa [ax] at this⟩ ?_ ?_ hs ht
 .rintro i d hd G1 W1 ⟨g1,p1⟩ p;obtain⟨G',ha,hb⟩:=M i d hd p;refine⟨G',λ s K v Q E S r k=>ha s K v Q E ((S.weak g1.all).perm (p1.append_left _)) r λ h' K' t' le S'=>k h' K' t' le (S'.perm (p1.symm.append_left _)),?_⟩;refine λ s K Q E S k=>hb s K Q E (S.perm (p1.append_left _)) λ f h' K' t' le e=>k f h' K' t' le ?_;have nx:∀u t,Sub (G₀ (i+1)) u->cv t (p (i+1)++H (i+1)) []->∃V,t.Perm (p (i+1)++V) /\ (Sub (G₀ (i+1)) u /\ V.Perm (H (i+1))):=by
   intro u t g2 t2;exact⟨_,by have:=t2.perm;rwa [ax] at this,g2,fX _⟩
  cases f with
  |next=>obtain⟨u,t,S2,g2,t2⟩:=e;exact⟨u,t,S2,nx u t g2 t2⟩
  |cont=>obtain⟨u,t,S2,g2,t2⟩:=e;exact⟨u,t,S2,nx u t g2 t2⟩
  |brk=>exact e
  |ret v=>exact e
 .rintro G1 W1 ⟨g1,p1⟩;exact λ s K Q E S k=>done s K Q E ((S.weak g1.all).perm p1) k
def IG {σ:Type} (c:Cx) (m:σ->Nat) (I:σ->Prop) (G₀:σ->Gm) (u:σ->Om) (st:σ) (rest:List eX) (R:iD->Prop):iD->Prop
 |.next G' W'=>∃t,m t<m st /\ I t /\ Sub (G₀ t) G' /\ cv W' (u t) []
 |.cont G' W'=>∃t,m t<m st /\ I t /\ Sub (G₀ t) G' /\ cv W' (u t) []
 |.brk G' W'=>Ex c G' W' rest R
 |.ret d W'=>R (.ret d W')
theorem kc {σ:Type} {R:iD->Prop} (m:σ->Nat) (I:σ->Prop) (G₀:σ->Gm) (γ:σ->Om) (st:σ) (h0:I st) (hG:Sub (G₀ st) G) (hW:cv W (γ st) [])
  (δ:∀st,I st->(Tt c (G₀ st) (γ st) V true /\ Ex c (G₀ st) (γ st) body (IG c m I G₀ γ st rest R)) \/ (Tt c (G₀ st) (γ st) V false /\ Ex c (G₀ st) (γ st) rest R)):Ex c G W (.While V body [] pos::rest) R:=by
 intro s K Q E S k;refine iI (wpAny_While ?_)
 let P:H9->ak->Prop:=λ f s'=>match f with
  |.next=>wpAny c.M c.A (execs rest c.env) Q E s'
  |f=>Q f s'
 refine fv (R:=λ r s'=>match r with|.ok f=>P f s'|.error _=>False) ?_ ?_
 .let J:Nat->ak->Prop:=λ n s'=>∃st K' h' t',n=m st /\ I st /\ s'={s with heap:=h',toks:=t'} /\ FM.Le K K' /\ f' c.B c.env.locals h' K' (G₀ st) (γ st)
  have β:∀{h':dM} {K':FM} {G1 G2:Gm} {W1 W2:Om},f' c.B c.env.locals h' K' G1 W1->Sub G2 G1->cv W1 W2 []->f' c.B c.env.locals h' K' G2 W2:=λ S g t=>(S.weak g.all).perm (by have:=t.perm;rwa [ax] at this);refine codeAny_whileLoop J ?_ (m st) ⟨st,K,s.heap,s.toks,rfl,h0,rfl,FM.Le.rfl,β S hG hW⟩;rintro n s' ⟨st,K1,h1,t1,rfl,i1,rfl,k1,S1⟩;have go:∀(G2:Gm) (W2:Om) (K2:FM) (h2:dM) (t2:Nat),FM.Le K K2->f' c.B c.env.locals h2 K2 G2 W2->Ex c G2 W2 rest R->wpAny c.M c.A (execs rest c.env) Q E {s with heap:=h2,toks:=t2}:=
   λ G2 W2 K2 h2 t2 k2 S2 r=>r {s with heap:=h2,toks:=t2} K2 Q E S2 λ f h3 K3 t3 k3 e3=>k f h3 K3 t3 (k2.trans k3) e3
  rcases δ st i1 with⟨ht,hb⟩|⟨ht,hr⟩
  .refine ht {s with heap:=h1,toks:=t1} K1 _ _ S1 λ h2 K2 t2 k2 S2=>?_;rw[if_pos rfl];refine hb {s with heap:=h2,toks:=t2} K2 _ _ S2 λ f h3 K3 t3 k3 e3=>?_;have H:FM.Le K K3:=(k1.trans k2).trans k3;cases f with
   |next=>obtain⟨G3,W3,S3,u,hm,i3,g3,w3⟩:=e3;exact⟨m u,hm,u,K3,h3,t3,rfl,i3,rfl,H,β S3 g3 w3⟩
   |cont=>obtain⟨G3,W3,S3,u,hm,i3,g3,w3⟩:=e3;exact⟨m u,hm,u,K3,h3,t3,rfl,i3,rfl,H,β S3 g3 w3⟩
   |brk=>obtain⟨G3,W3,S3,r3⟩:=e3;exact go G3 W3 K3 h3 t3 H S3 r3
   |ret v=>obtain⟨d,G3,W3,S3,r3,q3⟩:=e3;exact k _ h3 K3 t3 H ⟨d,G3,W3,S3,r3,q3⟩
  .refine ht {s with heap:=h1,toks:=t1} K1 _ _ S1 λ h2 K2 t2 k2 S2=>?_;rw[if_neg aT];exact rh (go _ _ K2 h2 t2 (k1.trans k2) S2 hr)
 .intro r s' h;cases r with
  |ok f=>exact h
  |error e=>exact h.elim
end
def rt (h:dM) (Wi:Om):FM:=λ b=>if b∈Wi.map (·.1) then none else h.get? b
theorem Ac {h:dM} {Wi:Om} {b:aM} (e:rt h Wi b=none):h.get? b=none \/ b∈Wi.map (·.1):=by
 unfold rt at e;by_cases q:b∈Wi.map (·.1)
 .exact .inr q
 .rw[if_neg q] at e;exact .inl e
theorem FE {h:dM} {Wi:Om} {b:aM} (e:h.get? b=none \/ b∈Wi.map (·.1)):rt h Wi b=none:=by
 unfold rt;by_cases q:b∈Wi.map (·.1)
 .rw[if_pos q]
 .rw[if_neg q];exact e.resolve_right q
theorem pu {K:FM} {h h₁:dM} {Wi:Om} {L:aM} {m:Str->Option aj} {G₀:Gm} (kp:FM.In K h) (o:gx K h Wi) (t:h.get? L=none) (keep:∀b o,h.get? b=some o->h₁.get? b=some o) (ns:h₁.Ns L m) (u:∀p∈G₀,∃v,m p.1=some v /\ Rd K p.2 v):
  f' ⟨K,rt h Wi⟩ L h₁ K G₀ Wi:=by
 have H:K L=none:=by
  cases e:K L with
  |none=>rfl
  |some y=>rw[kp _ _ e] at t;cases t
 refine⟨⟨m,ns,u⟩,λ b o e=>keep _ _ (kp _ _ e),?_,H,FE (.inl t),FM.Le.rfl,λ b o e=>.inl e,⟨λ p d=>?_,o.nd⟩,λ p d=>⟨FE (.inr (aZ (f:=(·.1)) d)),λ e=>?_⟩⟩
 .intro b x e;have e:rt h Wi b=some x:=e;unfold rt at e;by_cases q:b∈Wi.map (·.1)
  .rw[if_pos q] at e;cases e
  .rw[if_neg q] at e;exact keep _ _ e
 .obtain⟨x,q1,q2⟩:=o.at_ p d;exact⟨x,keep _ _ q1,q2⟩
 .obtain⟨x,q1,q2⟩:=o.at_ p d;rw[e,t] at q1;cases q1
def Ic (o:Obj):Prop:=∃es ep,o.data=.dict es ep /\ StrKeys es
theorem nv {K K':FM} {h h':dM} {Wi W':Om} {L:aM} {G':Gm} (kp:FM.In K h) (u:h.get? L=none) (S:f' ⟨K,rt h Wi⟩ L h' K' G' W'):Aft K h Wi K' h' ((L,.pred Ic)::W'):=by
 refine⟨S.k0,S.kp,?_,?_,⟨?_,?_⟩,?_⟩
 .intro b o e hb;refine S.up b o ?_;show rt h Wi b=some o;unfold rt;rw[if_neg hb];exact e
 .intro b o e;rcases S.fz b o e with q|q
  .exact .inl q
  .exact .inr (Ac q)
 .intro p d;rcases ap.mp d with rfl|d
  .obtain⟨m,⟨o,es,ep,q1,q2,t,_⟩,_⟩:=S.ns;exact⟨o,q1,⟨es,ep,q2,t⟩,S.kl⟩
  .exact S.own.at_ p d
 .rw[aq,bZ];refine⟨λ z=>?_,S.own.nd⟩;obtain⟨p,d,e⟩:=az.mp z;exact(S.wu p d).2 e
 .intro p d;rcases ap.mp d with rfl|d
  .exact .inl u
  .exact Ac (S.wu p d).1
theorem Ic.ns {h:dM} {C:aM} {o:Obj} (e:h.get? C=some o) (n:Ic o):∃m,h.Ns C m:=by
 obtain⟨es,ep,q1,q2⟩:=n;exact⟨_,o,es,ep,e,q1,q2,λ _=>rfl⟩
def Va (c:Cx) (G:Gm) (W:Om):List cX->Bool->Prop
 |[],b=>b=true
 |[t],b=>Tt c G W t b
 |_,_=>False
theorem kQ {c:Cx} {G:Gm} {W:Om}:Va c G W [] true:=rfl
theorem FF {c:Cx} {G:Gm} {W:Om} {t:cX} {b:Bool} (h:Tt c G W t b):Va c G W [t] b:=h
def rR (c:Cx) (W:Om) (n:Nat) (u target:cX) (t:List cX) (scope:y0) (cl:List (Str×aM)) (d:D) (r:Option D):Prop:=
 ∀(C:aM) (B:Bs) (p:Om) (q:aM×Ob),Ok {c with env:=compEnvC scope cl C c.env,B:=B} n->
  ∃G' b e,As {c with env:=compEnvC scope cl C c.env,B:=B} [] (p++q::W) target d G' /\ Va {c with env:=compEnvC scope cl C c.env,B:=B} G' (p++q::W) t b /\ r=(if b then some e else none) /\
   (b=true->Ev {c with env:=compEnvC scope cl C c.env,B:=B} G' (p++q::W) u e)
theorem rS {prog:aG} {w:aB} {A:bU} {R:mS->ak->Prop} {s:ak} {u target iter:cX} {t:List cX} {scope:y0} {pos:Pos} {it H:aj} {env:Env} (I:Nat->ak->Prop)
  (M:∀n s,I n s->wpAny (model prog w) A (pyNext it) (λ r γ=>match r with
   |none=>R (.ok .next) γ
   |some v=>wpAny (model prog w) A (letOwnedTupleGo target it v) (λ _ V=>wpAny (model prog w) A (assign target env v) (λ _ η=>
     wpAny (model prog w) A (forIn t true λ c r=>if r=true then do let ok<-isTrue c env (eval c env);pure (rj ok) else pure (rj r)) (λ ok β=>
      if ok=true then wpAny (model prog w) A (eval u env) (λ x ζ=>
       wpAny (model prog w) A (call (.builtin "list.append") [H,x]) (λ _ ε=>∃m,m<n /\ I m ε) (notedBy (model prog w) A env λ e d=>R (.error e) d) ζ) (notedBy (model prog w) A env λ e d=>R (.error e) d) β
      else∃m,m<n /\ I m β) (notedBy (model prog w) A env λ e d=>R (.error e) d) η) (notedBy (model prog w) A env λ e d=>R (.error e) d) V) (notedBy (model prog w) A env λ e d=>R (.error e) d) γ) (notedBy (model prog w) A env λ e d=>R (.error e) d) s)
  (n:Nat) (h:I n s):eQ (model prog w) A (.compLoop (.ListComp u [⟨target,iter,t,0⟩] scope pos) 0 it H env) R s:=by
 refine codeAny_loop rfl I (λ n s hI=>?_) n h;show wpAny _ A ((compTurn (.ListComp u [⟨target,iter,t,0⟩] scope pos) 0 it H env).onRaise (λ x=>do noteFrame x env;theTreesLotGoes x)) _ _ s;refine wpAny_noted ?_;rw[compTurn_list];refine ae (bn (ae (bX (M n s hI) (λ r γ h₁=>?_) λ _ _ h'=>h')));cases r with
 |none=>exact af h₁
 |some v=>
  refine ae (bX h₁ (λ _ V δ=>?_) λ _ _ h'=>h');refine ae (bX δ (λ _ η μ=>ae (bX μ (λ ok β θ=>?_) λ _ _ h'=>h')) λ _ _ h'=>h');cases ok with
  |false=>exact af ⟨rfl,θ⟩
  |true=>
   exact ae (ae (bX θ (λ x ζ κ=>ae (bX κ (λ _ ε ι=>af (af ⟨rfl,ι⟩)) λ _ _ h'=>h')) λ _ _ h'=>h'))
section
variable{c:Cx} {G G':Gm} {W:Om}
theorem Ad {n:Nat} {ζ target iter:cX} {β:List cX} {scope:y0} {cl:List (Str×aM)} {pos:Pos} {ds:List D} {f:D->Option D} {use:Option (aj->Sem Unit)} (ok:Ok c n) (hi:KS c G W iter ds) (υ:ds.length <= aO)
  (ρ:∀d∈ds,rR c W n ζ target β scope cl d (f d)) (μ:closureFor scope c.env=pure cl) (ν:∀y∈scope.names,y.2≠.cell) (δ:scope.kind=.function)
  (ε:∀x∈scope.names,x.2=.local->scope.names.lookup x.1=some .local) (hs:∀x,foldedSetIterable iter c.env x=pure x)
  (s:ak) (K:FM) (Q:aj->ak->Prop) (E:aj->ak->Prop) (S:c.S s K G W)
  (k:∀ο C h' K' t',FM.Le K K'->f' c.B c.env.locals h' K' G ((C,.pred Ic)::(ο,.list (ds.filterMap f))::W)->match use with
   |none=>∀V,iY C h' V->Q (.ref ο) {s with heap:=V,toks:=t'}
   |some u=>wpAny c.M c.A (u (.ref ο)) (λ _ θ=>∃m,θ.heap.Ns C m /\ ∀V,iY C θ.heap V->Q .none {θ with heap:=V}) E {s with heap:=h',toks:=t'}):
  wpAny c.M c.A (comprehension (.ListComp ζ [⟨target,iter,β,0⟩] scope pos) scope c.env (firstIterPos [⟨target,iter,β,0⟩] pos) (newList []) false (eval iter c.env) use) Q E s:=by
 refine oX (g:=⟨target,iter,β,0⟩) (gs:=[]) rfl hs μ δ ε ?_;refine hi s K _ E S λ it P P' h0 K0 t0 k0 S0 IT=>?_;refine bK ?_;have S1:=S0.new {cls:=.type "list",data:=.seq #[]} (b:=.list []) ⟨[],0,rfl,cB.nil⟩;generalize hD:h0.objs.size=D at S1⊢;generalize X3:h0.push {cls:=.type "list",data:=.seq #[]}=h1 at S1;refine ik ν (by intro y hy;simp at hy) (λ h2 κ ι=>?_) δ;dsimp only at κ ι⊢;generalize hC:h1.objs.size=C at κ ι⊢;have ξ:h1.get? C=none:=hC▸kX;have keep:∀b o,h1.get? b=some o->h2.get? b=some o:=λ b o e=>ι.extBut b o (λ q=>by rw[q,ξ] at e;cases e) (aA _ e);have I0:=pu (L:=C) (G₀:=[]) S1.kp S1.own ξ keep κ (λ p hp=>nomatch hp)
 let c':Cx:={c with env:=compEnvC scope cl C c.env,B:=⟨K0,rt h1 ((D,.list [])::(P 0++W))⟩}
 have σ:Ok c' n:=⟨ok.T.trans (S0.k0),ok.h,ok.d,ok.u⟩;have fin:∀(h':dM) (K':FM) (t':Nat),FM.Le K0 K'->f' c'.B C h' K' [] ((D,.list (ds.filterMap f))::W)->
   compPost c.M c.A E use Q (.ref D) C (.ok .next) {s with heap:=h',toks:=t'}:=by
  intro h' K' t' kk SS;have A:=nv S1.kp ξ SS;have S2:=(S1.perm (W':=((D,.list [])::(P 0++W))++[]) (by simp)).call A;rw[ax] at S2;have z:=k D C h' K' t' (k0.trans kk) S2;cases use with
  |none=>
   obtain⟨o,q1,q2,_⟩:=S2.own.at_ _ (ag ..);obtain⟨m,hm⟩:=Ic.ns q1 q2;exact⟨m,hm,λ V hs=>z V hs⟩
  |some u=>exact z
 have η:∀t:Nat,eQ c.M c.A (.compLoop (.ListComp ζ [⟨target,iter,β,0⟩] scope pos) 0 (.ref it) (.ref D) c'.env) (compPost c.M c.A E use Q (.ref D) C) {s with heap:=h2,toks:=t}:=by
  intro t
  let J:Nat->ak->Prop:=λ n s'=>∃i K' h' t',n=ds.length-i /\ i <= ds.length /\ s'={s with heap:=h',toks:=t'} /\ FM.Le K0 K' /\ f' c'.B C h' K' [] (P i++(D,.list ((ds.take i).filterMap f))::W)
  refine rS J ?_ ds.length ⟨0,K0,h2,_,rfl,aU _,rfl,FM.Le.rfl,by
   have:=I0.perm (W':=P 0++(D,.list [])::W) fj.symm;simpa using this⟩
  rintro n' s' ⟨i,K1,τ,t1,rfl,χ,rfl,k1,γ⟩;by_cases H:i<ds.length
  .refine IT.item i ds[i] (by simp[H]) {s with heap:=τ,toks:=t1} K1 _ _ k1 γ.kp γ.own.left λ v h3 K3 t3 A3 r3 lg=>?_;have S3:=γ.call A3;obtain⟨G4,b,e,ha,ht,hr,he⟩:=ρ ds[i] (cE H) C c'.B (P (i+1)) (D,.list ((ds.take i).filterMap f)) σ;refine lg target (λ h=>nomatch h) _ _ _ rfl λ ψ X1=>?_;have X0:=S3.call X1;refine ha {s with heap:=ψ,toks:=t3} K3 v _ _ X0 r3 λ h4 K4 t4 k4 S4=>?_;have tk:(ds.take (i+1)).filterMap f=(ds.take i).filterMap f++(f ds[i]).toList:=by
    rw[bY,am H,rC,cr];cases q:f ds[i]<;>simp[q]
   have body:∀(h5:dM) (K5:FM) (t5:Nat),FM.Le K0 K5->f' c'.B C h5 K5 G4 (P (i+1)++(D,.list ((ds.take i).filterMap f))::W)->
     (if b=true then wpAny c.M c.A (eval ζ c'.env) (λ x s₄=>
       wpAny c.M c.A (call (.builtin "list.append") [.ref D,x]) (λ _ s₅=>∃m,m<ds.length-i /\ J m s₅) (notedBy c.M c.A c'.env λ e s'=>compPost c.M c.A E use Q (.ref D) C (.error e) s') s₄) (notedBy c.M c.A c'.env λ e s'=>compPost c.M c.A E use Q (.ref D) C (.error e) s') {s with heap:=h5,toks:=t5}
      else∃m,m<ds.length-i /\ J m {s with heap:=h5,toks:=t5}):=by
    intro h5 K5 t5 k5 S5;cases b with
    |false=>
     rw[if_neg (by simp)];refine⟨ds.length-(i+1),KP dX (dE (zu H)),i+1,K5,h5,t5,rfl,H,rfl,k5,?_⟩;rw[tk,hr,if_neg (by simp),uN,ax];exact S5.weak (λ p hp=>nomatch hp)
    |true=>
     rw[if_pos rfl];refine he rfl {s with heap:=h5,toks:=t5} K5 _ _ S5 λ x h6 K6 t6 k6 S6 r6=>?_;have φ:((ds.take i).filterMap f).length <= aO:=aL (oY ..) (by rw[bL];exact PK υ H (bO _ _));refine sJ (c:=c') (n:=n) (P:=Is .none [(D,.list ((ds.take i).filterMap f++[e]))]) (Wr:=P (i+1)++W) σ (.cons (.over .head) .nil) (xP φ) {s with heap:=h6,toks:=t6} K6 [.ref D,x] _ _ S6 (cB.cons (d:=.val (.ref D)) (by simp only[j9]) (cB.cons r6 cB.nil)) λ v h7 K7 t7 d Wo k7 S7 r7 p7=>?_;obtain⟨rfl,rfl⟩:=p7;refine⟨ds.length-(i+1),KP dX (dE (zu H)),i+1,K7,h7,t7,rfl,H,rfl,(k5.trans k6).trans k7,?_⟩;rw[tk,hr,if_pos rfl,cr];exact(S7.perm (W':=P (i+1)++(D,.list ((ds.take i).filterMap f++[e]))::W) (by rw[rD];exact fj.symm)).weak (λ p hp=>nomatch hp)
   match β,ht with
   |[],ht=>
    have ht:b=true:=ht;exact wpAny_tests_nil (ht▸body h4 K4 t4 ((k1.trans A3.le).trans k4) S4)
   |[t],ht=>
    exact wpAny_tests_one (ht {s with heap:=h4,toks:=t4} K4 _ _ S4 λ h5 K5 t5 k5 S5=>body h5 K5 t5 (((k1.trans A3.le).trans k4).trans k5) S5)
  .have e:i=ds.length:=ai χ (tG H);subst e;refine IT.done {s with heap:=τ,toks:=t1} K1 _ _ k1 γ.kp γ.own.left λ ω K2 t2 A2=>?_;have S2:=γ.call A2;rw[bF] at S2;exact fin ω K2 t2 (k1.trans A2.le) S2
 refine codeAny_compStart_list (η _) ?_;exact IT.self 0 _ K0 _ _ FM.Le.rfl I0.kp (I0.perm (W':=P 0++(D,.list [])::W) fj.symm).own.left λ t'=>η t'
theorem ic {n:Nat} {β target iter:cX} {V:List cX} {scope:y0} {cl:List (Str×aM)} {pos:Pos} {ds:List D} {f:D->Option D} (ok:Ok c n) (hi:KS c G W iter ds) (δ:ds.length <= aO)
  (M:∀d∈ds,rR c W n β target V scope cl d (f d)) (v:closureFor scope c.env=pure cl) (H:∀y∈scope.names,y.2≠.cell) (u:scope.kind=.function)
  (t:∀x∈scope.names,x.2=.local->scope.names.lookup x.1=some .local) (hs:∀x,foldedSetIterable iter c.env x=pure x:=by intro _;symm):
  Ev c G W (.ListComp β [⟨target,iter,V,0⟩] scope pos) (.lst (ds.filterMap f)):=λ s K Q E S k=>by
 rw[eval_ListComp];refine Ad (use:=none) ok hi δ M v H u t hs s K Q E S λ γ C h1 K1 t1 k1 S1 h2 ε=>?_;have S2:=S1.turnDrop (h':=h2) (λ x o hx e=>(ε.2 x hx).trans e);obtain⟨o,q,le,A⟩:=(Aft.same S2.kp S2.own).freeze;obtain⟨vs,e,rfl,r⟩:=q;have S3:=(S2.perm (W':=((γ,.list (ds.filterMap f))::W)++[]) (by simp)).call A;rw[ax] at S3;refine k _ h2 _ t1 (k1.trans le) S3 ?_;simp only[j9];exact⟨γ,vs,e,rfl,FM.add_self,cB.mono le _ r⟩
theorem f'.nsLet {B:Bs} {L:aM} {h:dM} {K:FM} {C:aM} (S:f' B L h K G ((C,.pred Ic)::W)):∃m,h.Ns C m:=by
 obtain⟨o,q1,q2,_⟩:=S.own.at_ _ (ag ..);exact Ic.ns q1 q2
theorem lB {n:Nat} {x:Str} {p:Pos} {H target iter:cX} {t:List cX} {scope:y0} {cl:List (Str×aM)} {pos V:Pos} {ds:List D} {f:D->Option D} {rest:List eX} {R:iD->Prop} (ok:Ok c n) (hi:KS c G W iter ds) (ζ:ds.length <= aO)
  (ε:∀d∈ds,rR c W n H target t scope cl d (f d)) (P:un G x (.lst (ds.filterMap f)) G') (h:Ex c G' W rest R) (γ:closureFor scope c.env=pure cl) (δ:∀y∈scope.names,y.2≠.cell) (β:scope.kind=.function)
  (v:∀x∈scope.names,x.2=.local->scope.names.lookup x.1=some .local) (hs:∀x,foldedSetIterable iter c.env x=pure x:=by intro _;symm)
  (η:km (.ListComp H [⟨target,iter,t,0⟩] scope pos) (some (.Name x p)) V.line c.env=pure true:=by symm)
  (hl:c.env.kindOf x=some .local:=by symm) (hp:(c.env.scope.kind==.class||(c.env.scope.kind==.module&&c.env.locals !=c.env.globals))=false:=by symm):
  Ex c G W (.Assign [.Name x p] (.ListComp H [⟨target,iter,t,0⟩] scope pos) V::rest) R:=gy λ s K Q E S k=>by
 rw[exec_Assign_Name_used _ _ _ _ η];refine ae (bn (ae ?_));show wpAny c.M c.A (comprehension (.ListComp H [⟨target,iter,t,0⟩] scope pos) scope c.env (firstIterPos [⟨target,iter,t,0⟩] pos) (newList []) false (eval iter c.env) (some (assign (.Name x p) c.env))>>=λ _=>pure ()) _ E s;refine ae (Ad (use:=some (assign (.Name x p) c.env)) ok hi ζ ε γ δ β v hs s K _ E S λ u C h1 K1 t1 k1 S1=>?_);have S2:=S1.perm (iH ..);obtain⟨o,q,le,A⟩:=(Aft.same S2.kp S2.own).freeze;obtain⟨vs,e,rfl,r⟩:=q;have S3:=(S2.perm (W':=((u,.list (ds.filterMap f))::(C,.pred Ic)::W)++[]) (by simp)).call A;rw[ax] at S3;have rd:Rd (K1.add u ⟨.type "list",aH,.seq (al vs) e,#[]⟩) (.lst (ds.filterMap f)) (.ref u):=by
  simp only[j9];exact⟨u,vs,e,rfl,FM.add_self,cB.mono le _ r⟩
 refine kb P hl hp {s with heap:=h1,toks:=t1} _ (.ref u) _ E S3 rd λ h3 K3 t3 k3 S4=>?_;refine⟨S4.nsLet.choose,S4.nsLet.choose_spec,λ h4 θ=>af (af ?_)⟩;exact k .next h4 K3 t3 ((k1.trans le).trans k3) ⟨G',W,S4.turnDrop (λ x o hx e=>(θ.2 x hx).trans e),h⟩
end
section
variable{c:Cx} {G G':Gm} {W Wr:Om}
theorem FG {K:FM} {d:D} {o:Obj}:(Ob.cell (some d)).is K o->∃v,o.data=.cell (some v) /\ Rd K d v:=λ h=>h
theorem Me {x:Str} {pos:Pos} {a:aM} {d:D} (t:gc W (a,.cell (some d)) Wr) (hc:c.env.cells.lookup x=some a:=by kernel_rfl!) (u:c.env.scope.kind=.function:=by symm) (hl:c.env.kindOf x=some .cell:=by symm) (hd:(x==("__debug__":Str))=false:=by symm):
  Ev c G W (.Name x pos) d:=λ s K Q E S k=>by
 obtain⟨o,h1,h2,_⟩:=(S.perm t.perm).own.at_ _ (ag ..);obtain⟨v,e,r⟩:=FG h2;exact qE (wpAny_loadName_cell u hl hc ⟨o,h1,e⟩ (k v s.heap K s.toks FM.Le.rfl S r)) hd
theorem xR {x:Str} {e:cX} {p pos:Pos} {rest:List eX} {a:aM} {d:D} {M:Option D} {R:iD->Prop} (he:Ev c G W e d) (t:gc W (a,.cell M) Wr) (h:Ex c G ((a,.cell (some d))::Wr) rest R) (hc:c.env.cells.lookup x=some a:=by kernel_rfl!)
  (hk:c.env.scope.kind=.function:=by symm) (hl:c.env.kindOf x=some .cell:=by symm) (hs:km e (some (.Name x p)) pos.line c.env=pure false:=by symm):Ex c G W (.Assign [.Name x p] e pos::rest) R:=
 gy λ s K Q E S k=>oG (he s K _ E S λ v h1 K1 t1 k1 S1 r1=>by
  have S2:=S1.perm t.perm;obtain⟨o,q1,q2,q3⟩:=S2.own.at_ _ (ag ..);have u:∃V,h1.IsCell a V:=by
   cases M with
   |none=>exact⟨_,o,q1,q2⟩
   |some M=>obtain⟨v,e,r⟩:=FG q2;exact⟨_,o,q1,e⟩
  obtain⟨V,u⟩:=u;exact wpAny_storeName_cell hk hl hc u λ h2 hc2 H=>by
   obtain⟨o',e1,e2⟩:=hc2;exact k .next h2 K1 t1 k1 ⟨G,_,S2.turn (b':=.cell (some d)) (λ x o hx e=>(H.2 x hx).trans e) e1 ⟨v,e2,r1⟩,h⟩) hs
end
theorem Ae {P:D->Om->Prop} (ps:List Str) (G₀:Gm) (cs:aM->List (Str×aM)) (hf:FnAt T a V body) (hn:xJ T)
  (θ:∀vs:List aj,vs.length=ds.length->bindArgs V ⟨vs,[]⟩=pure (ps.zip vs)) (ξ:ps.length=ds.length) (ρ:ps.Nodup)
  (δ:∀x∈ps,V.scope.names.lookup x=some .local) (η:∀L,cellsFrom (L+1) V.scope.names []=cs L) (X3:∀L,∀p∈cs L,(cs L).lookup p.1=some p.2)
  (hb:∀(A:bU) (L:aM) (B:Bs),Ok ⟨pr,w,T,A,callEnvC V L a,B⟩ n->Ex ⟨pr,w,T,A,callEnvC V L a,B⟩ G₀ ((cs L).map (λ p=>(p.2,Ob.cell aH))++Wi) body (Gives P))
  (hG:ps.zip ds=G₀:=by rfl) (χ:V.closure=[]:=by symm)
  (X5:V.scope.isCoroutine=false:=by symm) (φ:V.scope.isGenerator=false:=by symm) (hk:V.scope.kind=.function:=by symm):
  Fn pr w T (n+1) (.ref a) ds Wi P:=by
 subst hG;intro A hA hd hu s K vs Q E hT hK ν hO h;obtain⟨cl,dd,sl,X8⟩:=hf.at_;obtain⟨cc,co,Y0,ct,X7,hc2,hc3,hc4⟩:=hf.code;have ho:s.heap.get? a=some ⟨cl,dd,.func V,sl⟩:=hK _ _ (hT _ _ X8);have X6:s.heap.CodeRec V.code V.qualname:=⟨cc,co,Y0,ct,X7,hK _ _ (hT _ _ hc2),hc3,hc4⟩;have τ:s.heap.NoLimit:=hn _ λ b o e=>hK _ _ (hT _ _ e);have ζ:=ν.length;refine dR ?_;refine fv (codeAny_call_cells (R:=λ r s'=>match r with|.ok (.ret v)=>Q v s'|_=>False) (binds:=ps.zip vs) (by have:jS=1000:=rfl;exact Io hd) ho rfl τ X6 hf.body (θ vs ζ) χ
  (λ x hx=>.inl (δ x.1 (jo hx).1)) ?_ X5 φ hk) ?_
 .intro s₁ x;obtain⟨⟨⟨h₀,t₀,rfl⟩,ns,keep,fresh⟩,β,γ,M⟩:=x;have X4:∀(l:List (Str×aj)) (m:Str->Option aj),(∀p∈l,V.scope.names.lookup p.1=some .local)->bindC (callEnvC V s.heap.objs.size a).kindOf l m=m:=by
   intro l
   induction l with
   |nil=>intro m _;rfl
   |cons p l ih=>
    intro m hl;obtain⟨y,v⟩:=p;have hy:(callEnvC V s.heap.objs.size a).kindOf y=some .local:=hl (y,v) (ag ..);unfold bindC;rw[if_pos hy];exact ih m λ q hq=>hl q (ao _ hq)
  have X1:∀(l:List (Str×aj)) (m:Str->Option aj),(∀p∈l,V.scope.names.lookup p.1=some .local)->(l.map (·.1)).Nodup->∀x v,(l.reverse.lookup x=some v)->bindL (callEnvC V s.heap.objs.size a).kindOf l m x=some v:=by
   intro l
   induction l with
   |nil=>intro m _ _ x v e;simp at e
   |cons p l ih=>
    intro m hl nd x v e;obtain⟨y,u⟩:=p;have hy:(callEnvC V s.heap.objs.size a).kindOf y=some .local:=hl (y,u) (ag ..);unfold bindL;rw[if_pos hy];rw[aq,bZ] at nd;rw[oI,List.lookup_append] at e;cases q:l.reverse.lookup x with
    |some v'=>
     rw[q] at e;have e:v'=v:=by simpa using e
     subst e;exact ih _ (λ q hq=>hl q (ao _ hq)) nd.2 x v' q
    |none=>
     rw[q] at e;have e:xc x [(y,u)]=some v:=by simpa using e
     have X0:x=y:=by
      by_cases z:x=y
      .exact z
      .have:(x==y)=false:=by simpa using z
       simp[gK,this] at e
     subst X0;have e:u=v:=by simpa [gK] using e
     subst e;have key:∀(l:List (Str×aj)) (m:Str->Option aj),(∀p∈l,V.scope.names.lookup p.1=some .local)->x∉l.map (·.1)->bindL (callEnvC V s.heap.objs.size a).kindOf l m x=m x:=by
      intro l
      induction l with
      |nil=>intro m _ _;rfl
      |cons p l ψ=>
       intro m υ μ;obtain⟨y2,u2⟩:=p;have ω:(callEnvC V s.heap.objs.size a).kindOf y2=some .local:=υ (y2,u2) (ag ..);unfold bindL;rw[if_pos ω,ψ _ (λ q hq=>υ q (ao _ hq)) (λ z=>μ (ao _ z))];rw[if_neg (λ z=>μ (by rw[z];exact ag ..))]
     rw[key l _ (λ q hq=>hl q (ao _ hq)) nd.1,if_pos rfl]
  have ο:((ps.zip vs).map (·.1)).Nodup:=by
   have:(ps.zip vs).map (·.1)=ps:=by rw[wr];exact Si ξ ζ
   rw[this];exact ρ
  rw[X4 _ _ (λ p H=>δ p.1 (jo H).1)] at β;have ns:h₀.Ns s.heap.objs.size (bindL (callEnvC V s.heap.objs.size a).kindOf (ps.zip vs) λ _=>none):=ns;have keep:∀b o,s.heap.get? b=some o->h₀.get? b=some o:=keep;have M:∀n c,(n,c)∈cs s.heap.objs.size->s.heap.objs.size<c:=by rw[<-η];exact M
  have γ:(cs s.heap.objs.size).Pairwise λ x y=>x.2≠y.2:=by rw[<-η];exact γ
  have β:∀n c,(cs s.heap.objs.size).lookup n=some c->h₀.IsCell c none:=by rw[<-η];exact β
  have hL:s.heap.get? s.heap.objs.size=none:=kX;have X9:K s.heap.objs.size=none:=iU hK;have ε:∀c,s.heap.objs.size<c->s.heap.get? c=none:=λ c hc=>by
   cases e:s.heap.get? c with
   |none=>rfl
   |some o=>exact absurd (lH hc (cC e)) (cU _)
  have κ:∀c,s.heap.objs.size<c->K c=none:=λ c hc=>by
   cases e:K c with
   |none=>rfl
   |some o=>have:=hK _ _ e;rw[ε c hc] at this;cases this
  have σ:∀p∈cs s.heap.objs.size,∃o,h₀.get? p.2=some o /\ o.data=.cell none:=λ p H=>β _ _ (X3 _ p H)
  let U:FM:=λ b=>if b∈Wi.map (·.1) then none else s.heap.get? b
  have hU:∀b,U b=none->b∈Wi.map (·.1) \/ s.heap.get? b=none:=λ b e=>by
   by_cases q:b∈Wi.map (·.1)
   .exact .inl q
   .exact .inr (by simpa only[U,if_neg q] using e)
  have ι:∀b,b∈Wi.map (·.1) \/ s.heap.get? b=none->U b=none:=λ b e=>by
   by_cases q:b∈Wi.map (·.1)
   .simp only[U,if_pos q]
   .simp only[U,if_neg q];exact e.resolve_left q
  have S:f' ⟨K,U⟩ s.heap.objs.size h₀ K (ps.zip ds) ((cs s.heap.objs.size).map (λ p=>(p.2,Ob.cell aH))++Wi):=by
   refine⟨⟨_,ns,?_⟩,λ b o e=>keep _ _ (hK _ _ e),?_,X9,ι _ (.inr hL),FM.Le.rfl,λ b o e=>.inl e,⟨λ p H=>?_,?_⟩,λ p H=>?_⟩
   .intro p H;obtain⟨v,e,r⟩:=sK ps ds vs ρ ν ξ p H;exact⟨v,X1 _ _ (λ p H=>δ p.1 (jo H).1) ο _ _ e,r⟩
   .intro b o e;by_cases q:b∈Wi.map (·.1)
    .simp only[U,if_pos q] at e;cases e
    .simp only[U,if_neg q] at e;exact keep _ _ e
   .rcases aQ.mp H with H|H
    .obtain⟨q,hq,rfl⟩:=az.mp H;obtain⟨o,e1,e2⟩:=σ q hq;exact⟨o,e1,e2,κ _ (M q.1 q.2 hq)⟩
    .obtain⟨o,q1,q2⟩:=hO.at_ p H;exact⟨o,keep _ _ q1,q2⟩
   .rw[av,cP];refine⟨?_,hO.nd,?_⟩
    .rw[bH];exact dU.mpr (γ.imp λ h=>h)
    .intro x hx y hy e;subst e;rw[bH] at hx;obtain⟨q,hq,rfl⟩:=az.mp hx;obtain⟨p,H,e⟩:=az.mp hy;obtain⟨o,q1,_⟩:=hO.at_ p H;have e:p.1=q.2:=e;rw[e,ε _ (M q.1 q.2 hq)] at q1;cases q1
   .rcases aQ.mp H with H|H
    .obtain⟨q,hq,rfl⟩:=az.mp H;have:=M q.1 q.2 hq;exact⟨ι _ (.inr (ε _ this)),λ e=>cU _ (e▸this)⟩
    .refine⟨ι _ (.inl (aZ (f:=(·.1)) H)),λ e=>?_⟩;obtain⟨o,q1,q2⟩:=hO.at_ p H;rw[e,hL] at q1;cases q1
  refine hb (A.deeper _) _ ⟨K,U⟩ ⟨hT,hA,by show A.depth+1+n <= 990;exact CD hd,by show A.units+3+3*n <= 9000;exact Ip hu⟩ {s with heap:=h₀,toks:=t₀} K _ _ S ?_;intro f h' K' t' k1 e1;have fin:∀G' W' Wo Wr d (v:aj),f' ⟨K,U⟩ s.heap.objs.size h' K' G' W'->cv W' Wo Wr->Rd K' d v->P d Wo->Q v {s with heap:=h',toks:=t'}:=λ G' W' Wo Wr d v S' t r' p=>by
   have S':=(S'.perm t.perm).left;refine h v h' K' t' d Wo ⟨k1,S'.kp,λ b o e hb=>S'.up b o ?_,?_,S'.own,?_⟩ r' p
   .show U b=some o;simp only[U,if_neg hb];exact e
   .intro b o e;rcases S'.fz b o e with q|q
    .exact .inl q
    .exact .inr ((hU b q).symm)
   .intro p H;exact(hU _ (S'.wu p H).1).symm
  cases f with
  |next=>
   obtain⟨G',W',S',Wo,Wr,t,p⟩:=e1;exact fin G' W' Wo Wr .none .none S' t (by simp only[j9]) p
  |brk=>obtain⟨G',W',S',r⟩:=e1;exact r.elim
  |cont=>obtain⟨G',W',S',r⟩:=e1;exact r.elim
  |ret v=>
   obtain⟨d',G',W',S',r1,Wo,Wr,t,p⟩:=e1;exact fin G' W' Wo Wr d' v S' t r1 p
 .intro r s' hr;cases r with
  |error e=>exact hr.elim
  |ok f=>cases f<;>first|exact hr.elim|exact hr
section
variable{K K1 K2:FM} {h h1 h2:dM} {Wi W1 Wo Wr:Om}
theorem Aft.trans (A:Aft K h Wi K1 h1 W1) (t:Aft K1 h1 W1 K2 h2 Wo):Aft K h Wi K2 h2 Wo:=by
 have d:∀b,(h1.get? b=none \/ b∈W1.map (·.1))->h.get? b=none \/ b∈Wi.map (·.1):=by
  intro b hb;rcases hb with e|v
  .by_cases q:b∈Wi.map (·.1)
   .exact .inr q
   .cases H:h.get? b with
    |none=>exact .inl rfl
    |some o=>rw[A.old b o H q] at e;cases e
  .obtain⟨p,u,rfl⟩:=az.mp v;exact A.wn p u
 refine⟨A.le.trans t.le,t.kp,?_,?_,t.own,λ p u=>d _ (t.wn p u)⟩
 .intro b o e hb;refine t.old b o (A.old b o e hb) λ v=>?_;obtain⟨p,u,q⟩:=az.mp v;rcases A.wn p u with z|z
  .rw[show p.1=b from q,e] at z;cases z
  .rw[show p.1=b from q] at z;exact hb z
 .intro b o e;rcases t.new b o e with z|z
  .exact A.new b o z
  .exact .inr (d b z)
theorem Aft.frame (A:Aft K h Wi K1 h1 Wo) (o:gx K h (Wi++Wr)):Aft K h (Wi++Wr) K1 h1 (Wo++Wr):=by
 injections K K1 h h1 Wi Wo Wr A o;have nd:=o.nd;rw[av,cP] at nd;refine⟨A.le,A.kp,λ b x e hb=>A.old b x e λ z=>hb (by rw[av];exact aP _ z),λ b x e=>?_,⟨?_,?_⟩,?_⟩
 .rcases A.new b x e with z|z|z
  .exact .inl z
  .exact .inr (.inl z)
  .exact .inr (.inr (by rw[av];exact aP _ z))
 .intro p d;rcases aQ.mp d with d|d
  .exact A.own.at_ p d
  .obtain⟨x,q1,q2,t⟩:=o.at_ p (aS _ d);have hn:p.1∉Wi.map (·.1):=λ z=>nd.2.2 p.1 z p.1 (aZ (f:=(·.1)) d) rfl;refine⟨x,A.old _ _ q1 hn,q2.mono A.le,?_⟩;cases e:K1 p.1 with
   |none=>rfl
   |some H=>
    rcases A.new _ _ e with z|z|z
    .rw[t] at z;cases z
    .rw[q1] at z;cases z
    .exact absurd z hn
 .rw[av,cP];refine⟨A.own.nd,nd.2.1,?_⟩;intro x u y hy e;subst e;obtain⟨p,d,rfl⟩:=az.mp u;obtain⟨q,v,e⟩:=az.mp hy;rcases A.wn p d with z|z
  .obtain⟨o,q1,_⟩:=o.at_ q (aS _ v);have e:q.1=p.1:=e;rw[e,z] at q1;cases q1
  .exact nd.2.2 p.1 z p.1 hy rfl
 .intro p d;rcases aQ.mp d with d|d
  .rcases A.wn p d with z|z
   .exact .inl z
   .exact .inr (by rw[av];exact aP _ z)
  .exact .inr (by rw[av];exact aS _ (aZ (f:=(·.1)) d))
end
def Bd (T:FM) (t:nL) (mk:List aj->pP) (ds:List D) (ps:List Str) (ds':List D):Prop:=
 ∀(M:sk) (A:bU) (E:aj->ak->Prop) (s:ak) (K:FM) (vs:List aj) (Q:List (Str×aj)->ak->Prop),FM.Le T K->FM.In K s.heap->cB K ds vs->
  (∀d h' K' t',Aft K s.heap [] K' h' []->cB K' ds' d->Q (ps.zip d) {s with heap:=h',toks:=t'})->wpAny M A (bindArgs t (mk vs)) Q E s
theorem FH {mk:List aj->pP} (h:∀vs:List aj,vs.length=ds.length->bindArgs d (mk vs)=pure (ps.zip vs)):Bd T d mk ds ps ds:=λ M A E s K vs Q _ kp r k=>by
 rw[h vs r.length];exact af (k vs s.heap K s.toks (Aft.same kp gx.nil) r)
theorem Mf (k:aj->aj->aj->Sem (List (Str×aj))) (h₁:∀v u,bindArgs H ⟨[v,u],[]⟩=(newTuple [u]>>=k v u)) (β:∀v u t,k v u t=pure (ps.zip [v,t])):
  Bd T H (λ vs=>⟨vs,[]⟩) [d,d2] ps [d,.tup [d2]]:=λ M A E s K vs Q hT kp r kk=>by
 obtain⟨v,r1,rfl,r2,u,r3,rfl,V,rfl⟩:=r;show wpAny M A (bindArgs H ⟨[v,u],[]⟩) Q E s;rw[h₁];refine ae (nQ ?_);rw[β];refine af (kk _ _ _ s.toks (Aft.pushFz kp gx.nil _) ?_);show∃_,_;exact⟨_,_,rfl,Rd.mono (FM.le_add (iU kp)) _ r2,_,_,rfl,⟨_,[u],_,rfl,FM.add_self,u,[],rfl,Rd.mono (FM.le_add (iU kp)) _ V,rfl⟩,rfl⟩
def O2 (pr:aG) (w:aB) (T:FM) (n:Nat) (f:aj) (mk:List aj->pP) (ds:List D) (Wi:Om) (P:D->Om->Prop):Prop:=
 ∀A:bU,A.handled=none->A.depth+n <= 990->A.units+3*n <= 9000->∀(s:ak) (K:FM) (vs:List aj) (Q:aj->ak->Prop) (E:aj->ak->Prop),FM.Le T K->FM.In K s.heap->cB K ds vs->gx K s.heap Wi->
  (∀v h' K' t' d Wo,Aft K s.heap Wi K' h' Wo->Rd K' d v->P d Wo->Q v {s with heap:=h',toks:=t'})->wpAny (model pr w) A (call f (mk vs).pos (mk vs).kw) Q E s
theorem GU {mk:List aj->pP} {P:D->Om->Prop} (ps:List Str) (G₀:Gm) (hf:FnAt T a M body) (hn:xJ T)
  (β:Bd T M mk ds ps ds') (ν:ps.length=ds'.length) (ξ:ps.Nodup)
  (V:∀x∈M.scope.names,x.2≠.cell) (ζ:∀x∈ps,M.scope.names.lookup x=some .local)
  (hb:∀(A:bU) (L:aM) (B:Bs),Ok ⟨pr,w,T,A,cx M L a,B⟩ n->Ex ⟨pr,w,T,A,cx M L a,B⟩ G₀ Wi body (Gives P))
  (hG:ps.zip ds'=G₀:=by rfl)
  (ο:M.scope.isCoroutine=false:=by symm) (θ:M.scope.isGenerator=false:=by symm) (hk:M.scope.kind=.function:=by symm):
  O2 pr w T (n+1) (.ref a) mk ds Wi P:=by
 subst hG;intro A hA hd hu μ K₀ κ Q E u γ δ τ h₀;obtain⟨cl,dd,sl,σ⟩:=hf.at_;obtain⟨cc,co,υ,ct,ρ,hc2,hc3,hc4⟩:=hf.code;refine dR ?_;refine lV (by have:jS=1000:=rfl;exact Io hd) (γ _ _ (u _ _ σ)) rfl ο θ hf.body ⟨cc,co,υ,ct,ρ,γ _ _ (u _ _ hc2),hc3,hc4⟩ ?_;refine β _ _ _ μ K₀ κ _ u γ δ λ vs hh K tt AF ε=>?_;have hT:FM.Le T K:=u.trans AF.le;have ι:Aft K₀ μ.heap Wi K hh Wi:=AF.frame (Wr:=Wi) (by simpa using τ);have hK:FM.In K hh:=AF.kp;have hO:gx K hh Wi:=ι.own;have η:hh.NoLimit:=hn _ λ b o e=>hK _ _ (hT _ _ e);have φ:=ε.length;refine ik V (λ x hx=>ζ x.1 (jo hx).1) (λ h₁ ns sb=>⟨η.fresh _ sb,vK ?_⟩) hk;have keep:∀b o,hh.get? b=some o->h₁.get? b=some o:=λ b o e=>sb.extBut b o (gE (cC e)) (aA _ e);have hL:hh.get? hh.objs.size=none:=kX;have χ:K hh.objs.size=none:=iU hK;have hg:∀p∈ps.zip ds',∃v,(ps.zip vs).reverse.lookup p.1=some v /\ Rd K p.2 v:=sK ps ds' vs ξ ε ν;have S:=pu (L:=hh.objs.size) hK hO hL keep ns hg;refine hb (A.deeper _) _ _ ⟨hT,hA,by show A.depth+1+n <= 990;exact CD hd,by show A.units+3+3*n <= 9000;exact Ip hu⟩ _ K _ _ S ?_;intro f h' K' t' k1 e1;have fin:∀G' W' Wo Wr d (v:aj),f' ⟨K,rt hh Wi⟩ hh.objs.size h' K' G' W'->cv W' Wo Wr->Rd K' d v->P d Wo->Q v {μ with heap:=h',toks:=t'}:=λ G' W' Wo Wr d v H t r' p=>by
  have H:=(H.perm t.perm).left;refine h₀ v h' K' t' d Wo (ι.trans ?_) r' p;exact(nv hK hL H).drop
 cases f with
 |next=>
  obtain⟨G',W',H,Wo,Wr,t,p⟩:=e1;exact fin G' W' Wo Wr .none .none H t (by ext rd) p
 |brk=>obtain⟨G',W',H,r⟩:=e1;exact r.elim
 |cont=>obtain⟨G',W',H,r⟩:=e1;exact r.elim
 |ret v=>
  obtain⟨d',G',W',H,r1,Wo,Wr,t,p⟩:=e1;exact fin G' W' Wo Wr d' v H t r1 p
theorem Mg {R:iD->Prop} (t:vf G x a) (M:Ev c G W e b) (v:eM c G W a b d (pO op)) (P:un G x d G') (h:Ex c G' W rest R)
  (H:c.env.scope.kind=.function:=by symm) (hl:c.env.kindOf x=some .local:=by symm) (u:(c.env.scope.kind==.class||(c.env.scope.kind==.module&&c.env.locals !=c.env.globals))=false:=by symm):
  Ex c G W (.AugAssign (.Name x p) op e pos::rest) R:=Ql t.mem M v P h H hl u
section
variable{c:Cx} {G:Gm} {W:Om}
def SM (c:Cx) (d rest:List eX) (R:iD->Prop):iD->Prop
 |.next G W=>Ex c G W d (q6 c rest R)
 |o=>q6 c rest R o
theorem Eo {R:iD->Prop} (h:Ex c G W body (SM c d rest R)):Ex c G W (.Try body (h₀::hs) d [] pos::rest) R:=
 gy λ s K Q E S k=>wpAny_Try_except (h s K _ _ S λ f h1 K1 t1 t u=>by
  cases f with
  |next=>obtain⟨G1,W1,V,r⟩:=u;exact r _ K1 Q E V λ f h2 K2 t2 H M=>k f h2 K2 t2 (t.trans H) M
  |brk=>exact k _ h1 K1 t1 t u
  |cont=>exact k _ h1 K1 t1 t u
  |ret v=>exact k _ h1 K1 t1 t u)
theorem FI {R:iD->Prop} (h:Ex c G W d (q6 c rest R)):Ex c G W [] (SM c d rest R):=aY h
end
def vY (l:aM) (i:Nat) (o:Obj):Prop:=o.cls=.type "tuple_iterator" /\ o.data=.fields #[.ref l,.int i 0]
theorem IH {e} (hA:A.handled=none) (hl:K₀ l=some ⟨.type "tuple",aH,.seq (al vs) e,#[]⟩) (hr:cB K₀ ds vs):vi pr w A K₀ (λ i=>[(it,.pred (vY l i))]) (λ i=>[(it,.pred (vY l i))]) ds it where
 item i d hd s K Q E k0 kp o k:=by
  obtain⟨v,hv,r⟩:=hr.get hd;obtain⟨ob,H,⟨u,t⟩,a3⟩:=o.at_ _ (ag ..);have V:s.heap.IsTuple l (al vs):=⟨_,kp _ _ (k0 _ _ hl),rfl,_,rfl⟩;refine wpAny_pyNext_tuple_item (x:=v) ⟨ob,H,u,t⟩ V (by simpa using hv) λ h' hi hs=>?_;obtain⟨o',c1,c2,c3⟩:=hi;have A1:=Aft.turn (b':=.pred (vY l (i+1))) kp o (λ x o M e=>(hs.2 x M).trans e) c1 ⟨c2,c3⟩;refine k v h' K s.toks A1 (Rd.mono k0 _ r) λ target _ γ δ ε β q=>uo (β▸c1) c2 c3 (by decide) ?_;have:=q h' (Aft.same A1.kp A1.own);rw[<-β] at this;exact this
 done s K Q E k0 kp o k:=by
  obtain⟨ob,H,⟨u,t⟩,a3⟩:=o.at_ _ (ag ..);have V:s.heap.IsTuple l (al vs):=⟨_,kp _ _ (k0 _ _ hl),rfl,_,rfl⟩;refine wpAny_pyNext_tuple_end hA ⟨ob,H,u,t⟩ V (by simp[hr.length]) λ h' hs=>?_;exact k h' K s.toks (Aft.end1 kp o λ x o M e=>hs x o M e)
 self i s K Q E k0 kp o k:=by
  obtain⟨ob,H,⟨u,t⟩,a3⟩:=o.at_ _ (ag ..);exact wpAny_pyIter_tupleiter ⟨ob,H,u,t⟩ (k s.toks)
theorem xD (ok:Ok c n) (u:Ev c G W e (.tup ds)):KS c G W e ds:=λ s K Q E S k=>
 u s K _ E S λ v h1 K1 t1 t d r1=>by
  obtain⟨l,vs,ep,rfl,hl,hr⟩:=r1;refine wpAny_pyIter_tuple (items:=al vs) ⟨_,d.kp _ _ hl,rfl,_,rfl⟩ ?_;exact k _ (λ i=>[(_,.pred (vY l i))]) (λ i=>[(_,.pred (vY l i))]) _ K1 t1 t (d.new _ (b:=.pred (vY l 0)) ⟨rfl,rfl⟩) (IH ok.h hl hr)
def O3 (it:aM) (i:Nat) (o:Obj):Prop:=∃old,o={cls:=.type "enumerate",dict:=none,data:=.fields #[.none,.bool false,.ref it,rawInt i,.none,old],slots:=#[]}
def xT (ds:List D):List D:=ds.zipIdx.map λ p=>.tup [.int p.2,p.1]
theorem vZ {ds:List D} {i:Nat} {d:D} (h:(xT ds)[i]?=some d):∃x,ds[i]?=some x /\ d=.tup [.int i,x]:=by
 unfold xT at h;rw[a9,List.getElem?_zipIdx] at h;cases e:ds[i]? with
 |none=>rw[e] at h;simp at h
 |some x=>rw[e] at h;simp at h;exact⟨x,rfl,h.symm⟩
theorem v6:(xT ds).length=ds.length:=by simp[xT]
def wJ (e it l:aM) (i:Nat):Om:=[(e,.pred (O3 it i)),(it,.pred (eg l i))]
def Bq (e it l:aM) (i:Nat):Om:=[(e,.pred λ o=>∃a old,o={cls:=.type "enumerate",dict:=none,data:=.fields #[rawInt (a:aM),.bool false,.ref it,rawInt i,.none,old],slots:=#[]}),(it,.pred (eg l i))]
theorem Aft.turn2 {K:FM} {h h':dM} {a c:aM} {x y x' V:Ob} {v u:Obj} (kp:FM.In K h) (o:gx K h [(a,x),(c,y)]) (k:∀b o,b≠a->b≠c->h.get? b=some o->h'.get? b=some o) (hx:h'.get? a=some v) (hy:h'.get? c=some u) (M:x'.is K v) (H:V.is K u):
  Aft K h [(a,x),(c,y)] K h' [(a,x'),(c,V)]:=by
 obtain⟨o1,q1,q2,t⟩:=o.at_ _ (ag ..);obtain⟨o2,r1,r2,r3⟩:=o.at_ _ (ao _ (ag ..));have t:K a=none:=t;have r3:K c=none:=r3;refine⟨FM.Le.rfl,λ b z e=>k b z (λ q=>by rw[q,t] at e;cases e) (λ q=>by rw[q,r3] at e;cases e) (kp b z e),λ b z e hb=>k b z (λ q=>hb (by simp[q])) (λ q=>hb (by simp[q])) e,λ _ _ e=>.inl e,⟨?_,o.nd⟩,?_⟩
 .intro p d;simp only[ap,aK,or_false] at d;rcases d with rfl|rfl
  .exact⟨v,hx,M,t⟩
  .exact⟨u,hy,H,r3⟩
 .intro p d;simp only[ap,aK,or_false] at d;rcases d with rfl|rfl<;>exact .inr (by simp)
theorem Aft.newFz2 {K:FM} {h h':dM} {Wi Wo:Om} {a:aM} {x:Obj} (kp:FM.In K h) (A:Aft K h Wi K h' Wo) (ha:h.get? a=none) (v:h'.get? a=some x) (H:∀p∈Wo,p.1≠a):Aft K h Wi (K.add a x) h' Wo:=by
 have t:K a=none:=by
  cases e:K a with
  |none=>rfl
  |some o=>rw[kp _ _ e] at ha;cases ha
 refine⟨FM.le_add t,?_,A.old,?_,⟨λ p d=>?_,A.own.nd⟩,A.wn⟩
 .intro b o e;by_cases q:b=a
  .subst q;rw[FM.add_self] at e;cases e;exact v
  .rw[FM.add_ne q] at e;exact A.kp b o e
 .intro b o e;by_cases q:b=a
  .subst q;exact .inr (.inl ha)
  .rw[FM.add_ne q] at e;exact A.new b o e
 .obtain⟨o,q1,q2,u⟩:=A.own.at_ p d;exact⟨o,q1,q2.mono (FM.le_add t),by rw[FM.add_ne (H p d)];exact u⟩
theorem FJ (h:GK t=true):∃a b c,t=.Tuple a b c:=by
 cases t<;>first|exact⟨_,_,_,rfl⟩|exact(aT h).elim
theorem GV {pr:aG} {w:aB} {A:bU} {l e it:aM} {ds:List D} {vs:List aj} {ep} {K₀:FM} (hA:A.handled=none) (hl:K₀ l=some ⟨.type "list",aH,.seq (al vs) ep,#[]⟩) (hr:cB K₀ ds vs) (H:e≠it):vi pr w A K₀ (wJ e it l) (Bq e it l) (xT ds) e true where
 item i d hd s K Q E k0 kp o k:=by
  obtain⟨x,hx,rfl⟩:=vZ hd;obtain⟨v,hv,r⟩:=hr.get hx;obtain⟨oe,t,⟨old,V⟩,e3⟩:=o.at_ _ (ag ..);obtain⟨oi,i1,⟨i2,i3⟩,i4⟩:=o.at_ _ (ao _ (ag ..));subst V;have hL:s.heap.IsList l (al vs):=⟨_,kp _ _ (k0 _ _ hl),rfl,_,rfl⟩;refine wpAny_pyNext_enum_item (x:=v) (old:=old) t ⟨oi,i1,i2,i3⟩ hL (by simpa using hv) H λ h' M hit ht hz hk=>?_;obtain⟨ζ,j1,j2,j3⟩:=hit;have γ:e≠s.heap.objs.size:=λ q=>absurd (cC t) (by rw[show(e,Ob.pred (O3 it i)).1=e from rfl,q];exact cU _);have β:it≠s.heap.objs.size:=λ q=>absurd (cC i1) (by rw[show(it,Ob.pred (eg l i)).1=it from rfl,q];exact cU _);have A1:Aft K s.heap (wJ e it l i) K h' (Bq e it l (i+1)):=Aft.turn2 kp o hk M j1 ⟨s.heap.objs.size,v,rfl⟩ ⟨j2,j3⟩;have A2:=A1.newFz2 kp kX ht (λ p hp=>by
   simp only[Bq,ap,aK,or_false] at hp;rcases hp with rfl|rfl
   .exact γ
   .exact β)
  refine k _ h' _ _ A2 ?_ λ target hT θ ι κ η q=>?_
  .simp only[j9,ro];exact⟨_,[.int i s.toks,v],_,rfl,FM.add_self,_,_,rfl,⟨_,rfl⟩,_,_,rfl,Rd.mono (k0.trans A2.le) _ r,rfl⟩
  .have hT:=hT rfl;obtain⟨ε,x1,pos,rfl⟩:=FJ hT;subst η;refine wpAny_letOwnedTupleGo_enum M λ h2 δ u=>q h2 ?_;refine Aft.turn2 A2.kp A2.own (λ b o hb _ hh=>(u.2 b hb).trans hh) δ ((u.2 it (Ne.symm H)).trans j1) ⟨v,rfl⟩ ⟨j2,j3⟩
 done s K Q E k0 kp o k:=by
  rw[v6] at o k;obtain⟨oe,t,⟨old,V⟩,e3⟩:=o.at_ _ (ag ..);obtain⟨oi,i1,⟨i2,i3⟩,i4⟩:=o.at_ _ (ao _ (ag ..));subst V;have hL:s.heap.IsList l (al vs):=⟨_,kp _ _ (k0 _ _ hl),rfl,_,rfl⟩;refine wpAny_pyNext_enum_end (old:=old) hA t ⟨oi,i1,i2,i3⟩ hL (by simp[hr.length]) λ h' hs=>?_;refine k h' K s.toks ⟨FM.Le.rfl,λ b z e=>hs b z (λ q=>by rw[q,show K it=none from i4] at e;cases e) (kp b z e),λ b z e hb=>hs b z (λ q=>hb (by simp[wJ,q])) e,λ _ _ e=>.inl e,gx.nil,λ _ h=>(nomatch h)⟩
 self i s K Q E k0 kp o k:=by
  obtain⟨oe,t,⟨old,V⟩,e3⟩:=o.at_ _ (ag ..);subst V;exact vL (old:=old) t (k s.toks)
theorem CJ (ok:Ok c n) (hx:Ev c G W (.Name x p) (.val (.type "enumerate"))) (he:vd c G W [e] [.lst ds]):KS c G W (.Call (.Name x p) [e] [] pos) (xT ds) true:=λ s K Q E S k=>by
 refine dw (hx s K _ E S λ v g1 K1 t1 k1 S1 r1=>?_);obtain rfl:=r1;refine jk ok kP he _ K1 _ E S1 λ vs g2 K2 t2 k2 u r2=>?_;obtain⟨v,_,rfl,⟨l,ls,ep,rfl,hl,hr⟩,rfl⟩:=r2;refine call_enumerate_1 (u.kp _ _ hl) λ h' t hit β M=>?_;obtain⟨V,i1,i2,i3⟩:=hit;refine vL (old:=.none) t ?_;refine k _ (wJ _ _ l) (Bq _ _ l) h' K2 _ (k1.trans k2) ?_ (GV ok.h hl hr (Nat.succ_ne_self _));have f1:g2.get? g2.objs.size=none:=kX;have f2:g2.get? (g2.objs.size+1)=none:=by
  cases e:g2.get? (g2.objs.size+1) with
  |none=>rfl
  |some o=>exact absurd (cC e) (pN (jW _))
 have H:∀a,g2.get? a=none->K2 a=none:=λ a ha=>by
  cases e:K2 a with
  |none=>rfl
  |some o=>rw[u.kp _ _ e] at ha;cases ha
 have A:Aft K2 g2 [] K2 h' (wJ (g2.objs.size+1) g2.objs.size l 0):=by
  refine⟨FM.Le.rfl,λ b o q=>M b o (u.kp _ _ q),λ b o q _=>M b o q,λ _ _ q=>.inl q,⟨λ p d=>?_,?_⟩,λ p d=>?_⟩
  .simp only[wJ,ap,aK,or_false] at d;rcases d with rfl|rfl
   .exact⟨_,t,⟨.none,rfl⟩,H _ f2⟩
   .exact⟨V,i1,⟨i2,i3⟩,H _ f1⟩
  .simp[wJ]
  .simp only[wJ,ap,aK,or_false] at d;rcases d with rfl|rfl
   .exact .inl f2
   .exact .inl f1
 exact(u.perm (W':=[]++W) (by simp)).call A
structure xU (pr:aG) (w:aB) (K₀:FM) (P:Nat->Om) (it:aM):Prop where
 ty:∀(A:bU) (s:ak) (K:FM) (Q:aj->ak->Prop) (E:aj->ak->Prop),FM.Le K₀ K->FM.In K s.heap->gx K s.heap (P 0)->(∀Cl,(Cl==.type "list")=false->(Cl==.type "tuple")=false->Q Cl s)->wpAny (model pr w) A (typeOf (.ref it)) Q E s
 len:∀(A:bU) (s:ak) (K:FM) (Q:Option aj->ak->Prop) (E:aj->ak->Prop),FM.Le K₀ K->FM.In K s.heap->gx K s.heap (P 0)->Q none s->wpAny (model pr w) A (eK (.ref it) (cw "__len__")) Q E s
 hint:∀(A:bU) (s:ak) (K:FM) (Q:Option aj->ak->Prop) (E:aj->ak->Prop),FM.Le K₀ K->FM.In K s.heap->gx K s.heap (P 0)->Q none s->wpAny (model pr w) A (eK (.ref it) (cw "__length_hint__")) Q E s
section
variable{pr:aG} {w:aB} {A:bU} {K₀:FM} {P P':Nat->Om} {ds:List D} {TB:Bool} {it:aM} {R:mS->ak->Prop}
theorem l0 {K:FM} {h:dM} {S:aM} {l:List D} {W:Om} (o:gx K h ((S,.list l)::W)):∃vs e,h.get? S=some ⟨.type "list",aH,.seq (al vs) e,#[]⟩ /\ cB K l vs:=by
 obtain⟨x,q1,⟨vs,e,rfl,r⟩,_⟩:=o.at_ _ (ag ..);exact⟨vs,e,q1,r⟩
theorem hV {K:FM} {h h':dM} {S:aM} {l l':List D} {W:Om} {vs:List aj} {e:Nat} (kp:FM.In K h) (o:gx K h ((S,.list l)::W)) (t:∀b o,b≠S->h.get? b=some o->h'.get? b=some o) (d:h'.get? S=some ⟨.type "list",aH,.seq (al vs) e,#[]⟩) (r:cB K l' vs):
  Aft K h ((S,.list l)::W) K h' ((S,.list l')::W):=Aft.turn kp o t d ⟨vs,e,rfl,r⟩
theorem fM {K:FM} {h:dM} {p:aM×Ob} {W:Om} (o:gx K h (p::W)):gx K h W:=⟨λ q d=>o.at_ q (ao _ d),(bZ.mp o.nd).2⟩
theorem CK (IT:vi pr w A.in1 K₀ P P' ds it TB) (hP:∀i,P' i=P i) (hn:ds.length <= aO) (S:aM) (res:aj):
  ∀(k i:Nat) (s:ak) (K:FM),ds.length-i=k->i <= ds.length->FM.Le K₀ K->FM.In K s.heap->gx K s.heap ((S,.list (ds.take i))::P i)->
  (∀h' K' t',Aft K s.heap ((S,.list (ds.take i))::P i) K' h' [(S,.list ds)]->R (.ok (.ret res)) {s with heap:=h',toks:=t'})->
  eQ (model pr w) A (.builtin "list.extend.loop" ⟨[.ref S,.ref it,res],[]⟩) R s:=by
 injections pr w A K₀ P P' ds TB it R IT hP hn S res;intro k
 induction k with
 |zero=>
  intro i s K H hi M kp o hR;have γ:i=ds.length:=ai hi (GD H dX);subst γ;refine bJ gY ?_;rw[bC cW _];show wpAny _ A.in1 (pyNext (.ref it)>>=_) _ _ s;refine ae (IT.done s K _ _ M kp (fM o) λ h' K' t' A1=>?_);have o2:gx K s.heap (P ds.length++[(S,.list (ds.take ds.length))]):=o.perm (by simpa using(aI _ _).symm);have V:=A1.frame (Wr:=[(S,.list (ds.take ds.length))]) o2;refine af (hR h' K' t' ?_);rw[bF] at V⊢;have u:Aft K s.heap ((S,.list ds)::P ds.length) K s.heap (P ds.length++[(S,.list ds)]):=(Aft.same kp (by rw[bF] at o;exact o)).perm (aI _ _).symm;exact u.trans V
 |succ k ih=>
  intro i s K H hi M kp o hR;have d:i<ds.length:=Iq H (dE hi);refine bJ gY ?_;rw[bC cW _];show wpAny _ A.in1 (pyNext (.ref it)>>=_) _ _ s;refine ae (IT.item i ds[i] (by simp[d]) s K _ _ M kp (fM o) λ v h1 K1 t1 A1 r1 _=>?_);rw[hP] at A1;have o2:gx K s.heap (P i++[(S,.list (ds.take i))]):=o.perm (aI _ _).symm;have V:=A1.frame (Wr:=[(S,.list (ds.take i))]) o2;have u:Aft K s.heap ((S,.list (ds.take i))::P i) K1 h1 ((S,.list (ds.take i))::P (i+1)):=((Aft.same kp o).perm (aI _ _).symm).trans (V.perm (aI _ _));obtain⟨vs,e,hS,rs⟩:=l0 u.own;have hl:=rs.length;have t:vs.length <= i:=by rw[hl,bL];exact(bO _ _)
  show wpAny _ A.in1 (jw S (·.push v)>>=_) _ _ _;refine ae ?_;refine dk hS rfl (af ⟨cG cW _,?_⟩) (by simp only[aN];exact PK hn d t) (by rw[xp,aN];exact Sj hn d t);have β:=bo (cg (·.push v)) hS rfl;have A4:=hV (l':=ds.take (i+1)) (vs:=vs++[v]) (e:=_) u.kp u.own (λ b o hb e=>(bz _ _ (Ne.symm hb)).trans e) (β.trans (by rw[<-vM];rfl)) (by
   rw[bY,am d,cr];exact rs.append (cB.cons r1 cB.nil))
  refine ih (i+1) _ K1 (ai (GF H dX (dE (zu d))) (GG H dX (dE (di d)))) d (M.trans u.le) A4.kp A4.own λ h' K' t' A5=>hR h' K' t' ((u.trans A4).trans A5)
theorem wK (IT:vi pr w A.in1 K₀ P P' ds it TB) (hP:∀i,P' i=P i) (hn:ds.length <= aO) (V:xU pr w K₀ P it) (S:aM) (H:S≠it) (res:aj) (s:ak) (K:FM) (t:FM.Le K₀ K) (kp:FM.In K s.heap) (o:gx K s.heap ((S,.list [])::P 0))
  (hR:∀h' K' t',Aft K s.heap ((S,.list [])::P 0) K' h' [(S,.list ds)]->R (.ok (.ret res)) {s with heap:=h',toks:=t'}):
  wpAny (model pr w) A.in1 (cM (.ref S) (.ref it) res)
   (λ fin u=>match fin with|.done f=>R (.ok f) u|.again c'=>c'.quiet=true /\ eQ (model pr w) A c' R u) (λ e u=>R (.error e) u) s:=by
 unfold cM;refine ae (V.ty _ s K _ _ t kp (fM o) λ Cl h2 h3=>?_);have h1:ix (.ref S) (.ref it)=false:=by simp[ix,H]
 simp only[h1,h2,h3,zS,bQ,if_false];refine ae (IT.self 0 s K _ _ t kp (fM o) λ t1=>?_);refine ae (aD ?_);unfold np;refine ae (V.len _ _ K _ _ t kp (fM o) ?_);show wpAny _ A.in1 (eK (iK it) (cw "__length_hint__")>>=_) _ _ _;refine ae (V.hint _ _ K _ _ t kp (fM o) ?_);refine af ?_;show wpAny _ A.in1 (rule "list.extend.makes-room">>=λ _=>qL (.ref S)>>=λ _=>
  again (.builtin "list.extend.loop" ⟨[.ref S,.ref it,res],[]⟩)) _ _ _
 refine ae (gw ?_);obtain⟨vs,e,hS,rs⟩:=l0 o;have hv:vs=[]:=by simpa only[ro] using rs
 subst hv;refine ae ?_;show wpAny _ A.in1 (jw S (·.push .none)>>=λ _=>jw S (·.pop)) _ _ _;refine ae (dk hS rfl ?_);have d:=bo (cg (·.push bx)) hS rfl;refine dk (hz:=by seq_fits) d rfl ?_;have M:=bo (cg (·.pop)) d rfl;have v:∀b o,b≠S->s.heap.get? b=some o->((s.heap.update S (cg (·.push bx))).update S (cg (·.pop))).get? b=some o:=
  λ b o hb e=>(bz _ _ (Ne.symm hb)).trans ((bz _ _ (Ne.symm hb)).trans e)
 have A1:=hV (l':=[]) (vs:=[]) (e:=_) kp o v (M.trans rfl) cB.nil;refine af ⟨cG cW _,CK IT hP hn S res ds.length 0 _ K (ai ((bG _ _)) (Sk dX)) (aU _) t A1.kp A1.own λ h' K' t' A2=>hR h' K' t' (A1.trans A2)⟩
end
section
variable{pr:aG} {w:aB} {A:bU} {K₀:FM} {P P':Nat->Om} {ds:List D} {TB:Bool} {it:aM} {E:aj->ak->Prop}
theorem Br {Q:List aj->ak->Prop} (IT:vi pr w A.in1 K₀ P P' ds it TB) (hP:∀i,P' i=P i) (hn:ds.length <= aO) (NH:xU pr w K₀ P it) (s:ak) (K:FM) (hit:∃o,s.heap.get? it=some o) (hK:FM.Le K₀ K) (kp:FM.In K s.heap) (o:gx K s.heap (P 0))
  (V:∀vs h' K' t',Aft K s.heap (P 0) K' h' []->cB K' ds vs->Q vs {s with heap:=h',toks:=t'}):wpAny (model pr w) A (collect (.ref it)) Q E s:=by
 have u:s.heap.objs.size≠it:=λ e=>by obtain⟨o,h⟩:=hit;exact absurd (cC h) (by rw[<-e];exact cU _)
 unfold collect;refine ae (zb (fv (R:=λ r d=>∃h' K' t',r=.ok (.ret (.ref s.heap.objs.size)) /\ d={s with heap:=h',toks:=t'} /\ Aft K s.heap (P 0) K' h' [(s.heap.objs.size,.list ds)]) (bJ PySem.F.entry_proto_collect ?_) ?_))
 case refine_2=>
  rintro r d ⟨h',K',t',rfl,rfl,t⟩;obtain⟨vs,e,M,H⟩:=l0 t.own;show wpAny _ A (load s.heap.objs.size>>=_) _ _ _;refine ae (jT M ?_);exact af (by simpa using V vs h' K' t' t.drop H)
 rw[bC PySem.F.plain_proto_collect _];show wpAny _ A.in1 (newList []>>=λ l=>again (.builtin "list.__iadd__" ⟨[l,.ref it],[]⟩)) _ _ s;refine ae (bK ?_);refine af ⟨cG pS _,bJ PySem.F.entry_list_iadd ?_⟩;rw[bC pS _];have v:Aft K s.heap (P 0) K (s.heap.push {cls:=.type "list",data:=.seq ([]:List aj).toArray}) ((s.heap.objs.size,.list [])::P 0):=Aft.pushOwn kp o _ (b:=.list []) ⟨[],_,rfl,cB.nil⟩;refine wK (R:=λ r d=>∃h' K' t',r=.ok (.ret (.ref s.heap.objs.size)) /\ d={s with heap:=h',toks:=t'} /\ Aft K s.heap (P 0) K' h' [(s.heap.objs.size,.list ds)]) IT hP hn NH s.heap.objs.size u (.ref s.heap.objs.size) {s with heap:=s.heap.push {cls:=.type "list",data:=.seq ([]:List aj).toArray}} K hK v.kp v.own λ h' K' t' t=>⟨h',K',t',rfl,rfl,v.trans t⟩
theorem Ep {Q:aj->ak->Prop} (IT:vi pr w A.in1.in1.in1 K₀ P P' ds it TB) (hP:∀i,P' i=P i) (hn:ds.length <= aO) (NH:xU pr w K₀ P it) (s:ak) (K:FM) (hit:∃o,s.heap.get? it=some o) (V:FM.Le K₀ K) (kp:FM.In K s.heap) (o:gx K s.heap (P 0))
  (hQ:∀v h' K' t',Aft K s.heap (P 0) K' h' []->Rd K' (.tup ds) v->Q v {s with heap:=h',toks:=t'}):wpAny (model pr w) A (call (.type "tuple") [.ref it]) Q E s:=by
 refine sw (Q₁:=λ obj d=>d.TypeIs obj "tuple" /\ Q obj d) mJ (PySem.F.typeCall_tuple_1 _) og ?_ λ obj d h₁=>?_
 .refine kS ?_;show wpAny _ A.in1.in1 (do fT "tuple.__new__" ⟨[.type "tuple",.ref it],[]⟩;again (.builtin "tuple.__new__" ⟨[.type "tuple",.ref it],[]⟩)) _ _ s;refine ae (cz (PySem.F.newCall_tuple_1 _) (af ⟨cG pT _,bJ PySem.F.entry_tuple_new ?_⟩));rw[bC pT _];have M:=sub_tuple_self;have t:=init_tuple_lookup;have β:=madeHere_tuple;have ht:∀(A:bU) (Q:aj->ak->Prop) (E:aj->ak->Prop),(∀Cl,(Cl==.type "list")=false->(Cl==.type "tuple")=false->Q Cl s)->wpAny (model pr w) A (typeOf (.ref it)) Q E s:=λ A Q E h=>NH.ty A s K Q E V kp o h
  wp_walk using ht
  intro Cl c1 c2;rw[c2];have hc:∀(u:List aj->ak->Prop) (E:aj->ak->Prop),(∀vs h' K' t',Aft K s.heap (P 0) K' h' []->cB K' ds vs->u vs {s with heap:=h',toks:=t'})->wpAny (model pr w) A.in1.in1 (collect (.ref it)) u E s:=λ u E h=>Br IT hP hn NH s K hit V kp o h
  wp_walk using hc
  intro vs h1 K1 t1 H r1;refine ae (af ?_);show wpAny _ _ (eP vs.toArray>>=λ v=>ret v) _ _ _;unfold eP;refine ae (bK ?_ (by show vs.toArray.size <= aO;rw[aN,r1.length];exact hn));refine af ⟨⟨_,bv _ rfl,rfl⟩,hQ _ _ _ _ (H.trans (Aft.pushFz (Wi:=[]) H.kp gx.nil _)) ?_⟩;simp only[j9];exact⟨_,vs,_,rfl,FM.add_self,cB.mono (FM.le_add (iU H.kp)) _ r1⟩
 .exact⟨h₁.1,PySem.F.args_object_init_2 obj _,object_init_meets mJ.init.lookup mJ.made (by decide) pr w A.in1 _ d ⟨h₁.1,rfl,h₁.2⟩⟩
theorem GW {Q:aj->ak->Prop} (IT:vi pr w A.in1.in1 K₀ P P' ds it TB) (hP:∀i,P' i=P i) (hn:ds.length <= aO) (NH:xU pr w K₀ P it) (s:ak) (K:FM) (hit:∃o,s.heap.get? it=some o) (hK:FM.Le K₀ K) (kp:FM.In K s.heap) (o:gx K s.heap (P 0))
  (hQ:∀a h' K' t',Aft K s.heap (P 0) K' h' [(a,.list ds)]->Q (.ref a) {s with heap:=h',toks:=t'}):wpAny (model pr w) A (call (.type "list") [.ref it]) Q E s:=by
 have t:s.heap.objs.size≠it:=λ e=>by obtain⟨o,h⟩:=hit;exact absurd (cC h) (by rw[<-e];exact cU _)
 refine sw (Q₁:=λ obj M=>obj=.ref s.heap.objs.size /\ M={s with heap:=s.heap.push {cls:=.type "list",data:=.seq #[]}}) tx (pU _) pV
  (zT _ ⟨rfl,rfl⟩) λ obj M h₁=>?_
 obtain⟨rfl,rfl⟩:=h₁;have d:(s.heap.push {cls:=.type "list",data:=.seq #[]}).get? s.heap.objs.size=some {cls:=.type "list",data:=.seq #[]}:=bv _ rfl;refine⟨⟨_,d,rfl⟩,oZ _ _,?_⟩;show wpAny _ A.in1.in1 (do let old<-bP (.ref s.heap.objs.size);pW (.ref s.heap.objs.size) (λ _=>#[]);letGo old.toList.reverse;cM (.ref s.heap.objs.size) (.ref it) .none) _ _ _;refine ae ?_;unfold bP;refine ae (bI d rfl (af ?_));show wpAny _ _ (jw s.heap.objs.size (λ _=>#[])>>=λ _=>letGo (#[]:Array aj).toList.reverse>>=λ _=>cM (.ref s.heap.objs.size) (.ref it) .none) _ _ _;refine ae (dk d rfl ?_);have u:=bo (cg (λ _=>(#[]:Array aj))) d rfl;have H:Aft K s.heap (P 0) K (s.heap.push {cls:=.type "list",data:=.seq #[]}) ((s.heap.objs.size,.list [])::P 0):=Aft.pushOwn kp o _ (b:=.list []) ⟨[],_,rfl,cB.nil⟩;have v:=hV (l':=[]) (vs:=[]) (e:=_) H.kp H.own (λ b o hb e=>(bz _ _ (Ne.symm hb)).trans e) (u.trans rfl) cB.nil;refine ae (fZ ?_);refine wK (R:=λ r s'=>wants (λ r V=>r=bx /\ Q (.ref s.heap.objs.size) V) E r s') IT hP hn NH s.heap.objs.size t .none _ K hK v.kp v.own λ h' K' t' A2=>?_;exact⟨rfl,hQ _ h' K' t' ((H.trans v).trans A2)⟩
end
theorem xV {id id':String} {b:aC} (h1:entriesT.find (code id)=none) (h2:id.cutAt '#'=[id]) (h3:Manifest.canonical (String.map (λ c=>if(c.isAlphanum||c=='_'||c=='.')=true then c else '_') id)++""=id') (h4:entriesT.find (code id')=some b):gR table id=some b:=
 entryFor_alias ((vN id).trans h1) h2 h3 ((vN id').trans h4)
namespace FM_
theorem Ag:xq.lookup (tK ['p','a','m'].reverse)=some Manifest.sig_map:=by symm
theorem zx:y7 "map" "__init__" "object.__init__":=
 .of (owner:="object") (n:="__init__") (by rw[cY,bM];symm) (by rfl') (by rfl') (by rfl')
  (by first|exact .inl (by rfl')|exact .inr (by rfl')) (by rw[dy];symm)
theorem slot_map_iter:y7 "map" "__iter__" "map.__iter__":=
 .of (owner:="map") (n:="__iter__") (by rw[cY,bM];symm) (by rfl') (by rfl') (by rfl')
  (by first|exact .inl (by rfl')|exact .inr (by rfl')) (by rw[dy];symm)
theorem args_map_iter_1 (a:aj):argsOk "map.__iter__" ⟨[a],[]⟩:=by
 unfold argsOk;rw[mw (id:="map.__iter__") (n:=['_','_','r','e','t','i','_','_']) (o:=['p','a','m']) (by symm) Ag];symm
theorem entry_map_iter:gR table "map.__iter__"=some Builtin.«dict_keyiterator.__iter__»:=
 xV (id':="dict_keyiterator.__iter__") (by symm) (by first|rfl|rfl'|(unfold String.splitOn;simp+decide [String.splitOnAux])) (by rfl') (by symm)
theorem slot_map_next:y7 "map" "__next__" "map.__next__":=
 .of (owner:="map") (n:="__next__") (by rw[cY,bM];symm) (by rfl') (by rfl') (by rfl')
  (by first|exact .inl (by rfl')|exact .inr (by rfl')) (by rw[dy];symm)
theorem entry_map_next:gR table "map.__next__"=some Builtin.«map.__next__»:=et (by symm)
theorem args_map_next_1 (a:aj):argsOk "map.__next__" ⟨[a],[]⟩:=by
 unfold argsOk;rw[mw (id:="map.__next__") (n:=['_','_','t','x','e','n','_','_']) (o:=['p','a','m']) (by symm) Ag];symm
theorem FK:mroOf (.type "map")=pure [.type "map",.type "object"]:=by rw[mroOf_type];symm
theorem xW:iy (.type "map") "__new__"=pure (some (.builtin "map.__new__")):=by rw[cY,bM];symm
theorem called_map:TypeCalled "map" "map.__new__" "object.__init__":=
 ⟨by rfl',by rfl',⟨_,_,FK⟩,madeBy_type FK xW (by rfl'),by rfl',by rw[dy];symm,zx⟩
theorem typeCall_map_2 (a b:aj):checkTypeCall "map" ⟨[a,b],[]⟩=pure ():=by symm
theorem newCall_map_2 (a b:aj):fT "map.__new__" ⟨[.type "map",a,b],[]⟩=pure ():=by symm
theorem args_object_init_3 (a b c:aj):argsOk "object.__init__" ⟨[a,b,c],[]⟩:=by unfold argsOk;symm
theorem entry_map_new:gR table "map.__new__"=some Builtin.«map.__new__»:=et (by symm)
theorem sub_map:hZ (.type "map") (.type "map")=pure true:=by rw[dy];symm
theorem nolen_map:iy (.type "map") "__len__"=pure none:=by rw[cY,bM];symm
theorem nohint_map:iy (.type "map") "__length_hint__"=pure none:=by rw[cY,bM];symm
end FM_
def Er (f:aj) (tp:aM):Obj:={cls:=.type "map",data:=.fields #[.ref tp,f]}
def Es (it:aM):Obj:={cls:=.type "tuple",data:=.seq #[.ref it]}
theorem zy (f:aj) (l:aM) (items:Array aj) (n:Nat):
  Meets (Builtin.«map.__new__» ⟨[.type "map",f,.ref l],[]⟩) (λ _ R s=>s.heap.get? l=some {cls:=.type "list",dict:=none,data:=.seq items n,slots:=#[]} /\
   R (.ok (.ret (.ref ((s.heap.push {cls:=.type "list_iterator",data:=.fields #[.ref l,.int 0 0]}).push (Es s.heap.objs.size)).objs.size)))
    {s with heap:=((s.heap.push {cls:=.type "list_iterator",data:=.fields #[.ref l,.int 0 0]}).push (Es s.heap.objs.size)).push (Er f (s.heap.push {cls:=.type "list_iterator",data:=.fields #[.ref l,.int 0 0]}).objs.size)}):=
 .of_wp λ prog w A R s h=>by
  obtain⟨u,g,d,tk,os⟩:=s;obtain⟨hl,h⟩:=h;have t:=FM_.sub_map;have v:Heap.IsList (Shared.heap ⟨u,g,d,tk,os⟩) l items:=⟨_,hl,rfl,n,rfl⟩
  wp_walk using ww hl,jI v
  exact⟨_,rfl,h⟩
section
variable{pr:aG} {w:aB} {A:bU} {T:FM} {n:Nat} {f:aj} {K₀:FM} {m tp it l:aM} {ds ds':List D} {vs:List aj} {ep:Nat}
def II (pr:aG) (w:aB) (T:FM) (n:Nat) (f:aj) (ds ds':List D):Prop:=ds.length=ds'.length /\ ∀(i:Nat) (d t:D),ds[i]?=some d->ds'[i]?=some t->Fn pr w T n f [d] [] (Is t [])
theorem IJ {s:ak} {E:aj->ak->Prop} {i:Nat} {v:aj} {d V:D} {K:FM} {Q:Option aj->ak->Prop} (hh:A.handled=none) (hd:A.depth+n <= 990) (hu:A.units+3*n+1 <= 9000) (hT:FM.Le T K) (kp:FM.In K s.heap) (M:K m=some (Er f tp)) (ht:K tp=some (Es it)) (hl:K l=some ⟨.type "list",aH,.seq (al vs) ep,#[]⟩)
  (o:gx K s.heap [(it,.pred (eg l i))]) (hv:vs[i]?=some v) (r:Rd K d v) (hf:Fn pr w T n f [d] [] (Is V []))
  (k:∀t h' K' t',Aft K s.heap [(it,.pred (eg l i))] K' h' [(it,.pred (eg l (i+1)))]->Rd K' V t->Q (some t) {s with heap:=h',toks:=t'}):wpAny (model pr w) A (pyNext (.ref m)) Q E s:=by
 have u:s.TypeIs (.ref m) "map":=⟨_,kp _ _ M,rfl⟩;obtain⟨oi,i1,⟨i2,i3⟩,i4⟩:=o.at_ _ (ag ..);have hL:s.heap.IsList l (al vs):=⟨_,kp _ _ hl,rfl,_,rfl⟩;unfold pyNext;refine ae (gH (dz (name:=cw "__next__") u FM_.slot_map_next
  (bV FM_.slot_map_next u FM_.entry_map_next ?_ (FM_.args_map_next_1 _))))
 show wpAny _ _ (field (.ref m) 0>>=_) _ _ _;refine ae (il (kp _ _ M) rfl (x:=.ref tp) rfl ?_);show wpAny _ _ (seqItems? (.ref tp)>>=_) _ _ _;refine ae (bI (kp _ _ ht) rfl ?_);dsimp only;rw[uO,jq];simp only[nR,bind_assoc,pure_bind];refine ae (aD (wpAny_nextOf_list_item (x:=v) ⟨oi,i1,i2,i3⟩ hL (by simpa using hv) λ h1 hit hs=>?_));obtain⟨β,j1,j2,j3⟩:=hit;have H:=Aft.turn (b':=.pred (eg l (i+1))) kp o (λ x o hx e=>(hs.2 x hx).trans e) j1 ⟨j2,j3⟩;refine ae (il (H.kp _ _ M) rfl (x:=f) rfl ?_);refine ae (aD ?_);refine hf A.in1 hh hd (by show A.units+1+3*n <= 9000;exact(lz 3062639795355063293014809865232467404263442) hu) _ K [v] _ _ hT H.kp (cB.cons r cB.nil) gx.nil λ t h2 K2 t2 d2 Wo A2 r2 p2=>?_;obtain⟨rfl,rfl⟩:=p2;refine ae (fZ (af ⟨t,rfl,af (k t h2 K2 t2 (H.trans ?_) r2)⟩));exact A2.frame (Wr:=[(it,.pred (eg l (i+1)))]) H.own
theorem Mh {s:ak} {E:aj->ak->Prop} {i:Nat} {K:FM} {Q:Option aj->ak->Prop} (hh:A.handled=none) (kp:FM.In K s.heap) (v:K m=some (Er f tp)) (ht:K tp=some (Es it)) (hl:K l=some ⟨.type "list",aH,.seq (al vs) ep,#[]⟩)
  (o:gx K s.heap [(it,.pred (eg l i))]) (hv:vs[i]?=none)
  (k:∀h' K' t',Aft K s.heap [(it,.pred (eg l i))] K' h' []->Q none {s with heap:=h',toks:=t'}):wpAny (model pr w) A (pyNext (.ref m)) Q E s:=by
 have d:s.TypeIs (.ref m) "map":=⟨_,kp _ _ v,rfl⟩;obtain⟨M,i1,⟨i2,V⟩,i4⟩:=o.at_ _ (ag ..);have hL:s.heap.IsList l (al vs):=⟨_,kp _ _ hl,rfl,_,rfl⟩;unfold pyNext;refine ae (gH (dz (name:=cw "__next__") d FM_.slot_map_next
  (bV FM_.slot_map_next d FM_.entry_map_next ?_ (FM_.args_map_next_1 _))))
 show wpAny _ _ (field (.ref m) 0>>=_) _ _ _;refine ae (il (kp _ _ v) rfl (x:=.ref tp) rfl ?_);show wpAny _ _ (seqItems? (.ref tp)>>=_) _ _ _;refine ae (bI (kp _ _ ht) rfl ?_);dsimp only;rw[uO,jq];simp only[nR,bind_assoc,pure_bind];refine ae (aD (wpAny_nextOf_list_end hh ⟨M,i1,i2,V⟩ hL (by simpa using hv) λ h' x u t=>?_));obtain⟨H,ho,hc⟩:=t;refine ae (ey (T:="StopIteration") (b:=true) ⟨H,ho,hc⟩ nS ?_);exact af (k h' K s.toks (Aft.end1 kp o λ x o hx e=>u x o hx e))
theorem CL (hh:A.handled=none) (hd:A.depth+n <= 990) (hu:A.units+3*n+1 <= 9000) (hT:FM.Le T K₀) (V:K₀ m=some (Er f tp)) (ht:K₀ tp=some (Es it)) (hl:K₀ l=some ⟨.type "list",aH,.seq (al vs) ep,#[]⟩) (hr:cB K₀ ds vs) (hf:II pr w T n f ds ds'):
  vi pr w A K₀ (λ i=>[(it,.pred (eg l i))]) (λ i=>[(it,.pred (eg l i))]) ds' m true where
 item i d' M s K Q E k0 kp o k:=by
  have hi:i<ds.length:=by rw[hf.1];exact(au.mp M).1
  have H:ds[i]?=some ds[i]:=am hi;obtain⟨v,hv,r⟩:=hr.get H;refine IJ hh hd hu (hT.trans k0) kp (k0 _ _ V) (k0 _ _ ht) (k0 _ _ hl) o hv (Rd.mono k0 _ r) (hf.2 i _ _ H M) λ v' h' K' t' u r1=>?_;refine k v' h' K' t' u r1 λ target t ζ η θ ε q=>?_;have t:=t rfl;obtain⟨δ,x1,pos,rfl⟩:=FJ t;subst ε;unfold letOwnedTupleGo;have β:=u.kp _ _ (u.le _ _ (k0 _ _ V));cases v' with
  |ref a=>
   refine ae (jT β ?_);exact af (q _ (Aft.same u.kp u.own))
  |_=>exact af (q _ (Aft.same u.kp u.own))
 done s K Q E k0 kp o k:=Mh hh kp (k0 _ _ V) (k0 _ _ ht) (k0 _ _ hl) o (by simp[hr.length,hf.1]) k
 self i s K Q E k0 kp o k:=by
  have d:s.TypeIs (.ref m) "map":=⟨_,kp _ _ (k0 _ _ V),rfl⟩;refine vO d FM_.slot_map_iter (bV FM_.slot_map_iter d FM_.entry_map_iter ?_ (FM_.args_map_iter_1 _));show wpAny _ _ (ret (.ref m)) _ _ s;have γ:=FM_.slot_map_next.lookup;exact af ⟨_,rfl,"map",_,d,γ,k s.toks⟩
theorem nohint_map (d:K₀ m=some (Er f tp)) {P:Nat->Om}:xU pr w K₀ P m where
 ty A s K Q E k0 kp _ k:=ko (T:="map") ⟨_,kp _ _ (k0 _ _ d),rfl⟩ (k _ (by decide) (by decide))
 len A s K Q E k0 kp _ k:=dN (T:="map") ⟨_,kp _ _ (k0 _ _ d),rfl⟩ FM_.nolen_map k
 hint A s K Q E k0 kp _ k:=dN (T:="map") ⟨_,kp _ _ (k0 _ _ d),rfl⟩ FM_.nohint_map k
end
def xi (b:Bool):Obj:={cls:=.type "set",dict:=none,data:=.set #[] 0 (.fresh 0 0 b)}
def ut (b:Bool):zc:={mask:=7,place:=#[1],dummies:=#[],finger:=0,led:=b,moves:=0,plain:=true}
def oN (b:Bool):Obj:={cls:=.type "set",dict:=none,data:=.set #[(1,.bool true)] 1 (ut b)}
namespace FS_
theorem uu:xq.lookup (tK ['r','o','t','a','r','e','t','i','_','t','e','s'].reverse)=some Manifest.sig_set_iterator:=by symm
theorem entry_set_iter:gR table "set.__iter__"=some Builtin.«frozenset.__iter__»:=
 xV (id':="frozenset.__iter__") (by symm) rfl (by rfl') (by symm)
theorem slot_set_iterator_next:y7 "set_iterator" "__next__" "set_iterator.__next__":=
 .of (owner:="set_iterator") (n:="__next__") (by rw[cY,bM];symm) (by rfl') (by rfl') (by rfl')
  (by first|exact .inl (by rfl')|exact .inr (by rfl')) (by rw[dy];symm)
theorem entry_set_iterator_next:gR table "set_iterator.__next__"=some Builtin.«set_iterator.__next__»:=et (by symm)
theorem args_set_iterator_next_1 (a:aj):argsOk "set_iterator.__next__" ⟨[a],[]⟩:=by
 unfold argsOk;rw[mw (id:="set_iterator.__next__") (n:=['_','_','t','x','e','n','_','_']) (o:=['r','o','t','a','r','e','t','i','_','t','e','s']) (by symm) uu];symm
end FS_
section
variable{prog:aG} {w:aB} {A:bU} {E:aj->ak->Prop} {s:ak}
theorem wL {Q:Int->ak->Prop} (h:Q 1 {s with toks:=s.toks+1}):wpAny (model prog w) A (pyHash (.bool true)) Q E s:=by
 have d:s.TypeIs (.bool true) "bool":=rfl;unfold pyHash;have t:[zd true].any Value.onHeap=false:=rfl;refine ae ?_;rw[cRoomFor,if_neg (by rw[t];exact aT)];refine af ?_;refine ae (dN d jd.lookup ?_);show wpAny _ _ (if(some (kM "int.__hash__")==some bx)=true then _ else _) Q E s;rw[if_neg (by rw[beq_builtin_none];exact aT)];refine ae (dN d jd.lookup ?_);show wpAny _ _ (callSpecialIfBoundUnlessNone? (.bool true) "__hash__" _>>=_) Q E s;refine ae (wpAny_callSpecialIfBoundUnlessNone?_slot d jd
  (bV jd d PySem.F.entry_int_hash
   (show wpAny _ _ (do ret (<-mkInt 1)) _ _ s from wpAny_ret_mkInt ?_) (PySem.F.args_int_hash_1 _)))
 show wpAny _ _ (if(decide (-(2:Int)^63 <= 1)&&decide ((1:Int)<2^63))=true then _ else _) Q E _;rw[if_pos (by decide)];exact af h
theorem CM (b:Bool):layNew (.fresh 0 0 b) #[] 1 (.bool true)=(#[(1,.bool true)],ut b,false,false):=by cases b<;>symm
theorem GX {a:aM} {b:Bool} {Q:aj->ak->Prop} (d:s.heap.get? a=some (xi b)) (h:∀h',iY a s.heap h'->h'.get? a=some (oN b)->Q .none {s with heap:=h',toks:=s.toks+1}):
  wpAny (model prog w) A (call (.builtin "set.add") [.ref a,.bool true]) Q E s:=by
 have u:s.TypeIs (.ref a) "set":=⟨_,d,rfl⟩;refine bV sA u rE ?_ (qM _ _);unfold Builtin.«set.add» jX;simp only[pX,bind_assoc];unfold kN setAdd;refine ae (af ?_)
 try dsimp only
 refine ae (af ?_)
 try dsimp only
 refine ae ?_;refine aD ?_;refine ae (wL ?_);unfold setAddHashed setAddHashedIn;refine aD (ae (gk (o:=xi b) d rfl (by cases b<;>rfl) ?_));dsimp only;rw[show byScan (.bool true) #[]=true from by symm];simp only[↓reduceIte];unfold setAddByScan;refine ae ?_;refine ae (gw ?_);refine ae (m:=setScan _ _ _ _ _) ?_;unfold setScan;dsimp only;unfold setScanFrom;refine af ?_;dsimp only;rw[CM];dsimp only;refine ae (af ?_);rw[if_pos (show(ut b).plain=true from rfl)];refine ae ?_;rw[hashByValue_scannable 8 rfl];refine af ?_;rw[show plainKind (.bool true)=true from rfl];simp only[↓reduceIte];have t:(s.heap.update a (Fp #[(1,.bool true)] (ut b))).get? a=some (oN b):=by
  have:=bo (Fp #[(1,.bool true)] (ut b)) d (by rfl);exact this
 refine ae (wpAny_storeSet_of (o:=xi b) d rfl ?_ (by rw[ay];decide));rw[if_neg (by cases b<;>rfl')];refine af (af ?_);show wpAny _ _ (ret bx) _ _ _;exact af ⟨_,rfl,h _ (fB ..) t⟩
theorem GY {a:aM} {b:Bool} {Q:aj->ak->Prop} (d:s.heap.get? a=some (oN b)) (h:Q .none {s with toks:=s.toks+1}):
  wpAny (model prog w) A (call (.builtin "set.add") [.ref a,.bool true]) Q E s:=by
 have t:s.TypeIs (.ref a) "set":=⟨_,d,rfl⟩;refine bV sA t rE ?_ (qM _ _);unfold Builtin.«set.add» jX;simp only[pX,bind_assoc];unfold kN setAdd;refine ae (af ?_)
 try dsimp only
 refine ae (af ?_)
 try dsimp only
 refine ae ?_;refine aD ?_;refine ae (wL ?_);unfold setAddHashed setAddHashedIn;refine aD (ae (gk (o:=oN b) d rfl (by cases b<;>rfl) ?_));dsimp only;rw[show byScan (.bool true) #[(1,.bool true)]=true from by symm];simp only[↓reduceIte];unfold setAddByScan;refine ae ?_;refine ae (gw ?_);refine ae (m:=setScan _ _ _ _ _) ?_;unfold setScan;dsimp only;unfold setScanFrom;rw[if_pos (by rfl)];refine ae (vP (o:=oN b) d rfl (by cases b<;>rfl) ?_);refine ae ?_;unfold eqBool;refine aD ?_;rw[if_pos (by rfl)];refine ae (gw (af ?_));simp only[Bool.and_self,↓reduceIte];refine af ?_;dsimp only;refine af (af ?_);show wpAny _ _ (ret bx) _ _ _;exact af ⟨_,rfl,h⟩
theorem IK {Q:aj->ak->Prop} (h:∀b,(w.params.followText "set-order"=!b)->Q (.ref s.heap.objs.size) {s with heap:=s.heap.push (xi b)}):
  wpAny (model prog w) A (newSet (.type "set")) Q E s:=by
 unfold newSet setsByText;refine ae (ae (cZ (af ?_)));dsimp only;simp only[newObj];refine ae (mK (af ?_));exact h _ (by simp only[Bool.not_not];rfl)
def xX (a:aM) (i j:Nat):Obj:={cls:=.type "set_iterator",dict:=none,data:=.fields #[rawInt j,rawInt i,.ref a,rawInt 1,rawInt 1]}
theorem IL {a:aM} {b:Bool} {Q:aj->ak->Prop} (d:s.heap.get? a=some (oN b)) (h:Q (.ref s.heap.objs.size) {s with heap:=s.heap.push (xX a 0 0)}):wpAny (model prog w) A (pyIter (.ref a)) Q E s:=by
 have v:s.TypeIs (.ref a) "set":=⟨_,d,rfl⟩;refine vO v lW (bV lW v FS_.entry_set_iter ?_ (PySem.F.args_set_iter_1 _));have hf:(ut b).fits 1=true:=by cases b<;>rfl
 unfold Builtin.«frozenset.__iter__»;have ss:∀(A:bU) (Q:(Array (Int×aj)×Nat×zc)->ak->Prop) (E:aj->ak->Prop),Q (#[(1,.bool true)],1,ut b) s->wpAny (model prog w) A (setState a) Q E s:=λ A Q E h=>gk d rfl hf h;have u:∀(A:bU) (Q:Bool->ak->Prop) (E:aj->ak->Prop),Q false s->wpAny (model prog w) A (setDrawn a) Q E s:=λ A Q E h=>by
  unfold setDrawn;refine ae (ss _ _ _ ?_);dsimp only;unfold setsByText;refine ae (ae (cZ (af ?_)));refine af ?_;have e:(!(model prog w).w.params.followText "set-order"&&(!(ut b).plain&&decide ((#[(1,zd true)]:Array (Int×aj)).size>1)))=false:=by simp[ut]
  exact e▸h
 show wpAny _ _ (o0 a>>=_) _ _ _;unfold o0;refine ae (ae (ae (ss _ _ _ (af (af ?_)))));refine ae (m:=setDrawn a) (u _ _ _ ?_);simp only[bQ,↓reduceIte];refine ae (af ?_);refine ae (m:=setEpoch a) (vP d rfl hf ?_);have t:=FS_.slot_set_iterator_next.lookup;refine ae (m:=newFields _ _) (bK (af ⟨_,rfl,"set_iterator",_,⟨_,bv _ rfl,rfl⟩,t,h⟩))
theorem O4 (f:Nat->Nat) (x:Int×aj):pickOrder f #[x]=#[x]:=by
 refine(?a:pickOrder f #[x]=(match[x][f 0%1]? with|some y=>#[y]|none=>#[])).trans ?b
 case a=>symm
 rw[Nat.mod_one]
 rfl
theorem GZ {a:aM} {b:Bool} {Q:Option (aj×Nat)->ak->Prop} (t:w.params.followText "set-order"=!b) (u:s.heap.get? a=some (oN b)) (h:∀n,(b=true->n=2)->Q (some (.bool true,n)) s):wpAny (model prog w) A (setNext a 0 0 1) Q E s:=by
 have hf:(ut b).fits 1=true:=by cases b<;>rfl
 have ss:∀(A:bU) (Q:(Array (Int×aj)×Nat×zc)->ak->Prop) (E:aj->ak->Prop),Q (#[(1,.bool true)],1,ut b) s->wpAny (model prog w) A (setState a) Q E s:=λ A Q E h=>gk u rfl hf h;have d:(model prog w).w.params.followText "set-order"=!b:=t;unfold setNext;refine ae (ss _ _ _ ?_);dsimp only;unfold setsByText;refine ae (ae (cZ (af ?_)));dsimp only;rw[d];cases b with
 |false=>
  rw[if_pos (show(!false)=true from rfl)];rw[if_neg (by decide)];unfold setWalk;refine ae (ae (ss _ _ _ ?_));dsimp only;unfold setsByText;refine ae (ae (cZ (af ?_)));dsimp only;rw[d];rw[if_pos (show(!false)=true from rfl)];refine ae (cZ (af (af ?_)));rw[O4];exact h 0 (λ z=>nomatch z)
 |true=>
  rw[if_neg (show¬(!true)=true from aT)];exact af (h 2 λ _=>rfl)
theorem G0 {a:aM} {b:Bool} {n:Nat} {Q:Option (aj×Nat)->ak->Prop} (t:w.params.followText "set-order"=!b) (u:s.heap.get? a=some (oN b)) (hn:b=true->n=2) (h:Q none s):wpAny (model prog w) A (setNext a n 1 1) Q E s:=by
 have hf:(ut b).fits 1=true:=by cases b<;>rfl
 have ss:∀(A:bU) (Q:(Array (Int×aj)×Nat×zc)->ak->Prop) (E:aj->ak->Prop),Q (#[(1,.bool true)],1,ut b) s->wpAny (model prog w) A (setState a) Q E s:=λ A Q E h=>gk u rfl hf h;have d:(model prog w).w.params.followText "set-order"=!b:=t;unfold setNext;refine ae (ss _ _ _ ?_);dsimp only;unfold setsByText;refine ae (ae (cZ (af ?_)));dsimp only;rw[d];cases b with
 |false=>
  rw[if_pos (show(!false)=true from rfl)];rw[if_neg (by decide)];unfold setWalk;refine ae (ae (ss _ _ _ ?_));dsimp only;unfold setsByText;refine ae (ae (cZ (af ?_)));dsimp only;rw[d];rw[if_pos (show(!false)=true from rfl)];refine ae (cZ (af (af ?_)));rw[O4];exact h
 |true=>
  cases hn rfl;rw[if_neg (show¬(!true)=true from aT)];exact af h
theorem IM {a it:aM} {b:Bool} {Q:Option aj->ak->Prop} (V:w.params.followText "set-order"=!b) (H:s.heap.get? a=some (oN b)) (hi:s.heap.get? it=some (xX a 0 0)) (β:it≠a)
  (h:∀h' n,h'.get? it=some (xX a 1 n)->(b=true->n=2)->iY it s.heap h'->Q (some (.bool true)) {s with heap:=h'}):wpAny (model prog w) A (pyNext (.ref it)) Q E s:=by
 have M:s.TypeIs (.ref it) "set_iterator":=⟨_,hi,rfl⟩;have hf:(ut b).fits 1=true:=by cases b<;>rfl
 unfold pyNext;refine ae (gH (dz (name:=cw "__next__") M FS_.slot_set_iterator_next
  (bV FS_.slot_set_iterator_next M FS_.entry_set_iterator_next ?_ (FS_.args_set_iterator_next_1 _))))
 unfold Builtin.«set_iterator.__next__»;show wpAny _ _ (fieldsOf (.ref it)>>=_) _ _ _;refine ae (lI hi rfl ?_);show wpAny _ _ (setEntries a>>=_) _ _ _;refine ae (m:=setEntries a) (ae (gk H rfl hf (af ?_)));dsimp only;rw[if_neg (by decide)];show wpAny _ _ (setNext a 0 0 1>>=_) _ _ _;refine ae (GZ V H λ n hn=>?_);dsimp only;refine ae (nT hi (by simp) λ h1 v t=>?_);refine ae (nT v (by simp) λ h2 u d=>?_);exact af ⟨_,rfl,af (h h2 n u hn (t.trans d))⟩
theorem Mi {a it:aM} {b:Bool} {n:Nat} {Q:Option aj->ak->Prop} (hh:A.handled=none) (v:w.params.followText "set-order"=!b) (t:s.heap.get? a=some (oN b)) (hi:s.heap.get? it=some (xX a 1 n)) (hn:b=true->n=2)
  (h:∀h',sB it s.heap h'->Q none {s with heap:=h'}):wpAny (model prog w) A (pyNext (.ref it)) Q E s:=by
 have u:s.TypeIs (.ref it) "set_iterator":=⟨_,hi,rfl⟩;have hf:(ut b).fits 1=true:=by cases b<;>rfl
 unfold pyNext;refine ae (gH (dz (name:=cw "__next__") u FS_.slot_set_iterator_next
  (bV FS_.slot_set_iterator_next u FS_.entry_set_iterator_next ?_ (FS_.args_set_iterator_next_1 _))))
 unfold Builtin.«set_iterator.__next__»;show wpAny _ _ (fieldsOf (.ref it)>>=_) _ _ _;refine ae (lI hi rfl ?_);show wpAny _ _ (setEntries a>>=_) _ _ _;refine ae (m:=setEntries a) (ae (gk t rfl hf (af ?_)));dsimp only;rw[if_neg (by decide)];show wpAny _ _ (setNext a n 1 1>>=_) _ _ _;refine ae (G0 v t hn ?_);dsimp only;refine ae (nT hi (by simp) λ h1 H d=>?_);show wpAny _ _ (newExc (.type "StopIteration") []>>=_) _ _ _;refine ae ?_;simp only[newExc,newTuple];refine ae (bK ?_ (by size_fits));refine ae (m:=firstArgMember _ _) (cz (a:=bx) (by first|rfl|(simp only[firstArgMember];rfl)) ?_);refine bK ?_ (by size_fits);unfold raiseNew;dsimp only;refine ae (zU ?_)
 first|rw[show A.in1.handled=none from hh]|rw[hh]
 refine ae (af (wpAny_throw ?_));refine ae (ey (T:="StopIteration") (b:=true) ⟨_,bv _ rfl,rfl⟩ nS ?_);exact af (h _ ((d.extBut.push _).push _))
end
theorem Bu (d target iter:cX) (scope:y0) (pos:Pos) (it t:aj) (env:Env):
  compTurn (.SetComp d [⟨target,iter,[],0⟩] scope pos) 0 it t env=(jG iter.pos>>=λ _=>pyNext it>>=λ r=>match r with
   |none=>pure (.done .next)
   |some v=>letOwnedTupleGo target it v>>=λ _=>assign target env v>>=λ _=>
    (eval d env>>=λ x=>jG d.pos>>=λ _=>call (.builtin "set.add") [t,x]>>=λ _=>pure ())>>=λ _=>
     again (.compLoop (.SetComp d [⟨target,iter,[],0⟩] scope pos) 0 it t env)):=by rfl
theorem rT {R:mS->ak->Prop} (I:Nat->ak->Prop)
  (t:∀n s,I n s->wpAny (model prog w) A (pyNext it) (λ r V=>match r with
   |none=>R (.ok .next) V
   |some v=>wpAny (model prog w) A (letOwnedTupleGo target it v) (λ _ u=>wpAny (model prog w) A (assign target env v) (λ _ ε=>
     wpAny (model prog w) A (eval H env) (λ x δ=>
       wpAny (model prog w) A (call (.builtin "set.add") [M,x]) (λ _ γ=>∃m,m<n /\ I m γ) (notedBy (model prog w) A env λ e d=>R (.error e) d) δ) (notedBy (model prog w) A env λ e d=>R (.error e) d) ε) (notedBy (model prog w) A env λ e d=>R (.error e) d) u) (notedBy (model prog w) A env λ e d=>R (.error e) d) V) (notedBy (model prog w) A env λ e d=>R (.error e) d) s)
  (n:Nat) (h:I n s):eQ (model prog w) A (.compLoop (.SetComp H [⟨target,iter,[],0⟩] scope pos) 0 it M env) R s:=by
 refine codeAny_loop rfl I (λ n s hI=>?_) n h;show wpAny _ A ((compTurn (.SetComp H [⟨target,iter,[],0⟩] scope pos) 0 it M env).onRaise (λ x=>do noteFrame x env;theTreesLotGoes x)) _ _ s;refine wpAny_noted ?_;rw[Bu];refine ae (bn (ae (bX (t n s hI) (λ r V h₁=>?_) λ _ _ h'=>h')));cases r with
 |none=>exact af h₁
 |some v=>
  refine ae (bX h₁ (λ _ u β=>?_) λ _ _ h'=>h');refine ae (bX β (λ _ ε θ=>?_) λ _ _ h'=>h');exact ae (ae (bX θ (λ x δ η=>ae (bn (ae (bX η (λ _ γ ζ=>af (af ⟨rfl,ζ⟩)) λ _ _ h'=>h')))) λ _ _ h'=>h'))
theorem ru {R:mS->ak->Prop} {t target iter d rest scope pos it u env}
  (h0:eQ (model prog w) A (.compLoop (.SetComp t (⟨target,iter,d,0⟩::rest) scope pos) 0 it u env) R s)
  (h:wpAny (model prog w) A (pyIter it) (λ v H=>eQ (model prog w) A (.compLoop (.SetComp t (⟨target,iter,d,0⟩::rest) scope pos) 0 v u env) R H)
   (notedBy (model prog w) A env λ x H=>R (.error x) H) s):
  eQ (model prog w) A (.compStart (.SetComp t (⟨target,iter,d,0⟩::rest) scope pos) 0 it u env) R s:=by
 refine kS ?_;show wpAny _ _ ((compStart (.SetComp t (⟨target,iter,d,0⟩::rest) scope pos) 0 it u env).onRaise (λ x=>do noteFrame x env;jG theWindowsPlace)) _ _ s;refine wpAny_notedAt ?_;unfold compStart;show wpAny _ _ (ask>>=_) _ _ s;refine ae (cZ (wx ?_))
 split
 .first
   |exact ae (af (af (And.intro rfl h0)))
   |exact af (And.intro rfl h0)
 .first
   |exact ae (gw (ae (bn (ae (bX h (λ v H h'=>af (And.intro rfl h')) λ _ _ x=>x)))))
   |(refine ae (gw ?_);show wpAny _ _ (jG iter.pos>>=_) _ _ s;exact ae (bn (ae (bX h (λ v H h'=>af (And.intro rfl h')) λ _ _ x=>x))))
def CN (b:Bool):Nat->Obj
 |0=>xi b
 |_+1=>oN b
section
variable{c:Cx} {G G':Gm} {W:Om}
theorem Eu (ok:Ok c n) (hi:KS c G W iter ds) (υ:ds≠[])
  (μ:∀d∈ds,rR c W n δ target [] scope cl d (some (.bool true))) (θ:closureFor scope c.env=pure cl) (ι:∀y∈scope.names,y.2≠.cell) (β:scope.kind=.function)
  (γ:∀x∈scope.names,x.2=.local->scope.names.lookup x.1=some .local) (hs:∀x,foldedSetIterable iter c.env x=pure x:=by intro _;symm):
  rq c G W (.SetComp δ [⟨target,iter,[],0⟩] scope pos) (λ d W'=>∃a b,(c.w.params.followText "set-order"=!b) /\ d=.val (.ref a) /\ W'=(a,.raw (oN b))::W):=λ s K Q E S k=>by
 rw[show eval (.SetComp δ [⟨target,iter,[],0⟩] scope pos) c.env=comprehension (.SetComp δ [⟨target,iter,[],0⟩] scope pos) scope c.env (firstIterPos [⟨target,iter,[],0⟩] pos) (newSet (.type "set")) (firstAsync [⟨target,iter,[],0⟩]) (firstIter [⟨target,iter,[],0⟩] c.env) from rfl];refine oX (g:=⟨target,iter,[],0⟩) (gs:=[]) rfl hs θ β γ ?_;refine hi s K _ E S λ it P P' h0 K0 t0 k0 S0 IT=>?_;refine IK λ b hb=>?_;have S1:=S0.new (xi b) (b:=.raw (xi b)) rfl;generalize hD:h0.objs.size=D at S1⊢;generalize X1:h0.push (xi b)=h1 at S1;refine ik ι (by intro y hy;simp at hy) (λ h2 η ζ=>?_) β;dsimp only at η ζ⊢;generalize hC:h1.objs.size=C at η ζ⊢;have κ:h1.get? C=none:=hC▸kX;have keep:∀b o,h1.get? b=some o->h2.get? b=some o:=λ b o e=>ζ.extBut b o (λ q=>by rw[q,κ] at e;cases e) (aA _ e);have I0:=pu (L:=C) (G₀:=[]) S1.kp S1.own κ keep η (λ p hp=>nomatch hp)
 let c':Cx:={c with env:=compEnvC scope cl C c.env,B:=⟨K0,rt h1 ((D,.raw (xi b))::(P 0++W))⟩}
 have ρ:Ok c' n:=⟨ok.T.trans (S0.k0),ok.h,ok.d,ok.u⟩;have fin:∀(h':dM) (K':FM) (t':Nat),FM.Le K0 K'->f' c'.B C h' K' [] ((D,.raw (oN b))::W)->
   compPost c.M c.A E none Q (.ref D) C (.ok .next) {s with heap:=h',toks:=t'}:=by
  intro h' K' t' kk SS;have A:=nv S1.kp κ SS;have S2:=(S1.perm (W':=((D,.raw (xi b))::(P 0++W))++[]) (by simp)).call A;rw[ax] at S2;obtain⟨o,q1,q2,_⟩:=S2.own.at_ _ (ag ..);obtain⟨m,hm⟩:=Ic.ns q1 q2;refine⟨m,hm,λ ξ hs=>?_⟩;have S3:=S2.turnDrop (h':=ξ) (λ x o hx e=>(hs.2 x hx).trans e);exact k (.ref D) ξ K' t' (.val (.ref D)) _ (k0.trans kk) S3 (by ext rd) ⟨D,b,hb,rfl,rfl⟩
 have ε:∀t:Nat,eQ c.M c.A (.compLoop (.SetComp δ [⟨target,iter,[],0⟩] scope pos) 0 (.ref it) (.ref D) c'.env) (compPost c.M c.A E none Q (.ref D) C) {s with heap:=h2,toks:=t}:=by
  intro t
  let J:Nat->ak->Prop:=λ n s'=>∃i K' h' t',n=ds.length-i /\ i <= ds.length /\ s'={s with heap:=h',toks:=t'} /\ FM.Le K0 K' /\ f' c'.B C h' K' [] (P i++(D,.raw (CN b i))::W)
  refine rT J ?_ ds.length ⟨0,K0,h2,_,rfl,aU _,rfl,FM.Le.rfl,by
   have:=I0.perm (W':=P 0++(D,.raw (xi b))::W) fj.symm;exact this⟩
  rintro n' s' ⟨i,K1,ν,t1,rfl,φ,rfl,k1,V⟩;by_cases H:i<ds.length
  .refine IT.item i ds[i] (by simp[H]) {s with heap:=ν,toks:=t1} K1 _ _ k1 V.kp V.own.left λ v h3 K3 t3 A3 r3 lg=>?_;have S3:=V.call A3;obtain⟨G4,bb,e,ha,ht,hr,he⟩:=μ ds[i] (cE H) C c'.B (P (i+1)) (D,.raw (CN b i)) ρ;have ht:bb=true:=ht;subst ht;simp only[if_true,oJ] at hr;subst hr;refine lg target (λ h=>nomatch h) _ _ _ rfl λ χ X0=>?_;have ω:=S3.call X0;refine ha {s with heap:=χ,toks:=t3} K3 v _ _ ω r3 λ h4 K4 t4 k4 S4=>?_;refine he rfl {s with heap:=h4,toks:=t4} K4 _ _ S4 λ x h6 K6 t6 k6 S6 r6=>?_;have r6:x=.bool true:=r6;subst r6;have ο:=S6.perm (W':=(D,.raw (CN b i))::(P (i+1)++W)) fj;obtain⟨o,q1,q2,q3⟩:=ο.own.at_ _ (ag ..);have q2:o=CN b i:=q2;subst q2;have kk:FM.Le K0 K6:=((k1.trans A3.le).trans k4).trans k6;cases i with
   |zero=>
    refine GX (b:=b) q1 λ h7 τ σ=>?_;refine⟨ds.length-1,Lw dX (dE (zw H)),1,K6,h7,_,rfl,zw H,rfl,kk,?_⟩;have S7:=ο.turn (b':=.raw (oN b)) (λ x o hx e=>(τ.2 x hx).trans e) σ rfl;exact(S7.perm (W':=P 1++(D,.raw (oN b))::W) fj.symm).weak (λ p hp=>nomatch hp)
   |succ j=>
    refine GY (b:=b) q1 ?_;refine⟨ds.length-(j+1+1),(lz 1988490166146985031492638544164) dX (dE (Sl H)),j+1+1,K6,h6,_,rfl,Sl H,rfl,kk,?_⟩;exact S6.weak (λ p hp=>nomatch hp)
  .have e:i=ds.length:=ai φ (tG H);subst e;refine IT.done {s with heap:=ν,toks:=t1} K1 _ _ k1 V.kp V.own.left λ ψ K2 t2 A2=>?_;have S2:=V.call A2;have hz:CN b ds.length=oN b:=by
    cases ds with
    |nil=>exact absurd rfl υ
    |cons _ _=>rfl
   rw[hz] at S2;exact fin ψ K2 t2 (k1.trans A2.le) S2
 refine ru (ε _) ?_;exact IT.self 0 _ K0 _ _ FM.Le.rfl I0.kp (I0.perm (W':=P 0++(D,.raw (xi b))::W) fj.symm).own.left λ t'=>ε t'
theorem WQ:draw it (n+1)=pyNext it>>=λ|none=>pure []|some v=>jH [v] (draw it n)>>=λ r=>pure (v::r):=rfl
theorem Ew (ok:Ok c n) (hw:c.w.params.followText "set-order"=!b) (t:gc W (a,.raw (oN b)) Wr) (P:un G x (.bool true) G') (hl:c.env.kindOf x=some .local:=by symm) (hp:(c.env.scope.kind==.class||(c.env.scope.kind==.module&&c.env.locals !=c.env.globals))=false:=by symm):
  As c G W (.Tuple [.Name x p] k tp) (.val (.ref a)) G':=λ s K v Q E S r q=>by
 have r:v=.ref a:=r;subst r;obtain⟨o,q1,q2,q3⟩:=(S.perm t.perm).own.at_ _ (ag ..);have q2:o=oN b:=q2;subst q2;have q1:s.heap.get? a=some (oN b):=q1;have hT:s.TypeIs (.ref a) "set":=⟨_,q1,rfl⟩;have H:s.heap.objs.size≠a:=λ e=>absurd (cC q1) (by rw[<-e];exact cU _);rw[arm_assign_Tuple];refine ae (bn ?_);unfold unpack;rw[show gu [.Name x p] c.env=[(false,assign (.Name x p) c.env)] from rfl];show wpAny _ _ (jH [.ref a] (unpackItems (.ref a) 1 none)>>=_) _ _ _;refine ae (aD ?_);unfold unpackItems;refine ae ?_;unfold notIterableAtAll;refine ae (dN hT lW.lookup ?_);refine af ?_;simp only[bQ,if_false];refine ae (aD (IL q1 ?_));have g1:(s.heap.push (xX a 0 0)).get? a=some (oN b):=aA _ q1;have g2:(s.heap.push (xX a 0 0)).get? s.heap.objs.size=some (xX a 0 0):=bv _ rfl;refine ae (aD ?_);rw[WQ];refine ae (IM hw g1 g2 H λ h1 m V hm u=>?_);dsimp only;refine ae (aD ?_);refine af (af ?_);rw[if_neg (by simp)];have g3:h1.get? a=some (oN b):=(u.2 a (Ne.symm H)).trans g1;refine ae (aD (Mi ok.h hw g3 V hm λ h2 M=>?_));simp only[uP,bQ,if_false];refine af ?_;have S':f' c.B c.env.locals h2 K G W:=by
  have A:=Aft.grow (h':=h2) S.kp (S.own) (λ b o e=>M b o (gE (cC e)) ((u.2 b (gE (cC e))).trans (aA _ e)));have:=(S.perm (W':=W++[]) (by simp)).call A
  rwa [ax] at this
 show wpAny _ _ (jH [] (assign (.Name x p) c.env (.bool true))>>=λ _=>assignInOrder [] []) _ _ _;refine ae (aD (kb (d:=.bool true) P hl hp _ K _ _ E S' (by ext rd) λ h3 K3 t3 k3 S3=>?_));exact af (q h3 K3 t3 k3 S3)
end
def D' (x y:Str):Bool:=decide (x.cps.toList<y.cps.toList)
def lexLt:List Str->List Str->Bool
 |[],ys=>!ys.isEmpty
 |_::_,[]=>false
 |x::xs,y::ys=>if x=y then lexLt xs ys else D' x y
theorem Ah:lexLt [] b=!b.isEmpty:=rfl
theorem Ai:lexLt (x::a) []=false:=rfl
theorem xj:lexLt (x::a) (y::b)=if x=y then lexLt a b else D' x y:=rfl
section
variable{prog:aG} {w:aB} {A:bU} {E:aj->ak->Prop} {s:ak}
theorem IN {Q:aj->ak->Prop} (h:Q (.bool (D' a b)) s):wpAny (model prog w) A (richCompare .Lt (.str a t) (.str b u)) Q E s:=
 qN (jV s a t) (jV s b u) zV (call_str_lt ⟨by simp,h⟩)
theorem Qt {Q:aj->ak->Prop} (h:Q (.bool (D' b a)) s):wpAny (model prog w) A (richCompare .Gt (.str a t) (.str b u)) Q E s:=
 qN (jV s a t) (jV s b u) pb (bV pb (jV s a t) zq (by
  show wpAny _ _ (ret (.bool (decide (b.cps.toList<a.cps.toList)))) _ _ s;exact af ⟨_,rfl,by simp,h⟩) (zW _ _))
def nB (vs:List aj) (xs:List Str):Prop:=vs.length=xs.length /\ ∀(i:Nat) (x:Str),xs[i]?=some x->∃t,vs[i]?=some (.str x t)
theorem rU {K:FM}:∀{xs:List Str} {vs:List aj},cB K (xs.map .str) vs->nB vs xs:=by
 intro xs
 induction xs with
 |nil=>
  intro _ h;simp only[aX,ro] at h;subst h;exact⟨rfl,λ i x e=>by simp at e⟩
 |cons x xs d=>
  intro _ h;simp only[aq,ro] at h;obtain⟨v,r,rfl,⟨t,rfl⟩,h⟩:=h;have d:=d h;refine⟨by simp[d.1],λ i y e=>?_⟩;cases i with
  |zero=>simp at e;subst e;exact⟨t,by simp⟩
  |succ i=>simp at e;simpa using d.2 i y e
def Qu:Bool->CmpOp
 |false=>.Lt
 |true=>.Gt
def codeOf:Bool->Int
 |false=>0
 |true=>4
def dZ (g:Bool) (a b:List Str):Bool:=if g then lexLt b a else lexLt a b
theorem li {Q:Array aj->ak->Prop} (hl:s.heap.get? l=some {cls:=.type "list",dict:=none,data:=.seq (al vs) n,slots:=#[]}) (h:Q (al vs) s):wpAny (model prog w) A (bP (.ref l)) Q E s:=by
 unfold bP;exact ae (bI hl rfl (af h))
theorem nB.get (h:nB vs xs) (hi:i<xs.length):∃t,(al vs)[((i:Nat):Int).toNat]?=some (.str xs[i] t):=by
 obtain⟨t,e⟩:=h.2 i xs[i] (by simp[hi]);exact⟨t,by simpa using e⟩
theorem nB.none (h:nB vs xs) (hi:¬i<xs.length):(al vs)[((i:Nat):Int).toNat]?=aH:=by
 have:=h.1;simp;exact(lz 5086409862025251) hi this
theorem CO (hl:s.heap.get? l=some {cls:=.type "list",dict:=none,data:=.seq (al vs) n,slots:=#[]}) (hb:s.heap.get? b=some {cls:=.type "list",dict:=none,data:=.seq (al M) m,slots:=#[]})
  (hx:nB vs xs) (hy:nB M ys) {R:mS->ak->Prop}:∀(k i:Nat),xs.length-i=k->i <= xs.length->i <= ys.length->R (.ok (.ret (.bool (dZ g (xs.drop i) (ys.drop i))))) s->
  eQ (model prog w) A (.builtin "list.__eq__.loop" ⟨[.ref l,.ref b,rawInt i,rawInt (codeOf g)],[]⟩) R s:=by
 intro k
 induction k with
 |zero=>
  intro i V hi H h;have e:i=xs.length:=ai hi (GD V dX);refine bJ mM ?_;rw[bC dH _];have n1:=hx.none (i:=i) ((lz 69039297810) e);have e1:xs.drop i=[]:=by simp;exact PL e
  have h1:=hx.1;have h2:=hy.1;rw[e1] at h;cases g
  .show wpAny _ _ (bP (.ref l)>>=_) _ _ _;refine ae (li hl ?_);refine ae (li hb ?_);rw[n1];refine ae (li hl ?_);refine ae (li hb ?_);refine af ?_;have v:dZ false [] (ys.drop i)=decide ((al vs).size<(al M).size):=by
    simp only[dZ,bQ,if_false,Ah,↓Ai,↓xj,aN,h1,h2];cases q:ys.drop i with
    |nil=>rw[im] at q;simp;exact Sm e q
    |cons _ _=>have:=congrArg iT q;simp at this;simp;exact(lz 1240967695572533180207534389) e this (dE H)
   rw[v] at h;exact h
  .show wpAny _ _ (bP (.ref l)>>=_) _ _ _;refine ae (li hl ?_);refine ae (li hb ?_);rw[n1];refine ae (li hl ?_);refine ae (li hb ?_);refine af ?_;have v:dZ true [] (ys.drop i)=decide ((al vs).size>(al M).size):=by
    simp only[dZ,if_true,aN,h1,h2];cases q:ys.drop i with
    |nil=>rw[im] at q;simp[Ah,↓Ai,↓xj];exact Sn H e
    |cons _ _=>simp[Ah,↓Ai,↓xj];exact Sn H e
   rw[v] at h;exact h
 |succ k ih=>
  intro i V hi H h;refine bJ mM ?_;rw[bC dH _];have h1:=hx.1;have h2:=hy.1;have t:i<xs.length:=Iq V (dE hi);obtain⟨t1,g1⟩:=hx.get t;have d1:xs.drop i=xs[i]::xs.drop (i+1):=aJ t;rw[d1] at h;by_cases d:i<ys.length
  .obtain⟨t2,g2⟩:=hy.get d;have d2:ys.drop i=ys[i]::ys.drop (i+1):=aJ d;rw[d2] at h;have hc:((i:Int)+1)=((i+1:Nat):Int):=by push_cast;rfl
   by_cases u:xs[i]=ys[i]
   .have v:dZ g (xs[i]::xs.drop (i+1)) (ys[i]::ys.drop (i+1))=dZ g (xs.drop (i+1)) (ys.drop (i+1)):=by
     cases g<;>simp[dZ,Ah,↓Ai,↓xj,u]
    rw[v] at h;have go:=ih (i+1) (ai (GF V dX (dE (zu t))) (GG V dX (dE (di t)))) (zu t) (zu d) h;cases g<;>(
    show wpAny _ _ (bP (.ref l)>>=_) _ _ _;refine ae (li hl ?_);refine ae (li hb ?_);rw[g1,g2];refine ae (mn ?_);rw[decide_eq_true u];rw[if_pos rfl];rw[hc];exact af ⟨cG dH _,go⟩)
   .cases g
    .have v:dZ false (xs[i]::xs.drop (i+1)) (ys[i]::ys.drop (i+1))=D' xs[i] ys[i]:=by simp[dZ,Ah,↓Ai,↓xj,u]
     rw[v] at h;show wpAny _ _ (bP (.ref l)>>=_) _ _ _;refine ae (li hl ?_);refine ae (li hb ?_);rw[g1,g2];refine ae (mn ?_);rw[decide_eq_false u];rw[if_neg aT];refine ae (li hl ?_);refine ae (li hb ?_);rw[g1,g2];exact ae (IN (af h))
    .have v:dZ true (xs[i]::xs.drop (i+1)) (ys[i]::ys.drop (i+1))=D' ys[i] xs[i]:=by simp[dZ,Ah,↓Ai,↓xj,Ne.symm u]
     rw[v] at h;show wpAny _ _ (bP (.ref l)>>=_) _ _ _;refine ae (li hl ?_);refine ae (li hb ?_);rw[g1,g2];refine ae (mn ?_);rw[decide_eq_false u];rw[if_neg aT];refine ae (li hl ?_);refine ae (li hb ?_);rw[g1,g2];exact ae (Qt (af h))
  .have n2:=hy.none d;have d2:ys.drop i=[]:=by simp;exact tG d
   rw[d2] at h;cases g
   .have v:dZ false (xs[i]::xs.drop (i+1)) []=decide ((al vs).size<(al M).size):=by simp[dZ,Ah,↓Ai,↓xj];exact(lz 62963682490055161553227845) h1 h2 t d
    rw[v] at h;show wpAny _ _ (bP (.ref l)>>=_) _ _ _;refine ae (li hl ?_);refine ae (li hb ?_);rw[g1,n2];refine ae (li hl ?_);refine ae (li hb ?_);exact af h
   .have v:dZ true (xs[i]::xs.drop (i+1)) []=decide ((al vs).size>(al M).size):=by rw[decide_eq_true (by simp only[aN];exact(lz 62963682490055161553228101) h1 h2 t d)];simp[dZ,Ah,↓Ai,↓xj];exact t
    rw[v] at h;show wpAny _ _ (bP (.ref l)>>=_) _ _ _;refine ae (li hl ?_);refine ae (li hb ?_);rw[g1,n2];refine ae (li hl ?_);refine ae (li hb ?_);exact af h
theorem G5 {Q:aj->ak->Prop} (H:A.units<cLine) (hl:s.heap.get? l=some {cls:=.type "list",dict:=none,data:=.seq (al vs) n,slots:=#[]}) (hb:s.heap.get? b=some {cls:=.type "list",dict:=none,data:=.seq (al M) m,slots:=#[]})
  (V:nB vs xs) (hy:nB M ys) (h:Q (.bool (dZ g xs ys)) s):wpAny (model prog w) A (richCompare (Qu g) (.ref l) (.ref b)) Q E s:=by
 have t:s.TypeIs (.ref l) "list":=⟨_,hl,rfl⟩;have d:s.TypeIs (.ref b) "list":=⟨_,hb,rfl⟩;have go:=CO (prog:=prog) (w:=w) (A:=A) (g:=g) hl hb V hy (R:=λ r u=>match r with|.ok (.ret v)=>v≠.notImplemented /\ Q v u|_=>False) _ 0 rfl (aU _) (aU _) ⟨by simp,by simpa using h⟩;cases g with
 |false=>
  refine nq t d f0 (dR (ip f0.plain rF (f0.check _ _ _ _ _ _ _ _ t (qO _ _) ?_))) H;show wpAny _ _ (isInstance (.ref b) (.type "list")>>=_) _ _ _;refine ae (ey (T:="list") (b:=true) d ug ?_);refine af ⟨cG dH _,fv go λ r u hr=>?_⟩;cases r with
  |error e=>exact hr.elim
  |ok f=>cases f<;>first|exact hr|exact hr.elim
 |true=>
  refine nq t d mN (dR (ip mN.plain PySem.F.entry_list_gt (mN.check _ _ _ _ _ _ _ _ t (PySem.F.args_list_gt_2 _ _) ?_))) H;show wpAny _ _ (isInstance (.ref b) (.type "list")>>=_) _ _ _;refine ae (ey (T:="list") (b:=true) d ug ?_);refine af ⟨cG dH _,fv go λ r u hr=>?_⟩;cases r with
  |error e=>exact hr.elim
  |ok f=>cases f<;>first|exact hr|exact hr.elim
end
theorem ng:∀x:List Str,lexLt x x=false
 |[]=>rfl
 |x::xs=>by simp[Ah,↓Ai,↓xj,ng xs]
theorem G6 (h1:D' x y=true) (h2:D' y z=true):D' x z=true:=by
 simp only[D',decide_eq_true_eq] at*;exact List.lt_trans h1 h2
theorem Ey (x:Str):D' x x=false:=by simp[D',List.lt_irrefl]
theorem G7 (h1:D' x y=false) (h2:x≠y):D' y x=true:=by
 simp only[D',decide_eq_false_iff_not,decide_eq_true_eq] at*;rcases List.le_iff_lt_or_eq.mp (List.not_lt.mp h1) with h|h
 .exact h
 .exact absurd (by rcases x with⟨⟨a⟩⟩;rcases y with⟨⟨b⟩⟩;simp at h;simp[h]) h2
theorem iQ:∀{x y z:List Str},lexLt x y=true->lexLt y z=true->lexLt x z=true
 |[],[],_,h,_=>by simp[Ah,↓Ai,↓xj] at h
 |[],_::_,[],_,h=>by simp[Ah,↓Ai,↓xj] at h
 |[],_::_,_::_,_,_=>rfl
 |_::_,[],_,h,_=>by simp[Ah,↓Ai,↓xj] at h
 |_::_,_::_,[],_,h=>by simp[Ah,↓Ai,↓xj] at h
 |x::xs,y::ys,z::v,h1,h2=>by
  rw[xj] at*;by_cases t:x=y
  .subst t;rw[if_pos rfl] at h1;by_cases d:x=z
   .subst d;rw[if_pos rfl] at h2⊢;exact iQ h1 h2
   .rw[if_neg d] at h2⊢;exact h2
  .rw[if_neg t] at h1;by_cases d:y=z
   .subst d;rw[if_neg t];exact h1
   .rw[if_neg d] at h2;have:=G6 h1 h2;by_cases u:x=z
    .subst u;rw[Ey] at this;cases this
    .rw[if_neg u];exact this
theorem lf:∀{x y:List Str},lexLt x y=false->x=y \/ lexLt y x=true
 |[],[],_=>.inl rfl
 |[],_::_,h=>by simp[Ah,↓Ai,↓xj] at h
 |_::_,[],_=>.inr rfl
 |x::xs,y::ys,h=>by
  rw[xj] at*;by_cases e:x=y
  .subst e;rw[if_pos rfl] at h⊢;rcases lf h with h|h
   .exact .inl (by rw[h])
   .exact .inr h
  .rw[if_neg e] at h;exact .inr (by rw[if_neg (Ne.symm e)];exact G7 h e)
theorem rV (h:lexLt x y=true):lexLt y x=false:=by
 cases q:lexLt y x with
 |false=>rfl
 |true=>have:=iQ h q;rw[ng] at this;cases this
abbrev dL (x:List Str):D:=.lst (x.map .str)
def kJ (g:Bool) (b:List Str) (r:List (List Str)):List Str:=r.foldl (λ b v=>if dZ g v b=true then v else b) b
def oO:Bool->String
 |false=>"min.loop"
 |true=>"max.loop"
theorem Qv {prog:aG} {w:aB} {A:bU} {E:aj->ak->Prop} {s:ak} {g:Bool} {K:FM} {x y:List Str} {u v:aj} {Q:aj->ak->Prop} (t:A.units<cLine) (kp:FM.In K s.heap) (d:Rd K (dL x) u) (hy:Rd K (dL y) v) (h:Q (.bool (dZ g x y)) s):wpAny (model prog w) A (richCompare (Qu g) u v) Q E s:=by
 simp only[j9] at d hy;obtain⟨a,vs,e,rfl,h1,h2⟩:=d;obtain⟨b,H,M,rfl,h3,h4⟩:=hy;exact G5 t (kp _ _ h1) (kp _ _ h3) (rU h2) (rU h4) h
section
variable{pr:aG} {w:aB} {A:bU} {K₀:FM} {P P':Nat->Om} {xss:List (List Str)} {it:aM} {R:mS->ak->Prop} {g:Bool}
theorem Mj (hu:A.units+1<cLine) (IT:vi pr w A.in1 K₀ P P' (xss.map dL) it) (hP:∀i,P' i=P i) (S:aM):
  ∀(k j:Nat) (b:List Str) (s:ak) (K:FM),xss.length-j=k->j <= xss.length->FM.Le K₀ K->FM.In K s.heap->gx K s.heap ((S,.list [dL b,dL b])::P j)->
  (∀v h' K' t',Aft K s.heap ((S,.list [dL b,dL b])::P j) K' h' []->Rd K' (dL (kJ g b (xss.drop j))) v->R (.ok (.ret v)) {s with heap:=h',toks:=t'})->
  eQ (model pr w) A (.builtin (oO g) ⟨[.ref it,.none,.ref S],[]⟩) R s:=by
 injections pr w A K₀ P P' xss it R g hu IT hP S;intro k
 induction k with
 |zero=>
  intro j b s K hk hj hK kp o hR;have V:j=(xss.map dL).length:=by rw[ah];exact ai hj (GD hk dX)
  obtain⟨vs,e,hS,rs⟩:=l0 o;obtain⟨v1,_,rfl,r1,v2,_,rfl,r2,rfl⟩:=rs;have hd:xss.drop j=[]:=by simp;exact GD hk dX
  rw[hd] at hR;have fin:∀h1 K1 t1,Aft K s.heap (P j) K1 h1 []->wpAny (model pr w) A.in1 (jw S (λ _=>#[])>>=λ _=>letGo [v2] [v1]>>=λ _=>ret v1) (λ fin s'=>match fin with|.done f=>R (.ok f) s'|.again c'=>c'.quiet=true /\ eQ (model pr w) A c' R s') (λ e s'=>R (.error e) s') {s with heap:=h1,toks:=t1}:=by
   intro h1 K1 t1 t;have A2:=t.frame (Wr:=[(S,.list [dL b,dL b])]) (o.perm (aI _ _).symm);have M:Aft K s.heap ((S,.list [dL b,dL b])::P j) K1 h1 [(S,.list [dL b,dL b])]:=((Aft.same kp o).perm (aI _ _).symm).trans A2;obtain⟨vs,e,H,rs⟩:=l0 M.own;obtain⟨ε,_,rfl,_,δ,_,rfl,_,rfl⟩:=rs;refine ae (dk H rfl (ae (fZ (af ?_))));refine hR v1 _ K1 t1 ((M.trans (hV (l':=[]) (vs:=[]) (e:=_) M.kp M.own (λ b o hb e=>(bz _ _ (Ne.symm hb)).trans e) ((bo _ H rfl).trans rfl) cB.nil)).drop) (Rd.mono t.le _ r1)
  cases g
  .refine bJ lJ ?_;rw[show oO false="min.loop" from rfl,bC eA _];show wpAny _ A.in1 (seqItems? (.ref S)>>=_) _ _ s;refine ae (bI hS rfl ?_);show wpAny _ A.in1 (tryCatch (pyNext (.ref it)) _>>=_) _ _ s;exact ae (ed (IT.done s K _ _ hK kp (V▸fM o) λ h1 K1 t1 t=>fin h1 K1 t1 (V▸t)))
  .refine bJ lK ?_;rw[show oO true="max.loop" from rfl,bC eB _];show wpAny _ A.in1 (seqItems? (.ref S)>>=_) _ _ s;refine ae (bI hS rfl ?_);show wpAny _ A.in1 (tryCatch (pyNext (.ref it)) _>>=_) _ _ s;exact ae (ed (IT.done s K _ _ hK kp (V▸fM o) λ h1 K1 t1 t=>fin h1 K1 t1 (V▸t)))
 |succ k ih=>
  intro j b s K hk hj hK kp o hR;have u:j<xss.length:=Iq hk (dE hj);obtain⟨vs,e,hS,rs⟩:=l0 o;obtain⟨v1,_,rfl,r1,v2,_,rfl,r2,rfl⟩:=rs;have hd:xss.drop j=xss[j]::xss.drop (j+1):=aJ u;rw[hd] at hR;have hi:(xss.map dL)[j]?=some (dL xss[j]):=by simp[u]
  have step:∀v h1 K1 t1,Aft K s.heap (P j) K1 h1 (P' (j+1))->Rd K1 (dL xss[j]) v->
    wpAny (model pr w) A.in1 (richCompare (Qu g) v v2) (λ r s'=>r=.bool (dZ g xss[j] b) /\ s'={s with heap:=h1,toks:=t1}) (λ _ _=>False) {s with heap:=h1,toks:=t1} /\
    ∀b',b'=(if dZ g xss[j] b=true then xss[j] else b)->∀h2,(dZ g xss[j] b=true->∃e,h2.get? S=some ⟨.type "list",aH,.seq (al [v,v]) e,#[]⟩ /\ ∀c o,c≠S->h1.get? c=some o->h2.get? c=some o)->(dZ g xss[j] b=false->h2=h1)->
     ∀t2,eQ (model pr w) A (.builtin (oO g) ⟨[.ref it,.none,.ref S],[]⟩) R {s with heap:=h2,toks:=t2}:=by
   intro v h1 K1 t1 t rv;rw[hP] at t;have A2:=t.frame (Wr:=[(S,.list [dL b,dL b])]) (o.perm (aI _ _).symm);have M:Aft K s.heap ((S,.list [dL b,dL b])::P j) K1 h1 ((S,.list [dL b,dL b])::P (j+1)):=(((Aft.same kp o).perm (aI _ _).symm).trans A2).perm (aI _ _);refine⟨Qv (by show A.units+1<cLine;exact hu) t.kp rv (Rd.mono t.le _ r2) ⟨rfl,rfl⟩,?_⟩;rintro b' rfl h2 hy hn t2;cases q:dZ g xss[j] b with
   |true=>
    obtain⟨e,hx,γ⟩:=hy q;have A4:=hV (l':=[dL xss[j],dL xss[j]]) M.kp M.own γ hx (cB.cons rv (cB.cons rv cB.nil));refine ih (j+1) xss[j] _ K1 (ai (GF hk dX (dE (zu u))) (GG hk dX (dE (di u)))) u (hK.trans t.le) A4.kp A4.own λ v' h' K' t' A5 r5=>hR v' h' K' t' ((M.trans A4).trans A5) ?_;simp only[kJ,bf,q,if_true] at r5⊢;exact r5
   |false=>
    have:=hn q;subst this;refine ih (j+1) b _ K1 (ai (GF hk dX (dE (zu u))) (GG hk dX (dE (di u)))) u (hK.trans t.le) M.kp M.own λ v' h' K' t' A5 r5=>hR v' h' K' t' (M.trans A5) ?_;simp only[kJ,bf,q,bQ,if_false] at r5⊢;exact r5
  have β:∀(h1:dM) (K1:FM),Aft K s.heap (P j) K1 h1 (P' (j+1))->h1.get? S=some ⟨.type "list",aH,.seq (al [v1,v2]) e,#[]⟩:=by
   intro h1 K1 t;refine t.old _ _ hS λ hm=>?_;exact(bZ.mp o.nd).1 hm
  cases g
  .refine bJ lJ ?_;rw[show oO false="min.loop" from rfl,bC eA _];show wpAny _ A.in1 (seqItems? (.ref S)>>=_) _ _ s;refine ae (bI hS rfl ?_);show wpAny _ A.in1 (tryCatch (pyNext (.ref it)) _>>=_) _ _ s;refine ae (ed (IT.item j _ hi s K _ _ hK kp (fM o) λ v h1 K1 t1 t rv _=>?_));obtain⟨cm,go⟩:=step v h1 K1 t1 t rv;have H:=β h1 K1 t;show wpAny _ A.in1 (tryCatch (jH [v,v] (richCompare .Lt v v2>>=_)) _>>=_) _ _ _;refine ae (ed (aD (ae (bX cm (λ r s' hr=>?_) λ _ _ z=>z.elim))));obtain⟨rfl,rfl⟩:=hr;refine ae (aD (fu ?_));refine ae (fZ (af ?_));have d:(toString "min"++toString ".loop":String)="min.loop":=by decide
   cases hb:dZ false xss[j] b with
   |true=>
    simp only[if_true];refine ae ?_;refine dk H rfl (ae (fZ ?_));rw[d];exact af ⟨cG eA _,go _ rfl _ (λ _=>⟨_,(bo _ H rfl).trans rfl,λ c o hc e=>(bz _ _ (Ne.symm hc)).trans e⟩) (λ z=>by rw[hb] at z;cases z) _⟩
   |false=>
    simp only[bQ,if_false];refine ae (fZ ?_);rw[d];exact af ⟨cG eA _,go _ rfl _ (λ z=>by rw[hb] at z;cases z) (λ _=>rfl) _⟩
  .refine bJ lK ?_;rw[show oO true="max.loop" from rfl,bC eB _];show wpAny _ A.in1 (seqItems? (.ref S)>>=_) _ _ s;refine ae (bI hS rfl ?_);show wpAny _ A.in1 (tryCatch (pyNext (.ref it)) _>>=_) _ _ s;refine ae (ed (IT.item j _ hi s K _ _ hK kp (fM o) λ v h1 K1 t1 t rv _=>?_));obtain⟨cm,go⟩:=step v h1 K1 t1 t rv;have H:=β h1 K1 t;show wpAny _ A.in1 (tryCatch (jH [v,v] (richCompare .Gt v v2>>=_)) _>>=_) _ _ _;refine ae (ed (aD (ae (bX cm (λ r s' hr=>?_) λ _ _ z=>z.elim))));obtain⟨rfl,rfl⟩:=hr;refine ae (aD (fu ?_));refine ae (fZ (af ?_));have d:(toString "max"++toString ".loop":String)="max.loop":=by decide
   cases hb:dZ true xss[j] b with
   |true=>
    simp only[if_true];refine ae ?_;refine dk H rfl (ae (fZ ?_));rw[d];exact af ⟨cG eB _,go _ rfl _ (λ _=>⟨_,(bo _ H rfl).trans rfl,λ c o hc e=>(bz _ _ (Ne.symm hc)).trans e⟩) (λ z=>by rw[hb] at z;cases z) _⟩
   |false=>
    simp only[bQ,if_false];refine ae (fZ ?_);rw[d];exact af ⟨cG eB _,go _ rfl _ (λ z=>by rw[hb] at z;cases z) (λ _=>rfl) _⟩
theorem CP (hu:A.units+1<cLine) {x:List Str} {r:List (List Str)} (V:xss=x::r) (IT:vi pr w A.in1 K₀ P P' (xss.map dL) it) (hP:∀i,P' i=P i) (S:aM) (s:ak) (K:FM) (hK:FM.Le K₀ K) (kp:FM.In K s.heap) (o:gx K s.heap ((S,.list [])::P 0))
  (hR:∀v h' K' t',Aft K s.heap ((S,.list [])::P 0) K' h' []->Rd K' (dL (kJ g x r)) v->R (.ok (.ret v)) {s with heap:=h',toks:=t'}):
  eQ (model pr w) A (.builtin (oO g) ⟨[.ref it,.none,.ref S],[]⟩) R s:=by
 injections pr w A K₀ P P' xss it R g hu x r V IT hP S s K hK kp o hR;subst V;obtain⟨vs,e,hS,rs⟩:=l0 o;have hv:vs=[]:=rs;subst hv;have hi:((x::r).map dL)[0]?=some (dL x):=by simp
 have step:∀(v:aj) (h1:dM) (K1:FM) (t1:Nat),Aft K s.heap (P 0) K1 h1 (P' (0+1))->Rd K1 (dL x) v->∀h2 e t2,h2.get? S=some ⟨.type "list",aH,.seq (al [v,v]) e,#[]⟩->(∀c o,c≠S->h1.get? c=some o->h2.get? c=some o)->
   eQ (model pr w) A (.builtin (oO g) ⟨[.ref it,.none,.ref S],[]⟩) R {s with heap:=h2,toks:=t2}:=by
  intro v h1 K1 t1 u M h2 e t2 V β;rw[hP] at u;have A2:=u.frame (Wr:=[(S,.list [])]) (o.perm (aI _ _).symm);have A3:Aft K s.heap ((S,.list [])::P 0) K1 h1 ((S,.list [])::P (0+1)):=(((Aft.same kp o).perm (aI _ _).symm).trans A2).perm (aI _ _);have A4:=hV (l':=[dL x,dL x]) A3.kp A3.own β V (cB.cons M (cB.cons M cB.nil));refine Mj hu IT hP S _ 1 x _ K1 rfl (by simp) (hK.trans u.le) A4.kp A4.own λ v' h' K' t' A5 r5=>hR v' h' K' t' ((A3.trans A4).trans A5) ?_;simpa using r5
 have H:∀(h1:dM) (K1:FM),Aft K s.heap (P 0) K1 h1 (P' (0+1))->h1.get? S=some ⟨.type "list",aH,.seq (al []) e,#[]⟩:=by
  intro h1 K1 u;refine u.old _ _ hS λ hm=>?_;exact(bZ.mp o.nd).1 hm
 cases g
 .refine bJ lJ ?_;rw[show oO false="min.loop" from rfl,bC eA _];show wpAny _ A.in1 (seqItems? (.ref S)>>=_) _ _ s;refine ae (bI hS rfl ?_);show wpAny _ A.in1 (tryCatch (pyNext (.ref it)) _>>=_) _ _ s;refine ae (ed (IT.item 0 _ hi s K _ _ hK kp (fM o) λ v h1 K1 t1 u M _=>?_));have t:=H h1 K1 u;have d:(toString "min"++toString ".loop":String)="min.loop":=by decide
  show wpAny _ A.in1 (jw S (λ _=>#[v,v])>>=_) _ _ _;refine ae ?_;refine dk t rfl ?_;rw[d];exact af ⟨cG eA _,step v h1 K1 t1 u M _ _ _ ((bo _ t rfl).trans rfl) λ c o hc e=>(bz _ _ (Ne.symm hc)).trans e⟩
 .refine bJ lK ?_;rw[show oO true="max.loop" from rfl,bC eB _];show wpAny _ A.in1 (seqItems? (.ref S)>>=_) _ _ s;refine ae (bI hS rfl ?_);show wpAny _ A.in1 (tryCatch (pyNext (.ref it)) _>>=_) _ _ s;refine ae (ed (IT.item 0 _ hi s K _ _ hK kp (fM o) λ v h1 K1 t1 u M _=>?_));have t:=H h1 K1 u;have d:(toString "max"++toString ".loop":String)="max.loop":=by decide
  show wpAny _ A.in1 (jw S (λ _=>#[v,v])>>=_) _ _ _;refine ae ?_;refine dk t rfl ?_;rw[d];exact af ⟨cG eB _,step v h1 K1 t1 u M _ _ _ ((bo _ t rfl).trans rfl) λ c o hc e=>(bz _ _ (Ne.symm hc)).trans e⟩
end
def Qw:Bool->String
 |false=>"min"
 |true=>"max"
theorem SN:Fn pr w T (n+1) (.builtin (Qw g)) [.lst ((x::r).map dL)] [] (Is (dL (kJ g x r)) []):=λ A h1 h2 h3 s K vs Q E hT kp rd o k=>by
 obtain⟨_,_,rfl,⟨l,M,e,rfl,hl,hr⟩,rfl⟩:=rd;have V:A.units+1<cLine:=by unfold cLine;exact(lz 2920760913332243303385800979813765394) h3
 let it:=s.heap.objs.size
 have H:Aft K s.heap [] K (s.heap.push {cls:=.type "list_iterator",data:=.fields #[.ref l,.int 0 0]}) [(s.heap.objs.size,.pred (eg l 0))]:=Aft.pushOwn (b:=.pred (eg l 0)) kp gx.nil _ ⟨rfl,rfl⟩;have t:Aft K s.heap [] K ((s.heap.push {cls:=.type "list_iterator",data:=.fields #[.ref l,.int 0 0]}).push {cls:=.type "list",data:=.seq ([]:List aj).toArray}) [((s.heap.push {cls:=.type "list_iterator",data:=.fields #[.ref l,.int 0 0]}).objs.size,.list []),(s.heap.objs.size,.pred (eg l 0))]:=H.trans (Aft.pushOwn H.kp H.own _ (b:=.list []) ⟨[],_,rfl,cB.nil⟩);cases g
 .refine uQ PySem.F.kind_min PySem.F.plain_min PySem.F.entry_min (PySem.F.args_min1 _) ?_;show wpAny _ A.in1 (gF "min" ["key","default"] 0 ⟨[],[]⟩>>=_) _ _ s;refine ae (cz (show gF "min" ["key","default"] 0 ⟨[],[]⟩=pure [none,none] from rfl) ?_);refine ae (af ?_);refine ae (jI (items:=al M) ⟨_,kp _ _ hl,rfl,_,rfl⟩ ?_);refine ae (bK ?_);have d:(toString "min"++toString ".loop":String)="min.loop":=by decide
  rw[d];refine af ⟨cG eA _,CP (g:=false) (by exact V) rfl (sO (by exact h1) hl hr) (λ _=>rfl) _ _ K FM.Le.rfl t.kp t.own λ v h' K' t' u r3=>?_⟩;exact k v h' K' t' _ _ (t.trans u) r3 ⟨rfl,rfl⟩
 .refine uQ PySem.F.kind_max PySem.F.plain_max PySem.F.entry_max (PySem.F.args_max1 _) ?_;show wpAny _ A.in1 (gF "max" ["key","default"] 0 ⟨[],[]⟩>>=_) _ _ s;refine ae (cz (show gF "max" ["key","default"] 0 ⟨[],[]⟩=pure [none,none] from rfl) ?_);refine ae (af ?_);refine ae (jI (items:=al M) ⟨_,kp _ _ hl,rfl,_,rfl⟩ ?_);refine ae (bK ?_);have d:(toString "max"++toString ".loop":String)="max.loop":=by decide
  rw[d];refine af ⟨cG eB _,CP (g:=true) (by exact V) rfl (sO (by exact h1) hl hr) (λ _=>rfl) _ _ K FM.Le.rfl t.kp t.own λ v h' K' t' u r3=>?_⟩;exact k v h' K' t' _ _ (t.trans u) r3 ⟨rfl,rfl⟩
section
variable{c:Cx} {G:Gm} {W:Om}
theorem Aj {n:Nat} {pos:Pos} {f:aj} {e:cX} (t:Kp c.pr c.w c.T f) (d:ge e=true) (s:ak) (Q:aj->ak->Prop) (E:aj->ak->Prop)
  (h:wpAny c.M c.A (eval e c.env) (λ v s1=>FM.In c.T s1.heap /\ wpAny c.M c.A (call f [v]) Q E s1) E s):
  wpAny c.M c.A (callWith pos f [] (backTo pos (gQ [e] c.env)) []) Q E s:=by
 refine jR (P:=FM.In c.T) (by rw[cj d];rfl) t ?_;rw[cj d];refine ij ?_;refine dJ (bX h (λ v s1 h1=>?_) λ _ _ z=>z);exact gj h1
theorem FL {n:Nat} {f:aj} {l:aM} {vs:List aj} {ep:Nat} {K:FM} {ds ds':List D} {s:ak} {Q:aj->ak->Prop} {E:aj->ak->Prop} (kp:FM.In K s.heap) (hl:K l=some ⟨.type "list",aH,.seq (al vs) ep,#[]⟩)
  (k:∀m tp it h' K',K' m=some (Er f tp)->K' tp=some (Es it)->FM.Le K K'->Aft K s.heap [] K' h' [(it,.pred (eg l 0))]->(∃o,h'.get? m=some o)->Q (.ref m) {s with heap:=h'}):wpAny c.M c.A (call (.type "map") [f,.ref l]) Q E s:=by
 refine callType_new FM_.called_map (by decide) (FM_.typeCall_map_2 _ _) (FM_.newCall_map_2 _ _) (λ obj=>FM_.args_object_init_3 obj _ _) FM_.entry_map_new
  (zy f l (al vs) ep) ⟨kp _ _ hl,?_⟩
 have t:Aft K s.heap [] K (s.heap.push {cls:=.type "list_iterator",data:=.fields #[.ref l,.int 0 0]}) [(s.heap.objs.size,.pred (eg l 0))]:=Aft.pushOwn (b:=.pred (eg l 0)) kp gx.nil _ ⟨rfl,rfl⟩;have d:=t.trans (Aft.pushFz t.kp t.own (Es s.heap.objs.size));have u:=d.trans (Aft.pushFz d.kp d.own (Er f (s.heap.push {cls:=.type "list_iterator",data:=.fields #[.ref l,.int 0 0]}).objs.size));refine⟨⟨_,bv _ rfl,rfl⟩,k _ _ _ _ _ FM.add_self (FM.le_add (iU d.kp) _ _ FM.add_self) u.le u ⟨_,bv _ rfl⟩⟩
end
section
variable{c:Cx} {G:Gm} {W:Om}
theorem Bv {n k:Nat} {x y:Str} {p q pos H:Pos} {ef ex:cX} {f:aj} {ds ds':List D} (ok:Ok c n) (hn:k+5 <= n) (hx:Ev c G W (.Name x p) (.val (.type "tuple"))) (hy:Ev c G W (.Name y q) (.val (.type "map"))) (he:vd c G W [ef,ex] [.val f,.lst ds]) (hf:II c.pr c.w c.T k f ds ds') (β:ds'.length <= aO):
  Ev c G W (.Call (.Name x p) [.Call (.Name y q) [ef,ex] [] H] [] pos) (.tup ds'):=λ s K Q E S kk=>by
 refine dw (hx s K _ E S λ v g1 K1 t1 k1 S1 r1=>?_);obtain rfl:=r1;refine Aj (n:=n) kP rfl _ Q E ?_;refine dw (hy _ K1 _ E S1 λ v g2 K2 t2 k2 S2 r2=>?_);obtain rfl:=r2;refine jk ok kP he _ K2 _ E S2 λ vs g3 K3 t3 k3 S3 r3=>?_;obtain⟨_,_,rfl,rfl,_,_,rfl,⟨l,us,ep,rfl,hl,hr⟩,rfl⟩:=r3;refine FL (n:=n) (ds:=ds) (ds':=ds') S3.kp hl λ m tp it h' K' hm ht t A1 γ=>?_;have M:=(S3.perm (W':=[]++W) (by simp)).call A1;refine⟨M.inT ok,?_⟩;have hu:c.A.units+3*n <= 9000:=ok.u;have hd:c.A.depth+n <= 990:=ok.d;have IT:=CL (A:=c.A.in1.in1.in1) (m:=m) (tp:=tp) (it:=it) (K₀:=K') (ds:=ds) (ds':=ds') ok.h (by show c.A.depth+k <= 990;exact So hn hd) (by show c.A.units+1+1+1+3*k+1 <= 9000;exact(lz 13792903301562357927894186746878603635680492832191110713379) hn hu) (ok.T.trans M.k0) hm ht (t _ _ hl) (cB.mono t _ hr) hf;refine Ep IT (λ _=>rfl) β (nohint_map hm) _ K' γ FM.Le.rfl M.kp M.own.left λ v h2 δ V A2 r2=>?_;exact kk v h2 δ V ((((k1.trans k2).trans k3).trans t).trans A2.le) (M.call A2) r2
theorem SO {x:Str} {pos:Pos} {a:aM} {d:D} {Wr:Om} (hc:c.env.cells.lookup x=some a) (t:gc W (a,.cell (some d)) Wr) (u:c.env.scope.kind=.function:=by symm) (hl:c.env.kindOf x=some .cell:=by symm) (hd:(x==("__debug__":Str))=false:=by symm):
  Ev c G W (.Name x pos) d:=Me t hc u hl hd
theorem jl {x:Str} {e:cX} {p pos:Pos} {rest:List eX} {a:aM} {d:D} {H:Option D} {Wr:Om} {R:iD->Prop} (v:Ev c G W e d) (hc:c.env.cells.lookup x=some a) (t:gc W (a,.cell H) Wr) (h:Ex c G ((a,.cell (some d))::Wr) rest R)
  (u:c.env.scope.kind=.function:=by symm) (hl:c.env.kindOf x=some .cell:=by symm) (hs:km e (some (.Name x p)) pos.line c.env=pure false:=by symm):Ex c G W (.Assign [.Name x p] e pos::rest) R:=
 xR v t h hc u hl hs
theorem zA {n:Nat} {x:Str} {k:Nat} {p tp v:Pos} {u target iter:cX} {scope:y0} {cl:List (Str×aM)} {pos:Pos} {ds:List D} {G':Gm} {rest:List eX} {R:iD->Prop} (ok:Ok c n) (hi:KS c G W iter ds) (δ:ds≠[])
  (β:∀d∈ds,rR c W n u target [] scope cl d (some (.bool true))) (P:un G x (.bool true) G') (h:Ex c G' W rest R) (M:closureFor scope c.env=pure cl) (V:∀y∈scope.names,y.2≠.cell) (H:scope.kind=.function)
  (t:∀x∈scope.names,x.2=.local->scope.names.lookup x.1=some .local) (hs:∀x,foldedSetIterable iter c.env x=pure x:=by intro _;symm)
  (hl:c.env.kindOf x=some .local:=by symm) (hp:(c.env.scope.kind==.class||(c.env.scope.kind==.module&&c.env.locals !=c.env.globals))=false:=by symm)
  (γ:swappedStores [.Tuple [.Name x p] k tp] (.SetComp u [⟨target,iter,[],0⟩] scope pos) c.env=pure aH:=by symm) (hw:swapsWithSole [.Tuple [.Name x p] k tp] (.SetComp u [⟨target,iter,[],0⟩] scope pos) v.line c.env=pure false:=by symm):
  Ex c G W (.Assign [.Tuple [.Name x p] k tp] (.SetComp u [⟨target,iter,[],0⟩] scope pos) v::rest) R:=
 sM ok (Eu ok hi δ β M V H t hs) (λ d W' hd=>by
  obtain⟨a,b,hb,rfl,rfl⟩:=hd;exact⟨G',Ew ok hb .head P hl hp,L9 .head h⟩) γ hw
theorem Vb {l:List D} (hl:l.length<2^62):Tv c G W (.tup l) (!l.isEmpty):=λ s K x Q E S r k=>by
 obtain⟨a,t,ep,rfl,h1,hr⟩:=r;have d:=hr.length;refine truthy_tuple (items:=al t) ⟨_,S.kp _ _ h1,rfl,_,rfl⟩ (by simp[d];exact Lv hl) ?_;have e:(!(al t).isEmpty)=!l.isEmpty:=by
  cases l with
  |nil=>simp at d;subst d;rfl
  |cons a l=>cases t with
         |nil=>simp at d
         |cons=>rfl
 rw[e];exact k _
def Qx (c:Cx) (p:Nat->Om) (J:Prop) (G₀:Gm) (t:Om) (rest:List eX) (R:iD->Prop) (i:Nat):iD->Prop
 |.next G' W'=>J /\ Sub G₀ G' /\ cv W' (p i++t) []
 |.cont G' W'=>J /\ Sub G₀ G' /\ cv W' (p i++t) []
 |.brk G' W'=>Ex c G' W' rest R
 |.ret d W'=>R (.ret d W')
theorem Mk {target iter:cX} {body rest:List eX} {pos:Pos} {ds:List D} {TB:Bool} {R:iD->Prop} {W₁:Om} (hi:RJ c G W W₁ iter ds TB) (J:Nat->Prop) (G₀:Nat->Gm) (H:Nat->Om) (hJ:J 0) (hG:Sub (G₀ 0) G) (hW:cv W₁ (H 0) [])
  (M:∀i d,ds[i]?=some d->J i->∀p:Nat->Om,∃G',As c (G₀ i) (p (i+1)++H i) target d G' /\ Ex c G' (p (i+1)++H i) body (Qx c p (J (i+1)) (G₀ (i+1)) (H (i+1)) rest R (i+1)))
  (done:J ds.length->Ex c (G₀ ds.length) (H ds.length) rest R)
  (hs:∀x,foldedSetIterable iter c.env x=pure x:=by intro _;symm) (ht:TB=true->GK target=true:=by first|exact λ _=>rfl|exact λ h=>nomatch h):Ex c G W (.For target iter body [] pos::rest) R:=by
 refine Ek hi (λ i G' W'=>J i /\ Sub (G₀ i) G' /\ W'.Perm (H i)) ⟨hJ,hG,by have:=hW.perm;rwa [ax] at this⟩ ?_ ?_ hs ht
 .rintro i d hd G1 W1 ⟨j1,g1,p1⟩ p;obtain⟨G',ha,hb⟩:=M i d hd j1 p;refine⟨G',λ s K v Q E S r k=>ha s K v Q E ((S.weak g1.all).perm (p1.append_left _)) r λ h' K' t' le S'=>k h' K' t' le (S'.perm (p1.symm.append_left _)),?_⟩;refine λ s K Q E S k=>hb s K Q E (S.perm (p1.append_left _)) λ f h' K' t' le e=>k f h' K' t' le ?_;have nx:∀u t,J (i+1)->Sub (G₀ (i+1)) u->cv t (p (i+1)++H (i+1)) []->∃β,t.Perm (p (i+1)++β) /\ (J (i+1) /\ Sub (G₀ (i+1)) u /\ β.Perm (H (i+1))):=by
   intro u t V g2 t2;exact⟨_,by have:=t2.perm;rwa [ax] at this,V,g2,fX _⟩
  cases f with
  |next=>obtain⟨u,t,S2,V,g2,t2⟩:=e;exact⟨u,t,S2,nx u t V g2 t2⟩
  |cont=>obtain⟨u,t,S2,V,g2,t2⟩:=e;exact⟨u,t,S2,nx u t V g2 t2⟩
  |brk=>exact e
  |ret v=>exact e
 .rintro G1 W1 ⟨j1,g1,p1⟩;exact λ s K Q E S k=>done j1 s K Q E ((S.weak g1.all).perm p1) k
theorem xY {X:Om} {st:List eX} {R:iD->Prop} (h:Ex c G W st R):Ex c G (X++W) st R:=λ s K Q E S k=>
 h s K Q E ((S.perm (fP (l₁:=X) (l₂:=W))).left) k
end
def Ak {α:Type} (f:Nat->Nat->Bool) (n:Nat):KasT α->(α->Prop)->Prop
 |.ret a,Q=>Q a
 |.ask i j k,Q=>i<n /\ j<n /\ Ak f n (k (f i j)) Q
theorem Ak.bind {α β:Type} {f:Nat->Nat->Bool} {g:α->KasT β} {Q:β->Prop}:∀(t:KasT α) {P:α->Prop},Ak f n t P->(∀a,P a->Ak f n (g a) Q)->Ak f n (t.bind g) Q
 |.ret a,P,h,k=>k a h
 |.ask i j c,P,h,k=>⟨h.1,h.2.1,Ak.bind (c (f i j)) h.2.2 k⟩
theorem Ak.mono {α:Type} {f:Nat->Nat->Bool} {Q:α->Prop}:∀(t:KasT α) {P:α->Prop},Ak f n t P->(∀a,P a->Q a)->Ak f n t Q
 |.ret a,P,h,k=>k a h
 |.ask i j c,P,h,k=>⟨h.1,h.2.1,Ak.mono (c (f i j)) h.2.2 k⟩
theorem Ak.wp {α:Type} {f:Nat->Nat->Bool} {cmp:Nat->Nat->(Bool->ak->Prop)->ak->Prop} {I:ak->Prop} (hc:∀i j C s,i<n->j<n->I s->(∀d,I d->C (f i j) d)->cmp i j C s) {G:α->ak->Prop}:
  ∀(t:KasT α) {P:α->Prop} (s:ak),Ak f n t P->I s->(∀a d,P a->I d->G a d)->t.kasWp cmp G s
 |.ret a,P,s,h,i,k=>k a s h i
 |.ask i j c,P,s,h,hi,k=>hc i j _ s h.1 h.2.1 hi λ d u=>Ak.wp hc (c (f i j)) d h.2.2 u k
def vp (p:Array Nat) (k:Nat):Nat:=(p[k]?).getD 0
theorem oq (p:Array Nat) (k:Nat):p.getD k 0=vp p k:=by simp[vp,jJ]
structure Ord (f:Nat->Nat->Bool) (n:Nat):Prop where
 tot:∀i j,i<n->j<n->i≠j->f i j=false->f j i=true
 asym:∀i j,i<n->j<n->f i j=true->f j i=false
 trans:∀i j k,i<n->j<n->k<n->f i j=true->f j k=true->f i k=true
def Pm (n:Nat) (p:Array Nat):Prop:=p.toList.Perm (dD n)
theorem Pm.size (h:Pm n p):p.size=n:=by have:=h.length_eq;simpa using this
theorem Pm.lt (h:Pm n p) (d:k<n):vp p k<n:=by
 have hs:=h.size;have:p[k]'(by omega)∈p.toList:=by simp
 have:=h.mem_iff.mp this;unfold vp;rw[cJ (by omega)];simpa using this
theorem Pm.inj (h:Pm n p) (hi:i<n) (hj:j<n) (d:i≠j):vp p i≠vp p j:=by
 have hs:=h.size;have nd:p.toList.Nodup:=h.nodup_iff.mpr wy;unfold vp;rw[cJ (by omega),cJ (by omega)];intro e;have:=(iL (xs:=p.toList) (h₀:=by simpa using(by omega:i<p.size)) (h₁:=by simpa using(by omega:j<p.size)) nd).mp (by simpa using e);exact d this
def CQ (f:Nat->Nat->Bool) (p:Array Nat) (m:Nat):Prop:=∀i j,i<j->j<m->f (vp p i) (vp p j)=true
def Qy (f:Nat->Nat->Bool) (p:Array Nat) (m:Nat):Prop:=∀i j,i<j->j<m->f (vp p j) (vp p i)=true
section
variable{f:Nat->Nat->Bool} {n:Nat} {p:Array Nat}
theorem CQ.snoc (O:Ord f n) (h:Pm n p) (h1:1 <= m) (t:m<n) (a:CQ f p m) (e:f (vp p (m-1)) (vp p m)=true):CQ f p (m+1):=by
 intro i j d hj;by_cases q:j=m
 .subst q;by_cases q:i=j-1
  .subst q;exact e
  .exact O.trans _ _ _ (h.lt (lH d t)) (h.lt (je (bG _ _) t)) (h.lt t) (a i (j-1) ((bc q).elim (λ q=>q) λ q=>Sp d q dX) (Il (dE h1))) e
 .exact a i j d ((bc q).elim (λ q=>q) λ q=>Ly hj q)
theorem Qy.snoc (O:Ord f n) (h:Pm n p) (h1:1 <= m) (t:m<n) (a:Qy f p m) (e:f (vp p m) (vp p (m-1))=true):Qy f p (m+1):=by
 intro i j d hj;by_cases q:j=m
 .subst q;by_cases q:i=j-1
  .subst q;exact e
  .exact O.trans _ _ _ (h.lt t) (h.lt (je (bG _ _) t)) (h.lt (lH d t)) e (a i (j-1) ((bc q).elim (λ q=>q) λ q=>Sp d q dX) (Il (dE h1)))
 .exact a i j d ((bc q).elim (λ q=>q) λ q=>Ly hj q)
theorem WR:kas_asc p (z+1) m=.ask (p.getD m 0) (p.getD (m-1) 0) λ c=>if c=true then .ret m else kas_asc p z (m+1):=rfl
theorem WS:vQ (z+1) p m q=.ask (p.getD m 0) (p.getD (m-1) 0) λ c=>
  if c=true then(if q>0 then vQ z (vR p (m-(q+1)) m) (m+1) 0 else vQ z p (m+1) 0)
  else .ask (p.getD (m-1) 0) (p.getD m 0) λ d=>if d=true then .ret (p,m,q) else vQ z p (m+1) (q+1):=rfl
theorem WT:kas_bin (z+1) p k=(A7 p k k 0 k).bind λ l=>kas_bin z (bubble p k (k-l)) (k+1):=rfl
theorem FN (O:Ord f n) (h:Pm n p):∀(k m:Nat),1 <= m->m+k <= n->CQ f p m->Ak f n (kas_asc p k m) (λ r=>m <= r /\ r <= m+k /\ CQ f p r /\ (r<m+k->f (vp p r) (vp p (r-1))=true)):=by
 intro k
 induction k with
 |zero=>
  intro m _ _ a;exact⟨aR _,aR _,a,λ z=>absurd z (lz 2424313089)⟩
 |succ k u=>
  intro m h1 d a;rw[WR];rw[oq,oq];refine⟨h.lt (KQ d),h.lt (Eg d (bG _ _)),?_⟩;cases q:f (vp p m) (vp p (m-1)) with
  |true=>exact⟨aR _,lz 1724437762050,a,λ _=>q⟩
  |false=>
   have:=u (m+1) Sq (PM d) (a.snoc O h h1 (KQ d) (O.tot _ _ (h.lt (KQ d)) (h.lt (Eg d (bG _ _))) (h.inj (KQ d) (Eg d (bG _ _)) (λ q=>Sr q (dE h1))) q));exact this.mono _ λ r ⟨r1,r2,r3,t⟩=>⟨PN r1,Ss r2,r3,λ z=>t ((lz 118798761518320393916691) z)⟩
theorem IP (O:Ord f n) (h:Pm n p):∀(k m:Nat),1 <= m->m+k <= n->Qy f p m->Ak f n (vQ k p m 0) (λ r=>r.1=p /\ r.2.2=0 /\ m <= r.2.1 /\ r.2.1 <= m+k /\ Qy f p r.2.1):=by
 intro k
 induction k with
 |zero=>
  intro m _ _ a;exact⟨rfl,rfl,aR _,aR _,a⟩
 |succ k v=>
  intro m h1 d a;rw[WS];rw[oq,oq];refine⟨h.lt (KQ d),h.lt (Eg d (bG _ _)),?_⟩;cases q:f (vp p m) (vp p (m-1)) with
  |true=>
   have:=v (m+1) Sq (PM d) (a.snoc O h h1 (KQ d) q);exact this.mono _ λ r ⟨u,r1,r2,r3,t⟩=>⟨u,r1,PN r2,Ss r3,t⟩
  |false=>
   refine⟨h.lt (Eg d (bG _ _)),h.lt (KQ d),?_⟩;rw[O.tot _ _ (h.lt (by exact KQ d)) (h.lt (by exact Eg d (bG _ _))) (h.inj (by exact KQ d) (by exact Eg d (bG _ _)) (by exact λ q=>Sr q (dE h1))) q];exact⟨rfl,rfl,aR _,iM _ _,a⟩
theorem Pm.rev (h:Pm n p) (i j:Nat):Pm n (vR p i j):=by
 unfold Pm vR;exact((mirror_perm p i j ((j-i)/2)).toList).trans h
theorem IQ (d:m <= p.size) (t:k<m):vp (vR p 0 m) k=vp p (m-1-k):=by
 unfold vp vR;rw[getElem?_mirror d _ L4]
 split
 .simp
 .rename_i q;have:k=m-1-k:=by omega
  rw[<-this]
theorem Ml (h:Pm n p) (u:m <= n) (d:Qy f p m):CQ f (vR p 0 m) m:=by
 intro i j t hj;have hs:=h.size;rw[IQ (by exact PO u hs) (by exact lH t hj),IQ (by exact PO u hs) (by exact hj)];exact d _ _ ((lz 40234894728224894272934197) t dX (dE (Lz hj dX))) ((lz 38701703258007671075) (bG _ _) (dE (GA hj)))
theorem G8 (O:Ord f n) (h:Pm n p) (h2:2 <= n):Ak f n (kas_count n p) (λ r=>1 <= r.1 /\ r.1 <= n /\ Pm n r.2 /\ CQ f r.2 r.1):=by
 injections f n p O h h2;unfold kas_count;refine(FN O h (n-1) 1 (aR _) ((lz 1265653474051756050) (dE (LA h2))) (λ i j a b=>absurd b ((lz 1104101315858) a))).bind _ λ r ⟨r1,r2,r3,t⟩=>?_;by_cases q:r=n
 .subst q;rw[if_pos (by simp)];exact⟨r1,aR _,h,r3⟩
 .rw[if_neg (by simpa using q)];by_cases q2:r>1
  .rw[if_pos q2,oq,oq];refine⟨h.lt (Su h2),h.lt ((lz 1998057142593533398741449642292) r2 (dE (LA h2)) (dE (di q2))),?_⟩;rw[r3 0 (r-1) ((lz 7406372250916580036898) q2 dX) (Il (dE (di q2)))];dsimp only;rw[if_pos rfl];exact⟨r1,(lz 158522176571729118236707) r2 (dE (LA h2)),h,r3⟩
  .rw[if_neg q2];have:r=1:=ai ((lz 1723650281489) q2) r1;subst this;unfold kas_descPart;have d2:Qy f p 2:=λ i j a b=>by
    have:i=0 /\ j=1:=⟨ai ((lz 2959165126429642786) a b) GC,ai ((lz 45084566360081) b) (GA a)⟩;obtain⟨rfl,rfl⟩:=this;exact t ((lz 30336500744256816359739682) h2 dX)
   refine(IP O h (n-2) 2 (lz 689508352) ((lz 1337711068106461202) (dE h2)) d2).bind _ λ r ⟨V,M,v,d,H⟩=>?_;obtain⟨p',m,z⟩:=r;dsimp only at*;subst V M;rw[if_neg (by exact lz 151590144)];unfold kas_tail3;have u:=h.rev 0 m;refine(FN O u (n-m) m (LA v) (Ir (dE (PQ d (dE h2)))) (Ml h (PQ d (dE h2)) H)).bind _ λ r ⟨r1,r2,r3,t⟩=>?_;exact⟨(lz 1157427926046150690) v r1,(lz 906777866756777054244) r2 (dE (PQ d (dE h2))),u,r3⟩
theorem G9 (O:Ord f n) (h:Pm n p) (d:k<n) (a:CQ f p k):∀(z l r:Nat),r-l <= z->l <= r->r <= k->(∀i,i<l->f (vp p i) (vp p k)=true)->(∀i,r <= i->i<k->f (vp p k) (vp p i)=true)->
  Ak f n (A7 p k z l r) (λ l=>l <= k /\ (∀i,i<l->f (vp p i) (vp p k)=true) /\ (∀i,l <= i->i<k->f (vp p k) (vp p i)=true)):=by
 intro z
 induction z with
 |zero=>
  intro l r hz hl hr h1 h2;exact⟨aL hl hr,h1,λ i a b=>h2 i ((lz 1247608790838079530405940) hz a dX) b⟩
 |succ z v=>
  intro l r hz hl hr h1 h2;unfold A7;by_cases q:l >= r
  .rw[if_pos q];exact⟨aL hl hr,h1,λ i a b=>h2 i (aL q a) b⟩
  .rw[if_neg q,oq,oq];refine⟨h.lt d,h.lt (Sv d hr q L4),?_⟩;cases c:f (vp p k) (vp p ((l+r)/2)) with
   |true=>
    dsimp only;rw[if_pos rfl];refine v l ((l+r)/2) ((lz 22916067905778020412203589076497823244358) hz dX L4 (dE (Sw q U5))) (Sw q U5) ((lz 48593650332769402758570036) hr q L4) h1 λ i t u=>?_;by_cases e:i=(l+r)/2
    .rw[e];exact c
    .exact O.trans _ _ _ (h.lt d) (h.lt ((lz 56579302729800880436) d t u)) (h.lt (lH u d)) c (a _ _ ((bc e).elim (λ q=>(lz 300235663343906) t q) λ q=>(lz 69005742354) q) u)
   |false=>
    dsimp only;rw[if_neg (by simp)];have H:=O.tot _ _ (h.lt d) (h.lt (by omega)) (h.inj d (by omega) (by omega)) c;refine v ((l+r)/2+1) r ((lz 191708835941939528063897428005157480221650526278) hz dX U5 (dE (Sx q L4))) (Sx q L4) hr (λ i t=>?_) h2;by_cases e:i=(l+r)/2
    .rw[e];exact H
    .exact O.trans _ _ _ (h.lt ((lz 12086845101580572691919430916524240806230) d hr q t L4)) (h.lt (Sv d hr q L4)) (h.lt d) (a _ _ ((bc e).elim (λ q=>q) λ q=>Ly t q) ((lz 48593650332769402758570292) hr q L4)) H
theorem Pm.bub (h:Pm n p) (i j:Nat):Pm n (bubble p i j):=by
 unfold Pm;exact((bubble_perm p i j).toList).trans h
theorem IS (d:k<p.size) (hl:l <= k) (j:Nat):vp (bubble p k (k-l)) j=if j=l then vp p k else if l<j /\ j <= k then vp p (j-1) else vp p j:=by
 unfold vp;rw[getElem?_bubble d _ ((bG _ _)),show k-(k-l)=l from ai ((lz 22487072723324571684) dX (dE ((bG _ _)))) ((lz 58227639366135779364) dX (dE hl))]
 split
 .rfl
 .split<;>rfl
theorem Mm (O:Ord f n):∀(z:Nat) (p:Array Nat) (k:Nat),Pm n p->k+z=n->CQ f p k->Ak f n (kas_bin z p k) (λ q=>Pm n q /\ CQ f q n):=by
 intro z
 induction z with
 |zero=>
  intro p k h hz a;exact⟨h,(show k=n from ai ((lz 291405244141586) hz) ((lz 291405259935762) hz))▸a⟩
 |succ z V=>
  intro p k h hz a;rw[WT];have M:k<n:=(lz 151178485436518675) hz;have hs:=h.size;refine(G9 O h M a k 0 k ((bG _ _)) (aU _) (aR _) (λ i hi=>absurd hi (lz 9442561)) (λ i h1 h2=>absurd h1 ((lz 69004760082) h2))).bind _ λ l ⟨l1,l2,l3⟩=>?_;refine V _ (k+1) (h.bub _ _) (ai ((lz 158522131545153862111251) hz) ((lz 158522131561678614171667) hz)) ?_;intro i j d hj;rw[IS (by exact Sy M hs) l1,IS (by exact Sy M hs) l1];by_cases u:i=l
  .rw[if_pos u,if_neg (by exact λ q=>(lz 156172446536724187254579) d u q),if_pos (by exact⟨(lz 9028158981542179) d u,PR hj⟩)];exact l3 _ ((lz 1905494484531639143764020) d u dX) (Sz hj (dE (GA d)))
  .rw[if_neg u];by_cases t:j=l
   .rw[if_pos t,if_neg (λ q=>(lz 9760710599810537295667) d t q.1)];exact l2 _ ((lz 9308534447542563) d t)
   .rw[if_neg t];by_cases H:l<i /\ i <= k
    .rw[if_pos H,if_pos ⟨lH H.1 d,PR hj⟩];exact a _ _ ((lz 487806909880276836780544308) d dX (dE (GA H.1))) (Sz hj (dE (GA d)))
    .rw[if_neg H];by_cases v:l<j /\ j <= k
     .rw[if_pos v];exact a _ _ (by exact(bc u).elim (λ q=>(lz 1905494476085190819189044) v.1 q dX) λ q=>(bc t).elim (λ r=>(lz 609968115241718907188) d q r) λ r=>(rM H).elim (λ s=>NN q s) λ s=>(lz 591746268574889541940) d v.2 s) ((lz 1812718710215020835) v.2 (dE (GA d)))
     .rw[if_neg v];exact a _ _ d (by exact(bc u).elim (λ q=>(bc t).elim (λ r=>jf r l1) λ r=>(rM v).elim (λ s=>NN r s) λ s=>(lz 18537257520461775138) hj s) λ q=>(bc t).elim (λ r=>(lz 609968115241718972724) d q r) λ r=>(rM H).elim (λ s=>(lz 4526758379520292) q s) λ s=>(lz 2423783600814681353158963) d hj s)
theorem IU (O:Ord f n) (h2:2 <= n):Ak f n (D3 n) (λ q=>Pm n q /\ CQ f q n):=by
 unfold D3;have h0:Pm n (al (dD n)):=by unfold Pm;simp
 refine(G8 O h0 h2).bind _ λ r ⟨r1,r2,r3,d⟩=>?_;by_cases q:r.1<n
 .rw[if_pos q];have:max r.1 1=r.1:=by omega
  rw[this];exact Mm O _ _ _ r3 (ai (Ir (dE (di q))) (LC dX)) d
 .rw[if_neg q];have:r.1=n:=ai r2 (tG q);exact⟨r3,by rw[<-this];exact d⟩
end
theorem cB.perm {K:FM} {ds:List D} {vs:List aj} (r:cB K ds vs):∀(l:List Nat),(∀i∈l,i<ds.length)->cB K (l.map λ i=>ds.getD i .none) (l.map λ i=>vs.getD i bx)
 |[],_=>cB.nil
 |i::l,h=>by
  have hi:=h i (ag ..);obtain⟨v,e,d⟩:=r.get (am hi);rw[aq,aq];refine cB.cons ?_ (cB.perm r l λ j hj=>h j (ao _ hj));have u:ds.getD i .none=ds[i]:=by simp[hi]
  have t:vs.getD i bx=v:=by simp[e]
  rw[u,t];exact d
section
variable{pr:aG} {w:aB} {A:bU} {E:aj->ak->Prop} {a:aM} {ds:List D} {K:FM} {s:ak} {f:Nat->Nat->Bool}
def vm (pr:aG) (w:aB) (A:bU) (K:FM) (ds:List D) (f:Nat->Nat->Bool):Prop:=
 ∀(vs:List aj) (s:ak),cB K ds vs->FM.In K s.heap->∃κ,(∀(Q:SortKind->ak->Prop) (E:aj->ak->Prop),Q κ s->wpAny (model pr w) A (keyKind' vs.toArray) Q E s) /\
  ∀(i j:Nat) (C:Bool->ak->Prop),i<ds.length->j<ds.length->C (f i j) s->Cs pr w A κ vs i j C s
theorem CS {P:PySem.Fin->ak->Prop} (kp:FM.In K s.heap) (o:gx K s.heap [(a,.list ds)]) (β:ds.length<64) (hk:2 <= ds.length->vm pr w A K ds f) (hf:Ord f ds.length)
  (h:∀p h' t',Pm ds.length p->CQ f p ds.length->Aft K s.heap [(a,.list ds)] K h' [(a,.list (p.toList.map λ i=>ds.getD i .none))]->P (.done (.ret .none)) {s with heap:=h',toks:=t'}):
  wpAny (model pr w) A (Builtin.«list.sort» ⟨[.ref a],[]⟩) P E s:=by
 obtain⟨vs,n,ho,rs⟩:=l0 o;have d:=rs.length;have ha:a<s.heap.objs.size:=cC ho;have s1:=fB s.heap a (cg λ _=>(#[]:Array aj));obtain⟨e1,δ⟩:∃e1,(s.heap.update a (cg λ _=>(#[]:Array aj))).get? a=some (seqObj "list" #[] e1):=⟨_,ri ho λ _=>#[]⟩;have A1:Aft K s.heap [(a,.list ds)] K (s.heap.update a (cg λ _=>(#[]:Array aj))) [(a,.list [])]:=hV (vs:=[]) (e:=e1) kp o (λ b x hb e=>(s1.2 b hb).trans e) δ cB.nil;have A2:=(A1.trans (Aft.grow A1.kp A1.own λ b x e=>aA (seqObj "tuple" vs.toArray 0) e));have A3:=(A2.trans (Aft.grow A2.kp A2.own λ b x e=>aA (seqObj "list" #[] 0) e));have H:(((s.heap.update a (cg λ _=>(#[]:Array aj))).push (seqObj "tuple" vs.toArray 0)).push (seqObj "list" #[] 0)).get? a=some (seqObj "list" #[] e1):=aA _ (aA _ δ);have fin:∀(p:Array Nat) (out:List aj),Pm ds.length p->CQ f p ds.length->out=(p.toList.map λ i=>vs.getD i bx)->∀t',P (.done (.ret .none)) {s with heap:=(((s.heap.update a (cg λ _=>(#[]:Array aj))).push (seqObj "tuple" vs.toArray 0)).push (seqObj "list" #[] 0)).update a (cg λ _=>al out),toks:=t'}:=by
  rintro p _ hp t rfl t';refine h p _ t' hp t (A3.trans (hV (vs:=p.toList.map λ i=>vs.getD i bx) A3.kp A3.own (λ b x hb e=>(bz _ _ (Ne.symm hb)).trans e) (ri H λ _=>al (p.toList.map λ i=>vs.getD i bx)) (rs.perm _ λ i hi=>?_)));exact nU.mp (hp.mem_iff.mp hi)
 rw[list_sort_plain];refine ae (listItems_at ho rfl ?_);refine ae (uh ho rfl ?_ (by rw[aN,ay];exact LD β d) (aU _));refine ae (xd δ rfl ?_);refine ae (nQ ?_ (by show vs.length <= _;rw[ay];exact LD β d));refine ae (zX ?_ (aU _));refine aD ?_;show wpAny (model pr w) A _ P E {s with heap:=((s.heap.update a (cg λ _=>(#[]:Array aj))).push (seqObj "tuple" vs.toArray 0)).push (seqObj "list" #[] 0)};dsimp only;by_cases h2:2 <= ds.length
 .have M:¬vs.toArray.size<2:=by rw[aN];exact(lz 1337851668960646434) d h2
  rw[if_neg M,if_neg M];obtain⟨κ,μ,hc⟩:=hk h2 vs {s with heap:=((s.heap.update a (cg λ _=>(#[]:Array aj))).push (seqObj "tuple" vs.toArray 0)).push (seqObj "list" #[] 0)} rs A3.kp;refine ae (μ _ _ ?_);have ι:uR κ (vs.toArray.zip vs.toArray) #[] 7 none=kas_st κ (pairsOf vs) (al (dD vs.length)):=by
   have e:=kas_range (pairsOf vs);rw[pairsOf_size] at e;show uR κ (pairsOf vs) #[] 7 none=uR κ ((al (dD vs.length)).map (D5 (pairsOf vs))) #[] 7 none;rw[e]
  have ask:(D3 vs.length).kasWp (kas_cmp pr w A κ (pairsOf vs)) (λ p V=>Pm ds.length p /\ CQ f p ds.length /\ V={s with heap:=((s.heap.update a (cg λ _=>(#[]:Array aj))).push (seqObj "tuple" vs.toArray 0)).push (seqObj "list" #[] 0)}) {s with heap:=((s.heap.update a (cg λ _=>(#[]:Array aj))).push (seqObj "tuple" vs.toArray 0)).push (seqObj "list" #[] 0)}:=by
   rw[<-kas_ask_eq,d];refine Ak.wp (f:=f) (n:=ds.length) (I:=λ V=>V={s with heap:=((s.heap.update a (cg λ _=>(#[]:Array aj))).push (seqObj "tuple" vs.toArray 0)).push (seqObj "list" #[] 0)}) ?_ _ _ (IU hf h2) rfl λ p V hp hs=>⟨hp.1,hp.2,hs⟩;rintro i j C V hi hj rfl k;exact hc i j C hi hj (k _ rfl)
  have run:=kas_runs (E:=E) (Q:=λ _ u V=>∃p:Array Nat,p.size=vs.length /\ arrOf u=p.map (D5 (pairsOf vs)) /\ failedOf u=none /\ Pm ds.length p /\ CQ f p ds.length /\ V={s with heap:=((s.heap.update a (cg λ _=>(#[]:Array aj))).push (seqObj "tuple" vs.toArray 0)).push (seqObj "list" #[] 0)})
   (by exact(lz 1337851668920340514) d h2) (by exact(lz 19745698387799904546) β d) (λ p' u V a1 a2 a3 a4=>⟨p',a1,a2,a3,a4⟩) ask
  rw[<-ι] at run;refine ae (bX run ?_ λ _ _ e=>e);rintro⟨⟨⟩,u⟩ V ⟨p,hp,θ,η,γ,t,rfl⟩;dsimp only;have v:(arrOf u).map (·.2)=al (p.toList.map λ i=>vs.getD i bx):=by
   apply mj.mp;rw[θ,Array.map_map,wz];exact dQ λ i _=>by show(D5 (pairsOf vs) i).2=_;rw[kas_item_eq]
  have ε:(al (p.toList.map λ i=>vs.getD i bx)).size=vs.length:=by rw[aN,ah,iC,hp]
  rw[v];refine ae (xd H rfl ?_);refine ae (uh H rfl ?_ (aU _) (aL (iX ε) (by rw[ay];exact(lz 331277846925555641996087330) β d)));rw[η];simp only[bne_self_eq_false,bQ,if_false];exact af (fin p _ γ t rfl s.toks)
 .have M:vs.toArray.size<2:=by rw[aN];exact(lz 1337922037436387618) d h2
  rw[if_pos M,if_pos M];refine ae (af ?_);refine ae (af ?_);dsimp only;have v:(arrOf (uR general' (vs.toArray.zip vs.toArray) #[] 7 none)).map (·.2)=al vs:=by
   show(vs.toArray.zip vs.toArray).map (·.2)=al vs;apply mj.mp;simp only[wz,Array.toList_zip];exact List.map_snd_zip (aR _)
  have γ:Pm ds.length (al (dD ds.length)):=by unfold Pm;simp
  have t:CQ f (al (dD ds.length)) ds.length:=λ i j a b=>absurd b ((lz 148918031295321379) h2 a);have ζ:vs=((al (dD ds.length)).toList.map λ i=>vs.getD i bx):=by
   apply pY
   .simp[d]
   .intro i h1 h2;simp[h1]
  refine ae (xd H rfl ?_);rw[v];refine ae (uh H rfl ?_ (aU _) (by rw[aN,ay];exact(lz 359145712204647729851273250) d h2));show wpAny _ _ (do if(e1 !=e1)=true then _ else _) _ _ _;simp only[bne_self_eq_false,bQ,if_false];exact af (fin _ vs γ t ζ s.toks)
def Qz (lt:D->D->Bool) (ds out:List D):Prop:=out.Perm ds /\ out.Pairwise λ x y=>lt x y=true
theorem Ha {lt:D->D->Bool} {p:Array Nat} (d:Pm ds.length p) (ha:CQ (λ i j=>lt (ds.getD i .none) (ds.getD j .none)) p ds.length):Qz lt ds (p.toList.map λ i=>ds.getD i .none):=by
 injections ds lt p d ha;constructor
 .have h1:=(show p.toList.Perm (dD ds.length) from d).map λ i=>ds.getD i D.none;refine h1.trans (xt ?_);apply pY
  .simp
  .intro i h1 h2;simp[h2]
 .rw[gZ];intro i j hi hj t;have hs:=d.size;have:=ha i j t (by simp at hj;exact PS hs hj);unfold vp at this;simp only[wA];rw[cJ (by simp at hi;exact hi),cJ (by simp at hj;exact hj)] at this;simpa using this
end
section
variable{pr:aG} {w:aB} {A:bU} {E:aj->ak->Prop} {s:ak}
theorem Bw {Q:aj->ak->Prop} (hl:s.heap.get? l=some {cls:=.type "list",dict:=none,data:=.seq (al vs) n,slots:=#[]}) (hb:s.heap.get? b=some {cls:=.type "list",dict:=none,data:=.seq (al t) m,slots:=#[]})
  (u:nB vs xs) (hy:nB t ys) (h:Q (.bool (lexLt xs ys)) s):wpAny (model pr w) A (call (.builtin "list.__lt__") [.ref l,.ref b]) Q E s:=by
 have M:s.TypeIs (.ref l) "list":=⟨_,hl,rfl⟩;have H:s.TypeIs (.ref b) "list":=⟨_,hb,rfl⟩;have go:=CO (prog:=pr) (w:=w) (A:=A) (g:=false) hl hb u hy (R:=λ r d=>match r with|.ok (.ret v)=>Q v d|_=>False) _ 0 rfl (aU _) (aU _) (by simpa [dZ] using h);refine dR (ip f0.plain rF (f0.check _ _ _ _ _ _ _ _ M (qO _ _) ?_));show wpAny _ _ (isInstance (.ref b) (.type "list")>>=_) _ _ _;refine ae (ey (T:="list") (b:=true) H ug ?_);refine af ⟨cG dH _,fv go λ r d hr=>?_⟩;cases r with
 |error e=>exact hr.elim
 |ok f=>cases f<;>first|exact hr|exact hr.elim
theorem Hb (d:h.get? a=some o):iJ (model pr w) h (typeOf (.ref a)) o.cls:=(mI d).andThen .now
def strOfD:D->Str
 |.str x=>x
 |_=>""
def SP:D->List D
 |.sq _ l=>l
 |_=>[]
def mA (d:D):List Str:=(SP d).map strOfD
theorem eJ (xs:List Str):mA (.sq c (xs.map .str))=xs:=by
 show(xs.map D.str).map strOfD=xs;rw[bH]
 conv=>rhs;rw[<-jY xs]
 rfl
def IV (a b:D):Bool:=lexLt (mA a) (mA b)
theorem Hc {K:FM} {xss:List (List Str)} (hu:A.units+1<cLine) (h2:2 <= xss.length):vm pr w A K (xss.map dL) (λ i j=>IV ((xss.map dL).getD i .none) ((xss.map dL).getD j .none)):=by
 injections pr w A K xss hu h2;intro vs s V kp;have t:=V.length;rw[ah] at t;have at_:∀i,i<xss.length->∃a u e,vs[i]?=some (.ref a) /\ s.heap.get? a=some ⟨.type "list",aH,.seq (al u) e,#[]⟩ /\ nB u (xss.getD i []):=λ i hi=>by
  obtain⟨v,e,r⟩:=V.get (i:=i) (d:=dL xss[i]) (by simp[hi]);obtain⟨a,u,ep,rfl,ha,hr⟩:=r;exact⟨a,u,ep,e,kp _ _ ha,by simp[hi];exact rU hr⟩
 refine⟨oneType',λ Q E hq=>kas_kind (T:=.type "list") (NO h2 t) ?_ (by decide) (by decide) hq,?_⟩
 .intro v hv;obtain⟨i,hi,e⟩:=mO.mp hv;obtain⟨a,u,ep,M,ha,_⟩:=at_ i (PS t hi);rw[am hi,e] at M;cases M;exact Hb ha
 .intro i j C hi hj H;rw[ah] at hi hj;obtain⟨a,u,ep,M,ha,ra⟩:=at_ i hi;obtain⟨b,β,γ,e2,hb,rb⟩:=at_ j hj;unfold Cs;have g1:vs.getD i bx=.ref a:=by simp[M]
  have g2:vs.getD j bx=.ref b:=by simp[e2]
  rw[g1,g2,ze,oneLt'_eq];rw[if_pos rfl];refine ae (zf (NP hu) ?_);refine ae (wpAny_callSpecialIfBound?_slot (T:="list") ⟨_,ha,rfl⟩ f0 (Bw ha hb ra rb ?_));refine fu ?_;have d1:(xss.map dL).getD i .none=dL (xss.getD i []):=by simp[hi]
  have d2:(xss.map dL).getD j .none=dL (xss.getD j []):=by simp[hj]
  dsimp only at H;rw[d1,d2] at H;unfold IV at H;rw[eJ,eJ] at H;exact H
abbrev dT (x:List Str):D:=.tup (x.map .str)
theorem Mn (hx:nB vs xs) (hy:nB V ys) {Q:Bool->ak->Prop} (fin:Bool) (u:fin=decide (xs.length<ys.length)):∀(k i:Nat),xs.length-i=k->i <= xs.length->i <= ys.length->Q (lexLt (xs.drop i) (ys.drop i)) s->KatLex pr w A true fin Q ((vs.drop i).zip (V.drop i)) i s:=by
 have H:=hx.1;have v:=hy.1;intro k
 induction k with
 |zero=>
  intro i M hi β h;have e1:vs.drop i=[]:=by simp;exact(lz 3815985753923133228716084) H M dX
  have e2:xs.drop i=[]:=by simp;exact GD M dX
  rw[e1,List.zip_nil_left];refine kat_nil ?_;rw[e2] at h;have:lexLt [] (ys.drop i)=fin:=by
   rw[u];cases q:ys.drop i with
   |nil=>rw[im] at q;simp[Ah,↓Ai,↓xj];exact aL q hi
   |cons _ _=>have:=congrArg iT q;simp at this;simp[Ah,↓Ai,↓xj];exact(lz 436641160019824350499883918273220934) M this dX (dE β)
  rwa [this] at h
 |succ k ih=>
  intro i M hi β h;have t:i<xs.length:=Iq M (dE hi);obtain⟨t1,g1⟩:=hx.2 i xs[i] (by simp[t]);have d1:xs.drop i=xs[i]::xs.drop (i+1):=aJ t;have v1:vs.drop i=.str xs[i] t1::vs.drop (i+1):=by
   rw[aJ (by exact It H t:i<vs.length)];rw[am (by exact It H t)] at g1;rw[jr g1]
  by_cases d:i<ys.length
  .obtain⟨t2,g2⟩:=hy.2 i ys[i] (by simp[d]);have d2:ys.drop i=ys[i]::ys.drop (i+1):=aJ d;have v2:V.drop i=.str ys[i] t2::V.drop (i+1):=by
    rw[aJ (by exact It v d:i<V.length)];rw[am (by exact It v d)] at g2;rw[jr g2]
   rw[d1,d2] at h;rw[v1,v2,nM];refine kat_cons (mn ?_);by_cases e:xs[i]=ys[i]
   .rw[decide_eq_true e];refine kat_yes (ih (i+1) (ai (GF M dX (dE (zu t))) (GG M dX (dE (di t)))) t d ?_);simpa [Ah,↓Ai,↓xj,e] using h
   .rw[decide_eq_false e];have h':Q (D' xs[i] ys[i]) s:=by simpa [Ah,↓Ai,↓xj,e] using h
    refine kat_no ?_;by_cases z:i=0
    .subst z;exact oneLt_str h'
    .rw[show(true&&i==0)=false from by simp[z]];exact kat_one _ _ (IN h')
  .have e2:V.drop i=[]:=by simp;exact(lz 5089708348543011) v d
   have e3:ys.drop i=[]:=by simp;exact tG d
   rw[e2,List.zip_nil_right];refine kat_nil ?_;rw[d1,e3] at h;have:lexLt (xs[i]::xs.drop (i+1)) []=fin:=by rw[u];simp[Ah,↓Ai,↓xj];exact(lz 9030358004797475) t d
   rwa [this] at h
theorem IW {K:FM} {xss:List (List Str)} (h2:2 <= xss.length) (V:∀x∈xss,x≠[]):vm pr w A K (xss.map dT) (λ i j=>IV ((xss.map dT).getD i .none) ((xss.map dT).getD j .none)):=by
 injections pr w A K xss h2 V;intro vs s rs kp;have β:=rs.length;rw[ah] at β;have at_:∀i,i<xss.length->∃a u e,vs[i]?=some (.ref a) /\ s.heap.get? a=some ⟨.type "tuple",aH,.seq (al u) e,#[]⟩ /\ nB u (xss.getD i []):=λ i hi=>by
  obtain⟨v,e,r⟩:=rs.get (i:=i) (d:=dT xss[i]) (by simp[hi]);obtain⟨a,u,ep,rfl,ha,hr⟩:=r;exact⟨a,u,ep,e,kp _ _ ha,by simp[hi];exact rU hr⟩
 have kt:∀(l:List (List Str)) (u:List aj),(∀x∈l,x≠[])->cB K (l.map dT) u->∃fs,KatTups s.heap u fs /\ fs.length=l.length /\ ∀v∈fs,∃x t,v=.str x t:=by
  intro l
  induction l with
  |nil=>intro u _ r;simp only[aX,ro] at r;subst r;exact⟨[],.nil,rfl,λ v h=>nomatch h⟩
  |cons x l ih=>
   intro u hn r;simp only[aq,ro] at r;obtain⟨v,H,rfl,rv,rr⟩:=r;obtain⟨a,items,ep,rfl,ha,hr⟩:=rv;obtain⟨fs,k1,k2,k3⟩:=ih H (λ y hy=>hn y (ao _ hy)) rr;have hx:=hn x (ag ..);obtain⟨z,zs,rfl⟩:∃z zs,x=z::zs:=by cases x with
    |nil=>exact absurd rfl hx
    |cons z zs=>exact⟨z,zs,rfl⟩
   obtain⟨t,e⟩:=(rU hr).2 0 z rfl;refine⟨.str z t::fs,.cons (kp _ _ ha) rfl rfl (by simpa using e) k1,by simp[k2],λ v M=>?_⟩;rcases ap.mp M with rfl|M
   .exact⟨z,t,rfl⟩
   .exact k3 v M
 obtain⟨fs,k1,k2,k3⟩:=kt xss vs V rs;refine⟨tuples' true,λ Q E hq=>kat_kind (T:=.type "str") k1 ((lz 77408440406315298) h2 k2) (λ v M=>?_) (by decide) hq,?_⟩
 .obtain⟨x,t,rfl⟩:=k3 v M;exact AZ
 .intro i j C hi hj hC;rw[ah] at hi hj;obtain⟨a,u,ep,e1,ha,ra⟩:=at_ i hi;obtain⟨b,H,γ,e2,hb,rb⟩:=at_ j hj;unfold Cs;have g1:vs.getD i bx=.ref a:=by simp[e1]
  have g2:vs.getD j bx=.ref b:=by simp[e2]
  rw[g1,g2];have d1:(xss.map dT).getD i .none=dT (xss.getD i []):=by simp[hi]
  have d2:(xss.map dT).getD j .none=dT (xss.getD j []):=by simp[hj]
  dsimp only at hC;rw[d1,d2] at hC;unfold IV at hC;rw[eJ,eJ] at hC;refine kat_lt ha rfl hb rfl ?_;have hz:decide ((al u).size<(al H).size)=decide ((xss.getD i []).length<(xss.getD j []).length):=by
   rw[aN,aN,ra.1,rb.1]
  exact Mn ra rb _ hz _ 0 rfl (aU _) (aU _) (by simpa using hC)
end
theorem Mp {g:List Str->D} (t:∀x,mA (g x)=x) {xss:List (List Str)} (nd:xss.Nodup):Ord (λ i j=>IV ((xss.map g).getD i .none) ((xss.map g).getD j .none)) (xss.map g).length:=by
 injections g t xss nd;have e:∀i (h:i<(xss.map g).length),mA ((xss.map g).getD i .none)=xss[i]'(by simpa using h):=λ i h=>by
  have h':i<xss.length:=by simpa using h
  have:(xss.map g).getD i .none=g xss[i]:=by simp[h']
  rw[this,t]
 refine⟨λ i j hi hj d h=>?_,λ i j hi hj h=>?_,λ i j k hi hj u h1 h2=>?_⟩
 .unfold IV at*;rw[e i hi,e j hj] at*;rcases lf h with q|q
  .exact absurd ((iL nd).mp q) d
  .exact q
 .unfold IV at*;rw[e i hi,e j hj] at*;exact rV h
 .unfold IV at*;rw[e i hi,e j hj,e k u] at*;exact iQ h1 h2
def By (x:List Str):List (List Str)->List (List Str)
 |[]=>[x]
 |y::l=>if lexLt x y=true then x::y::l else y::By x l
theorem Uo:By x (y::l)=if lexLt x y=true then x::y::l else y::By x l:=rfl
def ie (l:List (List Str)):List (List Str):=l.foldr By []
abbrev SL (l:List (List Str)):Prop:=l.Pairwise λ x y=>lexLt x y=true
theorem v7 (x:List Str):∀l,(By x l).Perm (x::l)
 |[]=>fX _
 |y::l=>by
  rw[Uo];split
  .exact fX _
  .exact((v7 x l).cons y).trans (iH ..)
theorem FO:∀{l:List (List Str)},SL l->x∉l->SL (By x l)
 |[],_,_=>gm ..
 |y::l,h,d=>by
  have hc:=eY.mp h;rw[Uo];split
  .rename_i q;refine eY.mpr ⟨λ z hz=>?_,h⟩;rcases ap.mp hz with rfl|hz
   .exact q
   .exact iQ q (hc.1 z hz)
  .rename_i q;have q:lexLt x y=false:=by simpa using q
   refine eY.mpr ⟨λ z hz=>?_,FO hc.2 λ h=>d (ao _ h)⟩;rcases ap.mp ((v7 x l).mem_iff.mp hz) with rfl|hz
   .rcases lf q with e|e
    .exact absurd (e▸ag ..) d
    .exact e
   .exact hc.1 z hz
theorem fm:∀l,(ie l).Perm l
 |[]=>fX _
 |x::l=>(v7 x (ie l)).trans ((fm l).cons x)
theorem rW:∀{l:List (List Str)},l.Nodup->SL (ie l)
 |[],_=>iq
 |x::l,h=>by
  have hc:=bZ.mp h;exact FO (rW hc.2) λ h=>hc.1 ((fm l).mem_iff.mp h)
theorem v8:∀{l l':List (List Str)},SL l->SL l'->l.Perm l'->l=l'
 |[],l',_,_,p=>by have:=p.length_eq;cases l' with
  |nil=>rfl
  |cons _ _=>simp at this
 |x::l,l',h,h',p=>by
  cases l' with
  |nil=>have:=p.length_eq;simp at this
  |cons y l'=>
   have hc:=eY.mp h;have d:=eY.mp h';have e:x=y:=by
    rcases ap.mp (p.mem_iff.mp (ag ..)) with e|e
    .exact e
    .have h1:=d.1 x e;rcases ap.mp (p.symm.mem_iff.mp (ag ..)) with t|t
     .exact t.symm
     .have h2:=hc.1 y t;rw[rV h1] at h2;cases h2
   subst e;rw[v8 hc.2 d.2 (List.Perm.cons_inv p)]
theorem xZ (h:SL l):l.Nodup:=h.imp λ{x y} q e=>by rw[e,ng] at q;cases q
section
variable{pr:aG} {w:aB} {T:FM} {n:Nat}
theorem CT {g:List Str->D} (hg:∀x,mA (g x)=x) {xss:List (List Str)} (nd:xss.Nodup) (t:xss.length<64) (ask:∀A:bU,A.units+1<cLine->∀K,2 <= xss.length->vm pr w A K (xss.map g) (λ i j=>IV ((xss.map g).getD i .none) ((xss.map g).getD j .none))):
  Fn pr w T (n+1) (.builtin "sorted") [.lst (xss.map g)] [] (Is (.lst ((ie xss).map g)) []):=by
 injections pr w T n g hg xss nd t ask;intro A h1 h2 h3 s K vs Q E hT kp rd o k;obtain⟨_,_,rfl,⟨l,v,e,rfl,hl,hr⟩,rfl⟩:=rd;have d:=hr.length;rw[ah] at d;refine oh kind_sorted plain_sorted entry_sorted (args_sorted1 _) ?_;unfold aC.«sorted»;refine ae (m:=checkCount "sorted" 1 1 _) (af ?_);refine ae (collect_list (vs:=v) ⟨_,kp _ _ hl,rfl,_,rfl⟩ ?_ (by rw[ay];exact LD t d));refine ae (zX ?_ (by rw[ay];exact LD t d));have keep:∀b o,s.heap.get? b=some o->((s.heap.push (seqObj "list" #[] 0)).update s.heap.objs.size (cg (·++v.toArray))).get? b=some o:=λ b o q=>by
  rw[Heap.get?_update_ne _ _ _ _ (gE (cC q))];exact aA _ q
 have A1:Aft K s.heap [] K _ []:=Aft.grow kp gx.nil keep;have γ:((s.heap.push (seqObj "list" #[] 0)).update s.heap.objs.size (cg (·++v.toArray))).objs.size=s.heap.objs.size+1:=by
  rw[Heap.size_update,size_push']
 have A2:=A1.trans (Aft.pushOwn A1.kp A1.own (seqObj "list" v.toArray 0) (b:=.list (xss.map g)) ⟨v,_,rfl,hr⟩);generalize((s.heap.push (seqObj "list" #[] 0)).update s.heap.objs.size (cg (·++v.toArray)))=η at A1 A2 γ⊢;obtain⟨θ,e',δ,_⟩:=l0 A2.own;have hu:A.in1.in1.units+1<cLine:=by show A.units+1+1+1<cLine;unfold cLine;exact(lz 49002236727332325665457114371365907687018770) h3
 refine ae (aD (bV slot_list_sort ⟨_,δ,rfl⟩ entry_list_sort ?body (args_list_sort _)));refine CS (f:=λ i j=>IV ((xss.map g).getD i .none) ((xss.map g).getD j .none)) (s:={s with heap:=η.push (seqObj "list" v.toArray 0)}) A2.kp A2.own (by rw[ah];exact t) (λ h2=>ask _ hu K (by rw[ah] at h2;exact h2)) (Mp hg nd) λ p h' t' H u A3=>?_;refine⟨_,rfl,?_⟩;have M:(p.toList.map λ i=>(xss.map g).getD i .none)=(ie xss).map g:=by
  rw[ah] at H u;have e1:(p.toList.map λ i=>(xss.map g).getD i .none)=(p.toList.map λ i=>xss.getD i []).map g:=by
   rw[bH];refine dQ λ i hi=>?_;have hi:i<xss.length:=nU.mp (H.mem_iff.mp hi);simp[hi]
  rw[e1]
  congr 1
  refine v8 ?_ (rW nd) ?_
  .refine gZ.mpr ?_;intro i j hi hj ε;have hs:=H.size;have ζ:i<xss.length:=by simp at hi;omega
   have V:j<xss.length:=by simp at hj;omega
   have:=u i j ε V;have l1:=H.lt ζ;have l2:=H.lt V;simp only[IV] at this;have v1:vp p i=p[i]'(by omega):=by unfold vp;rw[cJ (by omega)];rfl
   have v2:vp p j=p[j]'(by omega):=by unfold vp;rw[cJ (by omega)];rfl
   rw[v1,v2] at this;rw[v1] at l1;rw[v2] at l2;have g1:(xss.map g).getD (p[i]'(by omega)) .none=g xss[p[i]'(by omega)]:=by simp[l1]
   have g2:(xss.map g).getD (p[j]'(by omega)) .none=g xss[p[j]'(by omega)]:=by simp[l2]
   rw[g1,g2,hg,hg] at this;simp only[wA,Array.getElem_toList];simpa [l1,l2] using this
  .refine List.Perm.trans ?_ (fm xss).symm;have h1:=(show p.toList.Perm (dD xss.length) from H).map λ i=>xss.getD i [];refine h1.trans (xt ?_);apply pY
   .simp
   .intro i h1 h2;simp[h2]
 rw[M] at A3;have A4:=A2.trans A3;obtain⟨x,q,le,A5⟩:=A4.freeze;obtain⟨ws,ew,rfl,β⟩:=q;refine af ⟨_,rfl,?_⟩;refine k _ h' _ t' _ _ A5 ?_ ⟨rfl,rfl⟩;show∃_,_;exact⟨_,ws,ew,rfl,FM.add_self,cB.mono le _ β⟩
theorem Hd (nd:xss.Nodup) (d:xss.length<64):Fn pr w T (n+1) (.builtin "sorted") [.lst (xss.map dL)] [] (Is (.lst ((ie xss).map dL)) []):=CT eJ nd d λ A t K h2=>Hc t h2
theorem Al (nd:xss.Nodup) (t:xss.length<64) (d:∀x∈xss,x≠[]):Fn pr w T (n+1) (.builtin "sorted") [.lst (xss.map dT)] [] (Is (.lst ((ie xss).map dT)) []):=CT eJ nd t λ A u K h2=>IW h2 d
end
section
variable{prog:aG} {w:aB} {A:bU} {E:aj->ak->Prop} {s:ak}
theorem He (b n:Nat):ky none (some (b:Int)) 1 (n:Int)=(0,((min b n:Nat):Int)):=by
 unfold ky;have h1:¬((1:Int)<0):=lz 152640256;have h2:¬((b:Int)<0):=lz 9444097;simp only[h1,h2,if_false]
 congr 1
 omega
theorem Hf (b:Nat):g0 0 (b:Int) 1=b:=by
 unfold g0;have h1:(1:Int)>0:=lz 420026112;simp only[h1,if_true,Int.ediv_one]
 split<;>omega
theorem xk {sl:aM} {b n:Nat} {u:Tok} {Q:Int×Int×Nat->ak->Prop} (hs:s.heap.IsSliceOf sl .none (.int b u) .none) (h:Q (0,1,min b n) s):
  wpAny (model prog w) A (nV (.ref sl) (pure (n:Int))) Q E s:=by
 obtain⟨os,d,v,t⟩:=id hs;unfold nV zr;refine ae (ae (il d t (x:=.none) rfl (ae (il d t (x:=.int b u) rfl (ae (il d t (x:=.none) rfl (af ?_)))))));refine ae (zg ?_);show wpAny _ _ (if((1:Int)==0)=true then _ else _) _ _ s;rw[if_neg (by decide)];refine ae (zg (ae (slicePart_int (ae (af ?_)))));show wpAny _ _ (match ky none (some (b:Int)) 1 (n:Int) with|(lo,hi)=>pure (lo,(1:Int),g0 lo hi 1)) _ _ s;rw[He b n];show wpAny _ _ (pure ((0:Int),(1:Int),g0 0 ((min b n:Nat):Int) 1)) _ _ s;rw[Hf];exact af h
theorem Mq (xs:Array aj) (b:Nat):((dD (min b xs.size)).filterMap λ(k:Nat)=>xs[((0:Int)+(k:Int)*1).toNat]?).toArray=(xs.toList.take b).toArray:=by
 have e:(λ(k:Nat)=>xs[((0:Int)+(k:Int)*1).toNat]?)=λ k=>xs[0+k]?:=by
  funext k
  have:((0:Int)+(k:Int)*1).toNat=0+k:=by omega
  rw[this]
 rw[e];have:=pick_run xs 0 (min b xs.size);rw[jg] at this;have d:((λ x=>xs[x]?)∘λ x=>0+x)=λ k=>xs[0+k]?:=rfl;rw[d] at this;rw[this,lL,<-za,<-iC,bF]
theorem v9 {t sl:aM} {items:Array aj} {b:Nat} {u:Tok} {Q:aj->ak->Prop} (H:D2 s.heap t items) (hs:s.heap.IsSliceOf sl .none (.int b u) .none)
  (h1:items.size <= b->Q (.ref t) s) (h2:b<items.size->Q (.ref s.heap.objs.size) {s with heap:=s.heap.push {cls:=.type "tuple",data:=.seq (items.toList.take b).toArray}})
  (M:items.size <= aO:=by size_fits):wpAny (model prog w) A (getItem (.ref t) (.ref sl)) Q E s:=by
 have d:sizeOk (.seq (items.toList.take b).toArray):=by
  show(items.toList.take b).toArray.size <= aO;rw[aN,bL,iC];exact aL (cD _ _) M
 obtain⟨os,V,γ,ε⟩:=id hs;have δ:s.TypeIs (.ref sl) "slice":=⟨os,V,γ⟩;unfold getItem
 try with_reducible refine aD ?_
 first|refine ae (af ?_)|skip
 refine ae (wpAny_sequenceKey H.typeIs (by decide) ?_);refine ae (dz (name:=cw "__getitem__") H.typeIs uS
  (bV uS H.typeIs entry_tuple_getitem ?_ (args_tuple_getitem _ _)))
 show wpAny _ _ (fw (.ref t)>>=_) _ _ s;refine ae (tupleItemsOf_ H ?_);refine ae (ko δ ?_);rw[if_pos (by decide)];refine ae (xk hs ?_);by_cases hb:b<items.size
 .have β:¬(((0:Int)==0&&(1:Int)==1&&(min b items.size)==items.size)=true):=by
   have:((min b items.size)==items.size)=false:=by rw[beq_eq_false_iff_ne];exact λ q=>(lz 9741183273301235535667) hb q (bO _ _)
   rw[this];simp
  show wpAny _ _ (if((0:Int)==0&&(1:Int)==1&&(min b items.size)==items.size)=true then _ else _) _ _ s;rw[if_neg β,Mq items b];have h:=h2 hb
  first
   |exact ae (m:=eP _) (bK (af ⟨_,rfl,af h⟩) d)
   |exact ae (m:=eP _) (bK (ae (af (af ⟨_,rfl,af h⟩))) d)
   |exact ae (ae (m:=eP _) (bK (af (af ⟨_,rfl,af h⟩)) d))
   |exact ae (ae (m:=eP _) (bK (af ⟨_,rfl,af h⟩) d))
 .have v:(((0:Int)==0&&(1:Int)==1&&(min b items.size)==items.size)=true):=by
   have:((min b items.size)==items.size)=true:=by rw[beq_iff_eq];exact Bc.elim (λ q=>ai ((cD _ _)) ((lz 583909748314147) hb q)) λ q=>q
   rw[this];rfl
  show wpAny _ _ (if((0:Int)==0&&(1:Int)==1&&(min b items.size)==items.size)=true then _ else _) _ _ s;rw[if_pos v];have h:=h1 (tG hb);unfold zh;refine ae (ae (ko H.typeIs (af ?_)));rw[if_pos (by decide)];exact ae (gw (af ⟨_,rfl,af h⟩))
end
theorem cB.take {K:FM}:∀(n:Nat) {ds:List D} {vs:List aj},cB K ds vs->cB K (ds.take n) (vs.take n)
 |0,_,_,_=>by simpa using cB.nil
 |n+1,[],_,h=>by obtain rfl:=h;simpa using cB.nil
 |n+1,d::ds,_,h=>by
  obtain⟨v,r,rfl,h1,h2⟩:=h;exact cB.cons h1 (cB.take n h2)
theorem cB.drop {K:FM}:∀(n:Nat) {ds:List D} {vs:List aj},cB K ds vs->cB K (ds.drop n) (vs.drop n)
 |0,_,_,h=>by simpa using h
 |n+1,[],_,h=>by obtain rfl:=h;simpa using cB.nil
 |n+1,d::ds,_,h=>by
  obtain⟨v,r,rfl,h1,h2⟩:=h;exact cB.drop n h2
section
variable{c:Cx} {G:Gm} {W:Om}
theorem sQ {o e:cX} {p pos:Pos} {x:List D} {b:Nat} (ho:Ev c G W o (.tup x)) (he:Ev c G W e (.int b)) (M:x.length <= aO)
  (ht:∀a b,letTemporaryGo o a b=pure ():=by intro _ _;symm):Ev c G W (.Subscript o (.Slice .none (some e) .none p) pos) (.tup (x.take b)):=λ s K Q E S k=>by
 refine rG (T:="tuple") uS.lookup ?_ ht;refine ho s K _ E S λ v h1 K1 t1 k1 S1 r1=>?_;refine xe ?_;rw[oU];refine af ?_;show wpAny _ _ (eval e c.env) _ _ _;refine he _ K1 _ E S1 λ u h2 K2 t2 H S2 r2=>?_;refine af ?_;have r1:=Rd.mono H _ r1;simp only[j9] at r1 r2;obtain⟨a,vs,ep,rfl,ha,hr⟩:=r1;obtain⟨t,rfl⟩:=r2;have hl:=hr.length;have hT:D2 h2 a (al vs):=⟨_,S2.kp _ _ ha,rfl,_,rfl⟩;have d:D2 (h2.push {cls:=.type "slice",data:=.fields #[.none,.int b t,.none]}) a (al vs):=hT.keeps λ _ _ e=>aA _ e;have V:=S2.grow (h':=h2.push {cls:=.type "slice",data:=.fields #[.none,.int b t,.none]}) (λ b o e=>aA _ e);refine⟨d.typeIs,v9 (b:=b) (u:=t) d (uT ..) (λ hb=>?_) (λ hb=>?_) (by rw[aN,hl];exact M)⟩
 .rw[aN] at hb;refine k (.ref a) _ K2 t2 (k1.trans H) V ?_;rw[lM (by exact NQ hl hb)];show∃_,_;exact⟨a,vs,ep,rfl,ha,hr⟩
 .have S5:=V.newFz {cls:=.type "tuple",data:=.seq ((al vs).toList.take b).toArray};have le:=FM.le_add (o:={cls:=.type "tuple",data:=.seq ((al vs).toList.take b).toArray}) (iU V.kp);refine k _ _ _ t2 ((k1.trans H).trans le) S5 ?_;show∃_,_;exact⟨_,vs.take b,0,rfl,FM.add_self,cB.mono le _ (hr.take b)⟩
theorem CU {o e:cX} {p pos:Pos} {x:List D} {b:Nat} (ho:Ev c G W o (.tup x)) (he:Ev c G W e (.int b)) (M:1 <= b) (hb:b <= x.length) (H:x.length <= aO)
  (ht:∀a b,letTemporaryGo o a b=pure ():=by intro _ _;symm):Ev c G W (.Subscript o (.Slice (some e) .none .none p) pos) (.tup (x.drop b)):=λ s K Q E S k=>by
 refine rG (T:="tuple") uS.lookup ?_ ht;refine ho s K _ E S λ v h1 K1 t1 k1 S1 r1=>?_;refine xe ?_;show wpAny _ _ (eval e c.env) _ _ _;refine he _ K1 _ E S1 λ u h2 K2 t2 V S2 r2=>?_;rw[oU];refine af (af ?_);have r1:=Rd.mono V _ r1;simp only[j9] at r1 r2;obtain⟨a,vs,ep,rfl,ha,hr⟩:=r1;obtain⟨t,rfl⟩:=r2;have hl:=hr.length;have hT:D2 h2 a (al vs):=⟨_,S2.kp _ _ ha,rfl,_,rfl⟩;have d:D2 (h2.push {cls:=.type "slice",data:=.fields #[.int b t,.none,.none]}) a (al vs):=hT.keeps λ _ _ e=>aA _ e;have S3:=S2.grow (h':=h2.push {cls:=.type "slice",data:=.fields #[.int b t,.none,.none]}) (λ b o e=>aA _ e);refine⟨d.typeIs,getItem_tuple_from (a:=b) (u:=t) d (uT ..) M (by rw[aN,hl];exact hb) ?_ (by rw[aN,hl];exact H)⟩;have S5:=S3.newFz {cls:=.type "tuple",data:=.seq ((al vs).toList.drop b).toArray};have le:=FM.le_add (o:={cls:=.type "tuple",data:=.seq ((al vs).toList.drop b).toArray}) (iU S3.kp);refine k _ _ _ t2 ((k1.trans V).trans le) S5 ?_;show∃_,_;exact⟨_,vs.drop b,0,rfl,FM.add_self,cB.mono le _ (hr.drop b)⟩
theorem mB (u:x.length+y.length <= aO):eM c G W (.lst x) (.lst y) (.lst (x++y)) (jQ .Add):=λ s K a b Q E S r1 r2 k=>by
 simp only[j9] at r1 r2;obtain⟨a,vs,e,rfl,ha,hr⟩:=r1;obtain⟨b,t,H,rfl,hb,d⟩:=r2;refine PySem.P.add_list (S.kp _ _ ha) (S.kp _ _ hb) ?_ (by rw[aN,aN,hr.length,d.length];exact u);have v:=S.newFz {cls:=.type "list",data:=.seq (al vs++al t)};have le:=FM.le_add (o:={cls:=.type "list",data:=.seq (al vs++al t)}) (iU S.kp);refine k _ _ _ s.toks le v ?_;show∃_,_;exact⟨_,vs++t,0,rfl,by rw[FM.add_self];simp,cB.mono le _ (hr.append d)⟩
theorem x0 (u:x.length+y.length <= aO):eM c G W (.tup x) (.tup y) (.tup (x++y)) (jQ .Add):=λ s K a b Q E S r1 r2 k=>by
 simp only[j9] at r1 r2;obtain⟨a,vs,e,rfl,ha,hr⟩:=r1;obtain⟨b,t,v,rfl,hb,d⟩:=r2;have l1:=hr.length;have l2:=d.length;by_cases h1:vs=[]
 .subst h1;have:x=[]:=by cases x<;>simp_all
  subst this;refine concat_meets ⟨_,S.kp _ _ ha,rfl⟩ ⟨_,S.kp _ _ hb,rfl⟩ wB zY qP pZ (pd _ _)
   (qQ a (al []) e b (al t) v (by simp)) ⟨S.kp _ _ ha,S.kp _ _ hb,?_⟩
  refine k _ s.heap K s.toks FM.Le.rfl S ?_;simp only[j9,be];exact⟨b,t,v,rfl,hb,d⟩
 .by_cases h2:t=[]
  .subst h2;have:y=[]:=by cases y<;>simp_all
   subst this;refine concat_meets ⟨_,S.kp _ _ ha,rfl⟩ ⟨_,S.kp _ _ hb,rfl⟩ wB zY qP pZ (pd _ _)
    (qS a (al vs) e b (al []) v (by simpa using h1) (by simp)) ⟨S.kp _ _ ha,S.kp _ _ hb,?_⟩
   refine k _ s.heap K s.toks FM.Le.rfl S ?_;simp only[j9,ax];exact⟨a,vs,e,rfl,ha,hr⟩
  .refine PySem.P.add_tuple (S.kp _ _ ha) (S.kp _ _ hb) (by simpa using h1) (by simpa using h2) ?_ (by rw[aN,aN,l1,l2];exact u);have H:=S.newFz {cls:=.type "tuple",data:=.seq (al vs++al t)};have le:=FM.le_add (o:={cls:=.type "tuple",data:=.seq (al vs++al t)}) (iU S.kp);refine k _ _ _ s.toks le H ?_;show∃_,_;exact⟨_,vs++t,0,rfl,by rw[FM.add_self];simp,cB.mono le _ (hr.append d)⟩
end
theorem x7 {K:FM}:∀{ys:List Str} {vs:List aj},cB K (ys.map .str) vs->StrsAre vs ys
 |[],_,h=>by simp only[aX,ro] at h;subst h;exact .nil
 |y::ys,_,h=>by
  simp only[aq,ro] at h;obtain⟨v,r,rfl,⟨t,rfl⟩,h⟩:=h;exact .cons y t (x7 h)
section
variable{pr:aG} {w:aB} {T:FM} {n:Nat}
theorem Am (d:(ys.map (·.length)).sum+ys.length*x.length <= 16777216):Fn pr w T n (.builtin "str.join") [.str x,.tup (ys.map .str)] [] (Is (.str (bw x ys)) []):=iW λ A s K vs Q E _ _ _ _ u _ r k=>by
 obtain⟨_,_,rfl,⟨t,rfl⟩,_,_,rfl,⟨a,v,ep,rfl,ha,hr⟩,rfl⟩:=r;obtain⟨l,rfl,e⟩:=vk hr;refine join_tuple (items:=al (strValues l)) (ys:=ys) ⟨_,u _ _ ha,rfl,_,rfl⟩ ?_ d λ t' H=>k _ s.heap _ (λ _ _ e=>e) ⟨_,rfl⟩;exact x7 hr
theorem IX (hl:l.length+y.length <= aO):Fn pr w T n (.builtin "list.extend") [.val (.ref a),.lst y] [(a,.list l)] (Is .none [(a,.list (l++y))]):=λ A h1 h2 h3 s K vs Q E M v r o k=>by
 obtain⟨_,_,rfl,rfl,_,_,rfl,⟨b,u,H,rfl,hb,t⟩,rfl⟩:=r;obtain⟨d,e,g1,hr⟩:=l0 o;have l1:=hr.length;have l2:=t.length;have hz:(al d).size+(al u).size <= aO:=by rw[aN,aN,l1,l2];exact hl
 refine qJ pe ⟨_,g1,rfl⟩ PySem.F.entry_list_extend (PySem.F.args_list_extend_2 _ _) (sC a (al d) e b (al u) H (extend_door hz) ((lz 1788219392271585298) hz) ((lz 7680343807244428889515626514) hz)) ⟨g1,v _ _ hb,?_⟩;refine k .none _ K s.toks .none _ (hV (l':=l++y) (vs:=d++u) (e:=if((al d)++(al u)).size==(al d).size then e else e+1) v o (λ c z q e=>(bz _ _ (Ne.symm q)).trans e) ((bo _ g1 rfl).trans ?_) (hr.append t)) (by ext rd) ⟨rfl,rfl⟩;rw[<-List.append_toArray];rfl
end
section
variable{c:Cx} {G:Gm} {W:Om}
theorem Hg {R:iD->Prop} (ok:Ok c n) (M:Ev c G W o (.val (.ref a))) (V:Ev c G W e (.lst y)) (t:gc W (a,.list l) Wr) (hl:l.length+y.length <= aO)
  (h:Ex c G ((a,.list (l++y))::Wr) rest R) (hn:ge e=true:=by symm) (u:bE o "extend" c.env (eval o c.env)=eval o c.env:=by symm) (d:(apos.endLine==pos.line)=true:=by symm)
  (hi:interactive c.env=false:=by symm):Ex c G W (.Expr (.Call (.Attribute o "extend" apos) [e] [] pos) H::rest) R:=
 FA (W':=(a,.list (l++y))::Wr) (λ s K Q E S k=>pq ok M (uq t) fk pe PySem.F.type_list_extend (bg V bW hn) (.cons t .nil) (IX hl) u d rfl s K Q E S λ v h' K' t' d' W' x y z p=>by
  obtain⟨Wo,⟨rfl,rfl⟩,rfl⟩:=p;exact k v h' K' t' _ _ x y z ⟨rfl,rfl⟩) h hi rfl
end
theorem f'.reOwn {B:Bs} {L:aM} {h:dM} {K:FM} {G:Gm} {W:Om} {a:aM} {b b':Ob} (S:f' B L h K G ((a,b)::W)) (q:∀o,b.is K o->b'.is K o):f' B L h K G ((a,b')::W):=by
 refine⟨S.ns,S.kp,S.up,S.kl,S.ul,S.k0,S.fz,⟨λ p d=>?_,by have:=S.own.nd;simpa using this⟩,λ p d=>?_⟩
 .rcases ap.mp d with rfl|d
  .obtain⟨o,q1,q2,t⟩:=S.own.at_ _ (ag ..);exact⟨o,q1,q o q2,t⟩
  .exact S.own.at_ p (ao _ d)
 .rcases ap.mp d with rfl|d
  .exact S.wu (a,b) (ag ..)
  .exact S.wu p (ao _ d)
theorem f'.freeze {B:Bs} {L:aM} {h:dM} {K:FM} {G:Gm} {W:Om} {a:aM} {l:List D} (S:f' B L h K G ((a,.list l)::W)):∃K',FM.Le K K' /\ f' B L h K' G W /\ Rd K' (.lst l) (.ref a):=by
 obtain⟨o,q,le,A⟩:=(Aft.same S.kp S.own).freeze;obtain⟨vs,e,rfl,r⟩:=q;have d:=(S.perm (W':=((a,.list l)::W)++[]) (by simp)).call A;rw[ax] at d;refine⟨_,le,d,?_⟩;show∃_,_;exact⟨a,vs,e,rfl,FM.add_self,cB.mono le _ r⟩
section
variable{c:Cx} {G:Gm} {W:Om}
theorem wM {a l:aM} {pre d:List D} {W1 t:Om} {st:List eX} {R:iD->Prop} (t1:gc W (a,.list (pre++[.val (.ref l)])) W1) (t2:gc W1 (l,.list d) t) (h:Ex c G ((a,.list (pre++[.lst d]))::t) st R):Ex c G W st R:=λ s K Q E S k=>by
 have S1:=(S.perm t1.perm).perm (W':=(l,.list d)::(a,.list (pre++[.val (.ref l)]))::t) ((t2.perm.cons _).trans (iH ..));obtain⟨K',le,S2,r⟩:=S1.freeze;have S3:=S2.reOwn (b':=.list (pre++[.lst d])) (λ o q=>by
  obtain⟨vs,e,rfl,H⟩:=q;obtain⟨u,v,rfl,r1,r2⟩:=H.snoc;have r2:v=.ref l:=r2;subst r2;exact⟨u++[.ref l],e,rfl,r1.append (cB.cons r cB.nil)⟩)
 exact h s K' Q E S3 λ f h1 K1 t1 M V=>k f h1 K1 t1 (le.trans M) V
theorem x8 {P:D->Om->Prop} {R:iD->Prop} (ok:Ok c n) (ho:Ev c G W o (.val (.ref a))) (ty:Ty c W (.val (.ref a)) "list") (he:rq c G W e P)
  (h:∀d W',P d W'->∃l Wr,gc W' (a,.list l) Wr /\ l.length <= aO /\ Ex c G ((a,.list (l++[d]))::Wr) rest R) (hn:ge e=true:=by symm) (H:bE o "append" c.env (eval o c.env)=eval o c.env:=by symm) (u:(apos.endLine==pos.line)=true:=by symm)
  (hi:interactive c.env=false:=by symm):Ex c G W (.Expr (.Call (.Attribute o "append" apos) [e] [] pos) M::rest) R:=
 gy λ s K Q E S k=>by
  refine qG ?_ hi rfl;refine lG H (by rw[cj hn];rfl) u rfl (ho s K _ E S λ v h1 K1 t1 k1 S1 r1=>?_);obtain⟨hT,hD⟩:=ty {s with heap:=h1,toks:=t1} K1 G v S1 r1;have r1:v=.ref a:=r1;subst r1;refine⟨"list","list.append",fk,oV,oW,hT,hD,?_⟩;refine jR (P:=FM.In c.T) (by rw[cj hn];rfl) iu ?_;rw[cj hn];refine ij (dJ (he _ K1 _ E S1 λ v h2 K2 t2 d W' k2 V r2 p2=>gj ⟨V.inT ok,?_⟩));obtain⟨l,Wr,t,hl,hx⟩:=h d W' p2;refine sJ ok (cv.cons t .nil) (xP (d:=d) hl) _ K2 [.ref a,v] _ E V (cB.cons (d:=.val (.ref a)) (by ext rd) (cB.cons r2 cB.nil)) λ v h3 K3 t3 d Wo k3 S3 r3 p3=>?_;obtain⟨rfl,rfl⟩:=p3;have r3:v=.none:=r3;subst r3;exact k .next h3 K3 t3 ((k1.trans k2).trans k3) ⟨G,_,S3,hx⟩
def QA {σ:Type} (c:Cx) (p:Nat->Om) (I:Nat->σ->Prop) (G₀:Nat->σ->Gm) (t:Nat->σ->Om) (rest:List eX) (R:iD->Prop) (i:Nat):iD->Prop
 |.next G' W'=>∃st,I i st /\ Sub (G₀ i st) G' /\ cv W' (p i++t i st) []
 |.cont G' W'=>∃st,I i st /\ Sub (G₀ i st) G' /\ cv W' (p i++t i st) []
 |.brk G' W'=>Ex c G' W' rest R
 |.ret d W'=>R (.ret d W')
theorem Bz {σ:Type} {R:iD->Prop} (hi:RJ c G W W₁ iter ds TB) (I:Nat->σ->Prop) (G₀:Nat->σ->Gm) (H:Nat->σ->Om) (st:σ) (hI:I 0 st) (hG:Sub (G₀ 0 st) G) (hW:cv W₁ (H 0 st) [])
  (M:∀i d,ds[i]?=some d->∀st,I i st->∀p:Nat->Om,∃G',As c (G₀ i st) (p (i+1)++H i st) target d G' /\ Ex c G' (p (i+1)++H i st) body (QA c p I G₀ H rest R (i+1)))
  (done:∀st,I ds.length st->Ex c (G₀ ds.length st) (H ds.length st) rest R)
  (hs:∀x,foldedSetIterable iter c.env x=pure x:=by intro _;symm) (ht:TB=true->GK target=true:=by first|exact λ _=>rfl|exact λ h=>nomatch h):Ex c G W (.For target iter body [] pos::rest) R:=by
 refine Ek hi (λ i G' W'=>∃st,I i st /\ Sub (G₀ i st) G' /\ W'.Perm (H i st)) ⟨st,hI,hG,by have:=hW.perm;rwa [ax] at this⟩ ?_ ?_ hs ht
 .rintro i d hd G1 W1 ⟨st,j1,g1,p1⟩ p;obtain⟨G',ha,hb⟩:=M i d hd st j1 p;refine⟨G',λ s K v Q E S r k=>ha s K v Q E ((S.weak g1.all).perm (p1.append_left _)) r λ h' K' t' le S'=>k h' K' t' le (S'.perm (p1.symm.append_left _)),?_⟩;refine λ s K Q E S k=>hb s K Q E (S.perm (p1.append_left _)) λ f h' K' t' le e=>k f h' K' t' le ?_;have nx:∀u t,(∃st,I (i+1) st /\ Sub (G₀ (i+1) st) u /\ cv t (p (i+1)++H (i+1) st) [])->∃V,t.Perm (p (i+1)++V) /\ ∃st,I (i+1) st /\ Sub (G₀ (i+1) st) u /\ V.Perm (H (i+1) st):=by
   rintro u t ⟨st,j2,g2,t2⟩;exact⟨_,by have:=t2.perm;rwa [ax] at this,st,j2,g2,fX _⟩
  cases f with
  |next=>obtain⟨u,t,S2,q⟩:=e;exact⟨u,t,S2,nx u t q⟩
  |cont=>obtain⟨u,t,S2,q⟩:=e;exact⟨u,t,S2,nx u t q⟩
  |brk=>exact e
  |ret v=>exact e
 .rintro G1 W1 ⟨st,j1,g1,p1⟩;exact λ s K Q E S k=>done st j1 s K Q E ((S.weak g1.all).perm p1) k
end
structure Enc {α:Type} [DecidableEq α] (f:α->D) (g:α->y6) (k:Nat):Prop where
 py:∀a,Ib (f a) (g a)
 eqv:∀a b,iZ (g a) (g b)=decide (a=b)
 dep:∀a,(g a).depth <= k
theorem encStr:Enc D.str Fq 0:=⟨λ _=>Fz,λ a b=>by simp only[iZ];by_cases h:a=b<;>simp[h],λ _=>by simp[qU]⟩
section
variable{α:Type} [DecidableEq α] {f:α->D} {g:α->y6} {k:Nat}
theorem Enc.pys (e:Enc f g k) (l:List α):CG (l.map f) (l.map g):=by
 induction l with
 |nil=>exact CH
 |cons a l d=>exact nu (e.py a) d
theorem Enc.eqvAll (e:Enc f g k):∀l l':List α,kO (l.map g) (l'.map g)=decide (l=l')
 |[],[]=>by simp[kO]
 |[],_::_=>by simp[kO]
 |_::_,[]=>by simp[kO]
 |a::l,b::l'=>by
  simp only[aq,kO,e.eqv,e.eqvAll l l',dO];by_cases h1:a=b<;>by_cases h2:l=l'<;>simp[h1,h2]
theorem Enc.depAll (e:Enc f g k):∀l:List α,fE (l.map g) <= k
 |[]=>by simp[fE]
 |a::l=>by
  simp only[aq,fE];have h1:=e.dep a;have h2:=e.depAll l;exact Nat.max_le.2 ⟨h1,h2⟩
theorem Enc.list (e:Enc f g k):Enc (λ l:List α=>.lst (l.map f)) (λ l=>.list (l.map g)) (k+1) where
 py l:=Bj (e.pys l)
 eqv l l':=by simp only[iZ];exact e.eqvAll l l'
 dep l:=by simp only[qU];have:=e.depAll l;exact Eh this
theorem Enc.tup (e:Enc f g k):Enc (λ l:List α=>.tup (l.map f)) (λ l=>.tuple (l.map g)) (k+1) where
 py l:=Bi (e.pys l)
 eqv l l':=by simp only[iZ];exact e.eqvAll l l'
 dep l:=by simp only[qU];have:=e.depAll l;exact Eh this
variable{c:Cx} {G:Gm} {W:Om} {n:Nat}
theorem xE (e:Enc f g k) (a:α):∀l:List α,(l.map g).any (λ y=>iZ y (g a))=decide (a∈l)
 |[]=>by simp
 |b::l=>by
  rw[aq,zM,e.eqv,xE e a l];by_cases h1:b=a
  .subst h1;simp
  .by_cases h2:a∈l
   .simp[h2]
   .simp[h1,h2,Ne.symm h1]
theorem CV (ok:Ok c n) (j:Nat) (hj:j <= 100):c.A.units+j<cLine:=by have:=ok.u;unfold cLine;exact(lz 11963436904062718405132687144144181137699) hj this
theorem IY (ok:Ok c n) (e:Enc f g k) (d:k <= 90) (ha:(g a).canLay0=true) (hb:(g b).canLay0=true):eM c G W (f a) (f b) (.bool (decide (a=b))) (bq .Eq):=by
 have:=SF (c:=c) (G:=G) (W:=W) (e.py a) (e.py b) ha hb (CV ok _ (by have:=e.dep a;exact NR d this (bO _ _)))
 rwa [e.eqv] at this
theorem rX (ok:Ok c n) (e:Enc f g k) (d:k <= 90) (ha:(g a).canLay0=true) (hb:(g b).canLay0=true):eM c G W (f a) (f b) (.bool (decide (a≠b))) (bq .NotEq):=by
 have:=SG (c:=c) (G:=G) (W:=W) (e.py a) (e.py b) ha hb (CV ok _ (by have:=e.dep a;exact NR d this (bO _ _)));rw[e.eqv] at this
 rwa [show decide (a≠b)=!decide (a=b) from by simp]
theorem Vc (ok:Ok c n) (e:Enc f g k) (d:k <= 90) {a:α} {l:List α} (ha:(g a).canLay0=true) (hb:eH (l.map g)=true):eM c G W (f a) (.lst (l.map f)) (.bool (decide (a∈l))) (bq .In):=by
 have:=SH (c:=c) (G:=G) (W:=W) (e.py a) (e.pys l) ha hb (by have:=CV ok (1+min (fE (l.map g)) (g a).depth) (by have:=e.dep a;exact PT d this (cD _ _));exact PU this)
 rwa [xE e] at this
theorem An (ok:Ok c n) (e:Enc f g k) (d:k <= 90) {a:α} {l:List α} (ha:(g a).canLay0=true) (hb:eH (l.map g)=true):eM c G W (f a) (.lst (l.map f)) (.bool (decide (a∉l))) (bq .NotIn):=by
 have:=Ix (c:=c) (G:=G) (W:=W) (e.py a) (e.pys l) ha hb (by have:=CV ok (1+min (fE (l.map g)) (g a).depth) (by have:=e.dep a;exact PT d this (cD _ _));exact PU this);rw[xE e] at this
 rwa [show decide (a∉l)=!decide (a∈l) from by simp]
theorem Ao (ok:Ok c n) (e:Enc f g k) (u:k <= 90) {a:α} {l:List α} (ha:(g a).canLay0=true) (hb:eH (l.map g)=true):eM c G W (f a) (.tup (l.map f)) (.bool (decide (a∈l))) (bq .In):=λ s K x y Q E S r1 r2 d=>by
 obtain⟨as,q1⟩:=e.py a _ _ _ S.kp r1;obtain⟨bs,q2⟩:=Bi (e.pys l) _ _ _ S.kp r2;have t:=CV ok (1+min (fE (l.map g)) (g a).depth) (by have:=e.dep a;exact PT u this (cD _ _));exact SeqAt.in_tuple_reads q2 q1 hb ha (by show c.A.units+1+_<cLine;exact PU t) (d _ s.heap K s.toks FM.Le.rfl S (by simp only[j9];rw[xE e]))
end
def okS (x:Str):Prop:=(Fq x).canLay0=true
theorem x9 {α:Type} {g:α->y6}:∀{l:List α},(∀a∈l,(g a).canLay0=true)->eH (l.map g)=true
 |[],_=>rfl
 |a::l,h=>by
  simp only[aq,eH,bB];exact⟨h a (ag ..),x9 λ b hb=>h b (ao _ hb)⟩
theorem SQ {l:List Str} (h:∀x∈l,okS x):(gI (l.map .str)).canLay0=true:=by simp only[iN];exact x9 h
theorem Mr {l:List Str} (h:∀x∈l,okS x):(Ct (l.map .str)).canLay0=true:=by simp only[iN];exact x9 h
def Vd (G':Gm) (W':Om):iD->Prop
 |.next t d=>Sub G' t /\ cv d W' []
 |_=>False
theorem sR {R:iD->Prop} (G':Gm) (W':Om) (H:Tt c G W t b) (h1:b=true->Ex c G W body (Vd G' W')) (h2:b=false->Ex c G W d (Vd G' W')) (h:Ex c G' W' rest R):Ex c G W (.If t body d pos::rest) R:=by
 have go:∀o,Vd G' W' o->q6 c rest R o:=λ o u=>by
  cases o with
  |next V M=>exact Iz u.1 u.2 h
  |_=>exact u.elim
 exact dY H (λ v=>Bg (h1 v) go) (λ v=>Bg (h2 v) go)
theorem FP (l u:Option Int) (x:Str):(sP l u x).length <= x.length:=by
 unfold sP sl bA;simp only[aN,bL,eo,iC];exact aL (cD _ _) (bG _ _)
def Wd (a b:Nat) (ys:List Str):Prop:=ys.length <= a /\ ∀y∈ys,y.length <= b
theorem IZ:∀{ys:List Str},(∀y∈ys,y.length <= b)->(ys.map (·.length)).sum <= ys.length*b
 |[],_=>aU _
 |y::ys,h=>by
  have h1:=h y (ag ..);have h2:=IZ (λ z hz=>h z (ao _ hz));rw[aq,ui,aE,w9,w'];exact NS h1 h2
theorem ot {sep:Str} {ys:List Str} {a b:Nat} (h:Wd a b ys):(ys.map (·.length)).sum+ys.length*sep.length <= a*(b+sep.length):=by
 have h1:=IZ h.2;have h2:ys.length*(b+sep.length) <= a*(b+sep.length):=jP _ h.1;rw[sj] at h2;exact(lz 924071107203760132132) h1 h2
theorem ig (h:Wd a b ys):(bw sep ys).length <= a*(b+sep.length):=by
 show(qc sep ys).length <= _;rw[jz];exact aL (StrLaws.join_length_le sep ys) (ot h)
theorem wa (h:Wd a b ys) (hz:a*(b+sep.length) <= 16777216):nP sep ys=true:=joinOk_of (aL (ot h) hz)
def fp (d:List Str) (t:Int):Str:=
 if t.fmod 4=0 then"/"++bw "/" d
 else if t.fmod 4=1 then"/./"++bw "/./" d++"/."
 else if t.fmod 4=2 then"///"++bw "//" d++"/"
 else"/"++bw "/" (d.map λ n=>n++"/../"++n)
abbrev gL:=Str×Nat×Nat×Nat×Nat
def aW (l o:List Str) (i:Nat):Nat:=i+((l.drop i).takeWhile λ x=>decide (x∉o)).length
def wb:List Str->List Str->Nat
 |x::xs,y::ys=>if x=y then wb xs ys+1 else 0
 |_,_=>0
theorem Ve:wb (x::a) (y::b)=if x=y then wb a b+1 else 0:=rfl
def jm (old new:List Str) (i j:Nat):Nat:=wb (old.drop i) (new.drop j)
def cT (t i d j:Nat):List gL:=
 if i>t /\ j>d then[("replace",t,i,d,j)] else if i>t then[("delete",t,i,d,j)] else if j>d then[("insert",t,i,d,j)] else[]
def dS (d i t j:Nat):List gL:=if i>d then[("equal",d,i,t,j)] else[]
def zB (old new:List Str) (i j:Nat):Nat:=aW old new i+jm old new (aW old new i) (aW new old j)
def BA (old new:List Str) (i j:Nat):Nat:=aW new old j+jm old new (aW old new i) (aW new old j)
def mq (old new:List Str) (i j:Nat):List gL:=
 cT i (aW old new i) j (aW new old j)++dS (aW old new i) (zB old new i j) (aW new old j) (BA old new i j)
def dP (old new:List Str):Nat->Nat->Nat->List gL
 |0,_,_=>[]
 |z+1,i,j=>if i<old.length \/ j<new.length then mq old new i j++dP old new z (zB old new i j) (BA old new i j) else[]
theorem WU:dP a b 0 i j=[]:=rfl
theorem QB:dP a b (z+1) i j=if i<a.length \/ j<b.length then mq a b i j++dP a b z (zB a b i j) (BA a b i j) else[]:=rfl
def dm (old new:List Str):List gL:=dP old new (old.length+new.length+1) 0 0
def lQ (old new:List Str) (i j:Nat):Prop:=(old.drop i).filter (λ x=>decide (x∈new))=(new.drop j).filter (λ x=>decide (x∈old))
theorem ma (h:i <= l.length):aW l o i <= l.length:=by
 unfold aW;have:=(List.takeWhile_sublist (p:=λ x=>decide (x∉o)) (l:=l.drop i)).length_le;rw[eo] at this;exact PV this (dE h)
theorem gf:i <= aW l o i:=iM _ _
theorem wN (h:l[i]?=some x) (d:x∈o):aW l o i=i:=by
 have hi:i<l.length:=(au.mp h).1;unfold aW;rw[aJ hi,kE];have:l[i]=x:=(au.mp h).2;rw[this];simp[d]
theorem ya (h:l.length <= i):aW l o i=i:=by
 unfold aW;rw[bN h];simp
theorem lh (h:l[i]?=some x) (d:x∉o):aW l o (i+1)=aW l o i:=by
 have hi:i<l.length:=(au.mp h).1;unfold aW;rw[aJ hi,kE];have:l[i]=x:=(au.mp h).2;rw[this];simp[d];exact ai Lu Ba
theorem jL (h1:old[i]?=some x) (h2:new[j]?=some x):jm old new i j=jm old new (i+1) (j+1)+1:=by
 obtain⟨hi,t⟩:=au.mp h1;obtain⟨hj,d⟩:=au.mp h2;unfold jm;rw[aJ hi,aJ hj,t,d];rw[Ve,if_pos rfl]
theorem qo (h:¬(i<old.length /\ j<new.length /\ old[i]?=new[j]?)):jm old new i j=0:=by
 unfold jm;by_cases hi:i<old.length
 .by_cases hj:j<new.length
  .rw[aJ hi,aJ hj];rw[Ve,if_neg];intro e;exact h ⟨hi,hj,by rw[am hi,am hj,e]⟩
  .rw[bN (cO hj)];cases old.drop i<;>rfl
 .rw[bN (cO hi)];rfl
theorem CW:∀(xs ys:List Str),wb xs ys <= xs.length /\ wb xs ys <= ys.length
 |[],_=>⟨aU _,aU _⟩
 |_::_,[]=>⟨aU _,aU _⟩
 |x::xs,y::ys=>by
  rw[Ve];have:=CW xs ys
  split<;>simp only[aE]<;>(first|exact⟨NT,NT⟩|exact⟨Eh this.1,Eh this.2⟩)
theorem qp (h:lQ old new i j):lQ old new (aW old new i) j:=by
 unfold lQ at*;rw[<-h];unfold aW;have key:∀l:List Str,(l.drop (l.takeWhile λ x=>decide (x∉new)).length).filter (λ x=>decide (x∈new))=l.filter (λ x=>decide (x∈new)):=by
  intro l
  induction l with
  |nil=>rfl
  |cons x l d=>
   rw[kE];by_cases q:x∈new
   .simp[q]
   .simp only[q,not_false_iff,decide_true,if_true,aE,kF,dc,decide_false,bQ,if_false];exact d
 rw[<-jO];exact key _
theorem sS (h:lQ old new i j):lQ new old j i:=Eq.symm h
theorem I1:∀(r i j:Nat),r <= jm old new i j->lQ old new i j->lQ old new (i+r) (j+r):=by
 intro r
 induction r with
 |zero=>
  intro _ _ _ h;exact h
 |succ r v=>
  intro i j hr h;have d:0<jm old new i j:=(lz 4943958346633490) hr;by_cases q:i<old.length /\ j<new.length /\ old[i]?=new[j]?
  .obtain⟨hi,hj,e⟩:=q;have h1:old[i]?=some old[i]:=am hi;have h2:new[j]?=some old[i]:=by rw[<-e];exact h1
   have t:new[j]=old[i]:=(au.mp h2).2;have hs:lQ old new (i+1) (j+1):=by
    unfold lQ at*;rw[aJ hi,aJ hj,dc,dc] at h;have u:old[i]∈new:=by rw[<-t];exact cE _
    have m2:new[j]∈old:=by rw[t];exact cE _
    simp only[u,m2,decide_true,if_true,dO] at h;exact h.2
   rw[jL h1 h2] at hr;have:=v (i+1) (j+1) (NU hr) hs;rw[show i+(r+1)=i+1+r from ai Ba Lu,show j+(r+1)=j+1+r from ai Ba Lu];exact this
  .rw[qo q] at d;exact((lz 2543243561078544) d).elim
theorem Ap (h:lQ old new i j):lQ old new (zB old new i j) (BA old new i j):=
 I1 _ _ _ (aR _) (qp (sS (qp (sS h))))
theorem I2:i <= zB old new i j /\ j <= BA old new i j:=⟨aL gf (iM _ _),aL gf (iM _ _)⟩
theorem SR (hi:i <= old.length) (hj:j <= new.length):zB old new i j <= old.length /\ BA old new i j <= new.length:=by
 have h1:=ma (l:=old) (o:=new) hi;have h2:=ma (l:=new) (o:=old) hj;have h3:=CW (old.drop (aW old new i)) (new.drop (aW new old j));rw[eo,eo] at h3;unfold zB BA jm;exact⟨PV h3.1 (dE h1),PV h3.2 (dE h2)⟩
theorem FQ (h:lQ old new i j) (hi:i <= old.length) (hj:j <= new.length) (d:i<old.length \/ j<new.length):i<zB old new i j \/ j<BA old new i j:=by
 injections old new i j h hi hj d;by_cases u:aW old new i=i
 .by_cases t:aW new old j=j
  .have key:i<old.length /\ j<new.length /\ old[i]?=new[j]?:=by
    have g1:∀hi:i<old.length,old[i]∈new:=λ hi=>by
     by_cases q:old[i]∈new
     .exact q
     .have:=lh (am hi) q;have g:=gf (l:=old) (o:=new) (i:=i+1);exact(LF u this g).elim
    have g2:∀hj:j<new.length,new[j]∈old:=λ hj=>by
     by_cases q:new[j]∈old
     .exact q
     .have:=lh (am hj) q;have g:=gf (l:=new) (o:=old) (i:=j+1);exact(LF t this g).elim
    unfold lQ at h;by_cases hi:i<old.length
    .rw[aJ hi,dc] at h;simp only[g1 hi,decide_true,if_true] at h;by_cases hj:j<new.length
     .rw[aJ hj,dc] at h;simp only[g2 hj,decide_true,if_true,dO] at h;exact⟨hi,hj,by rw[am hi,am hj,h.1]⟩
     .rw[bN (cO hj)] at h;simp at h
    .have hj:j<new.length:=d.elim (λ q=>NV hi q) λ q=>q;rw[bN (cO hi),aJ hj,dc] at h;simp[g2 hj] at h
   obtain⟨hi,hj,e⟩:=key;have h1:old[i]?=some old[i]:=am hi;have h2:new[j]?=some old[i]:=by rw[<-e];exact h1
   left
   unfold zB;rw[u,t,jL h1 h2];exact lz 1724437762306
  .right
   have g:=gf (l:=new) (o:=old) (i:=j);have:aW new old j <= BA old new i j:=iM _ _;exact d.elim (λ q=>(bc t).elim (λ r=>LG g r) λ r=>LH this r) λ q=>(bc t).elim (λ r=>LG g r) λ r=>LH this r
 .left
  have g:=gf (l:=old) (o:=new) (i:=i);have:aW old new i <= zB old new i j:=iM _ _;exact d.elim (λ q=>(bc u).elim (λ r=>LG g r) λ r=>LH this r) λ q=>(bc u).elim (λ r=>LG g r) λ r=>LH this r
section
variable{pr:aG} {w:aB} {T:FM} {n:Nat}
theorem RN (hn:l.length<2^62):Fn pr w T n (.builtin "len") [.tup l] [] (Is (.int l.length) []):=iW λ A s K vs Q E _ _ _ _ t _ r k=>by
 obtain⟨_,_,rfl,⟨a,d,ep,rfl,ha,hr⟩,rfl⟩:=r;have hl:=hr.length;refine PySem.P.len_tuple (t _ _ ha) (by simp[hl];exact Lv hn) ?_;have e:((al d).size:Int)=(l.length:Int):=by simp[hl]
 rw[e];exact k _ s.heap _ (λ _ _ e=>e) ⟨_,rfl⟩
end
theorem I4 (h:j.natAbs<1000000):jp i j=false:=by
 unfold jp;have:(if(j==0)=true then 0 else j.natAbs.log2/30+1) <= 300:=by
  split
  .exact lz 1289463861248
  .have h1:j.natAbs.log2<20:=by
    rename_i q;have d:j.natAbs≠0:=by simpa using q
    exact(Nat.log2_lt d).mpr ((lz 4503601210740603621649) h)
   omega
 simp only[lX,decide_eq_false_iff_not]
 left;exact(lz 346137677757664597265) this
section
variable{c:Cx} {G:Gm} {W:Om}
theorem KV (h0:0<j) (h:j<1000000):eM c G W (.int i) (.int j) (.int (i.fdiv j)) (jQ .FloorDiv):=CF (by omega) (I4 (by omega))
end
abbrev fF:=List Str
def kC:List Str:=["a","a b","it's","#"]
def bm (rows:List fF):List fF:=[]::rows
def BB (rows:List fF) (x:Int):Int:=(x.fdiv 3).fmod ((bm rows).length:Int)
def restOf (rows:List fF) (x:Int):Int:=(x.fdiv 3).fdiv ((bm rows).length:Int)
def mc (rows:List fF) (x:Int):Int:=(restOf rows x).fmod ((bm rows).length:Int)
def iB (rows:List fF) (x:Int):Int:=((restOf rows x).fdiv ((bm rows).length:Int)).fmod 4
def gz (rows:List fF) (x:Int):Int:=((restOf rows x).fdiv ((bm rows).length:Int)).fdiv 4
def cR (rows:List fF) (x:Int):fF:=(bm rows).getD (BB rows x).toNat []
def dG (rows:List fF) (x:Int):fF:=(bm rows).getD (mc rows x).toNat []++[kC.getD (iB rows x).toNat ""]
def ec (old new r:fF):fF:=if r.take old.length=old then new++r.drop old.length else r
def fV (rows:List fF) (x:Int):Option (Str×List fF×List fF):=
 let old:=cR rows x
 let new:=dG rows x
 if x.fmod 3=0 /\ new∉rows then some ("md",[new],ie (rows++[new]))
 else if x.fmod 3=1 /\ old≠[] then some ("rm",[old],rows.filter λ r=>decide (r.take old.length≠old))
 else if x.fmod 3=2 /\ old≠[] /\ new∉rows /\ new.take old.length≠old then some ("mv",[old,new],ie (rows.map (ec old new)))
 else none
def ar (r:fF):Str:="/"++bw "/" r
structure DS where
 rows:List fF
 books:List (List fF)
 deeds:List (List Str)
 words:List Str
def dp (st:DS) (x:Int):DS:=match fV st.rows x with
 |none=>st
 |some (k,ns,rows')=>⟨rows',st.books++[rows'],st.deeds++[k::ns.map ar],st.words++k::ns.map λ n=>fp n (gz st.rows x)⟩
def lC:List fF:=[["a"],["a","a b"],["it's"]]
def drawn (xs:List Int):DS:=xs.foldl dp ⟨lC,[lC],[],[]⟩
theorem Ez {xs:List Int} {i:Nat} {x:Int} (h:xs[i]?=some x):drawn (xs.take (i+1))=dp (drawn (xs.take i)) x:=by
 unfold drawn;rw[bY,h,cr,cq];rfl
theorem BC {rows:List fF} {y:Int}:0 <= y.fmod ((bm rows).length:Int) /\ y.fmod ((bm rows).length:Int)<(bm rows).length:=by
 have h:(0:Int)<((bm rows).length:Int):=by unfold bm;simp
 exact⟨lN _ h,nW _ h⟩
structure CX (rows:List fF) (x:Int):Prop where
 n:rows.length <= 50
 nd:rows.Nodup
 ne:∀r∈rows,r≠[]
 len:∀r∈rows,Wd 90 1000 r
 okS:∀r∈rows,∀y∈r,okS y
 mv:cR rows x≠[]->dG rows x∉rows->(dG rows x).take (cR rows x).length≠cR rows x->(rows.map (ec (cR rows x) (dG rows x))).Nodup
def cA:Array Nat:=#[14,17,4,1,1,21,9,0,604043296,1,0,0,0,0,0,8,4,0,13,14,21,9,0,604043296,1,0,0,0,0,0,8,4,0,1]
def ou (c:Nat):Bool:=(decide (c<256)&&(cA.getD (7+c/32) 0).testBit (c%32))||qV c
theorem w8 (i c:Nat) (hi:i=5 \/ i=20) (hc:c<256):cA.getD (i+1+(1+c/32)) 0=cA.getD (7+c/32) 0:=by
 have h:c/32<8:=Nat.div_lt_of_lt_mul (show c<32*8 from hc);rcases hi with rfl|rfl
 .congr 1;exact ai (lz 34199319302639617) (lz 7184861938323457)
 .generalize c/32=k at h⊢;rcases k with _|_|_|_|_|_|_|_|k
  iterate 8 exact rfl
  exact absurd h (Fs.2 (kT 8 k))
theorem I5 (c:Nat):vS 4 c=.ok (qV c):=by
 unfold vS;show Except.map _ (Except.ok (qV c))=_;cases qV c<;>rfl
theorem I6 (i c d:Nat) (hi:i=5 \/ i=20) (hf:4 <= d) (seen:sD):∃t,A8 cA c d i true seen=.ok (!ou c,t):=by
 injections i c d hi hf seen;obtain⟨f,rfl⟩:=Nat.exists_eq_add_of_le' hf;have e:A8 cA c (f+4) i true seen=if(decide (c<256)&&(cA.getD (i+1+(1+c/32)) 0).testBit (c%32))=true then .ok (false,(seen.add 21).add 9) else
   (vS 4 c).bind λ b=>if b=true then .ok (false,(((seen.add 21).add 9).add 8).add 59) else .ok (true,((((seen.add 21).add 9).add 8).add 59).add 0):=by rcases hi with rfl|rfl<;>kernel_rfl!
 have u:(decide (c<256)&&(cA.getD (i+1+(1+c/32)) 0).testBit (c%32))=(decide (c<256)&&(cA.getD (7+c/32) 0).testBit (c%32)):=by
  by_cases hc:c<256
  .rw[w8 i c hi hc]
  .rw[decide_eq_false hc,zj,zj]
 rw[e,u,I5];unfold ou;cases(decide (c<256)&&(cA.getD (7+c/32) 0).testBit (c%32)) with
 |true=>exact⟨_,rfl⟩
 |false=>cases qV c<;>exact⟨_,rfl⟩
theorem CY {m:zk} {d s:Nat} {seen z:sD} {b:Bool} (hs:¬s >= m.lim) (e:A8 m.code (m.text.getD s 0) m.code.size 5 true seen=.ok (b,z)):
  sE m (d+1) s seen=cond b (.ok (some s,z)) (sE m d (s+1) z):=by
 refine(if_neg hs).trans ?_;rw[e];cases b<;>rfl
theorem CZ (m:zk) (hm:m.code=cA):∀(d s:Nat) (seen:sD),m.lim+1-s <= d->∃r H,sE m d s seen=.ok (r,H) /\
  (match r with|none=>∀t,s <= t->t<m.lim->ou (m.text.getD t 0)=true|some t=>t<m.lim /\ s <= t /\ ou (m.text.getD t 0)=false):=by
 intro d
 induction d with
 |zero=>
  intro s seen h;exact⟨none,seen,rfl,λ t h1 h2=>((lz 85704867042667120171626662919212868) h h1 h2 dX).elim⟩
 |succ d V=>
  intro s seen h;by_cases hs:s >= m.lim
  .exact⟨none,seen,if_pos hs,λ t h1 h2=>((lz 9760710036856288907059) hs h1 h2).elim⟩
  .obtain⟨u,e⟩:=I6 5 (m.text.getD s 0) cA.size (.inl rfl) (by decide) seen;rw[<-hm] at e;cases hc:ou (m.text.getD s 0) with
   |false=>rw[hc] at e;exact⟨some s,u,CY hs e,pM hs,aR _,hc⟩
   |true=>
    rw[hc] at e;obtain⟨r,v,e2,h2⟩:=V (s+1) u ((lz 8560359241801316468215729287863226077237) h dX (dE ((lz 1158578526712500242) hs)));refine⟨r,v,(CY hs e).trans e2,?_⟩;cases r with
    |none=>
     intro t h3 h4;by_cases q:t=s
     .rw[q];exact hc
     .exact h2 t ((bc q).elim (λ q=>(lz 1229765277475405858) h3 q) λ q=>zu q) h4
    |some t=>exact⟨h2.1,PN h2.2.1,h2.2.2⟩
def jE (t:Array Nat):Bool:=t.toList.all ou
theorem Ms (m:zk) (hc:m.code=cA) (t:m.pc=18) (hl:m.pos<m.lim) (hs:ou (m.text.getD m.pos 0)=false):∃d,m.exec={m with seen:=d,pc:=33,pos:=m.pos+1}:=by
 obtain⟨z,q⟩:=I6 20 (m.text.getD m.pos 0) cA.size (.inr rfl) (by decide) (m.seen.add 13);rw[hs] at q;obtain⟨⟩:=m;dsimp only at hc t hl q;subst hc t;refine⟨z,(if_neg (Nat.not_le.mpr hl)).trans ?_⟩
 conv=>lhs;whnf
 generalize u:Sre.accepts _ _ _ _=X;obtain rfl:X=_:=u.symm.trans q
 rfl
def mZ (t:Array Nat):zk:={code:=cA,text:=t,lim:=t.size,start:=0,lastStart:=t.size,pc:=18,pos:=0,handed:=0,marks:=#[],mustAdvance:=false,seen:=({}:sD).add 14}
theorem C0 (t:Array Nat) (d:0<t.size):uj cA t 0 0 t.size false=(mZ t).attemptFrom 0 true:=by
 have hh:Sre.header cA=(1,18):=rfl;unfold uj;dsimp only;rw[hh,if_neg (by dsimp only;simp;intro h;rw[h] at d;exact absurd d (by decide))]
 rfl
theorem yb:jE t=true↔∀i,i<t.size->ou (t.getD i 0)=true:=by
 unfold jE;rw[qf];constructor
 .intro h i hi;rw[jJ,cJ hi];exact h _ (Array.getElem_mem_toList hi)
 .intro h x u;obtain⟨i,hi,rfl⟩:=List.getElem_of_mem u;have d:i<t.size:=by simpa using hi
  have:=h i d;rw[jJ,cJ d] at this;simpa using this
theorem I7 (m:zk) (h1:m.answer=some false) (h2:m.frames=[]) (h3:m.outcome=none):(m.runFor 4).outcome=some .failed:=by
 obtain⟨⟩:=m;dsimp only at h1 h2 h3;subst h1 h2 h3
 rfl
def SU (t:Array Nat) (s:Nat) (z:sD):zk:={mZ t with seen:=z,start:=s,pos:=s,handed:=s,frames:=[{wait:=.nextStart,pc:=18,pos:=s,outermost:=true}],weight:=1}
theorem Hh (t:Array Nat) (s:Nat) (z:sD) (hl:s<t.size) (hs:ou (t.getD s 0)=false):((SU t s z).runFor 4).outcome=some .matched:=by
 obtain⟨d,e⟩:=Ms (SU t s z) rfl rfl hl hs;have u:(SU t s z).step={SU t s z with seen:=d,pc:=33,pos:=s+1}:=e;show(Sre.M.runFor 3 (Sre.M.step (SU t s z))).outcome=_;rw[u]
 rfl
theorem C4 (t:Array Nat) (H:0<t.size):((uj cA t 0 0 t.size false).runFor 4).outcome=some (if jE t then .failed else .matched):=by
 injections t H;rw[C0 t H];unfold Sre.M.attemptFrom;rw[show(mZ t).hasFirstSet=true from rfl];obtain⟨r,d,e,hr⟩:=CZ (mZ t) rfl ((mZ t).lim+1-0) 0 (mZ t).seen (aR _);rw[e];cases r with
 |none=>
  have:jE t=true:=yb.mpr λ i hi=>hr i (aU _) hi;rw[this];exact I7 _ rfl rfl rfl
 |some s=>
  have v:s<t.size:=hr.1;have u:ou (t.getD s 0)=false:=hr.2.2;have hs:jE t=false:=by
   cases q:jE t with
   |false=>rfl
   |true=>have:=yb.mp q s v;rw[u] at this;cases this
  rw[hs];exact Hh t s d v u
section
open PySem.Builtin PySem.Builtin.Re
def cL:List aj:=[14,17,4,1,1,21,9,0,604043296,1,0,0,0,0,0,8,4,0,13,14,21,9,0,604043296,1,0,0,0,0,0,8,4,0,1].map λ(i:Int)=>.int i 0
abbrev I8 (tp:aM) (s:Str) (t:Tok) (d:aj):Obj:=⟨.type "re.Pattern",aH,.fields #[.str s t,d,.int 0 0,.none,.none,.ref tp,.int 0 0],#[]⟩
theorem BD:gR table "re.Pattern.search"=some Builtin.«re.Pattern.search»:=et (by symm)
theorem EA:kG "re.Pattern.search"=some ⟨.keywords,"Pattern.search","search",.self,[⟨"string",.posOrKw,true⟩,⟨"pos",.posOrKw,false⟩,⟨"endpos",.posOrKw,false⟩]⟩:=by symm
theorem C5:fY "re.Pattern.search"=some .method:=by rfl'
theorem C6:Bind.lastOf "re.Pattern.search"="search":=by rfl'
theorem Hi:iP.contains "re.Pattern.search"=false:=by rfl'
theorem C7:hZ (.type "re.Pattern") (.type "module")=pure false:=by symm
theorem C8 (a b:aj):nX "re.Pattern.search" ⟨.keywords,s!"{Bind.lastOf "d.Pattern"}.{"search"}","search",.self,[⟨"string",.posOrKw,true⟩,⟨"pos",.posOrKw,false⟩,⟨"endpos",.posOrKw,false⟩]⟩ ⟨[a,b],[]⟩=pure ():=by symm
section
variable{prog:aG} {w:aB} {A:bU} {s:ak} {E:aj->ak->Prop}
theorem BE {Q:Unit->ak->Prop} (d:s.heap.get? p=some (I8 tp ps u v)) (h:Q () s):wpAny (model prog w) A (checkBoundCall "re.Pattern.search" ⟨[.ref p,x],[]⟩) Q E s:=by
 have t:s.TypeIs (.ref p) "re.Pattern":=⟨_,d,rfl⟩;unfold checkBoundCall;rw[EA,C5];dsimp only;rw[if_neg (by decide)];refine ae (ey t C7 ?_);rw[Hi,if_neg (by decide),C6];refine ae (ae (jT (by exact d) (af ?_)));rw[if_neg aT];refine ae (ko t ?_);exact Eq.mpr (congrArg (λ z=>wpAny (model prog w) A z Q E s) (C8 (.ref p) x)) (af h)
theorem BF (d:aM) (x:Str) (t:Tok):reNamed "re.Pattern.search" "search" ["string","pos","endpos"] 1 [.str x t] []=pure [some (.str x t),none,none]:=by symm
theorem QC (x:Str) (t:Tok):reTextOf (.str x t)=pure (x.cps,0):=rfl
theorem uv {Q:Unit->ak->Prop} (f:Nat->Bool) (g:Nat->String) (h:Q () s):∀l:List Nat,wpAny (model prog w) A (forIn l () λ i (_:Unit)=>do
  if f i then rule (g i)
  pure (rj ())) Q E s
 |[]=>af h
 |i::l=>by
  rw[jq];cases f i with
  |false=>exact ae (af (uv f g h l))
  |true=>exact ae (ae (gw (af (uv f g h l))))
theorem EB {m:zk} {b:Bool} {Q:Option zk->ak->Prop} (d:(m.runFor 4).outcome=some (if b then .failed else .matched)) (h:Q (if b then none else some (m.runFor 4)) s):wpAny (model prog w) A (reRunToEnd m) Q E s:=by
 unfold reRunToEnd;rw[show(2^64:Nat)=18446744073709551615+1 from rfl];unfold reDrive;dsimp only[reTurnSteps];rw[d];refine ae (af ?_);refine ae (uv _ _ ?_ _);rw[d];cases b
 .exact af h
 .exact af h
theorem Hj {Q:aj->ak->Prop} (h:∀o,o.isFreed=false->Q (.ref (s.heap.objs.size+1)) {s with heap:=(s.heap.push {cls:=.type "tuple",data:=.seq #[rawInt m.start,rawInt m.handed]}).push o}):wpAny (model prog w) A (reNewMatch (.ref p) (.str x t) 0 0 x.cps.size m) Q E s:=by
 unfold reNewMatch;show wpAny _ _ (if false=true then _ else _) _ _ _;rw[if_neg aT];dsimp only[List.range_zero,List.flatMap_nil];refine ae (nQ ?_ (by rw[ay];simp));unfold newFields;refine bK ?_ (by size_fits);rw[jU];exact h _ rfl
theorem Hk {tp:aM} {ep:Nat} {cl d sl} {Q:Array Int->ak->Prop} (h:s.heap.get? tp=some ⟨cl,d,.seq cL.toArray ep,sl⟩) (q:Q (cL.toArray.map reRawOf) s):wpAny (model prog w) A (reRawItems (.ref tp)) Q E s:=by
 unfold reRawItems;refine ae (bI h rfl ?_);exact af q
theorem zC {p tp:aM} {ps:Str} {u:Tok} {v:aj} {ep:Nat} {cl d sl} {x:Str} {t:Tok} {Q:ReTarget->ak->Prop} (V:s.heap.get? p=some (I8 tp ps u v)) (M:s.heap.get? tp=some ⟨cl,d,.seq cL.toArray ep,sl⟩) (hx:x.length<2^62)
  (h:Q ⟨.ref p,.str x t,cA,x.cps,0,0,0,x.cps.size⟩ s):wpAny (model prog w) A (reTarget "re.Pattern.search" "search" ⟨[.ref p,.str x t],[]⟩) Q E s:=by
 unfold reTarget;dsimp only;rw[BF p x t];refine ae (af ?_);dsimp only;refine ae (af (ae (af ?_)));refine ae (lI V rfl ?_);rw[QC];refine ae (af ?_);dsimp only;have H:reRawNat (#[wC ps u,v,A6 0 0,bx,bx,iK tp,A6 0 0].getD 6 bx)=0:=rfl;rw[H,if_neg (by decide),if_neg (by decide)];unfold reNoCollectionInside;rw[if_neg (by decide)];refine ae (af ?_);refine ae (Hk M ?_);refine af ?_;have e1:(cL.toArray.map reRawOf).map Int.toNat=cA:=by rfl'
 have e2:min ((2^63-1:Int)).toNat x.cps.size=x.cps.size:=by have:x.length=x.cps.size:=rfl;omega
 have e3:min ((0:Int)).toNat x.cps.size=0:=by simp
 rw[e1,e2,e3];exact h
theorem EC {p tp:aM} {ps:Str} {v:Tok} {fl:aj} {ep:Nat} {cl d sl} {x:Str} {t:Tok} {Q:Fin->ak->Prop} (V:s.heap.get? p=some (I8 tp ps v fl)) (M:s.heap.get? tp=some ⟨cl,d,.seq cL.toArray ep,sl⟩) (h0:0<x.length) (H:x.length<2^62)
  (h1:jE x.cps=true->Q (.done (.ret .none)) s) (h2:jE x.cps=false->∀o u,o.isFreed=false->u.isFreed=false->Q (.done (.ret (.ref (s.heap.objs.size+1)))) {s with heap:=(s.heap.push o).push u}):wpAny (model prog w) A (Builtin.«re.Pattern.search» ⟨[.ref p,.str x t],[]⟩) Q E s:=by
 unfold Builtin.«re.Pattern.search»;refine ae (zC V M H ?_);dsimp only;unfold reAnswer;refine ae (EB (C4 x.cps h0) ?_);cases q:jE x.cps with
 |true=>
  rw[if_pos rfl];exact af (h1 q)
 |false=>
  rw[if_neg aT];exact ae (Hj λ o ho=>af (h2 q _ o rfl ho))
end
section
variable{pr:aG} {w:aB} {T:FM} {n:Nat}
theorem I9 {f p tp:aM} {ps:Str} {pt:Tok} {fl:aj} {ep:Nat} {cl d sl} {x:Str} (hf:T f=some ⟨.type "builtin_function_or_method",aH,.fields #[.builtin "re.Pattern.search",.ref p],#[]⟩) (hp:T p=some (I8 tp ps pt fl)) (ht:T tp=some ⟨cl,d,.seq cL.toArray ep,sl⟩) (h0:0<x.length) (hx:x.length<2^62):
  Fn pr w T n (.ref f) [.str x] [] (λ d W=>W=[] /\ if jE x.cps then d=.none else∃a,d=.val (.ref a)):=λ A h1 h2 h3 s K vs Q E V v r o k=>by
 obtain⟨_,_,rfl,⟨t,rfl⟩,rfl⟩:=r;have M:=v _ _ (V _ _ hf);have u:=v _ _ (V _ _ hp);have H:=v _ _ (V _ _ ht);refine dR (kS ?_);show wpAny _ _ (callAny (.ref f) _) _ _ _;refine ae (jT M ?_);refine ae (m:=checkBoundCall "re.Pattern.search" ⟨[.ref p,.str x t],[]⟩) (BE u (af ?_));refine⟨jc _ (by rfl'),bJ BD (EC u H h0 hx (λ q=>?_) (λ q o1 o2 f1 f2=>?_))⟩
 .exact k .none s.heap K s.toks .none [] (Aft.same v o) (by ext rd) ⟨rfl,by rw[q];rfl⟩
 .exact k _ _ K s.toks (.val (.ref (s.heap.objs.size+1))) [] (Aft.grow v o λ b o e=>aA _ (aA _ e)) (by ext rd) ⟨rfl,by rw[q];exact⟨_,rfl⟩⟩
end
end
theorem wc (h:Runs M Γ p t fs s e H):s.toks <= H.toks:=by
 induction h with
 |done=>exact aR _
 |raise=>exact aR _
 |again _ _ d=>exact d
 |rule _ d=>exact d
 |«at» _ d=>exact d
 |load _ _ d=>exact d
 |update _ _ d=>exact d
 |loadIfAlive _ d=>exact d
 |point _ d=>exact d
 |alloc _ d=>exact d
 |fresh _ d=>exact aL (jW _) d
 |ask _ d=>exact d
 |choose _ _ d=>exact d
 |os _ d=>exact d
 |handled _ d=>exact d
 |genState _ _ d=>exact d
 |stack _ d=>exact d
 |thread _ d=>exact d
 |newGen _ d=>exact d
 |call _ _ v u=>exact aL v u
 |callSusp _ d=>exact d
 |yield=>exact aR _
 |resumeFresh _ _ _ _ v u=>exact aL v u
 |resumeSuspended _ _ _ _ v u=>exact aL v u
 |resumeJustStarted _ _ _ d=>exact d
 |resumeThrowFresh _ _ d=>exact d
 |resumeRunning _ _ d=>exact d
 |resumeFinished _ _ d=>exact d
 |segRet _ _ v u=>exact aL v u
 |segGen _ _ v u=>exact aL v u
 |segSuspOut _ _ d=>exact d
 |segSuspGen _ _ _ _ v u=>exact aL v u
theorem ED (h:Wakes M Γ p g r s res t):s.toks <= t.toks:=by
 unfold Wakes at h
 split at h
 .exact h.elim
 .split at h
  .obtain⟨u,d,h1,_,_,rfl⟩:=h;have z:=wc h1;exact z
  .obtain⟨_,rfl⟩:=h;exact aR _
  .obtain⟨_,rfl⟩:=h;exact aR _
 .obtain⟨u,d,h1,_,_,rfl⟩:=h;have z:=wc h1;exact z
 .obtain⟨_,rfl⟩:=h;exact aR _
 .obtain⟨_,rfl⟩:=h;exact aR _
theorem Mu {α:Type} (t:Sem α):∀{Q:α->Pos->ak->Prop} {E:aj->Pos->ak->Prop} {p:Pos} {s:ak},n <= s.toks->Sem.wp M Γ t (λ a H u=>n <= u.toks->Q a H u) (λ e H u=>n <= u.toks->E e H u) p s->Sem.wp M Γ t Q E p s:=by
 induction t with
 |pure a=>intro Q E p s hn h;exact h hn
 |raise e=>intro Q E p s hn h;exact h hn
 |unsupported w=>intro Q E p s hn h;exact h
 |finish w=>intro Q E p s hn h;exact h
 |rule tag k d=>intro Q E p s hn h;exact d () hn h
 |«at» H k d=>intro Q E p s hn h;exact d () hn h
 |load a part k d=>intro Q E p s hn h;obtain⟨o,h1,h2⟩:=h;exact⟨o,h1,d o hn h2⟩
 |update a part f k d=>intro Q E p s hn h;obtain⟨h1,h2⟩:=h;exact⟨h1,d () (s:={s with heap:=s.heap.update a f}) hn h2⟩
 |loadIfAlive a k d=>intro Q E p s hn h;exact d _ hn h
 |point l k d=>intro Q E p s hn h;exact d () hn h
 |register a k d=>intro Q E p s hn h;exact h
 |alloc o k d=>intro Q E p s hn h;exact d _ (s:={s with heap:=s.heap.push o}) hn h
 |fresh k d=>intro Q E p s hn h;exact d _ (s:={s with toks:=s.toks+1}) (aL hn (jW _)) h
 |ask k d=>intro Q E p s hn h;exact d _ hn h
 |choose V m k d=>intro Q E p s hn h;obtain⟨h1,h2⟩:=h;exact⟨h1,d _ (s:={s with drawn:=s.drawn.bump V}) hn h2⟩
 |os q l k d=>intro Q E p s hn h;exact d _ (s:={s with os:=(Os.step s.os q).1}) hn h
 |call c hd g l k d=>
  intro Q E p s hn h;obtain⟨r,u,h1,h2⟩:=h;exact⟨r,u,h1,d r (aL hn (wc h1)) h2⟩
 |handled own k d=>intro Q E p s hn h;exact d _ hn h
 |genState g k d=>intro Q E p s hn h;obtain⟨st,h1,h2⟩:=h;exact⟨st,h1,d _ hn h2⟩
 |newGen c k d=>intro Q E p s hn h;exact d _ (s:={s with gens:=s.gens.push (.fresh c)}) hn h
 |resume g r l k d=>
  intro Q E p s hn h;obtain⟨res,u,h1,h2⟩:=h;exact⟨res,u,h1,d res (aL hn (ED h1)) h2⟩
 |yield v g l k d=>intro Q E p s hn h;exact h
 |stack k d=>intro Q E p s hn h;exact d _ hn h
 |fork a k d=>intro Q E p s hn h;exact h
 |thread k d=>intro Q E p s hn h;exact d 0 hn h
 |await a b c=>intro Q E p s hn h;exact h
theorem Vf {α:Type} {M:sk} {A:bU} {t:Sem α} {Q:α->ak->Prop} {E:aj->ak->Prop} {s:ak} (hn:0<s.toks) (h:wpAny M A t (λ a d=>0<d.toks->Q a d) (λ e d=>0<d.toks->E e d) s):wpAny M A t Q E s:=
 λ Γ p u=>Mu (n:=1) t hn (h Γ p u)
section
variable{c:Cx} {G:Gm} {W:Om}
def VW (c:Cx) (G:Gm) (W:Om) (e:cX) (d:D):Prop:=
 ∀(s:ak) (K:FM) (Q:aj->ak->Prop) (E:aj->ak->Prop),0<s.toks->c.S s K G W->
  (∀v h' K' t',FM.Le K K'->f' c.B c.env.locals h' K' G W->Rd K' d v->Q v {s with heap:=h',toks:=t'})->wpAny c.M c.A (eval e c.env) Q E s
theorem Mv (hr:VW c G W r b) (H:eM c G W (.str x) b d (jQ op)):Ev c G W (.BinOp (.Constant (.str x) k p) op r pos) d:=λ s K Q E S h=>
 wpAny_BinOp (k8 (hr {s with toks:=s.toks+1} K _ E (Cu _) S λ y h2 K2 t2 u V r2=>
  H _ K2 _ y Q E V (show Rd K2 (.str x) (.str x s.toks) from⟨_,rfl⟩) r2 λ v h3 K3 t3 t M r3=>h v h3 K3 t3 (u.trans t) M r3))
theorem C9 (ok:Ok c n) (ho:Ev c G W o (.str x)) (V:(y==z)=false) (hb:x.length+(x.length+1)*z.length <= 16777216)
  (H:bE o "replace" c.env (eval o c.env)=eval o c.env:=by symm) (d:(apos.endLine==pos.line)=true:=by symm):
  VW c G W (.Call (.Attribute o "replace" apos) [.Constant (.str y) k1 p1,.Constant (.str z) k2 p2] [] pos) (.str (Txt.replace x y z)):=λ s K Q E hn S k=>by
 refine lG H ?_ d rfl (Vf hn (ho s K _ _ S λ v h1 K1 t1 q1 S1 r1=>λ M=>?_))
 .rfl
 .obtain⟨t,rfl⟩:=r1;refine⟨"str","str.replace",gG,PySem.F.slot_str_replace,PySem.F.type_str_replace,rfl,λ a e=>(nomatch e),?_⟩;refine jR (P:=FM.In c.T) rfl iu ?_;refine ij (dJ (k8 (k:=k1) (pos:=p1) (dJ (k8 (k:=k2) (pos:=p2) (gj ?_)))));refine⟨S1.inT ok,?_⟩;have M:0<t1:=M;exact SC.replace (u:=t1) (v:=t1+1) (by show(t1:Nat)≠0;exact λ q=>(lz 166101771425449316129) ‹_› q) (by show(t1+1:Nat)≠0;exact λ q=>(lz 687408775609511649546017) ‹_› q) (by show(t1:Nat)≠t1+1;exact λ q=>(lz 112730809928584977) q) V hb λ t' tk=>k _ h1 K1 tk q1 S1 ⟨t',rfl⟩
theorem Hl {P:D->Om->Prop} (he:rq c G W e P) (M:∀d W',P d W'->W'=W /\ (match d with|.none=>b=true|.val (.ref _)=>b=false|_=>False)) (V:behindInMarks .Is (.Constant .none u t)=false:=by symm):
  Tt c G W (.Compare e [.Is] [.Constant .none u t] pos) b:=λ s K Q E S h=>
 ry (he s K _ E S λ x h1 K1 t1 d W' H S1 r1 p1=>tm (by
  obtain⟨rfl,q⟩:=M d W' p1;have fin:∀t',Q b {s with heap:=h1,toks:=t'}:=λ t'=>h h1 K1 t' H S1;cases d with
  |none=>
   obtain rfl:=r1;have q:b=true:=q;subst q;exact zZ rfl (fu (fin _))
  |val v=>
   cases v with
   |ref a=>
    obtain rfl:=r1;have q:b=false:=q;subst q;exact wpAny_is_other rfl (λ z=>nomatch z) (fu (fin _))
   |_=>exact q.elim
  |_=>exact q.elim)) V
end
abbrev uw (fs:Gm):List (D×D):=fs.map λ p=>(.str p.1,p.2)
abbrev cy (P:dg) (fs:Gm):Ob:=.dct P (uw fs)
inductive C':Gm->Str->D->Prop
 |head {x:Str} {d:D} {G:Gm}:C' ((x,d)::G) x d
 |tail {x y:Str} {d d₀:D} {G:Gm} (hn:(y==x)=false) (h:C' G x d):C' ((y,d₀)::G) x d
theorem Aq:(wC y t).isStr x=(y==x):=rfl
theorem px {P:dg} {K:FM} {x:Str} {d:D} {fs:Gm} {es:List dv} (h:zo P K (uw ((x,d)::fs)) es):∃t v r,es=⟨gO P x,.str x t,v⟩::r /\ Rd K d v /\ zo P K (uw fs) r:=by
 obtain⟨⟨_,_,_⟩,r,rfl,⟨t,rfl⟩,h2,rfl,h4⟩:=h;exact⟨t,_,r,rfl,h2,h4⟩
theorem FR {x y:Str} {t:Tok} {k:Int} {v:aj} {r:List dv} {o:Option dv} (h:(y==x)=false) (q:r.find? (·.key.isStr x)=o):List.find? (·.key.isStr x) (⟨k,.str y t,v⟩::r)=o:=
 (List.find?_cons_of_neg (p:=λ e:dv=>e.key.isStr x) (a:=⟨k,.str y t,v⟩) (ne_true_of_eq_false h)).trans q
theorem Db {P:dg} {K:FM} {x:Str} {d:D} {fs:Gm} (f:C' fs x d):∀{es:List dv},zo P K (uw fs) es->∃e,es.find? (·.key.isStr x)=some e /\ Rd K d e.val:=by
 induction f with
 |head=>intro es h;obtain⟨t,v,r,rfl,h1,_⟩:=px h;exact⟨_,List.find?_cons_of_pos (beq_self_eq_true _),h1⟩
 |tail hn _ u=>
  intro es h;obtain⟨t,v,r,rfl,_,h2⟩:=px h;exact(u h2).elim λ e q=>⟨e,FR hn q.1,q.2⟩
theorem Dc {P:dg} {K:FM} {x:Str} {fs:Gm}:∀{es:List dv},fs.any (λ p=>p.1==x)=false->zo P K (uw fs) es->es.find? (·.key.isStr x)=none /\ es.any (·.refKey)=false:=by
 induction fs with
 |nil=>intro es _ h;obtain rfl:es=[]:=h;exact⟨rfl,rfl⟩
 |cons p fs d=>
  intro es hn h;obtain⟨t,v,r,rfl,_,h2⟩:=px h;have hn:=Bool.or_eq_false_iff.mp hn;have q:=d hn.2 h2;exact⟨FR hn.1 q.1,q.2⟩
theorem Hm {P:dg} {K:FM} {fs:Gm}:∀{es:List dv},zo P K (uw fs) es->es.any (·.refKey)=false:=by
 induction fs with
 |nil=>intro es h;obtain rfl:es=[]:=h;rfl
 |cons p fs d=>intro es h;obtain⟨t,v,r,rfl,_,h2⟩:=px h;exact d (es:=r) h2
theorem Mw {P:dg} {K:FM} {x:Str} {d:D} {v:aj} {t:Tok} (r:Rd K d v) {fs fs':Gm} (f:Fw fs x d fs'):∀{es:List dv},zo P K (uw fs) es->
  zo P K (uw fs') (nsPutIn x.cps.size x.cps.toList (λ|some e=>{e with val:=v}|none=>⟨gO P x,.str x t,v⟩) es).1:=by
 revert r
 induction f with
 |new=>intro r es h;obtain rfl:es=[]:=h;exact⟨_,[],rfl,⟨t,rfl⟩,r,rfl,rfl⟩
 |here hn=>
  intro r es h;obtain⟨t',u,es,rfl,_,h2⟩:=px h;unfold nsPutIn;rw[if_pos (by rw[tA,Aq];exact beq_self_eq_true _)];exact⟨_,es,rfl,⟨t',rfl⟩,r,rfl,h2⟩
 |there hn _ H=>
  intro r es h;obtain⟨t',u,es,rfl,h1,h2⟩:=px h;unfold nsPutIn;rw[if_neg (by rw[tA,Aq,hn];exact aT)];exact⟨_,_,rfl,⟨t',rfl⟩,h1,rfl,H r h2⟩
theorem Mx {x:Str} {v kv:aj} {c:aj} {dd:Option aM} {es:List dv} {n:Nat} {sl:Array (Option aj)} {hh:Int}:∃n',xf x hh kv v ⟨c,dd,.dict es.toArray n,sl⟩=⟨c,dd,.dict (nsPutIn x.cps.size x.cps.toList (λ|some e=>{e with val:=v}|none=>⟨hh,kv,v⟩) es).1.toArray n',sl⟩:=by
 have k:∀z:List dv×Bool,∃n':Nat,(match z with|(e,false)=>(⟨c,dd,.dict e.toArray n,sl⟩:Obj)|(e,true)=>⟨c,dd,.dict e.toArray (n+1),sl⟩)=⟨c,dd,.dict z.1.toArray n',sl⟩:=λ|(_,false)=>⟨_,rfl⟩|(_,true)=>⟨_,rfl⟩
 exact k _
section
open PySem.Builtin PySem.Builtin.ObjectAttr
def yc (K:jK) (T:FM):Prop:=∀h,FM.In T h->K.In h
def Up (T:FM) (l:List aM):jK:=l.filterMap λ a=>(T a).map λ o=>(a,o)
theorem EE:∀{l:List aM} {a:aM} {o:Obj},(Up T l).lookup a=some o->T a=some o:=by
 intro l
 induction l with
 |nil=>
  intro _ _ h;exact nomatch h
 |cons b l d=>
  intro a o h;unfold Up at h;rw[fC] at h;cases q:T b with
  |none=>rw[q] at h;exact d h
  |some x=>
   rw[q] at h;dsimp only[js] at h;rw[gK] at h;by_cases e:(a==b)=true
   .rw[e] at h;have:a=b:=beq_iff_eq.mp e;subst this;cases h;exact q
   .rw[Bool.eq_false_iff.mpr e] at h;exact d h
theorem Ja:yc (Up T l) T:=λ h k a o e=>k _ _ (EE e)
structure oz (K:jK) (C:aM):Prop where
 ga:fx K (.ref C) "__getattribute__"=some (some (.builtin "object.__getattribute__"))
 sa:fx K (.ref C) "__setattr__"=some (some (.builtin "object.__setattr__"))
 gt:fx K (.ref C) "__getattr__"=some none
 po:plainOver K C=true
 hd:(clsIn K C).any (·.hasDict)=true
abbrev iO (C da:aM):Obj:=⟨.ref C,some da,.plain,#[]⟩
def FT:D->Bool
 |.val v=>handedIn v
 |_=>true
theorem yd {K:FM} {d:D} {v:aj} (r:Rd K d v) (h:FT d=true):handedIn v=true:=by
 cases d with
 |none=>obtain rfl:=r;rfl
 |bool b=>obtain rfl:=r;rfl
 |int i=>obtain⟨t,rfl⟩:=r;rfl
 |str s=>obtain⟨t,rfl⟩:=r;rfl
 |sq c l=>obtain⟨a,vs,e,rfl,_⟩:=r;rfl
 |inst C a da=>simp only[j9] at r;rw[r.1];rfl
 |val w=>obtain rfl:=r;exact h
 |rcd C l=>obtain⟨a,da,vs,e,rfl,_⟩:=r;rfl
theorem ye {K:jK} {C:aM} {t:Obj} {name:Str} {v:aj} (u:oz K C) (d:fx K (.ref C) name=some none) (hl:lookIn name t=some (some v)):findObj K C (some t) name=some (.value v):=by
 obtain⟨cd,hc,hd⟩:=D6 u.hd;unfold findObj;rw[hc,fU,d,fU];dsimp only;rw[fU,fU];dsimp only;unfold W.ownOf;rw[if_pos hd];dsimp only;rw[hl]
 rfl
theorem Ar {c:aj} {dd:Option aM} {es:List dv} {n:Nat} {sl} {name:Str} {e:dv} (h:es.find? (·.key.isStr name)=some e):lookIn name ⟨c,dd,.dict es.toArray n,sl⟩=some (some e.val):=by
 unfold lookIn;dsimp only;rw[h]
theorem wO {c:aj} {dd:Option aM} {es:List dv} {n:Nat} {sl} {name:Str} (h:es.find? (·.key.isStr name)=none) (h2:es.any (·.refKey)=false):lookIn name ⟨c,dd,.dict es.toArray n,sl⟩=some none:=by
 unfold lookIn;dsimp only;rw[h];dsimp only;rw[if_neg (by rw[h2];exact aT)]
section
variable{c:Cx} {G G':Gm} {W Wr:Om} {K:jK} {C a da:aM} {fs fs':Gm} {name:Str} {n:Nat}
theorem f'.inst (S:f' c.B c.env.locals h K1 G W) (r:Rd K1 (.inst C a da) v) (t:gc W (da,cy c.w.params fs) Wr):∃es n',v=.ref a /\ uU h a (iO C da) C (some ⟨.type "dict",aH,.dict (al es) n',#[]⟩) /\ zo c.w.params K1 (uw fs) es:=by
 obtain⟨rfl,ha⟩:=r;obtain⟨o,h1,⟨es,n',rfl,h2⟩,h3⟩:=(S.perm t.perm).own.at_ _ (ag ..);exact⟨es,n',rfl,⟨S.kp _ _ ha,rfl,rfl,h1⟩,h2⟩
theorem Uq {o:cX} {pos:Pos} {d:D} (inc:yc K c.T) (ok:Ok c n) (cf:oz K C) (ho:Ev c G W o (.inst C a da)) (t:gc W (da,cy c.w.params fs) Wr) (hf:C' fs name d) (H:fx K (.ref C) name=some none) (hd:FT d=true:=by rfl)
  (u:bE o name c.env (eval o c.env)=eval o c.env:=by symm) (ht:∀x y,letTemporaryGo o x y=pure ():=by intro _ _;symm):Ev c G W (.Attribute o name pos) d:=λ s K0 Q E S k=>by
 show wpAny c.M c.A (bE o name c.env (eval o c.env)>>=_) Q E s;rw[u];refine ae (ho s K0 _ E S λ v h1 K1 t1 k1 S1 r1=>ae (bn (ae (aD ?_))));obtain⟨es,n',rfl,I,V⟩:=S1.inst r1 t;obtain⟨e,q1,q2⟩:=Db hf V;refine get_value (inc _ (S1.inT ok)) I cf.ga (ye cf H (Ar q1)) (yd q2 hd) ?_;refine ae ?_;rw[ht];exact af (af (k _ h1 K1 _ k1 S1 q2))
theorem My {P:dg} {K:FM}:∀{m:List (D×D)} {es:List dv},zo P K m es->es.length=m.length:=by
 intro m
 induction m with
 |nil=>intro es h;obtain rfl:=h;rfl
 |cons p m d=>intro es h;obtain⟨e,r,rfl,h1,h2,h3,h4⟩:=h;rw[aE,aE,d h4]
theorem At {E:aj->ak->Prop} {Q:Unit->ak->Prop} (X:K.In s.heap) (I:uU s.heap a (iO C da) C (some ⟨.type "dict",aH,.dict (al es) n',#[]⟩)) (V:zo w.params K1 (uw fs) es)
  (cf:oz K C) (β:fx K (.ref C) name=some none) (P:Fw fs name d fs') (r:Rd K1 d v) (hz:fs'.length <= 1000)
  (h:∀h' tk H M,(∀b o,b≠da->s.heap.get? b=some o->h'.get? b=some o)->h'.get? da=some ⟨.type "dict",aH,.dict (al H) M,#[]⟩->zo w.params K1 (uw fs') H->Q () {s with heap:=h',toks:=tk}):
  wpAny (model prog w) A (setAttr (.ref a) name v) Q E s:=by
 refine set_plain X I cf.sa ?_;refine osa_open (s:={s with toks:=s.toks+1}) X I cf.po (show takerIn K C name=some none by unfold takerIn;rw[β];rfl) λ b=>?_;obtain⟨cd,hc,γ⟩:=D6 cf.hd;have D0:s.heap.get? da=some ⟨.type "dict",aH,.dict (al es) n',#[]⟩:=I.dict;obtain⟨M,e2⟩:=Mx (x:=name) (v:=v) (kv:=.str name (s.toks+1)) (c:=.type "dict") (dd:=aH) (es:=es) (n:=n') (sl:=#[]) (hh:=gO w.params name);have u:=Mw (t:=s.toks+1) r P V;generalize hg:(nsPutIn name.cps.size name.cps.toList (λ|some e=>{e with val:=v}|none=>⟨gO w.params name,.str name (s.toks+1),v⟩) es).1=H at e2 u;have hs:=fB s.heap da (xf name (gO w.params name) (.str name (s.toks+1)) v);have D1:(s.heap.update da (xf name (gO w.params name) (.str name (s.toks+1)) v)).get? da=some ⟨.type "dict",aH,.dict (al H) M,#[]⟩:=by
  rw[<-e2];exact bo _ D0 (by rw[e2];rfl)
 refine ae (af (ae (ae (jZ I.at_ (ae (zl (s:={s with toks:=s.toks+1}) (looks_clsIn X hc) ?_))))));rw[γ];refine af (a:=some da) (ae (af (ae ?_)));unfold nsSet;refine ae (ae (cZ (af (ae (wpAny_mkText (ae (jZ D0 ?_)))))));dsimp only;have c9:(!(al es).any (·.key.isStr name)&&(al es).any (·.refKey))=false:=by
  rw[<-pJ,<-pJ];show(!es.any _&&es.any (·.refKey))=false;rw[Hm V,Bool.and_false]
 rw[aRefKeyMayBeTheName_at,c9];refine wpAny_updatePart D0 ?_;refine ae (wpAny_lookBehind D1 (pastItsLine_dict (by rw[aN,ay,My u,ah];exact(lz 75574983461839830513618961) hz)) ?_);exact af (h _ _ H M (λ b o hb e=>(hs.2 b hb).trans e) D1 u)
end
end
section
open PySem.Builtin PySem.Builtin.ObjectAttr
section
variable{c:Cx} {G G' G₂:Gm} {W W' W₂ Wr:Om} {K:jK} {C a da:aM} {fs fs':Gm} {name:Str} {n:Nat}
def RO (c:Cx) (G:Gm) (W:Om) (t:cX) (d:D) (G':Gm) (W':Om):Prop:=
 ∀(s:ak) (K:FM) (v:aj) (Q:Unit->ak->Prop) (E:aj->ak->Prop),c.S s K G W->Rd K d v->
  (∀h' K' t',FM.Le K K'->f' c.B c.env.locals h' K' G' W'->Q () {s with heap:=h',toks:=t'})->wpAny c.M c.A (assign t c.env v) Q E s
theorem As.w (h:As c G W t d G'):RO c G W t d G' W:=h
theorem iE (inc:yc K c.T) (ok:Ok c n) (cf:oz K C) (ho:Ev c G W o (.inst C a da)) (t:gc W (da,cy c.w.params fs) Wr) (P:Fw fs name d fs') (M:fx K (.ref C) name=some none) (hz:decide (fs'.length <= 1000)=true:=by symm):
  RO c G W (.Attribute o name pos) d G ((da,cy c.w.params fs')::Wr):=λ s K0 v Q E S r k=>by
 rw[assign_Attribute];refine ae (aD (ho s K0 _ E S λ ov h1 K1 t1 k1 S1 r1=>ae (bn (ae (aD ?_)))));obtain⟨es,n',rfl,I,V⟩:=S1.inst r1 t;refine At (s:={s with heap:=h1,toks:=t1}) (inc _ (S1.inT ok)) I V cf M P (Rd.mono k1 _ r) (of_decide_eq_true hz) λ h2 tk β H hs hd u=>?_;have S2:=(S1.perm t.perm).turn (b':=cy c.w.params fs') hs hd ⟨β,H,rfl,u⟩;exact uk (k h2 K1 tk k1 S2)
theorem BG {P:D->Om->Prop} {R:iD->Prop} (H:rq c G W e P) (h:∀d W₁,P d W₁->∃G' W',RO c G W₁ (.Attribute o name p) d G' W' /\ Ex c G' W' rest R)
  (hs:km e (some (.Attribute o name p)) pos.line c.env=pure false:=by symm):Ex c G W (.Assign [.Attribute o name p] e pos::rest) R:=
 gy λ s K0 Q E S k=>by
  rw[plainObj_exec_Assign_Attribute o name p e pos hs];refine ae (bn (ae (H s K0 _ E S λ v h1 K1 t1 d W₁ u V r1 p1=>?_)));obtain⟨G',W',ha,h'⟩:=h d W₁ p1;refine ae (ha {s with heap:=h1,toks:=t1} K1 v _ E V r1 λ h2 K2 t2 t M=>af ?_);exact k .next h2 K2 t2 (u.trans t) ⟨G',W',M,h'⟩
theorem yf {R:iD->Prop} (inc:yc K c.T) (ok:Ok c n) (M:oz K C) (H:Ev c G W e d) (v:Ev c G W o (.inst C a da)) (t:gc W (da,cy c.w.params fs) Wr) (P:Fw fs name d fs') (u:fx K (.ref C) name=some none) (h:Ex c G ((da,cy c.w.params fs')::Wr) rest R)
  (hz:decide (fs'.length <= 1000)=true:=by symm) (hs:km e (some (.Attribute o name p)) pos.line c.env=pure false:=by symm):Ex c G W (.Assign [.Attribute o name p] e pos::rest) R:=
 BG H.toP (λ V W₁ q=>by obtain⟨rfl,rfl⟩:=q;exact⟨_,_,iE inc ok M v t P u hz,h⟩) hs
inductive QD (c:Cx):Gm->Om->List cX->D->Gm->Om->Prop
 |one {G G':Gm} {W W':Om} {t:cX} {d:D} (h:RO c G W t d G' W') (hs:ge t=true):QD c G W [t] d G' W'
 |cons {G G' G₂:Gm} {W W' W₂:Om} {t:cX} {r:List cX} {d:D} (h:RO c G W t d G' W') (hr:QD c G' W' r d G₂ W₂) (hs:ge t=true):QD c G W (t::r) d G₂ W₂
theorem QD.go (h:QD c G W ts d G' W'):∀(s:ak) (K:FM) (v:aj) (Q:Unit->ak->Prop) (E:aj->ak->Prop),c.S s K G W->Rd K d v->
  (∀h' K' t',FM.Le K K'->f' c.B c.env.locals h' K' G' W'->Q () {s with heap:=h',toks:=t'})->wpAny c.M c.A (assignAll v ((gu ts c.env).map (·.2))) Q E s:=by
 induction h with
 |one h hs=>
  intro s K v Q E S r k;rw[hH hs];exact h s K v Q E S r k
 |@cons G G' G₂ W W' W₂ t H d h hr hs ih=>
  intro s K v Q E S r k;rw[hH hs];have key:assignAll v (((false,assign t c.env)::gu H c.env).map (·.2))=(do jH [v] (assign t c.env v);assignAll v ((gu H c.env).map (·.2))):=by
   cases hr with
   |one h2 u=>rw[hH u];rfl
   |cons h2 β u=>rw[hH u];rfl
  rw[key];refine ae (aD (h s K v _ E S r λ h1 K1 t1 V S1=>?_));exact ih _ K1 v Q E S1 (Rd.mono V _ r) λ h2 K2 t2 k2 S2=>k h2 K2 t2 (V.trans k2) S2
theorem mC {P:D->Om->Prop} {R:iD->Prop} (he:rq c G W e P) (h:∀d W₁,P d W₁->∃G' W',QD c G W₁ t d G' W' /\ Ex c G' W' rest R)
  (h2:decide (2 <= t.length)=true:=by symm) (hs:swappedStores t e c.env=pure aH:=by symm) (hw:swapsWithSole t e pos.line c.env=pure false:=by symm):Ex c G W (.Assign t e pos::rest) R:=
 gy λ s K0 Q E S u=>by
  have hx:exec (.Assign t e pos) c.env=(do
    jG pos
    if<-swapsWithSole t e pos.line c.env then do
     evalThenUse e c.env λ v=>assignAll v ((gu t c.env).map (·.2))
     pure .next
    else do
     let v<-eval e c.env
     assignStores c.env v (<-swappedStores t e c.env) ((gu t c.env).map (·.2))):=by
   match t,h2 with
   |t1::t2::r,_=>cases t1<;>rfl
  rw[hx];refine ae (bn ?_);rw[hw];refine ae (af ?_);simp only[bQ,if_false];refine ae (he s K0 _ E S λ v h1 K1 t1 d W₁ V S1 r1 p1=>?_);rw[hs];refine ae (af ?_);obtain⟨G',W',ha,h'⟩:=h d W₁ p1;show wpAny c.M c.A (assignAll v ((gu t c.env).map (·.2))>>=λ _=>pure .next) Q E _;refine ae (ha.go _ K1 v _ E S1 r1 λ h2 K2 t2 H S2=>af ?_);exact u .next h2 K2 t2 (V.trans H) ⟨G',W',S2,h'⟩
theorem kY {R:iD->Prop} (v:Ev c G W e d) (ha:QD c G W t d G' W') (h:Ex c G' W' rest R)
  (h2:decide (2 <= t.length)=true:=by symm) (hs:swappedStores t e c.env=pure aH:=by symm) (u:swapsWithSole t e pos.line c.env=pure false:=by symm):Ex c G W (.Assign t e pos::rest) R:=
 mC v.toP (λ H W₁ q=>by obtain⟨rfl,rfl⟩:=q;exact⟨_,_,ha,h⟩) h2 hs u
theorem ux {R:iD->Prop} (inc:yc K c.T) (ok:Ok c n) (cf:oz K C) (ho:Ev c G W o (.inst C a da)) (t:gc W (da,cy c.w.params fs) Wr) (hf:C' fs name x) (he:Ev c G W e b) (δ:eM c G W x b d (pO op)) (P:Fw fs name d fs') (H:fx K (.ref C) name=some none) (h:Ex c G ((da,cy c.w.params fs')::Wr) rest R)
  (hd:FT x=true:=by rfl) (hz:decide (fs'.length <= 1000)=true:=by symm):Ex c G W (.AugAssign (.Attribute o name p) op e pos::rest) R:=
 gy λ s K0 Q E S k=>by
  show wpAny c.M c.A (do
   jG pos
   let u<-eval o c.env
   let new<-jH [u] do
    jG p.atName
    let old<-getAttr u name true
    let v<-jH [old] (eval e c.env)
    jG pos
    operate [old,v] (pO op old v)
   jG p.atName
   jH [new,u] (setAttr u name new)
   release [new,u] []
   pure .next) Q E s
  refine ae (bn (ae (ho s K0 _ E S λ u h1 K1 t1 k1 S1 r1=>?_)));obtain⟨es,n',rfl,I,ε⟩:=S1.inst r1 t;obtain⟨en,q1,q2⟩:=Db hf ε;refine ae (aD (ae (bn (ae ?_))));refine get_value (s:={s with heap:=h1,toks:=t1}) (inc _ (S1.inT ok)) I cf.ga (ye cf H (Ar q1)) (yd q2 hd) ?_;refine ae (aD (he {s with heap:=h1,toks:=t1+1} K1 _ E S1 λ y h2 K2 t2 k2 S2 r2=>ae (bn (wpAny_operate' ?_))));refine δ {s with heap:=h2,toks:=t2} K2 _ y _ E S2 (Rd.mono k2 _ q2) r2 λ z h3 K3 t3 k3 S3 r3=>?_;refine ae (bn (ae (aD ?_)));obtain⟨η,n3,_,I3,V⟩:=S3.inst (Rd.mono (k2.trans k3) _ r1) t;refine At (s:={s with heap:=h3,toks:=t3}) (inc _ (S3.inT ok)) I3 V cf H P r3 (of_decide_eq_true hz) λ h4 tk ζ γ hs hd β=>?_;have S4:=(S3.perm t.perm).turn (b':=cy c.w.params fs') hs hd ⟨ζ,γ,rfl,β⟩;exact ae (uk (af (k .next h4 K3 tk ((k1.trans k2).trans k3) ⟨G,_,S4,h⟩)))
theorem kf {P:D->Om->Prop} (inc:yc K c.T) (ok:Ok c n) (cf:oz K C) (ho:Ev c G W o (.inst C a da)) (t:gc W (da,cy c.w.params fs) Wq) (hf:fx K (.ref C) name=some (some (.ref f))) (γ:typeIn K (.ref f)=some (.type "function"))
  (δ:fs.any (λ p=>p.1==name)=false) (kp:Kp c.pr c.w c.T (.ref f)) (he:vd c G W es ds) (tk:cv W Wi Wr) (ε:Fn c.pr c.w c.T n (.ref f) (.inst C a da::ds) Wi P)
  (M:bE o name c.env (eval o c.env)=eval o c.env:=by symm) (u:(apos.endLine==pos.line)=true:=by symm) (β:decide (es.length<30)=true:=by symm):
  rq c G W (.Call (.Attribute o name apos) es [] pos) (λ d W'=>∃Wo,P d Wo /\ W'=Wo++Wr):=λ s K0 Q E S k=>by
 rw[pg,M];refine ae (ho s K0 _ E S λ v h1 K1 t1 k1 S1 r1=>ae (bn ?_));obtain⟨η,n',rfl,I,ζ⟩:=S1.inst r1 t;obtain⟨q1,q2⟩:=Dc δ ζ;have H:j0 (es.length+([]:List Cv).length) (backTo pos (gQ es c.env)) (backToKw pos (keywordEach [] c.env))=true:=by
  unfold j0;rw[Bl he];show(true&&true&&decide (es.length+0+0<30))=true;simpa using β
 have V:iz true o c.env apos pos=pure pos:=by unfold iz;simp[u]
 unfold methodCall;rw[H];refine ae (aD ?_);refine method_fn (s:={s with heap:=h1,toks:=t1}) (inc _ (S1.inT ok)) I cf.ga cf.gt hf γ (by show(lookIn name _).map (·.isSome)=some false;rw[wO q1 q2];rfl) ?_;refine ae (cz V ?_);refine jk ok kp he {s with heap:=h1,toks:=t1} K1 Q E S1 λ vs h2 K2 t2 k2 S2 r2=>?_;refine sJ ok tk ε {s with heap:=h2,toks:=t2} K2 (.ref a::vs) Q E S2 (cB.cons (Rd.mono k2 _ r1) r2) λ v h3 K3 t3 d Wo k3 S3 r3 p=>k v h3 K3 t3 d _ ((k1.trans k2).trans k3) S3 r3 ⟨Wo,p,rfl⟩
end
end
def Jb:D->Bool
 |.bool _|.int _|.str _|.sq ..|.inst ..|.rcd ..|.val (.ref _)|.val (.type _)=>true
 |_=>false
theorem De {K:FM} {d:D} {v:aj} (r:Rd K d v) (h:Jb d=true):v≠.none:=by
 cases d with
 |none=>cases h
 |bool b=>obtain rfl:=r;exact λ z=>nomatch z
 |int i=>obtain⟨t,rfl⟩:=r;exact λ z=>nomatch z
 |str s=>obtain⟨t,rfl⟩:=r;exact λ z=>nomatch z
 |sq c l=>obtain⟨a,vs,e,rfl,_⟩:=r;exact λ z=>nomatch z
 |inst C a da=>simp only[j9] at r;rw[r.1];exact λ z=>nomatch z
 |val w=>obtain rfl:=r;intro z;subst z;cases h
 |rcd C l=>obtain⟨a,da,vs,e,rfl,_⟩:=r;exact λ z=>nomatch z
section
variable{c:Cx} {G:Gm} {W Wr:Om}
theorem QE:eM c G W .none .none (.bool true) (bq .Is):=λ s K x y Q E S r1 r2 h=>by
 obtain rfl:=r1;obtain rfl:=r2;exact zZ rfl (h _ s.heap K _ FM.Le.rfl S (by ext rd))
theorem KW:eM c G W .none .none (.bool false) (bq .IsNot):=λ s K x y Q E S r1 r2 h=>by
 obtain rfl:=r1;obtain rfl:=r2;exact wpAny_isNot_self rfl (h _ s.heap K _ FM.Le.rfl S (by ext rd))
theorem QF (hd:Jb d=true:=by rfl):eM c G W d .none (.bool false) (bq .Is):=λ s K x y Q E S r1 r2 h=>by
 obtain rfl:=r2;exact is_none_ne (De r1 hd) (h _ s.heap K _ FM.Le.rfl S (by ext rd))
theorem KX (hd:Jb d=true:=by rfl):eM c G W d .none (.bool true) (bq .IsNot):=λ s K x y Q E S r1 r2 h=>by
 obtain rfl:=r2;exact isnot_none_ne (De r1 hd) (h _ s.heap K _ FM.Le.rfl S (by ext rd))
theorem KY {X Y:String}:eM c G W (.val (.type X)) (.val (.type Y)) (.bool (!(uV X==uV Y))) (bq .IsNot):=λ s K x y Q E S r1 r2 h=>by
 obtain rfl:=r1;obtain rfl:=r2;exact wpAny_isNot_plain rfl (h _ s.heap K _ FM.Le.rfl S (by ext rd))
theorem QG:eM c G W .none .none (.bool true) (bq .Eq):=λ s K x y Q E S r1 r2 h=>by
 obtain rfl:=r1;obtain rfl:=r2;exact zt (h _ s.heap K _ FM.Le.rfl S (by ext rd))
theorem Jc:eM c G W (.str x) .none (.bool false) (bq .Eq):=λ s K a b Q E S r1 r2 h=>by
 obtain⟨t,rfl⟩:=r1;obtain rfl:=r2;exact z5 (h _ s.heap K _ FM.Le.rfl S (by ext rd))
theorem Hn:eM c G W (.str y) (.str x) (.bool (eR x y)) (bq .In):=λ s K a b Q E S r1 r2 h=>by
 obtain⟨t,rfl⟩:=r1;obtain⟨u,rfl⟩:=r2;exact PySem.SB.contains (h _ s.heap K _ FM.Le.rfl S (by ext rd))
end
section
variable{pr:aG} {w:aB} {T:FM} {n:Nat}
theorem VX:Fn pr w T n (.type "int") [.int i] [] (Is (.int i) []):=iW λ A s K vs Q E _ _ _ _ d _ r k=>by
 obtain⟨_,_,rfl,⟨t,rfl⟩,rfl⟩:=r;exact call_int_int (k _ s.heap s.toks (λ _ _ e=>e) ⟨_,rfl⟩)
theorem QH:Fn pr w T n (.type "type") [.int i] [] (Is (.val (.type "int")) []):=iW λ A s K vs Q E _ _ _ _ d _ r k=>by
 obtain⟨_,_,rfl,⟨t,rfl⟩,rfl⟩:=r;exact call_type_of (Tx:="int") rfl (by rfl') (k _ s.heap s.toks (λ _ _ e=>e) (by ext rd))
def kD (o:Obj):Prop:=∃led,o={cls:=.type "set",dict:=none,data:=.set #[] 0 (.fresh 0 0 led)}
theorem Jd:Fn pr w T n (.type "set") [] [] (λ d W=>∃a,d=.val (.ref a) /\ W=[(a,.pred kD)]):=λ A h1 h2 h3 s K vs Q E u t r o k=>by
 obtain rfl:=r;refine call_set_0 λ led=>?_;exact k _ _ K s.toks _ _ (Aft.pushOwn (b:=.pred kD) t gx.nil _ ⟨led,rfl⟩) (by ext rd) ⟨_,rfl,rfl⟩
end
abbrev CA:Obj:={cls:=.type "collections.deque",dict:=none,data:=.fields #[.none,rawInt 0]}
theorem Je:mroOf (.type "collections.deque")=pure [.type "collections.deque",.type "object"]:=by rw[mroOf_type];symm
theorem zD:iy (.type "collections.deque") "__new__"=pure (some (.builtin "collections.deque.__new__")):=by rw[cY,bM];symm
theorem Jf:hZ (.type "collections.deque") (.type "collections.deque")=pure true:=by rw[dy];symm
theorem BH:y7 "collections.deque" "__init__" "collections.deque.__init__":=
 .of (owner:="collections.deque") (n:="__init__") (by rw[cY,bM];symm) (by rfl') (by rfl') (by rfl')
  (by first|exact .inl (by rfl')|exact .inr (by rfl')) (by rw[dy];symm)
theorem oC:y7 "collections.deque" "__len__" "collections.deque.__len__":=
 .of (owner:="collections.deque") (n:="__len__") (by rw[cY,bM];symm) (by rfl') (by rfl') (by rfl')
  (by first|exact .inl (by rfl')|exact .inr (by rfl')) (by rw[dy];symm)
theorem Ho:TypeCalled "collections.deque" "collections.deque.__new__" "collections.deque.__init__":=
 ⟨by rfl',by rfl',⟨_,_,Je⟩,madeBy_type Je zD (by rfl'),by rfl',Jf,BH⟩
theorem BI:gR table "collections.deque.__new__"=some Builtin.«collections.deque.__new__»:=et (by symm)
theorem zE:gR table "collections.deque.__init__"=some Builtin.«collections.deque.__init__»:=et (by symm)
theorem BJ:gR table "collections.deque.__len__"=some Builtin.«collections.deque.__len__»:=et (by symm)
theorem BK (a:aj):argsOk "collections.deque.__init__" ⟨[a],[]⟩:=by unfold argsOk;symm
theorem Df (a:aj):argsOk "collections.deque.__len__" ⟨[a],[]⟩:=by unfold argsOk;symm
theorem Dg:checkTypeCall "collections.deque" ⟨[],[]⟩=pure ():=by symm
theorem EF:fT "collections.deque.__new__" ⟨[.type "collections.deque"],[]⟩=pure ():=by symm
theorem Mz:typeHasDict (.type "collections.deque")=false:=by rfl'
theorem BL:Meets (Builtin.«collections.deque.__new__» ⟨[.type "collections.deque"],[]⟩) (λ _ R s=>R (.ok (.ret (.ref s.heap.objs.size))) {s with heap:=s.heap.push CA}):=
 D7 λ prog w A R s hs=>by
  have h1:=Jf;show wpAny _ _ (rH "collections.deque" _>>=λ x=>vT x.1 #[] aH>>=λ y=>ret y) _ _ s;unfold rH;refine ae ?_;show wpAny _ _ (isType (.type "collections.deque")>>=_) _ _ _;refine ae (af ?_);rw[if_neg (by decide)];refine ae (cz h1 ?_);rw[if_neg (by decide)];refine af ?_;unfold vT;dsimp only;rw[if_neg (by decide),Mz];rw[if_neg aT];refine ae (ae (af (bK ?_ (by size_fits))));exact af ⟨_,rfl,hs⟩
theorem zF (a:aM):Meets (Builtin.«collections.deque.__init__» ⟨[.ref a],[]⟩) (λ _ R s=>s.heap.get? a=some CA /\ ∀h',iY a s.heap h'->h'.get? a=some CA->R (.ok (.ret .none)) {s with heap:=h'}):=
 D7 λ prog w A R s hs=>by
  obtain⟨ha,hs⟩:=hs;unfold Builtin.«collections.deque.__init__»;dsimp only[bp,nO,List.zipIdx_nil,nR];rw[if_neg (by decide)];refine ae (m:=setField (.ref a) 0 .none) ?_;show wpAny _ _ (updateField a 0 .none) _ _ _;unfold updateField;refine ae (jT ha ?_);dsimp only;rw[if_pos (by decide)];have hb:=fB s.heap a (z6 (·.setIfInBounds 0 bx));have d:(s.heap.update a (z6 (·.setIfInBounds 0 bx))).get? a=some CA:=bo _ ha rfl;refine wpAny_update ha (ae ?_);unfold Builtin.Deque.clear Ee;refine ae (ae (lI d rfl (af ?_)));rw[if_neg (by decide)];exact af (af ⟨_,rfl,hs _ hb d⟩)
section
variable{pr:aG} {w:aB} {T:FM} {n:Nat}
theorem FU:Fn pr w T n (.type "collections.deque") [] [] (λ d W=>∃a,d=.val (.ref a) /\ W=[(a,.raw CA)]):=λ A h1 h2 h3 s K vs Q E M H r o k=>by
 obtain rfl:=r;refine callType_meets (Q₁:=λ obj u=>obj=.ref s.heap.objs.size /\ u={s with heap:=s.heap.push CA}) Ho Dg EF BI zE BL ⟨rfl,rfl⟩ ?_;rintro obj u ⟨rfl,rfl⟩;have v:(s.heap.push CA).get? s.heap.objs.size=some CA:=bv _ rfl;refine⟨⟨_,v,rfl⟩,BK _,_,zF _,v,λ h' hs t=>⟨rfl,?_⟩⟩;refine k _ h' K s.toks _ _ (Aft.newOwn (b:=.raw CA) H gx.nil kX (λ b o e=>?_) t rfl) (by ext rd) ⟨_,rfl,rfl⟩;have hb:b≠s.heap.objs.size:=λ q=>by rw[q,kX] at e;cases e
 exact(hs.2 b hb).trans (aA _ e)
end
theorem Au:iy (.type "collections.deque") "__bool__"=pure none:=by rw[cY,bM];symm
theorem Hp {E:aj->ak->Prop} {Q:Bool->ak->Prop} (ha:s.heap.get? a=some CA) (h:Q false {s with toks:=s.toks+1+1}):wpAny (model prog w) A (truthy (.ref a)) Q E s:=by
 have t:s.TypeIs (.ref a) "collections.deque":=⟨_,ha,rfl⟩;have body:∀v,wpAny (model prog w) v (aC.«len» ⟨[.ref a],[]⟩) (λ fin d=>∃r,fin=.done (.ret r) /\ r=.int 0 (s.toks+1) /\ Q false d) E s:=λ v=>by
  unfold aC.«len»;refine ae (m:=oneArg "len" _) (af ?_);refine ae (m:=callSpecial? (.ref a) (cw "__len__")) (dz (name:=cw "__len__") t oC
   (bV oC t BJ ?_ (Df _)))
  show wpAny _ _ (uW (.ref a)>>=λ n=>retInt n) _ _ s;unfold uW;refine ae (ae (lI ha rfl (af ?_)));refine ae (sF (af ⟨_,rfl,?_⟩));refine ae (aD (af ?_));refine ae (fZ ?_);show wpAny _ _ (if(0:Int)<0 then _ else _) _ _ _;rw[if_neg (by decide)];show wpAny _ _ (if(0:Int) >= 2^63 then _ else _) _ _ _;rw[if_neg (by decide)];exact ae (sF (af ⟨_,rfl,rfl,h⟩))
 have key:wpAny (model prog w) A (runValue (.builtin "len" ⟨[.ref a],[]⟩)) (λ r d=>r=.int 0 (s.toks+1) /\ Q false d) E s:=by
  refine zb (bJ entry_len ?_);rw[bC plain_len _];exact bX (body _) (λ fin d h'=>by obtain⟨r,rfl,u⟩:=h';exact u) λ _ _ e=>e
 unfold truthy
 first
  |refine ae (qg (name:=cw "__bool__") t Au ?_)
  |refine ae (af (ae (qg (name:=cw "__bool__") t Au ?_)))
 first
  |refine ae (dN (name:=cw "__len__") t oC.lookup ?_)
  |refine ae (af (ae (dN (name:=cw "__len__") t oC.lookup ?_)))
 first
  |exact ae (bX key (λ r d h'=>by obtain⟨rfl,u⟩:=h';exact af u) λ _ _ e=>e)
  |exact ae (af (ae (bX key (λ r d h'=>by obtain⟨rfl,u⟩:=h';exact af u) λ _ _ e=>e)))
section
variable{c:Cx} {G:Gm} {W Wr:Om}
theorem VY (t:gc W (a,.raw CA) Wr):Tv c G W (.val (.ref a)) false:=λ s K x Q E S r k=>by
 obtain rfl:=r;obtain⟨ob,h1,h2,_⟩:=(S.perm t.perm).own.at_ _ (ag ..);have h2:ob=CA:=h2;subst h2;exact Hp h1 (k _)
end
def CR (Q:aj->ak->Prop) (E:aj->ak->Prop):mS->ak->Prop:=λ r d=>match r with|.ok (.ret v)=>Q v d|.ok _=>False|.error e=>E e d
def vn (pr:aG) (w:aB) (T:FM) (n:Nat) (f:aj) (mk:List aj->pP) (ds:List D) (Wi:Om) (P:D->Om->Prop):Prop:=
 ∀A:bU,A.handled=none->A.depth+n <= 990->A.units+3*n <= 9000->∀(s:ak) (K:FM) (vs:List aj) (Q:aj->ak->Prop) (E:aj->ak->Prop),FM.Le T K->FM.In K s.heap->cB K ds vs->gx K s.heap Wi->
  (∀v h' K' t' d Wo,Aft K s.heap Wi K' h' Wo->Rd K' d v->P d Wo->Q v {s with heap:=h',toks:=t'})->eQ (model pr w) A (.call f (mk vs)) (CR Q E) s
theorem vn.a {mk:List aj->pP} {P:D->Om->Prop} (h:vn pr w T n f mk ds Wi P):O2 pr w T n f mk ds Wi P:=λ A h1 h2 h3 s K vs Q E a b c d k=>dR (h A h1 h2 h3 s K vs Q E a b c d k)
theorem O2.fn {P:D->Om->Prop} (h:O2 pr w T n f (λ vs=>⟨vs,[]⟩) ds Wi P):Fn pr w T n f ds Wi P:=h
theorem vn.le {mk:List aj->pP} {P:D->Om->Prop} (h:vn pr w T n f mk ds Wi P) (hn:n <= m):vn pr w T m f mk ds Wi P:=λ A h1 h2 h3=>h A h1 (PI hn h2) (PJ hn h3)
def Vg (T:FM) (d:nL) (mk:List aj->pP) (ds:List D) (G₀:Gm):Prop:=
 ∀(M:sk) (A:bU) (E:aj->ak->Prop) (s:ak) (K:FM) (vs:List aj) (Q:List (Str×aj)->ak->Prop),FM.Le T K->FM.In K s.heap->cB K ds vs->
  (∀bl h' K' t',Aft K s.heap [] K' h' []->(∀p∈G₀,∃v,bl.reverse.lookup p.1=some v /\ Rd K' p.2 v)->(∀x∈bl,d.scope.names.lookup x.1=some .local)->Q bl {s with heap:=h',toks:=t'})->wpAny M A (bindArgs d (mk vs)) Q E s
theorem Bd.g {mk:List aj->pP} (h:Bd T V mk ds ps ds') (v:ps.length=ds'.length) (H:ps.Nodup) (d:∀x∈ps,V.scope.names.lookup x=some .local):Vg T V mk ds (ps.zip ds'):=λ M A E s K vs Q hT kp r k=>
 h M A E s K vs Q hT kp r λ t h' K' t' AF u=>k _ h' K' t' AF (sK ps ds' t H u v) λ x hx=>d x.1 (jo hx).1
theorem Av {mk:List aj->pP} {P:D->Om->Prop} (G₀:Gm) (hf:FnAt T a fd body) (hn:xJ T)
  (V:Vg T fd mk ds G₀)
  (M:∀x∈fd.scope.names,x.2≠.cell)
  (hb:∀(A:bU) (L:aM) (B:Bs),Ok ⟨pr,w,T,A,cx fd L a,B⟩ n->Ex ⟨pr,w,T,A,cx fd L a,B⟩ G₀ Wi body (Gives P))
  (κ:fd.scope.isCoroutine=false:=by symm) (ζ:fd.scope.isGenerator=false:=by symm) (hk:fd.scope.kind=.function:=by symm):
  vn pr w T (n+1) (.ref a) mk ds Wi P:=by
 intro A hA hd hu ι K₀ θ Q E u β γ ξ h₀;obtain⟨cl,dd,sl,ν⟩:=hf.at_;obtain⟨cc,co,ο,ct,μ,hc2,hc3,hc4⟩:=hf.code;refine lV (by have:jS=1000:=rfl;exact Io hd) (β _ _ (u _ _ ν)) rfl κ ζ hf.body ⟨cc,co,ο,ct,μ,β _ _ (u _ _ hc2),hc3,hc4⟩ ?_;refine V _ _ _ ι K₀ θ _ u β γ λ bl hh K tt AF hg δ=>?_;have hT:FM.Le T K:=u.trans AF.le;have η:Aft K₀ ι.heap Wi K hh Wi:=AF.frame (Wr:=Wi) (by simpa using ξ);have hK:FM.In K hh:=AF.kp;have hO:gx K hh Wi:=η.own;have ε:hh.NoLimit:=hn _ λ b o e=>hK _ _ (hT _ _ e);refine ik M δ (λ h₁ ns sb=>⟨ε.fresh _ sb,vK ?_⟩) hk;have keep:∀b o,hh.get? b=some o->h₁.get? b=some o:=λ b o e=>sb.extBut b o (gE (cC e)) (aA _ e);have hL:hh.get? hh.objs.size=none:=kX;have ρ:K hh.objs.size=none:=iU hK;have S:=pu (L:=hh.objs.size) hK hO hL keep ns hg;refine hb (A.deeper _) _ _ ⟨hT,hA,by show A.depth+1+n <= 990;exact CD hd,by show A.units+3+3*n <= 9000;exact Ip hu⟩ _ K _ _ S ?_;intro f h' K' t' k1 e1;have fin:∀G' W' Wo Wr d (v:aj),f' ⟨K,rt hh Wi⟩ hh.objs.size h' K' G' W'->cv W' Wo Wr->Rd K' d v->P d Wo->Q v {ι with heap:=h',toks:=t'}:=λ G' W' Wo Wr d v H t r' p=>by
  have H:=(H.perm t.perm).left;refine h₀ v h' K' t' d Wo (η.trans ?_) r' p;exact(nv hK hL H).drop
 cases f with
 |next=>
  obtain⟨G',W',H,Wo,Wr,t,p⟩:=e1;exact fin G' W' Wo Wr .none .none H t (by ext rd) p
 |brk=>obtain⟨G',W',H,r⟩:=e1;exact r.elim
 |cont=>obtain⟨G',W',H,r⟩:=e1;exact r.elim
 |ret v=>
  obtain⟨d',G',W',H,r1,Wo,Wr,t,p⟩:=e1;exact fin G' W' Wo Wr d' v H t r1 p
theorem lj {mk:List aj->pP} {P:D->Om->Prop} (ps:List Str) (G₀:Gm) (hf:FnAt T a d body) (hn:xJ T)
  (u:Bd T d mk ds ps ds') (M:ps.length=ds'.length) (V:ps.Nodup)
  (t:∀x∈d.scope.names,x.2≠.cell) (v:∀x∈ps,d.scope.names.lookup x=some .local)
  (hb:∀(A:bU) (L:aM) (B:Bs),Ok ⟨pr,w,T,A,cx d L a,B⟩ n->Ex ⟨pr,w,T,A,cx d L a,B⟩ G₀ Wi body (Gives P))
  (hG:ps.zip ds'=G₀:=by rfl)
  (β:d.scope.isCoroutine=false:=by symm) (H:d.scope.isGenerator=false:=by symm) (hk:d.scope.kind=.function:=by symm):
  vn pr w T (n+1) (.ref a) mk ds Wi P:=by
 subst hG;exact Av (ps.zip ds') hf hn (u.g M V v) t hb β H hk
def MA (mk:List aj->pP):List aj->pP
 |v::r=>⟨v::(mk r).pos,(mk r).kw⟩
 |[]=>mk []
theorem Aft.inst {K:FM} {h:dM} {Wi:Om} {C:aM} {P:dg} (kp:FM.In K h) (o:gx K h Wi):Aft K h Wi (K.add (h.objs.size+1) (iO C h.objs.size)) ((h.push emptyDict).push (instObj C h.objs.size)) ((h.objs.size,cy P [])::Wi):=by
 have d:Aft K h Wi K (h.push emptyDict) ((h.objs.size,cy P [])::Wi):=Aft.pushOwn kp o emptyDict ⟨[],0,rfl,rfl⟩;have t:=Aft.pushFz d.kp d.own (iO C h.objs.size);rw[jU] at t;exact d.trans t
theorem FV {pr:aG} {w:aB} {T:FM} {K:jK} {n:Nat} {C fI:aM} {mk:List aj->pP} {ds:List D} {Wi:Om} {P:aM->aM->Om->Prop} (inc:yc K T) (hm:makesIn K C=true) (hi:fx K (.ref C) "__init__"=some (some (.ref fI))) (hf:typeIn K (.ref fI)=some (.type "function"))
  (hI:∀a da,vn pr w T n (.ref fI) (MA mk) (.inst C a da::ds) ((da,cy w.params [])::Wi) (λ d Wo=>d=.none /\ P a da Wo)):vn pr w T (n+1) (.ref C) mk ds Wi (λ d Wo=>∃a da,d=.inst C a da /\ P a da Wo):=by
 intro A hA hd hu s K0 vs Q E V hK H hO k;have X:K.In s.heap:=inc _ λ b o e=>hK _ _ (V _ _ e);obtain⟨hh,g,dr,t,os⟩:=s;dsimp only at*;refine make_core (rest:=(mk vs).pos) (kw:=(mk vs).kw) (makes_of X hm) (dK X hi) (λ self=>Cy X self hf) (.inl rfl) ?_;have u:=Aft.inst (C:=C) (P:=w.params) hK hO;refine fv (hI (hh.objs.size+1) hh.objs.size (A.under (.builtin "type.__call__" ⟨.ref C::(mk vs).pos,(mk vs).kw⟩)) hA (by show A.depth+1+n <= 990;exact CD hd) (by show A.units+1+3*n <= 9000;exact PW hu) ⟨(hh.push emptyDict).push (instObj C hh.objs.size),g,dr,t,os⟩ _ (.ref (hh.objs.size+1)::vs)
  (λ v M=>v=.none /\ Q (.ref (hh.objs.size+1)) M) E (V.trans u.le) u.kp (cB.cons (by simp only[j9];exact⟨trivial,FM.add_self⟩) (cB.mono u.le _ H)) u.own λ v h' K' t' d Wo AF r p=>?_) ?_
 .obtain⟨rfl,p⟩:=p;simp only[j9] at r;subst r;exact⟨rfl,k _ h' K' t' (.inst C (hh.objs.size+1) hh.objs.size) Wo (u.trans AF) (by simp only[j9];exact⟨trivial,AF.le _ _ FM.add_self⟩) ⟨_,_,rfl,p⟩⟩
 .intro r M h;cases r with
  |error e=>exact h
  |ok f=>cases f<;>first|exact h|exact h.elim
section
open PySem.Builtin PySem.Builtin.ObjectAttr
theorem Dh {K:jK} {C:aM} {cd:tf} (e:clsIn K C=some cd):∃t d sl,K.lookup C=some ⟨t,d,.cls cd,sl⟩:=by
 unfold clsIn at e;cases q:K.lookup C with
 |none=>rw[q] at e;cases e
 |some o=>
  rw[q] at e;cases o with
  |mk t d u sl=>cases u<;>first|cases e;exact⟨t,d,sl,rfl⟩|cases e
def rY (K:jK) (C:aM):Bool:=(clsIn K C).any (λ cd=>!cd.mro.isEmpty&&cd.mro.contains (.ref C))&&(K.lookup C).any (λ o=>(o.slots.toList[4]?).join==some .none)&&specialIn K (.ref C) "__call__"==some (some (.builtin "type.__call__"))&&instIn K (.ref C) (.type "type")==some true
structure Jg (M:sk) (h:dM) (C:aM):Prop where
 obj:∃oc od cd sl,h.get? C=some ⟨oc,od,.cls cd,sl⟩ /\ cd.mro.isEmpty=false
 made:iJ M h (j7 (.ref C)) none
 self:iJ M h (hZ (.ref C) (.ref C)) true
 call:iJ M h (eK (.ref C) "__call__") (some (.builtin "type.__call__"))
 typ:iJ M h (isInstance (.ref C) (.type "type")) true
set_option tactic.hygienic true in
theorem Aw {K:jK} {M:sk} {h:dM} (X:K.In h) {C:aM} (e:rY K C=true):Jg M h C:=by
 unfold rY at e;rw[bB,bB,bB,beq_iff_eq,beq_iff_eq] at e;obtain⟨⟨⟨t,v⟩,e7⟩,e8⟩:=e;cases hc:clsIn K C with
 |none=>rw[hc] at t;cases t
 |some cd=>
  rw[hc,xu,bB,Bool.not_eq_true'] at t;obtain⟨d,e5⟩:=t;obtain⟨V,H,sl,u⟩:=Dh hc;rw[u,xu,beq_iff_eq] at v;have hm:iJ M h (mroOf (.ref C)) cd.mro:=(looks_clsIn X hc).andThen .now;obtain⟨c,l,hl⟩:∃c l,cd.mro=c::l:=by cases q:cd.mro with|nil=>rw[q] at d;cases d|cons c l=>exact⟨c,l,rfl⟩
  refine⟨⟨V,H,cd,sl,X _ _ u,d⟩,?_,looks_mroIn X ?_,xv X e7,looks_instIn X e8⟩
  .intro A Q E s k q;unfold j7;refine ae (hm A _ E s k ?_);rw[hl,jq];refine ae (ae (ae (ae (jZ (k _ _ (X _ _ u)) (af ?_)))));dsimp only;rw[<-Array.getElem?_toList,v];exact af (af (af q))
  .unfold mroIn;rw[hc,fU,if_neg (by rw[d];decide),e5]
theorem yg {prog:aG} {w:aB} {A:bU} {K:jK} {C sm fN:aM} {R:mS->ak->Prop} {h:dM} {g:Array yZ} {d:Drawn} {t:Nat} {os:qy} {rest:List aj} {kw:List (Str×aj)} {init obj:aj} {sr:List aj} (X:K.In h) (Y:Jg (model prog w) h C)
  (hi:iJ (model prog w) h (iy (.ref C) "__init__") (some init)) (hb:∀self,iJ (model prog w) h (bindSpecial init self) (init,[self]))
  (hr:readsIn K C (.type "type")=true) (hg:findCls K (.ref C) (.type "type") "__new__"=some (.get (.builtin "staticmethod.__get__") (.ref sm) obj (.ref C))) (hs:recIn K sm "staticmethod"=some (.ref fN::sr))
  (hq:wpAny (model prog w) (A.under (.builtin "type.__call__" ⟨.ref C::rest,kw⟩)) (call (.ref fN) (.ref C::rest) kw) (λ v u=>∃a,v=.ref a /\ (∀b o,h.get? b=some o->u.heap.get? b=some o) /\ (∃o,u.heap.get? a=some o /\ o.cls=.ref C) /\
   eQ (model prog w) (A.under (.builtin "type.__call__" ⟨.ref C::rest,kw⟩)) (.call init ⟨.ref a::rest,kw⟩) (InitBack a R) u) (λ e u=>R (.error e) u) ⟨h,g,d,t+1,os⟩):
  eQ (model prog w) A (.call (.ref C) ⟨rest,kw⟩) R ⟨h,g,d,t,os⟩:=by
 have Y':=Y;obtain⟨⟨oc,od,cd,sl,V,e4⟩,made,self,call,typ⟩:=Y;refine kS ?_;show wpAny _ _ (callAny (.ref C) _) _ _ _;refine nd_load V ?_;show wpAny _ _ (callAny.viaDunder (.ref C) _) _ _ _;unfold callAny.viaDunder;refine ae (call.at ?_);dsimp only;rw[tc_bind];refine ae (af (ae (af ?_)));refine af (a:=Fin.again (.call (.builtin "type.__call__") ⟨.ref C::rest,kw⟩)) (And.intro rfl ?_);refine codeAny_call_builtin_at (jc _ (by rfl')) entry_typeCall ?_;refine zm (i:="type.__call__") (owner:="type") (n:="__call__") tc_kind tc_split typ (tc_args _ _ _) ?_;unfold Builtin.«type.__call__»;have hm:iJ (model prog w) h (mroOf (.ref C)) cd.mro:=((mI (part:=none) V).andThen .now).andThen .now;dsimp only;rw[if_neg (show¬((iK C==uV "type")=true) from aT)];refine ae (hm.at ?_);rw[if_neg (by rw[e4];exact aT)];refine ae (made.at ?_);dsimp only;refine ae ?_;refine cls_bind X hr hg ?_;refine dR (sm_get (s:=⟨h,g,d,t+1,os⟩) X hs ?_);refine th rfl ?_;refine ae (aD ?_);refine bX hq (λ v u z=>?_) (λ e u z=>z);obtain⟨a,rfl,M,⟨o,ha,H⟩,z⟩:=z;obtain⟨h',g',d',t',β⟩:=u;dsimp only at M ha;have t1:iJ (model prog w) h' (typeOf (.ref a)) (.ref C):=by
  obtain⟨cc,dd,γ,sl⟩:=o;dsimp only at H;subst H;exact(mI ha).andThen .now
 have s1:=self.keeps M;have i1:=hi.keeps M;have b1:=(hb (.ref a)).keeps M;unfold isInstance callSpecial? eK
 repeat (first|with_reducible refine dR ?_|lk)
 refine fv z λ r u z=>?_;rcases r with e|(v|_|_|_)<;>first|exact z|exact z.elim|skip
 obtain⟨rfl,z⟩:=z;exact af (af z)
end
section
open PySem.Builtin PySem.Builtin.ObjectAttr
theorem Jh {pr:aG} {w:aB} {T:FM} {K:jK} {n:Nat} {C fI fN sm:aM} {obj:aj} {sr:List aj} {mk:List aj->pP} {ds:List D} {Wi:Om} {P:aM->aM->Om->Prop} (inc:yc K T) (hm:rY K C=true) (hi:fx K (.ref C) "__init__"=some (some (.ref fI))) (hf:typeIn K (.ref fI)=some (.type "function"))
  (hr:readsIn K C (.type "type")=true) (hg:findCls K (.ref C) (.type "type") "__new__"=some (.get (.builtin "staticmethod.__get__") (.ref sm) obj (.ref C))) (hs:recIn K sm "staticmethod"=some (.ref fN::sr))
  (hN:O2 pr w T n (.ref fN) (MA mk) (.val (.ref C)::ds) [] (λ d W=>∃a da,d=.inst C a da /\ W=[(da,cy w.params [])]))
  (hI:∀a da,vn pr w T n (.ref fI) (MA mk) (.inst C a da::ds) ((da,cy w.params [])::Wi) (λ d Wo=>d=.none /\ P a da Wo)):vn pr w T (n+1) (.ref C) mk ds Wi (λ d Wo=>∃a da,d=.inst C a da /\ P a da Wo):=by
 intro A hA hd hu s K0 vs Q E hT hK H hO k;have X:K.In s.heap:=inc _ λ b o e=>hK _ _ (hT _ _ e);obtain⟨hh,g,dr,t,os⟩:=s;dsimp only at*;refine yg (rest:=(mk vs).pos) (kw:=(mk vs).kw) X (Aw X hm) (dK X hi) (λ self=>Cy X self hf) hr hg hs ?_;have V:(A.under (.builtin "type.__call__" ⟨.ref C::(mk vs).pos,(mk vs).kw⟩)).depth+n <= 990:=by show A.depth+1+n <= 990;exact CD hd
 have M:(A.under (.builtin "type.__call__" ⟨.ref C::(mk vs).pos,(mk vs).kw⟩)).units+3*n <= 9000:=by show A.units+1+3*n <= 9000;exact PW hu
 refine hN (A.under (.builtin "type.__call__" ⟨.ref C::(mk vs).pos,(mk vs).kw⟩)) hA V M ⟨hh,g,dr,t+1,os⟩ K0 (.ref C::vs) _ _ hT hK (cB.cons (by simp only[j9]) H) gx.nil λ v h' K' t' d Wo u r p=>?_;obtain⟨a,da,rfl,rfl⟩:=p;simp only[j9] at r;obtain⟨rfl,ra⟩:=r;have γ:=u.frame (Wr:=Wi) (by simpa using hO);refine⟨a,rfl,λ b o e=>u.old b o e (by simp),⟨_,u.kp _ _ ra,rfl⟩,?_⟩;refine fv (hI a da (A.under (.builtin "type.__call__" ⟨.ref C::(mk vs).pos,(mk vs).kw⟩)) hA V M ⟨h',g,dr,t',os⟩ K' (.ref a::vs) (λ v s'=>v=.none /\ Q (.ref a) s') E (hT.trans u.le) u.kp (cB.cons (by simp only[j9];exact⟨trivial,ra⟩) (cB.mono u.le _ H)) γ.own λ v h2 K2 t2 d Wo β r p=>?_) ?_
 .obtain⟨rfl,p⟩:=p;simp only[j9] at r;subst r;exact⟨rfl,k _ h2 K2 t2 (.inst C a da) Wo (γ.trans β) (by simp only[j9];exact⟨trivial,β.le _ _ ra⟩) ⟨_,_,rfl,p⟩⟩
 .intro r s' h;cases r with
  |error e=>exact h
  |ok f=>cases f<;>first|exact h|exact h.elim
section
variable{c:Cx} {G:Gm} {W Wr:Om} {n:Nat}
end
section
variable{c:Cx} {G G':Gm} {W Wr:Om} {K:jK} {C a da:aM} {fs fs':Gm} {name:Str} {n:Nat}
theorem Hq {p:aM} {t:Obj} {g:aj} (H:oz K C) (d:fx K (.ref C) name=some (some (.ref p))) (v:specialIn K (.ref p) "__get__"=some (some g)) (u:takesIn K (.ref p)=some true):findObj K C (some t) name=some (.bind g (.ref p)):=by
 obtain⟨cd,hc,hd⟩:=D6 H.hd;unfold findObj;rw[hc,fU,d,fU];dsimp only;rw[v,fU];dsimp only;rw[u]
 rfl
theorem xF {o:cX} {pos:Pos} {d:D} {p H:aM} {pr:List aj} {Wi:Om} (inc:yc K c.T) (ok:Ok c n) (cf:oz K C) (ho:Ev c G W o (.inst C a da)) (t:gc W (da,cy c.w.params fs) Wr) (ε:fx K (.ref C) name=some (some (.ref p))) (hg:specialIn K (.ref p) "__get__"=some (some (.builtin "property.__get__"))) (δ:takesIn K (.ref p)=some true)
  (hp:recIn K p "property"=some (.ref H::pr)) {n':Nat} (hn:n'+2 <= n) (hf:vn c.pr c.w c.T n' (.ref H) (λ vs=>⟨vs,[]⟩) [.inst C a da] [(da,cy c.w.params fs)] (Is d [(da,cy c.w.params fs)])) (hd:FT d=true:=by rfl)
  (β:bE o name c.env (eval o c.env)=eval o c.env:=by symm) (ht:∀x y,letTemporaryGo o x y=pure ():=by intro _ _;symm):Ev c G W (.Attribute o name pos) d:=λ s K0 Q E S k=>by
 show wpAny c.M c.A (bE o name c.env (eval o c.env)>>=_) Q E s;rw[β];refine ae (ho s K0 _ E S λ v h1 K1 t1 k1 S1 r1=>ae (bn (ae (aD ?_))));obtain⟨es,θ,rfl,I,ι⟩:=S1.inst r1 t;have X:=inc _ (S1.inT ok);refine get_bind X I cf.ga (Hq cf ε hg δ) cf.gt ?_;refine dR (prop_get (s:={s with heap:=h1,toks:=t1+1}) X hp ?_);have η:=S1.perm t.perm;have ζ:=ok.d;have γ:=ok.u;refine fv (hf c.A.in1 ok.h (by show c.A.depth+n' <= 990;exact(lz 20084186467728067829808896426905635) hn ζ) (by show c.A.units+1+3*n' <= 9000;exact(lz 200713159597396703779823046856814921286007918627) hn γ) {s with heap:=h1,toks:=t1+1} K1 [.ref a] (λ v s'=>wpAny c.M c.A (handedOut v) (λ r V=>wpAny c.M c.A (letTemporaryGo o (.ref a) r>>=λ _=>pure r) Q E V) E s') (λ e s'=>wpAny c.M c.A (noteIf true (.ref a) (.str name t1) e) (λ _ V=>E e V) E s') (ok.T.trans S1.k0) S1.kp (cB.cons r1 cB.nil) (gx.left (W:=[(da,cy c.w.params fs)]) (W':=Wr) η.own) λ v h' K' t' d' Wo A rd p=>?_) (λ r s' h=>?_)
 rotate_left
 .cases r with
  |error e=>exact h
  |ok f=>cases f<;>exact h
 .obtain⟨rfl,rfl⟩:=p;refine th (yd rd hd) (ae ?_);rw[ht];have S2:=(S1.perm (W':=[(da,cy c.w.params fs)]++Wr) (by simpa using t.perm)).call A;exact af (af (k v h' K' t' (k1.trans A.le) (S2.perm (by simpa using t.perm.symm)) rd))
end
end
def FW (K:jK) (C:aM):Bool:=(clsIn K C).isSome&&specialIn K (.ref C) "__call__"==some (some (.builtin "type.__call__"))
set_option tactic.hygienic true in
theorem BM {pr:aG} {w:aB} {T:FM} {K:jK} {C:aM} (inc:yc K T) (h:FW K C=true):Kp pr w T (.ref C):=λ d k=>by
 unfold FW at h;rw[bB,beq_iff_eq] at h;obtain⟨h1,h2⟩:=h;have X:=inc d k;obtain⟨cd,h1⟩:=ph.mp h1;obtain⟨v,u,sl,t⟩:=Dh h1;refine⟨.machine,.inr (.inl rfl),(mI (part:=none) (X _ _ t)).andThen ?_⟩;exact(xv X h2).andThen .now
theorem Ji {mk:List aj->pP} {P:D->Om->Prop} (ok:Ok c n) (t:cv W Wi Wr) (hf:O2 c.pr c.w c.T n f mk ds Wi P) (s:ak) (K:FM) (vs:List aj) (Q:aj->ak->Prop) (E:aj->ak->Prop) (S:c.S s K G W) (r:cB K ds vs)
  (k:∀v h' K' t' d Wo,FM.Le K K'->f' c.B c.env.locals h' K' G (Wo++Wr)->Rd K' d v->P d Wo->Q v {s with heap:=h',toks:=t'}):wpAny c.M c.A (call f (mk vs).pos (mk vs).kw) Q E s:=by
 have H:=S.perm t.perm;exact hf c.A ok.h ok.d ok.u s K vs Q E (ok.T.trans S.k0) S.kp r H.own.left λ v h' K' t' d Wo A rd p=>k v h' K' t' d Wo A.le (H.call A) rd p
def QJ (kx:Str):List aj->pP
 |[v,k]=>⟨[v],[(kx,k)]⟩
 |vs=>⟨vs,[]⟩
theorem Hr {P:D->Om->Prop} (ok:Ok c n) (hk:Kp c.pr c.w c.T f) (hx:Ev c G W (.Name x p) (.val f)) (he:Ev c G W e d1) (u:Ev c G W H d2) (t:cv W Wi Wr) (hf:O2 c.pr c.w c.T n f (QJ kx) [d1,d2] Wi P) (hs:ge e=true:=by symm):
  rq c G W (.Call (.Name x p) [e] [⟨some kx,H,kp⟩] pos) (λ d W'=>∃Wo,P d Wo /\ W'=Wo++Wr):=λ s K Q E S k=>by
 show wpAny c.M c.A (eval (.Name x p) c.env>>=λ f=>callWith pos f [] (backTo pos (gQ [e] c.env)) (backToKw pos (keywordEach [⟨some kx,H,kp⟩] c.env))) Q E s;refine ae (hx s K _ E S λ v g1 K1 t1 k1 S1 r1=>?_);obtain rfl:=r1;rw[cj hs];refine jR (P:=FM.In c.T) rfl hk ?_;refine evalArgs_kw rfl (dJ (he _ K1 _ E S1 λ v1 g2 K2 t2 k2 S2 r2=>gj ?_));refine wpAny_evalAll_cons ?_;refine ae (u _ K2 _ E S2 λ v2 g3 K3 t3 V S3 r3=>ae (bn (af (wpAny_evalAll_nil ?_))));refine⟨S3.inT ok,?_⟩;exact Ji ok t hf _ K3 [v1,v2] Q E S3 (cB.cons (Rd.mono V _ r2) (cB.cons r3 cB.nil)) λ v h' K' t' d Wo a b r q=>k v h' K' t' d _ (((k1.trans k2).trans V).trans a) b r ⟨Wo,q,rfl⟩
section
variable{c:Cx} {G:Gm} {W:Om}
theorem pA {P:D->Om->Prop} {R:iD->Prop} (H:rq c G W e P) (h:∀d W',P d W'->d=.none /\ Ex c G W' rest R)
  (hi:interactive c.env=false:=by symm) (t:km e aH pos.line c.env=pure false:=by symm):Ex c G W (.Expr e pos::rest) R:=
 gy λ s K Q E S k=>qG (H s K _ E S λ v h1 K1 t1 d W1 u M r1 p1=>by
  obtain⟨rfl,h'⟩:=h d W1 p1;obtain rfl:=r1;exact k .next h1 K1 t1 u ⟨G,_,M,h'⟩) hi t
theorem rq.mono {P P':D->Om->Prop} (h:rq c G W e P) (t:∀d W',P d W'->P' d W'):rq c G W e P':=λ s K Q E S k=>h s K Q E S λ v h' K' t' d W' a b r p=>k v h' K' t' d W' a b r (t d W' p)
theorem Ev.op {l r:cX} {a b d:D} {op:DX} {pos:Pos} (hl:Ev c G W l a) (hr:Ev c G W r b) (u:∀t,t=d->eM c G W a b t (jQ op)):Ev c G W (.BinOp l op r pos) d:=kB hl hr (u d rfl)
theorem tH {o:cX} {lo hi:Option cX} {p pos:Pos} {x:Str} {l u:Option Int} (ho:Ev c G W o (.str x)) (hl:GL c G W lo l) (hu:GL c G W hi u) (d:x.length <= aO):Ev c G W (.Subscript o (.Slice lo hi .none p) pos) (.str (sP l u x)):=λ s K Q E S k=>by
 rw[eval_Subscript];refine ae (ho s K _ E S λ v h1 K1 t1 k1 S1 r1=>?_);obtain⟨t,rfl⟩:=r1;refine ae (aD (xe (hl.go _ K1 _ E S1 λ vl h2 K2 t2 k2 S2 el=>hu.go _ K2 _ E S2 λ vu h3 K3 t3 k3 S3 eu=>?_)));obtain⟨l',rfl,rfl⟩:=el;obtain⟨H,rfl,rfl⟩:=eu;rw[oU];refine af (ae (bn ?_));have hT:∀V:ak,V.TypeIs (.str x t) "str":=λ V=>jV _ x t;refine ae ?_;rw[getitemInPython_of_ne (hT s).not_modules];refine ae (dN (hT _) PySem.F.slot_str_getitem.lookup ?_);have go:letTemporaryGo o (.str x t)=λ _=>pure ():=by funext b;cases o<;>rfl
 have fin:wpAny c.M c.A (operate [.ref h3.objs.size,.str x t] (getItem (.str x t) (.ref h3.objs.size))) (λ r β=>wpAny c.M c.A (letTemporaryGo o (.str x t) r>>=λ _=>pure r) Q E β) E {s with heap:=h3.push {cls:=.type "slice",data:=.fields #[partValue l',partValue H,.none]},toks:=t3}:=by
  refine wpAny_operating (wpAny_getItem_str_slice (l:=l') (u:=H) (st:=none) ⟨_,bv _ rfl,rfl,rfl⟩ rfl (xO d λ t' tk=>?_));rw[go];exact ae (af (af (k _ _ K3 tk ((k1.trans k2).trans k3) (S3.grow (λ b o e=>aA _ e)) ⟨t',rfl⟩)))
 first
  |exact af (ae fin)
  |exact ae (af (ae fin))
  |exact ae fin
end
def ch (t:Str) (p:Nat):Str:=⟨((t.cps.toList.drop p).take 1).toArray⟩
theorem BN (h:t.length <= p):ch t p="":=by
 unfold ch;have:t.cps.toList.length <= p:=by simpa [bA] using h
 rw[bN this];rfl
theorem QK {α:Type} {l:List α} {p:Nat} (h:p<l.length):sl (some (p:Int)) (some ((p:Int)+1)) l=(l.drop p).take 1:=by
 have h:=xN (jW p) h
 rwa [Nat.succ_sub (aR p),nr] at h
theorem MB {α:Type} (l:List α) (a:α):sl none (some (-1:Int)) (l++[a])=l:=by
 have h1:clipAt (l++[a]).length (-1:Int)=l.length:=by unfold clipAt;rw[if_pos (by omega),aF,rI];omega
 unfold sl;simp only[Option.elim_some,Option.elim_none,h1,lL,Nat.sub_zero];rw[lO]
theorem QL {t:Str} {p:Nat} (h:p<t.length):sP none (some (-1:Int)) (sP (some (p:Int)) (some ((p:Int)+1)) t++" ")=ch t p:=by
 unfold sP ch;rw[QK (by simpa [bA] using h)];show KN (al (sl none (some (-1)) (Cz ((al ((t.cps.toList.drop p).take 1))++(" ":Str).cps))))=_;rw[Array.toList_append];show KN (al (sl none (some (-1)) (((t.cps.toList.drop p).take 1)++[32])))=_;rw[MB]
section
variable{c:Cx} {G G':Gm} {W Wr:Om} {K:jK} {C a da:aM} {fs fs':Gm} {name:Str} {n:Nat}
theorem Jj (inc:yc K c.T) (ok:Ok c n) (cf:oz K C) (ho:Ev c G W o (.inst C a da)) (t:gc W (da,cy c.w.params fs) Wq) (hf:fx K (.ref C) name=some (some (.ref f))) (V:typeIn K (.ref f)=some (.type "function"))
  (β:fs.any (λ p=>p.1==name)=false) (kp:Kp c.pr c.w c.T (.ref f)) (he:vd c G W es ds) (tk:cv W Wi Wr) (γ:Fn c.pr c.w c.T n (.ref f) (.inst C a da::ds) Wi (Is d Wi))
  (H:bE o name c.env (eval o c.env)=eval o c.env:=by symm) (u:(apos.endLine==pos.line)=true:=by symm) (M:decide (es.length<30)=true:=by symm):
  Ev c G W (.Call (.Attribute o name apos) es [] pos) d:=λ s K Q E S k=>kf inc ok cf ho t hf V β kp he tk γ H u M s K Q E S λ v h' K' t' d' W' a b r p=>by
 obtain⟨Wo,⟨rfl,rfl⟩,rfl⟩:=p;exact k v h' K' t' a (vX tk b) r
end
section
variable{c:Cx} {G:Gm} {W:Om}
theorem BO (ok:Ok c n) (hA:c.T A=some u) (hB:c.T B=some v) (t:u.cls=.type "type") (d:A≠B):eM c G W (.val (.ref A)) (.val (.ref B)) (.bool true) (bq .IsNot):=λ s K x y Q E S r1 r2 h=>by
 obtain rfl:=r1;obtain rfl:=r2;have X:=S.inT ok;exact wpAny_isNot_ref_other d (X _ _ hA) (X _ _ hB) (by rw[t];decide) (h _ s.heap K _ FM.Le.rfl S (by ext rd))
theorem zG:eM c G W (.val (.ref A)) (.val (.ref A)) (.bool false) (bq .IsNot):=λ s K x y Q E S r1 r2 h=>by
 obtain rfl:=r1;obtain rfl:=r2;exact wpAny_isNot_ref_self (h _ s.heap K _ FM.Le.rfl S (by ext rd))
end
section
open PySem.Builtin PySem.Builtin.ObjectAttr
def mE {α:Type} (K:jK) (t:Sem α):Option α:=@Sem.rec α (λ _=>Option α) (λ a=>some a) (λ _=>none) (λ _=>none) (λ _=>none) (λ _ _ d=>d ()) (λ _ _ _=>none) (λ a _ _ d=>(K.lookup a).bind d) (λ _ _ _ _ _=>none) (λ _ _ _=>none) (λ _ _ _=>none) (λ _ _ d=>d ()) (λ _ _ _=>none) (λ _ _=>none) (λ _ _=>none) (λ _ _ _ _=>none) (λ _ _ _ _=>none) (λ _ _ _ _ _ _=>none) (λ _ _ _=>none) (λ _ _ _=>none) (λ _ _ _=>none) (λ _ _ _ _ _=>none) (λ _ _ _ _ _=>none) (λ _ _=>none) (λ _ _ _=>none) (λ _ _=>none) (λ _ _ _ _ _ _=>none) t
theorem iF {α:Type} {K:jK} {M:sk} {h:dM} (X:K.In h):∀(t:Sem α) {a:α},mE K t=some a->iJ M h t a:=by
 intro t
 induction t with
 |pure b=>intro a e;cases e;exact λ A Q E s k q=>af q
 |rule tag k u=>intro a e;exact λ A Q E s d q Γ p v=>u () e A Q E s d q Γ p v
 |point l k u=>intro a e;exact λ A Q E s d q Γ p v=>u () e A Q E s d q Γ p v
 |load b part k u=>
  intro a e;obtain⟨o,H,e⟩:=pK.mp e;exact λ A Q E s d q Γ p v=>⟨o,d _ _ (X _ _ H),u o e A Q E s d q Γ p v⟩
 |_=>intro a e;cases e
theorem Vh {α β:Type} {M:sk} {A:bU} {Q:β->ak->Prop} {E:aj->ak->Prop} {s:ak} {b:Bool} {x y:Sem α} {f:α->Sem β} (e:b=false) (h:wpAny M A (y>>=f) Q E s):wpAny M A ((if b=true then x else y)>>=f) Q E s:=by subst e;exact h
theorem QM {β:Type} {M:sk} {A:bU} {Q:β->ak->Prop} {E:aj->ak->Prop} {s:ak} {b:Bool} {x y:Sem β} (e:b=false) (h:wpAny M A y Q E s):wpAny M A (if b=true then x else y) Q E s:=by subst e;exact h
theorem MC {prog:aG} {w:aB} {A:bU} {K:jK} {C:aM} {R:mS->ak->Prop} {h:dM} {g:Array yZ} {d:Drawn} {t:Nat} {os:qy} {H:aj} {v:Option aM} {cd:tf} {sl:Array (Option aj)} {B:aj} (X:K.In h)
  (hC:h.get? C=some ⟨H,v,.cls cd,sl⟩) (e1:cd.abstract=false) (e2:cd.hasDel=false) (h1:mE K (isType (.ref C))=some true) (h2:mE K (fT "object.__new__" ⟨[.ref C],[]⟩)=some ()) (h3:mE K (kU (.ref C))=some B) (h4:mE K (j7 B)=some (some "object.__new__"))
  (V:R (.ok (.ret (.ref (h.objs.size+1)))) ⟨(h.push emptyDict).push (instObj C h.objs.size),g,d,t,os⟩):
  eQ (model prog w) A (.call (.builtin "object.__new__") ⟨[.ref C],[]⟩) R ⟨h,g,d,t,os⟩:=by
 injections prog w A K C R h g d t os H v cd sl B X hC e1 e2 h1 h2 h3 h4 V;have F:=PySem.F.objNew;have typ:=iF (M:=model prog w) X _ h1;have here:iJ (model prog w) h (z7 "object.__new__" (.ref C)) ():=(iF X _ h3).andThen ((iF X _ h4).andThen (jx (if_neg (ne_true_of_eq_false (bne_self_eq_false _)))));refine oj (jc _ F.quiet) (Looks.at (iF X _ h2) ?_);refine bJ F.entry ?_;unfold Builtin.«object.__new__»;have fin:∀A',wpAny (model prog w) A' (do
   let d<-if typeHasDict (.ref C) then some<$>alloc {cls:=.type "dict",data:=.dict #[]} else pure none
   ret (<-newObj (.ref C) .plain d)) (λ fin u=>match fin with|.done f=>R (.ok f) u|.again c'=>c'.quiet=true /\ eQ (model prog w) A c' R u) (λ e u=>R (.error e) u) ⟨h,g,d,t,os⟩:=by
  intro A';show wpAny _ _ ((alloc emptyDict>>=λ x=>pure (some x))>>=_) _ _ _;refine ae (ae (mK (af (ae ?_))));show wpAny _ _ (newObjAsIs _ _ _) _ _ _;unfold newObjAsIs classHasDel;refine ae (mK (ae (ae (jT (aA _ (aA _ hC)) (af ?_)))));rw[e2];refine af (af ?_);show R _ _;rw[jU];exact V
 repeat (first|exact fin _|(with_reducible refine QM e1 ?_)|(with_reducible refine Vh rfl ?_)|(with_reducible refine QM rfl ?_)|lk)
end
section
open PySem.Builtin PySem.Builtin.ObjectAttr
theorem zH {prog:aG} {w:aB} {A:bU} {E:aj->ak->Prop} {s:ak} {K:jK} {H:Sem Bool} {Q:aj×List aj->ak->Prop} (X:K.In s.heap) (e:findCls K (.type "object") (.type "type") "__new__"=some (.val (.builtin "object.__new__")))
  (h:Q (.builtin "object.__new__",[]) {s with toks:=s.toks+1}):wpAny (model prog w) A (getMethod (.type "object") "__new__" H) Q E s:=by
 have hs:xw "object"=false:=by rfl'
 have M:typeOf (.type "object")=pure (.type "type"):=by symm
 have d:opaqueClassAbove (.type "object")=pure none:=by unfold opaqueClassAbove;dsimp only;rw[hs];rfl
 have u:iJ (model prog w) s.heap (typeOf (.type "object")) (.type "type"):=jx M;have t:fx K (.type "type") "__getattribute__"=some (some (.builtin "type.__getattribute__")):=type_tga;unfold getMethod eK;refine ae (ae (u.here ((dK X t).here ?_)));dsimp only;rw[if_pos canon_tga];refine ae (bX (Q:=λ v=>Q (v,[])) (E:=E) ?_ (λ _ _ z=>af z) λ _ _ z=>z);have V:iJ (model prog w) s.heap (opaqueClassAbove (.type "object")) none:=jx d;refine cls_open X V u t (looks_hook X (r:=none) (by rfl)) (by show subIn K _ _=_;rfl) e ?_;exact af (th rfl h)
theorem Hs {c:Cx} {G:Gm} {W:Om} {n:Nat} {K:jK} {C:aM} {o V:cX} {apos pos:Pos} {oc:aj} {od:Option aM} {cd:tf} {sl:Array (Option aj)} {B:aj} (inc:yc K c.T) (ok:Ok c n) (ho:Ev c G W o (.val (.type "object"))) (he:Ev c G W V (.val (.ref C)))
  (hm:findCls K (.type "object") (.type "type") "__new__"=some (.val (.builtin "object.__new__"))) (hC:c.T C=some ⟨oc,od,.cls cd,sl⟩) (h1:cd.abstract=false) (h2:cd.hasDel=false) (h3:mE K (isType (.ref C))=some true) (h4:mE K (fT "object.__new__" ⟨[.ref C],[]⟩)=some ()) (h5:mE K (kU (.ref C))=some B) (h6:mE K (j7 B)=some (some "object.__new__"))
  (H:bE o "__new__" c.env (eval o c.env)=eval o c.env:=by symm) (t:(apos.endLine==pos.line)=true:=by symm) (hs:ge V=true:=by symm):
  rq c G W (.Call (.Attribute o "__new__" apos) [V] [] pos) (λ d W'=>∃a da,d=.inst C a da /\ W'=(da,cy c.w.params [])::W):=λ s K0 Q E S k=>by
 rw[pg,H];refine ae (ho s K0 _ E S λ v g1 K1 t1 k1 S1 r1=>ae (bn ?_));simp only[j9] at r1;subst r1;have u:j0 (([V]:List cX).length+([]:List Cv).length) (backTo pos (gQ [V] c.env)) (backToKw pos (keywordEach [] c.env))=true:=by
  rw[cj hs];rfl
 have M:iz true o c.env apos pos=pure pos:=by unfold iz;simp[t]
 unfold methodCall;rw[u];refine ae (aD (zH (s:={s with heap:=g1,toks:=t1}) (inc _ (S1.inT ok)) hm ?_));refine ae (cz M ?_);refine jk ok iu (bg he bW hs) {s with heap:=g1,toks:=t1+1} K1 Q E S1 λ vs g2 K2 t2 k2 S2 r2=>?_;simp only[ro,j9] at r2;obtain⟨_,_,rfl,rfl,rfl⟩:=r2;refine dR (MC (g:=s.gens) (d:=s.drawn) (os:=s.os) (inc _ (S2.inT ok)) (S2.inT ok _ _ hC) h1 h2 h3 h4 h5 h6 ?_);have A1:=Aft.inst (C:=C) (P:=c.w.params) S2.kp (gx.nil (K:=K2) (h:=g2));have S3:=(S2.perm (W':=[]++W) (by simp)).call A1;exact k _ _ _ t2 (.inst C (g2.objs.size+1) g2.objs.size) _ ((k1.trans k2).trans A1.le) S3 (by simp only[j9];exact⟨trivial,FM.add_self⟩) ⟨_,_,rfl,rfl⟩
end
def yh {σ β:Type} (m:σ->Nat) (I:σ->Prop) (G₀:σ->Gm) (u:σ->Om) (J:β->Prop) (H:β->Gm) (v:β->Om) (st:σ) (R:iD->Prop):iD->Prop
 |.next G' W'=>∃t,m t<m st /\ I t /\ Sub (G₀ t) G' /\ cv W' (u t) []
 |.cont G' W'=>∃t,m t<m st /\ I t /\ Sub (G₀ t) G' /\ cv W' (u t) []
 |.brk G' W'=>∃b,J b /\ Sub (H b) G' /\ cv W' (v b) []
 |.ret d W'=>R (.ret d W')
theorem MD {c:Cx} {G:Gm} {W:Om} {σ β:Type} {l:List eX} {R:iD->Prop} {m:σ->Nat} {I:σ->Prop} {G₀:σ->Gm} {t:σ->Om} {J:β->Prop} {H:β->Gm} {u:β->Om} {st:σ} (d:σ) (e:m d=m st)
  (h:∀v:iD->Prop,(∀o,yh m I G₀ t J H u d R o->v o)->Ex c G W l v):Ex c G W l (yh m I G₀ t J H u st R):=h _ λ o q=>by
 cases o with
 |next=>exact q.elim λ a q=>⟨a,e▸q.1,q.2⟩
 |cont=>exact q.elim λ a q=>⟨a,e▸q.1,q.2⟩
 |brk=>exact q
 |ret=>exact q
theorem Ax {σ β:Type} {R:iD->Prop} (m:σ->Nat) (I:σ->Prop) (G₀:σ->Gm) (H:σ->Om) (J:β->Prop) (Gb:β->Gm) (V:β->Om) (st:σ) (h0:I st) (hG:Sub (G₀ st) G) (hW:cv W (H st) [])
  (u:∀st,I st->Tt c (G₀ st) (H st) v true /\ Ex c (G₀ st) (H st) body (yh m I G₀ H J Gb V st R)) (done:∀b,J b->Ex c (Gb b) (V b) rest R):Ex c G W (.While v body [] pos::rest) R:=by
 refine kc m I G₀ H st h0 hG hW λ st i=>.inl ⟨(u st i).1,Bg (u st i).2 λ o M=>?_⟩;cases o with
 |next G' W'=>exact M
 |cont G' W'=>exact M
 |brk G' W'=>obtain⟨b,j,g,t⟩:=M;exact Iz g t (done b j)
 |ret d W'=>exact M
def s1 (c:Nat):Str:=⟨#[c]⟩
def isQ (c:Nat):Bool:=c==39||c==34
def zI (st:Str):Bool:=st=="'"||st=="\""
abbrev LX:=Str×Str×Bool
def cK (x:LX) (c:Nat):LX:=
 if zI x.1 then(if s1 c=x.1 then("a",x.2.1,true) else(x.1,x.2.1++s1 c,true))
 else if isQ c then(s1 c,x.2.1,x.2.2) else("a",x.2.1++s1 c,x.2.2)
def rZ (x:LX) (c:Nat):Bool:=c !=9&&c !=10&&c !=13&&c !=92&&(zI x.1||c !=32)
def gA (cs:List Nat):LX:=cs.foldl cK (" ","",false)
structure Jk (cs:List Nat) (wd:Str):Prop where
 ok:∀i c,cs[i]?=some c->rZ (gA (cs.take i)) c=true
 st:(gA cs).1="a"
 tok:(gA cs).2.1=wd
 ne:wd.length≠0
theorem wP {cs:List Nat} {i c:Nat} (h:cs[i]?=some c):gA (cs.take (i+1))=cK (gA (cs.take i)) c:=by
 unfold gA;rw[bY,h,cr,cq];rfl
theorem ll (x:Str) (c:Nat):eR x (s1 c)=decide (c∈x.cps.toList):=StrLaws.found_one x c
theorem Jl (h:c≠d):s1 c≠s1 d:=λ e=>h (by have:=congrArg (λ s:Str=>s.cps.toList) e;simpa [s1] using this)
theorem SV (h:t.cps.toList[p]?=some c):ch t p=s1 c:=by
 unfold ch s1;obtain⟨h1,h2⟩:=au.mp h;rw[aJ h1,fD,nO,h2]
theorem QN (h:isQ c=true):zI (s1 c)=true:=by
 rcases tB.mp h with h|h<;>rw[eq_of_beq h]<;>rfl
theorem EG (cs:List Nat) (i:Nat) (hi:i <= cs.length):(gA (cs.take i)).1="a" \/ zI (gA (cs.take i)).1=true \/ (i=0 /\ gA (cs.take i)=(((" ":Str),("":Str),false):LX)):=by
 cases i with
 |zero=>exact .inr (.inr ⟨rfl,rfl⟩)
 |succ i=>
  rw[wP (am hi)];generalize gA (cs.take i)=x;unfold cK
  split
  .split
   .exact .inl rfl
   .exact .inr (.inl ‹_›)
  .split
   .exact .inr (.inl (QN ‹_›))
   .exact .inl rfl
theorem wQ:∀(cs:List Nat) (x:LX),(cs.foldl cK x).2.1.length <= x.2.1.length+cs.length
 |[],x=>by simp
 |c::cs,x=>by
  have h:=wQ cs (cK x c);have h2:(cK x c).2.1.length <= x.2.1.length+1:=by
   unfold cK;have hs:(s1 c).length=1:=rfl
   split
   .split
    .exact jW _
    .show(x.2.1++s1 c).length <= _;rw[cF,hs];exact aR _
   .split
    .exact jW _
    .show(x.2.1++s1 c).length <= _;rw[cF,hs];exact aR _
  rw[bf,aE];exact LJ h h2
structure Di (pr:aG) (w:aB) (A:bU) (K₀:FM) (P:Nat->Om) (PF:Om) (ds:List D) (it:aM):Prop where
 item:∀(i:Nat) (d:D),ds[i]?=some d->∀(s:ak) (K:FM) (Q:Option aj->ak->Prop) (E:aj->ak->Prop),FM.Le K₀ K->FM.In K s.heap->gx K s.heap (P i)->
  (∀v h' K' t',Aft K s.heap (P i) K' h' (P (i+1))->Rd K' d v->Q (some v) {s with heap:=h',toks:=t'})->wpAny (model pr w) A (pyNext (.ref it)) Q E s
 done:∀(s:ak) (K:FM) (Q:Option aj->ak->Prop) (E:aj->ak->Prop),FM.Le K₀ K->FM.In K s.heap->gx K s.heap (P ds.length)->
  (∀h' K' t',Aft K s.heap (P ds.length) K' h' PF->Q none {s with heap:=h',toks:=t'})->wpAny (model pr w) A (pyNext (.ref it)) Q E s
 self:∀(s:ak) (K:FM) (Q:aj->ak->Prop) (E:aj->ak->Prop),FM.Le K₀ K->FM.In K s.heap->gx K s.heap (P 0)->
  (∀h' K' t',Aft K s.heap (P 0) K' h' (P 0)->Q (.ref it) {s with heap:=h',toks:=t'})->wpAny (model pr w) A (pyIter (.ref it)) Q E s
 ty:∀(s:ak) (K:FM) (Q:aj->ak->Prop) (E:aj->ak->Prop),FM.Le K₀ K->FM.In K s.heap->gx K s.heap (P 0)->(∀Cl,(Cl==.type "list")=false->(Cl==.type "tuple")=false->Q Cl s)->wpAny (model pr w) A (typeOf (.ref it)) Q E s
 len:∀(s:ak) (K:FM) (Q:Option aj->ak->Prop) (E:aj->ak->Prop),FM.Le K₀ K->FM.In K s.heap->gx K s.heap (P 0)->Q none s->wpAny (model pr w) A (eK (.ref it) (cw "__len__")) Q E s
 hint:∀(s:ak) (K:FM) (Q:Option aj->ak->Prop) (E:aj->ak->Prop),FM.Le K₀ K->FM.In K s.heap->gx K s.heap (P 0)->Q none s->wpAny (model pr w) A (eK (.ref it) (cw "__length_hint__")) Q E s
section
variable{pr:aG} {w:aB} {A:bU} {K₀:FM} {P:Nat->Om} {PF:Om} {ds:List D} {it:aM} {R:mS->ak->Prop} {E:aj->ak->Prop}
theorem BP (IT:Di pr w A.in1 K₀ P PF ds it) (hn:ds.length <= aO) (S:aM) (res:aj):
  ∀(k i:Nat) (s:ak) (K:FM),ds.length-i=k->i <= ds.length->FM.Le K₀ K->FM.In K s.heap->gx K s.heap ((S,.list (ds.take i))::P i)->
  (∀h' K' t',Aft K s.heap ((S,.list (ds.take i))::P i) K' h' ((S,.list ds)::PF)->R (.ok (.ret res)) {s with heap:=h',toks:=t'})->
  eQ (model pr w) A (.builtin "list.extend.loop" ⟨[.ref S,.ref it,res],[]⟩) R s:=by
 injections pr w A K₀ P PF ds it R IT hn S res;intro k
 induction k with
 |zero=>
  intro i s K H hi M kp o hR;have γ:i=ds.length:=ai hi (GD H dX);subst γ;refine bJ gY ?_;rw[bC cW _];show wpAny _ A.in1 (pyNext (.ref it)>>=_) _ _ s;refine ae (IT.done s K _ _ M kp (fM o) λ h' K' t' A1=>?_);have o2:gx K s.heap (P ds.length++[(S,.list (ds.take ds.length))]):=o.perm (by simpa using(aI _ _).symm);have V:=A1.frame (Wr:=[(S,.list (ds.take ds.length))]) o2;refine af (hR h' K' t' ?_);rw[bF] at V⊢;have u:Aft K s.heap ((S,.list ds)::P ds.length) K s.heap (P ds.length++[(S,.list ds)]):=(Aft.same kp (by rw[bF] at o;exact o)).perm (aI _ _).symm;exact u.trans (V.perm (aI _ _))
 |succ k ih=>
  intro i s K H hi M kp o hR;have d:i<ds.length:=Iq H (dE hi);refine bJ gY ?_;rw[bC cW _];show wpAny _ A.in1 (pyNext (.ref it)>>=_) _ _ s;refine ae (IT.item i ds[i] (by simp[d]) s K _ _ M kp (fM o) λ v h1 K1 t1 A1 r1=>?_);have o2:gx K s.heap (P i++[(S,.list (ds.take i))]):=o.perm (aI _ _).symm;have V:=A1.frame (Wr:=[(S,.list (ds.take i))]) o2;have u:Aft K s.heap ((S,.list (ds.take i))::P i) K1 h1 ((S,.list (ds.take i))::P (i+1)):=((Aft.same kp o).perm (aI _ _).symm).trans (V.perm (aI _ _));obtain⟨vs,e,hS,rs⟩:=l0 u.own;have hl:=rs.length;have t:vs.length <= i:=by rw[hl,bL];exact(bO _ _)
  show wpAny _ A.in1 (jw S (·.push v)>>=_) _ _ _;refine ae ?_;refine dk hS rfl (af ⟨cG cW _,?_⟩) (by simp only[aN];exact PK hn d t) (by rw[xp,aN];exact Sj hn d t);have β:=bo (cg (·.push v)) hS rfl;have A4:=hV (l':=ds.take (i+1)) (vs:=vs++[v]) (e:=_) u.kp u.own (λ b o hb e=>(bz _ _ (Ne.symm hb)).trans e) (β.trans (by rw[<-vM];rfl)) (by
   rw[bY,am d,cr];exact rs.append (cB.cons r1 cB.nil))
  refine ih (i+1) _ K1 (ai (GF H dX (dE (zu d))) (GG H dX (dE (di d)))) d (M.trans u.le) A4.kp A4.own λ h' K' t' A5=>hR h' K' t' ((u.trans A4).trans A5)
theorem BQ (v:Di pr w A.in1 K₀ P PF ds it) (hn:ds.length <= aO) (S:aM) (β:S≠it) (res:aj) (s:ak) (K:FM) (u:FM.Le K₀ K) (kp:FM.In K s.heap) (o:gx K s.heap ((S,.list [])::P 0))
  (hR:∀h' K' t',Aft K s.heap ((S,.list [])::P 0) K' h' ((S,.list ds)::PF)->R (.ok (.ret res)) {s with heap:=h',toks:=t'}):
  wpAny (model pr w) A.in1 (cM (.ref S) (.ref it) res)
   (λ fin H=>match fin with|.done f=>R (.ok f) H|.again c'=>c'.quiet=true /\ eQ (model pr w) A c' R H) (λ e H=>R (.error e) H) s:=by
 unfold cM;refine ae (v.ty s K _ _ u kp (fM o) λ Cl h2 h3=>?_);have h1:ix (.ref S) (.ref it)=false:=by simp[ix,β]
 simp only[h1,h2,h3,zS,bQ,if_false];refine ae (v.self s K _ _ u kp (fM o) λ hs M ts As=>?_);have Af:=As.frame (Wr:=[(S,.list [])]) (o.perm (aI _ _).symm);have d:Aft K s.heap ((S,.list [])::P 0) M hs ((S,.list [])::P 0):=((Aft.same kp o).perm (aI _ _).symm).trans (Af.perm (aI _ _));refine ae (aD ?_);unfold np;refine ae (v.len _ M _ _ (u.trans d.le) d.kp (fM d.own) ?_);show wpAny _ A.in1 (eK (iK it) (cw "__length_hint__")>>=_) _ _ _;refine ae (v.hint _ M _ _ (u.trans d.le) d.kp (fM d.own) ?_);refine af ?_;show wpAny _ A.in1 (rule "list.extend.makes-room">>=λ _=>qL (.ref S)>>=λ _=>
  again (.builtin "list.extend.loop" ⟨[.ref S,.ref it,res],[]⟩)) _ _ _
 refine ae (gw ?_);obtain⟨vs,e,hS,rs⟩:=l0 d.own;have hv:vs=[]:=rs;subst hv;refine ae ?_;show wpAny _ A.in1 (jw S (·.push .none)>>=λ _=>jw S (·.pop)) _ _ _;refine ae (dk hS rfl ?_);have t:=bo (cg (·.push bx)) hS rfl;refine dk (hz:=by seq_fits) t rfl ?_;have γ:=bo (cg (·.pop)) t rfl;have V:∀b o,b≠S->hs.get? b=some o->((hs.update S (cg (·.push bx))).update S (cg (·.pop))).get? b=some o:=
  λ b o hb e=>(bz _ _ (Ne.symm hb)).trans ((bz _ _ (Ne.symm hb)).trans e)
 have A1:=hV (l':=[]) (vs:=[]) (e:=_) d.kp d.own V (γ.trans rfl) cB.nil;refine af ⟨cG cW _,BP v hn S res ds.length 0 _ M (ai ((bG _ _)) (Sk dX)) (aU _) (u.trans d.le) A1.kp A1.own λ h' K' t' A2=>hR h' K' t' ((d.trans A1).trans A2)⟩
theorem EH {Q:aj->ak->Prop} (IT:Di pr w A.in1.in1 K₀ P PF ds it) (hn:ds.length <= aO) (s:ak) (K:FM) (hit:∃o,s.heap.get? it=some o) (hK:FM.Le K₀ K) (kp:FM.In K s.heap) (o:gx K s.heap (P 0))
  (hQ:∀a h' K' t',Aft K s.heap (P 0) K' h' ((a,.list ds)::PF)->Q (.ref a) {s with heap:=h',toks:=t'}):wpAny (model pr w) A (call (.type "list") [.ref it]) Q E s:=by
 have t:s.heap.objs.size≠it:=λ e=>by obtain⟨o,h⟩:=hit;exact absurd (cC h) (by rw[<-e];exact cU _)
 refine sw (Q₁:=λ obj M=>obj=.ref s.heap.objs.size /\ M={s with heap:=s.heap.push {cls:=.type "list",data:=.seq #[]}}) tx (pU _) pV
  (zT _ ⟨rfl,rfl⟩) λ obj M h₁=>?_
 obtain⟨rfl,rfl⟩:=h₁;have d:(s.heap.push {cls:=.type "list",data:=.seq #[]}).get? s.heap.objs.size=some {cls:=.type "list",data:=.seq #[]}:=bv _ rfl;refine⟨⟨_,d,rfl⟩,oZ _ _,?_⟩;show wpAny _ A.in1.in1 (do let old<-bP (.ref s.heap.objs.size);pW (.ref s.heap.objs.size) (λ _=>#[]);letGo old.toList.reverse;cM (.ref s.heap.objs.size) (.ref it) .none) _ _ _;refine ae ?_;unfold bP;refine ae (bI d rfl (af ?_));show wpAny _ _ (jw s.heap.objs.size (λ _=>#[])>>=λ _=>letGo (#[]:Array aj).toList.reverse>>=λ _=>cM (.ref s.heap.objs.size) (.ref it) .none) _ _ _;refine ae (dk d rfl ?_);have u:=bo (cg (λ _=>(#[]:Array aj))) d rfl;have H:Aft K s.heap (P 0) K (s.heap.push {cls:=.type "list",data:=.seq #[]}) ((s.heap.objs.size,.list [])::P 0):=Aft.pushOwn kp o _ (b:=.list []) ⟨[],_,rfl,cB.nil⟩;have v:=hV (l':=[]) (vs:=[]) (e:=_) H.kp H.own (λ b o hb e=>(bz _ _ (Ne.symm hb)).trans e) (u.trans rfl) cB.nil;refine ae (fZ ?_);refine BQ (R:=λ r s'=>wants (λ r V=>r=bx /\ Q (.ref s.heap.objs.size) V) E r s') IT hn s.heap.objs.size t .none _ K hK v.kp v.own λ h' K' t' A2=>?_;exact⟨rfl,hQ _ h' K' t' ((H.trans v).trans A2)⟩
end
def jM (d:Fk) (o:Obj):Prop:=o.data=d
abbrev Ea:=List (Env×aM×Fk)
abbrev Ea.envs (fr:Ea):List Env:=fr.map (·.1)
abbrev Ea.om (fr:Ea):Om:=fr.map λ x=>(x.2.1,.pred (jM x.2.2))
def Ea.Ok (fr:Ea):Prop:=∀x∈fr,x.1.scope.kind≠.module /\ x.1.frame=some x.2.1 /\ ∀vs,x.2.2≠.fields vs
theorem vo {h base:dM}:∀{l:List Env},(∀env∈l,env.scope.kind≠.module /\ ∃L o,env.frame=some L /\ base.get? L=none /\ h.get? L=some o /\ ∀vs,o.data≠.fields vs)->h.FunFrames base l
 |[],_=>trivial
 |env::l,hl=>⟨(hl env (ag ..)).1,(hl env (ag ..)).2,vo λ e d=>hl e (ao _ d)⟩
theorem Ht {M:sk} {A:bU} {E:aj->ak->Prop} {Q:Unit->ak->Prop} {s:ak} {K:FM} {g h':dM} {fr:Ea} {env:Env} {L e:aM} {W:Om} (kp:FM.In K g) (o:gx K g ((L,.pred Ic)::(fr.om++W))) (hf:env.frame=some L) (hk:env.scope.kind≠.module) (β:fr.Ok) (hA:A.frames=some (env::fr.envs)) (d:Heap.MadeExc g h' e "StopIteration" [])
  (hQ:∀u,Aft K g ((L,.pred Ic)::(fr.om++W)) K u (fr.om++W)->(∃ob,u.get? e=some ob /\ ob.cls=.type "StopIteration")->Q () {s with heap:=u}):wpAny M A (leaving env (.ref e)) Q E {s with heap:=h'}:=by
 let as:List aM:=L::fr.map (·.2.1)
 obtain⟨t,he,_⟩:=d.there;have ε:∀a∈as,∃ob,g.get? a=some ob /\ ∀vs,ob.data≠.fields vs:=by
  intro a ha;rcases ap.mp ha with rfl|ha
  .obtain⟨ob,q1,⟨es,ep,q2,_⟩,_⟩:=o.at_ _ (ag ..);exact⟨ob,q1,λ vs z=>by rw[q2] at z;cases z⟩
  .obtain⟨x,d,rfl⟩:=az.mp ha;obtain⟨ob,q1,q2,_⟩:=o.at_ (x.2.1,.pred (jM x.2.2)) (ao _ (aP _ (aZ d)));exact⟨ob,q1,λ vs z=>(β x d).2.2 vs ((show ob.data=x.2.2 from q2).symm.trans z)⟩
 have ι:∀a∈as,(hideAll g as).get? a=none:=λ a ha=>hideAll_none as ha;have θ:∀b ob,b∉as->g.get? b=some ob->(hideAll g as).get? b=some ob:=λ b ob hb e=>hideAll_get as e hb;have η:(hideAll g as).get? e=none:=by
  cases q:(hideAll g as).get? e with
  |none=>rfl
  |some ob=>have:=of_hideAll as q;rw[d.new] at this;cases this
 refine wpAny_leaving_firstW (base:=hideAll g as) (a0:=.ref t) hA (vo ?_) hf he (λ b ob q=>d.keeps b ob (of_hideAll as q)) η rfl rfl rfl λ u hL=>?_
 .intro v hv;have key:∃a∈as,v.frame=some a:=by
   rcases ap.mp hv with rfl|hv
   .exact⟨L,ag ..,hf⟩
   .obtain⟨x,d,rfl⟩:=az.mp hv;exact⟨x.2.1,ao _ (aZ (f:=(·.2.1)) d),(β x d).2.1⟩
  refine⟨?_,?_⟩
  .rcases ap.mp hv with rfl|hv
   .exact hk
   .obtain⟨x,d,rfl⟩:=az.mp hv;exact(β x d).1
  .obtain⟨a,ha,ζ⟩:=key;obtain⟨ob,q1,q2⟩:=ε a ha;exact⟨a,ob,ζ,ι a ha,d.keeps _ _ q1,q2⟩
 .obtain⟨k1,_,⟨oe,_,_,_,_,e1,⟨e2,_⟩,_⟩,k4⟩:=hL;have keep:∀b ob,b∉as->g.get? b=some ob->u.get? b=some ob:=λ b ob hb q=>k1 b ob (θ b ob hb q);have nK:∀a∈as,K a=none:=by
   intro a ha;rcases ap.mp ha with rfl|ha
   .exact(o.at_ _ (ag ..)).choose_spec.2.2
   .obtain⟨x,d,rfl⟩:=az.mp ha;exact(o.at_ (x.2.1,.pred (jM x.2.2)) (ao _ (aP _ (aZ d)))).choose_spec.2.2
  have δ:∀a∈as,a∈(((L,Ob.pred Ic)::(fr.om++W)):Om).map (·.1):=by
   intro a ha;rcases ap.mp ha with rfl|ha
   .simp
   .obtain⟨x,d,rfl⟩:=az.mp ha;exact az.mpr ⟨(x.2.1,.pred (jM x.2.2)),ao _ (aP _ (aZ d)),rfl⟩
  refine hQ u ⟨FM.Le.rfl,λ b ob q=>keep b ob (λ hb=>by rw[nK b hb] at q;cases q) (kp b ob q),λ b ob q hb=>keep b ob (λ z=>hb (δ b z)) q,λ _ _ q=>.inl q,⟨λ p V=>?_,(bZ.mp o.nd).2⟩,λ p V=>.inr (aZ (ao _ V))⟩ ⟨oe,e1,e2⟩;have γ:=o.nd;rcases aQ.mp V with V|V
  .obtain⟨x,H,rfl⟩:=az.mp V;obtain⟨ob,q1,q2,q3⟩:=o.at_ (x.2.1,.pred (jM x.2.2)) (ao _ (aP _ (aZ H)));have q2:ob.data=x.2.2:=q2;obtain⟨sl,z⟩:=k4 x.2.1 ob (d.keeps _ _ q1) (λ vs y=>(β x H).2.2 vs (q2.symm.trans y));exact⟨_,z,q2,q3⟩
  .obtain⟨ob,q1,q2,q3⟩:=o.at_ p (ao _ (aS _ V));refine⟨ob,keep p.1 ob (λ hb=>?_) q1,q2,q3⟩;rw[aq,av,bZ,cP] at γ;rcases ap.mp hb with e|hb
   .exact γ.1 (aS _ (az.mpr ⟨p,V,e⟩))
   .obtain⟨x,H,e⟩:=az.mp hb;exact γ.2.2.2 _ (az.mpr ⟨(x.2.1,.pred (jM x.2.2)),aZ H,rfl⟩) _ (aZ V) e
theorem f'.callL {B:Bs} {L:aM} {h h':dM} {K K':FM} {G:Gm} {Wi Wo Wr:Om} {d:Fk} (S:f' B L h K G (Wi++Wr)) (A:Aft K h ((L,.pred (jM d))::Wi) K' h' ((L,.pred (jM d))::Wo)) (hd:∀o,h.get? L=some o->o.data=d):f' B L h' K' G (Wo++Wr):=by
 injections B L h h' K K' G Wi Wo Wr d S A hd;have nd:=S.own.nd;rw[av,cP] at nd;have hU:∀b o,B.U b=some o->b∉((L,Ob.pred (jM d))::Wi).map (·.1):=λ b o e hm=>by
  rw[aq,ap] at hm;rcases hm with rfl|hm
  .rw[S.ul] at e;cases e
  .obtain⟨p,t,q⟩:=az.mp hm;have:=(S.wu p (aP _ t)).1;rw[q,e] at this;cases this
 have H:=A.own.nd;rw[aq,bZ] at H;refine⟨?_,A.kp,λ b o e=>A.old b o (S.up b o e) (hU b o e),?_,S.ul,S.k0.trans A.le,?_,⟨?_,?_⟩,?_⟩
 .obtain⟨m,⟨o,es,ep,q1,q2,q3⟩,g⟩:=S.ns;obtain⟨u,h1,h2,_⟩:=A.own.at_ _ (ag ..);have h2:u.data=d:=h2;exact⟨m,⟨u,es,ep,h1,h2.trans ((hd o q1).symm.trans q2),q3⟩,λ p t=>let⟨v,e,r⟩:=g p t;⟨v,e,Rd.mono A.le _ r⟩⟩
 .exact(A.own.at_ _ (ag ..)).choose_spec.2.2
 .intro b o e;rcases A.new b o e with z|z|z
  .exact S.fz b o z
  .right
   cases e':B.U b with
   |none=>rfl
   |some u=>rw[S.up b u e'] at z;cases z
  .right
   rw[aq,ap] at z;rcases z with rfl|z
   .exact S.ul
   .obtain⟨p,t,q⟩:=az.mp z;exact q▸(S.wu p (aP _ t)).1
 .intro p t;rcases aQ.mp t with t|t
  .exact A.own.at_ p (ao _ t)
  .obtain⟨o,q1,q2,q3⟩:=S.own.at_ p (aS _ t);have hn:p.1∉((L,Ob.pred (jM d))::Wi).map (·.1):=λ z=>by
    rw[aq,ap] at z;rcases z with z|z
    .exact(S.wu p (aS _ t)).2 z
    .exact nd.2.2 p.1 z p.1 (aZ (f:=(·.1)) t) rfl
   refine⟨o,A.old _ _ q1 hn,q2.mono A.le,?_⟩;cases e:K' p.1 with
   |none=>rfl
   |some u=>
    rcases A.new _ _ e with z|z|z
    .rw[q3] at z;cases z
    .rw[q1] at z;cases z
    .exact absurd z hn
 .rw[av,cP];refine⟨H.2,nd.2.1,?_⟩;intro x hx y hy e;subst e;obtain⟨p,t,rfl⟩:=az.mp hx;obtain⟨q,V,e⟩:=az.mp hy;have e:q.1=p.1:=e;rcases A.wn p (ao _ t) with z|z
  .obtain⟨o,q1,_⟩:=S.own.at_ q (aS _ V);rw[e,z] at q1;cases q1
  .rw[aq,ap] at z;rcases z with z|z
   .exact(S.wu q (aS _ V)).2 (e.trans z)
   .exact nd.2.2 p.1 z p.1 hy rfl
 .intro p t;rcases aQ.mp t with t|t
  .have M:p.1≠L:=λ z=>H.1 (az.mpr ⟨p,t,z⟩);refine⟨?_,M⟩;rcases A.wn p (ao _ t) with z|z
   .cases e':B.U p.1 with
    |none=>rfl
    |some u=>rw[S.up _ u e'] at z;cases z
   .rw[aq,ap] at z;rcases z with z|z
    .exact absurd z M
    .obtain⟨q,V,e⟩:=az.mp z;have:=(S.wu q (aP _ V)).1
     rwa [show q.1=p.1 from e] at this
  .exact S.wu p (aS _ t)
theorem f'.ownL {B:Bs} {L:aM} {h:dM} {K:FM} {G:Gm} {W:Om} (S:f' B L h K G W):∃d,(∀vs,d≠.fields vs) /\ (∀o,h.get? L=some o->o.data=d) /\ gx K h ((L,.pred (jM d))::W):=by
 obtain⟨m,⟨o,es,ep,q1,q2,u⟩,g⟩:=S.ns;refine⟨.dict es ep,λ vs z=>(nomatch z),λ v e=>by rw[q1] at e;cases e;exact q2,⟨λ p t=>?_,?_⟩⟩
 .rcases ap.mp t with rfl|t
  .exact⟨o,q1,q2,S.kl⟩
  .exact S.own.at_ p t
 .rw[aq,bZ];refine⟨λ z=>?_,S.own.nd⟩;obtain⟨p,t,e⟩:=az.mp z;exact(S.wu p t).2 e
def O5 (pr:aG) (w:aB) (T:FM) (n:Nat) (fr:Ea) (f:aj) (mk:List aj->pP) (ds:List D) (Wi:Om) (P:D->Om->Prop):Prop:=
 ∀A:bU,A.handled=none->A.depth+n <= 990->A.units+3*n <= 9000->A.frames=some fr.envs->∀(s:ak) (K:FM) (vs:List aj) (Q:aj->ak->Prop) (E:aj->ak->Prop),FM.Le T K->FM.In K s.heap->cB K ds vs->gx K s.heap (fr.om++Wi)->
  (∀v h' K' t' d Wo,Aft K s.heap (fr.om++Wi) K' h' (fr.om++Wo)->Rd K' d v->P d Wo->Q v {s with heap:=h',toks:=t'})->wpAny (model pr w) A (call f (mk vs).pos (mk vs).kw) Q E s
theorem Ay {mk:List aj->pP} {P:D->Om->Prop} (G₀:Gm) (hf:FnAt T a M body) (hn:xJ T)
  (β:Vg T M mk ds G₀) (V:∀x∈M.scope.names,x.2≠.cell)
  (hb:∀(A:bU) (L:aM) (B:Bs),Ok ⟨pr,w,T,A,cx M L a,B⟩ n->A.frames=some (cx M L a::fr.envs)->Ex ⟨pr,w,T,A,cx M L a,B⟩ G₀ (fr.om++Wi) body (Gives λ d W=>∃Wo,W=fr.om++Wo /\ P d Wo))
  (μ:M.scope.isCoroutine=false:=by symm) (η:M.scope.isGenerator=false:=by symm) (hk:M.scope.kind=.function:=by symm):
  O5 pr w T (n+1) fr (.ref a) mk ds Wi P:=by
 intro A hA hd hu ρ κ K₀ ι Q E u γ δ ο h₀;obtain⟨cl,dd,sl,ξ⟩:=hf.at_;obtain⟨cc,co,σ,ct,ν,hc2,hc3,hc4⟩:=hf.code;refine dR (lV (by have:jS=1000:=rfl;exact Io hd) (γ _ _ (u _ _ ξ)) rfl μ η hf.body ⟨cc,co,σ,ct,ν,γ _ _ (u _ _ hc2),hc3,hc4⟩ ?_);refine β _ _ _ κ K₀ ι _ u γ δ λ bl hh K tt AF hg ε=>?_;have hT:FM.Le T K:=u.trans AF.le;have θ:Aft K₀ κ.heap (fr.om++Wi) K hh (fr.om++Wi):=AF.frame (Wr:=fr.om++Wi) (by simpa using ο);have hK:FM.In K hh:=AF.kp;have hO:gx K hh (fr.om++Wi):=θ.own;have ζ:hh.NoLimit:=hn _ λ b o e=>hK _ _ (hT _ _ e);refine ik V ε (λ h₁ ns sb=>⟨ζ.fresh _ sb,vK ?_⟩) hk;have keep:∀b o,hh.get? b=some o->h₁.get? b=some o:=λ b o e=>sb.extBut b o (gE (cC e)) (aA _ e);have hL:hh.get? hh.objs.size=none:=kX;have S:=pu (L:=hh.objs.size) hK hO hL keep ns hg;refine hb (A.deeper _) _ _ ⟨hT,hA,by show A.depth+1+n <= 990;exact CD hd,by show A.units+3+3*n <= 9000;exact Ip hu⟩ (sG ρ) _ K _ _ S ?_;intro f h' K' t' k1 e1;have fin:∀G' W' Wo Wr d (v:aj),f' ⟨K,rt hh (fr.om++Wi)⟩ hh.objs.size h' K' G' W'->cv W' Wo Wr->Rd K' d v->(∃Wp,Wo=fr.om++Wp /\ P d Wp)->Q v {κ with heap:=h',toks:=t'}:=λ G' W' Wo Wr d v H t r' p=>by
  obtain⟨Wp,rfl,p⟩:=p;have H:=(H.perm t.perm).left;refine h₀ v h' K' t' d Wp (θ.trans ?_) r' p;exact(nv hK hL H).drop
 cases f with
 |next=>
  obtain⟨G',W',H,Wo,Wr,t,p⟩:=e1;exact fin G' W' Wo Wr .none .none H t (by ext rd) p
 |brk=>obtain⟨G',W',H,r⟩:=e1;exact r.elim
 |cont=>obtain⟨G',W',H,r⟩:=e1;exact r.elim
 |ret v=>
  obtain⟨d',G',W',H,r1,Wo,Wr,t,p⟩:=e1;exact fin G' W' Wo Wr d' v H t r1 p
section
variable{c:Cx} {G:Gm} {W Wi Wr:Om} {n:Nat}
theorem Jm {P:D->Om->Prop} (ok:Ok c n) (M:c.A.frames=some [c.env]) (β:c.env.scope.kind≠.module) (γ:c.env.frame=some c.env.locals) (hk:Kp c.pr c.w c.T f) (hx:Ev c G W (.Name x p) (.val f)) (he:vd c G W es ds) (t:cv W Wi Wr)
  (hf:∀d:Fk,(∀vs,d≠.fields vs)->O5 c.pr c.w c.T n [(c.env,c.env.locals,d)] f (λ vs=>⟨vs,[]⟩) ds Wi P):rq c G W (.Call (.Name x p) es [] pos) (λ d W'=>∃Wo,P d Wo /\ W'=Wo++Wr):=λ s K Q E S k=>by
 refine dw (hx s K _ E S λ v g1 K1 t1 k1 S1 r1=>?_);obtain rfl:=r1;refine jk ok hk he _ K1 Q E S1 λ vs g2 K2 t2 k2 V r2=>?_;rw[be];have S3:=V.perm t.perm;obtain⟨d,H,hd,ow⟩:=S3.ownL;refine hf d H c.A ok.h ok.d ok.u M _ K2 vs Q E (ok.T.trans V.k0) V.kp r2 (show gx K2 g2 ([(c.env.locals,.pred (jM d))]++Wi) from gx.left (W:=(c.env.locals,.pred (jM d))::Wi) (W':=Wr) ow) λ v g3 K3 t3 d' Wo A r3 p3=>?_;exact k v g3 K3 t3 d' _ ((k1.trans k2).trans A.le) (S3.callL A hd) r3 ⟨Wo,p3,rfl⟩
theorem Jn {x:Str} {p pos:Pos} {e:cX} {d:D} {it:aM} {PF:Om} {dsl:List D} {fr:Ea} {Wi:Om} {Pn:Nat->Om} (ok:Ok c n) (β:c.A.frames=some (c.env::fr.envs)) (hx:Ev c G W (.Name x p) (.val (.type "list"))) (he:Ev c G W e d) (hr:∀K v,Rd K d v->v=.ref it) (hl:dsl.length <= aO) (t:cv W (fr.om++Pn 0) Wr)
  (hI:∀(u:Fk) (K:FM),(∀vs,u≠.fields vs)->FM.Le c.T K->(∃v,Rd K d v)->Di c.pr c.w c.A.in1.in1 K (λ i=>Ea.om ((c.env,c.env.locals,u)::fr)++Pn i) (Ea.om ((c.env,c.env.locals,u)::fr)++PF) dsl it) (hit:∀(K:FM) (h:dM) v,FM.In K h->Rd K d v->∃o,h.get? it=some o) (hs:ge e=true:=by symm):
  rq c G W (.Call (.Name x p) [e] [] pos) (λ d' W'=>∃l,d'=.val (.ref l) /\ W'=(l,.list dsl)::(fr.om++PF)++Wr):=λ s K Q E S k=>by
 refine dw (hx s K _ E S λ v g1 K1 t1 k1 S1 r1=>?_);obtain rfl:=r1;refine jk ok kP (bg he bW hs) _ K1 Q E S1 λ vs g2 K2 t2 k2 H r2=>?_;obtain⟨v,_,rfl,r2,rfl⟩:=r2;have hv:=hr _ _ r2;subst hv;have V:=H.perm t.perm;obtain⟨u,M,hd,ow⟩:=V.ownL;have IT:=hI u K2 M (ok.T.trans H.k0) ⟨_,r2⟩;refine EH IT hl _ K2 (hit _ _ _ H.kp r2) FM.Le.rfl H.kp (show gx K2 g2 ((c.env.locals,.pred (jM u))::(fr.om++Pn 0)) from gx.left (W:=(c.env.locals,.pred (jM u))::(fr.om++Pn 0)) (W':=Wr) ow) λ a g3 K3 t3 A=>?_;have A':Aft K2 g2 ((c.env.locals,.pred (jM u))::(fr.om++Pn 0)) K3 g3 ((c.env.locals,.pred (jM u))::((a,.list dsl)::(fr.om++PF))):=A.perm (iH ..);exact k _ g3 K3 t3 (.val (.ref a)) _ ((k1.trans k2).trans A.le) (V.callL A' hd) (by ext rd) ⟨a,rfl,rfl⟩
end
section
open PySem.Builtin PySem.Builtin.ObjectAttr
def gM (id:String) (a:aM):Obj:={cls:=.type "builtin_function_or_method",data:=.fields #[.builtin id,.ref a]}
theorem wR:y7 "method_descriptor" "__get__" "method_descriptor.__get__":=
 .of (owner:="method_descriptor") (n:="__get__") (by rw[cY,bM];symm) (by rfl') (by rfl') (by rfl')
  (by first|exact .inl (by rfl')|exact .inr (by rfl')) (by rw[dy];symm)
theorem BR:gR table "method_descriptor.__get__"=some Builtin.«method_descriptor.__get__»:=et (by symm)
theorem Dj (a b c:aj):argsOk "method_descriptor.__get__" ⟨[a,b,c],[]⟩:=by unfold argsOk;symm
theorem QO:iy (.type "method_descriptor") "__set__"=pure none:=by rw[cY,bM];symm
theorem QP:iy (.type "method_descriptor") "__delete__"=pure none:=by rw[cY,bM];symm
end
section
open PySem.Builtin PySem.Builtin.ObjectAttr
section
variable{prog:aG} {w:aB} {A:bU} {E:aj->ak->Prop} {s:ak} {a:aM} {o:Obj}
theorem EI {T id:String} {name:Str} {Q:Found->ak->Prop} {u:Fk} {sl:Array (Option aj)} (ho:s.heap.get? a=some ⟨.type T,none,u,sl⟩) (V:∀cd,u≠.cls cd) (slot:y7 T name id) (ty:typeOf (.builtin id)=pure (.type "method_descriptor")) (t:(["__module__","__name__","__qualname__","__doc__","__annotations__"]:List Str).contains name=false)
  (h:Q (.bind (.builtin "method_descriptor.__get__") (.builtin id)) s):wpAny (model prog w) A (find (.ref a) (.type T) name) Q E s:=by
 obtain⟨hp,g,d,tk,os⟩:=s;have hM:∀H,(⟨hp,g,d,H,os⟩:ak).TypeIs (.builtin id) "method_descriptor":=λ _=>ty;unfold find;refine ae (cz slot.lookup ?_);unfold getOf;dsimp only;refine ae (dN (hM _) wR.lookup ?_);unfold dataDescriptor? takesStores;dsimp only;refine ae (ae (ae (dN (hM _) QO ?_)));refine ae (dN (hM _) QP (af (af ?_)));unfold ownThenClass inOwnDict ObjectAttr.ownDict loadHead;refine ae (ae (ae (jZ ho ?_)));have key:wpAny (model prog w) A (instanceDict a false) (λ r M=>wpAny (model prog w) A (inDict name r) (λ v M=>wpAny (model prog w) A (match v with
      |some v=>do
       rule "getattr.instance-dict"
       pure (Found.value v)
      |none=>do
       copiedAttributeGuard name (iK a)
       byTheClass (some (kM id)) (some (kM "method_descriptor.__get__"))) Q E M) E M) E {heap:=hp,gens:=g,drawn:=d,toks:=tk,os:=os}:=by
  unfold instanceDict;refine ae (jZ ho ?_);refine af (af ?_);unfold copiedAttributeGuard byTheClass;simp only[t];exact ae (af (ae (gw (af h))))
 cases u<;>first|exact key|exact absurd rfl (V _)
theorem tI {T ga id:String} {name nm:Str} {Q:aj->ak->Prop} {β:Fk} {sl:Array (Option aj)} (ho:s.heap.get? a=some ⟨.type T,none,β,sl⟩) (γ:∀cd,β≠.cls cd) (slot:y7 T name id) (ty:typeOf (.builtin id)=pure (.type "method_descriptor"))
  (u:y7 T "__getattribute__" ga) (δ:gR table ga=some Builtin.«object.__getattribute__») (ε:∀x y,argsOk ga ⟨[x,y],[]⟩) (H:(["__module__","__name__","__qualname__","__doc__","__annotations__"]:List Str).contains name=false) (v:Manifest.toldItsClass.contains id=false)
  (V:(pure ((((id.cutAt '.').getLastD "":String):Str),uV (".".intercalate (id.cutAt '.').dropLast)):Sem (Str×aj))=pure (nm,.type T)) (M:hZ (.type T) (.type T)=pure true)
  (h:Q (.ref s.heap.objs.size) {s with heap:=s.heap.push (gM id a),toks:=s.toks+1}):wpAny (model prog w) A (getAttr (.ref a) name true) Q E s:=by
 obtain⟨hp,g,d,tk,os⟩:=s;have hT:∀t,(⟨hp,g,d,t,os⟩:ak).TypeIs (.ref a) T:=λ _=>⟨_,ho,rfl⟩;have hM:∀t,(⟨hp,g,d,t,os⟩:ak).TypeIs (.builtin id) "method_descriptor":=λ _=>ty;unfold getAttr getAttrBy;refine ae (wpAny_mkText (aD (ae (ko (hT _) ?_))));refine ae (cz u.lookup ?_);show wpAny _ _ (getAttrByItsOwn _ _ _ _ _ _) _ _ _;unfold getAttrByItsOwn hookBefore callGetattribute boundAndCalled;refine ae (af ?_);refine ae (gH ?_);show wpAny _ _ (jH [] (bindSpecial (kM ga) (iK a)>>=λ x=>call x.1 (x.2++[wC name tk]))) _ _ _;rw[u.bind (.ref a)];refine aD (ae (af (bV u (hT _) δ ?_ (ε _ _))));unfold Builtin.«object.__getattribute__»;refine ae (cz (a:=(.ref a,[.str name tk])) (by first|rfl|symm) ?_);dsimp only;refine ae (cz (a:=name) (by first|rfl|symm) ?_);refine ae (ko (hT _) ?_);refine ae (EI ho γ slot ty H ?_);unfold bindTo;dsimp only;refine ae (aD (bV wR (hM _) BR ?_ (Dj _ _ _)));unfold Builtin.«method_descriptor.__get__»;refine ae (cz (a:=(.builtin id,some (.ref a),some (.type T))) (by first|rfl|symm) ?_);dsimp only;rw[v];rw[if_neg aT];refine ae ?_;refine ae (cz V ?_);refine ae (ey (T:=T) (b:=true) (hT _) M ?_);refine af ?_;refine ae (bK ?_);refine af ⟨_,rfl,af ⟨_,rfl,af h⟩⟩
theorem we {Q:aj->ak->Prop} {es:Array dv} {n:Nat} (d:s.heap.get? a=some ⟨.type "dict",none,.dict es n,#[]⟩) (h:Q (.ref s.heap.objs.size) {s with heap:=s.heap.push (gM "dict.get" a),toks:=s.toks+1}):wpAny (model prog w) A (getAttr (.ref a) "get" true) Q E s:=
 tI (nm:="get") d (λ _ z=>nomatch z) lY rJ PySem.F.slot_dict_getattribute am_entry_dict_getattribute PySem.F.args_dict_getattribute_2 (by rfl') (by rfl') (by symm) (by rw[dy];symm) h
theorem xl {Q:aj->ak->Prop} {es:Array (Int×aj)} {n:Nat} {l} (d:s.heap.get? a=some ⟨.type "set",none,.set es n l,#[]⟩) (h:Q (.ref s.heap.objs.size) {s with heap:=s.heap.push (gM "set.__contains__" a),toks:=s.toks+1}):wpAny (model prog w) A (getAttr (.ref a) "__contains__" true) Q E s:=
 tI (nm:="__contains__") d (λ _ z=>nomatch z) ol PySem.F.type_set_contains PySem.F.slot_set_getattribute PySem.F.entry_set_ga PySem.F.args_set_getattribute_2 (by rfl') (by rfl') (by symm) (by rw[dy];symm) h
end
end
section
variable{prog:aG} {w:aB} {K:FM}
theorem Jo:∀{fs:Gm} {es:List dv},zo w.params K (uw fs) es->∃u:List (Str×aj),Pairs (strKind prog w) es u /\ u.map (·.1)=fs.map (·.1) /\ cB K (fs.map (·.2)) (u.map (·.2)) /\ ∀e∈es,∃k,(strKind prog w).is k e.key=true /\ e.hash=(strKind prog w).hash k:=by
 intro fs
 induction fs with
 |nil=>intro es h;obtain rfl:=h;exact⟨[],.nil,rfl,cB.nil,λ _ h=>nomatch h⟩
 |cons f fs ih=>
  intro es h;obtain⟨x,d⟩:=f;obtain⟨e,r,rfl,⟨t,h1⟩,h2,h3,h4⟩:=h;obtain⟨u,q1,q2,V,M⟩:=ih h4;have H:(strKind prog w).is x e.key=true:=by rw[h1];exact qX prog w x t
  refine⟨(x,e.val)::u,.cons H rfl q1,by simp[q2],cB.cons h2 V,λ e' v=>?_⟩;rcases ap.mp v with rfl|v
  .exact⟨x,H,h3⟩
  .exact M e' v
theorem Jp:∀{fs:Gm} {es:List dv} {u:List (Str×aj)},Pairs (strKind prog w) es u->(∀e∈es,∃k,(strKind prog w).is k e.key=true /\ e.hash=(strKind prog w).hash k)->u.map (·.1)=fs.map (·.1)->cB K (fs.map (·.2)) (u.map (·.2))->zo w.params K (uw fs) es:=by
 intro fs
 induction fs with
 |nil=>
  intro es u p _ h _;cases p with
  |nil=>rfl
  |cons=>cases h
 |cons f fs ih=>
  intro es u p H h r;obtain⟨x,d⟩:=f;cases p with
  |nil=>cases h
  |@cons e kv es u h1 h2 h3=>
   obtain⟨y,v⟩:=kv;simp only[aq,dO] at h;obtain⟨rfl,h⟩:=h;simp only[aq,ro] at r;obtain⟨v',r',e1,r1,r2⟩:=r;cases e1;have h2:e.val=v:=h2;obtain⟨t,ht⟩:=Value.isStrOf_shape (show Value.isStrOf y e.key=true from h1);refine⟨e,es,rfl,⟨t,ht⟩,by rw[h2];exact r1,?_,ih h3 (λ e' he=>H e' (ao _ he)) h r2⟩;obtain⟨k,V,M⟩:=H e (ag ..);have:k=y:=(strKind prog w).inj _ _ _ V h1;subst this;exact M
theorem Dk {h:dM} {a:aM} {fs:Gm} {o:Obj} (v:h.get? a=some o) (hi:(cy w.params fs).is K o) (nd:(fs.map (·.1)).Nodup):∃d:List (Str×aj),h.DictOf (strKind prog w) a d /\ d.map (·.1)=fs.map (·.1) /\ cB K (fs.map (·.2)) (d.map (·.2)):=by
 obtain⟨es,n,rfl,hd⟩:=hi;obtain⟨d,q1,q2,u,t⟩:=Jo (prog:=prog) hd;exact⟨d,⟨_,es.toArray,n,v,⟨rfl,rfl,rfl⟩,rfl,λ e H=>t e (by simpa using H),by simpa using q1,by rw[q2];exact nd⟩,q2,u⟩
theorem Jq {h:dM} {a:aM} {fs:Gm} {d:List (Str×aj)} (M:h.DictOf (strKind prog w) a d) (e:d.map (·.1)=fs.map (·.1)) (r:cB K (fs.map (·.2)) (d.map (·.2))):∃o,h.get? a=some o /\ (cy w.params fs).is K o:=by
 obtain⟨⟨c,dd,V,sl⟩,es,ep,v,⟨h1,h2,h3⟩,hd,H,u,hn⟩:=M;dsimp only at h1 h2 h3 hd;subst h1 h2 h3 hd;refine⟨_,v,es.toList,ep,by simp,Jp u (λ x t=>H x (by simpa using t)) e r⟩
end
def VZ (pr:aG) (w:aB):Option (Int×Int)->Obj->Prop
 |aH,o=>o.IsDictOf (intKind pr w) []
 |some (j,k),o=>∃t,o.IsDictOf (intKind pr w) [(j,.int k t)]
abbrev FX (pr:aG) (w:aB) (m:Option (Int×Int)):Ob:=.pred (VZ pr w m)
def Dl (m:Option (Int×Int)) (k z:Int):Int:=match m with
 |some (j,v)=>if j=k then v else z
 |aH=>z
theorem O6 (h:VZ pr w m o):∃d,o.IsDictOf (intKind pr w) d /\ d.length <= 1 /\ ∀k z t,∃t',(valueAt d k).getD (.int z t)=.int (Dl m k z) t':=by
 cases m with
 |none=>exact⟨[],h,aU _,λ k z t=>⟨t,rfl⟩⟩
 |some p=>
  obtain⟨j,v⟩:=p;obtain⟨t1,h⟩:=h;refine⟨_,h,aR _,λ k z t=>?_⟩;unfold valueAt Dl;by_cases q:j=k
  .rw[rl];simp only[q,decide_true,if_true];exact⟨t1,rfl⟩
  .rw[rl];simp only[q,decide_false,if_false];exact⟨t,rfl⟩
section
variable{c:Cx} {G:Gm} {W Wr:Om} {n:Nat}
theorem EJ {h:dM} {K:FM} {a:aM} {b:Ob} (ok:Ok c n) (d:(c.T 1).isSome=true) (S:c.S s K G W) (t:gc W (a,b) Wr):(a==sysModules)=false:=by
 obtain⟨o,q1,q2,u⟩:=(S.perm t.perm).own.at_ _ (ag ..);rw[beq_eq_false_iff_ne];intro e;obtain⟨x,v⟩:=ph.mp d;have:=(ok.T.trans S.k0) _ _ v;rw[show a=1 from e] at u;rw[u] at this;cases this
end
section
variable{c:Cx} {G G':Gm} {W Wr W':Om} {n:Nat}
theorem QQ:dictDisplay []=(do let d<-alloc {cls:=.type "dict",data:=.dict #[]};pure (.ref d)):=by symm
theorem yi:rq c G W (.Dict [] [] pos) (λ d W'=>∃a,d=.val (.ref a) /\ W'=(a,cy c.w.params [])::W):=λ s K Q E S k=>by
 show wpAny c.M c.A (jG pos>>=λ _=>dictDisplay []) Q E s;refine ae (bn ?_);rw[QQ];refine ae (mK (af ?_));have t:=S.new {cls:=.type "dict",data:=.dict #[]} (b:=cy c.w.params []) ⟨[],0,rfl,rfl⟩;exact k _ _ _ _ _ _ FM.Le.rfl t (by ext rd) ⟨_,rfl,rfl⟩
theorem WV {pr:aG} {w:aB} {K:FM} {o:Obj} {P:dg} (h:(cy P []).is K o):(FX pr w none).is K o:=by
 obtain⟨es,e,rfl,hd⟩:=h;have hd:es=[]:=hd;subst hd;exact⟨#[],e,⟨rfl,rfl,rfl⟩,rfl,(λ e d=>absurd d (by simp)),Pairs.nil,nJ⟩
theorem FY {a:aM} {pr:aG} {w:aB} {P:dg} {st:List eX} {R:iD->Prop} (t:gc W (a,cy P []) Wr) (h:Ex c G ((a,FX pr w none)::Wr) st R):Ex c G W st R:=λ s K Q E S k=>
 h s K Q E ((S.perm t.perm).reOwn λ o q=>WV q) k
theorem Jr {P:dg} {K K':FM} {x:Str} {d v:D} (k:FM.Le K K') (hd:∀u,Rd K d u->Rd K' v u):∀{fs:Gm} {es:List dv},zo P K (uw (fs++[(x,d)])) es->zo P K' (uw (fs++[(x,v)])) es:=by
 intro fs
 induction fs with
 |nil=>
  intro es h;obtain⟨e,r,rfl,⟨t,h1⟩,h2,h3,h4⟩:=h;exact⟨e,r,rfl,⟨t,h1⟩,hd _ h2,h3,h4⟩
 |cons p fs H=>
  intro es h;obtain⟨e,r,rfl,⟨t,h1⟩,h2,h3,h4⟩:=h;exact⟨e,r,rfl,⟨t,h1⟩,Rd.mono k _ h2,h3,H h4⟩
theorem BS {a l:aM} {P:dg} {fs:Gm} {x:Str} {d:List D} {W1 t:Om} {st:List eX} {R:iD->Prop} (t1:gc W (a,cy P (fs++[(x,.val (.ref l))])) W1) (t2:gc W1 (l,.list d) t) (h:Ex c G ((a,cy P (fs++[(x,.lst d)]))::t) st R):Ex c G W st R:=λ s K Q E S k=>by
 have V:=(S.perm t1.perm).perm (W':=(l,.list d)::(a,cy P (fs++[(x,.val (.ref l))]))::t) ((t2.perm.cons _).trans (iH ..));obtain⟨K1,H,M,r1⟩:=V.freeze;refine h s K1 Q E (M.reOwn λ o q=>?_) λ f h' K' t' v=>k f h' K' t' (H.trans v);obtain⟨es,e,rfl,hd⟩:=q;refine⟨es,e,rfl,Jr FM.Le.rfl (λ v' u=>?_) hd⟩;obtain rfl:=u;exact r1
theorem nC {K:FM} {h:dM} {a:aM} {b:Ob} (o:gx K h W) (t:gc W (a,b) Wr):∃x,h.get? a=some x /\ b.is K x /\ K a=none:=(o.perm t.perm).at_ _ (ag ..)
theorem Js {K:FM} {x:Str}:∀{fs:Gm} {t:List (Str×aj)} (e:t.map (·.1)=fs.map (·.1)) (r:cB K (fs.map (·.2)) (t.map (·.2))),(fs.lookup x=none->valueAt t x=none) /\ ∀d,fs.lookup x=some d->∃v,valueAt t x=some v /\ Rd K d v:=by
 intro fs
 induction fs with
 |nil=>
  intro t e r;have:t=[]:=by simpa using e
  subst this;exact⟨λ _=>rfl,λ d h=>nomatch h⟩
 |cons p fs V=>
  intro t e r;cases t with
  |nil=>simp at e
  |cons q t=>
   obtain⟨y,z⟩:=p;obtain⟨u,v⟩:=q;simp only[aq,dO] at e;obtain⟨rfl,e⟩:=e;simp only[aq,ro] at r;obtain⟨v',r',q,r1,r2⟩:=r;cases q;obtain⟨M,H⟩:=V e r2;unfold valueAt at M H⊢;rw[gK,rl];by_cases q:x=u
   .subst q;simp only[beq_self_eq_true,decide_true];exact⟨λ h=>(nomatch h),λ d h=>⟨v,rfl,by cases h;exact r1⟩⟩
   .have q1:(x==u)=false:=by simpa using q
    have q2:¬u=x:=λ z=>q z.symm;simp only[q1,q2,decide_false];exact⟨M,H⟩
theorem EK {fs:Gm} {x:Str} (h:x∉fs.map (·.1)):fs.lookup x=none:=by
 induction fs with
 |nil=>rfl
 |cons p fs d=>
  obtain⟨y,z⟩:=p;simp only[aq,ap,not_or] at h;rw[gK,show(x==y)=false by simpa using h.1];exact d h.2
theorem Hu {o ek:cX} {apos pos lp:Pos} {a:aM} {x:Str} {fs:Gm} (ok:Ok c n) (V:(c.T 1).isSome=true) (ho:Ev c G W o (.val (.ref a))) (hk:Ev c G W ek (.str x)) (t:gc W (a,cy c.w.params fs) Wr) (hx:x∉fs.map (·.1)) (nd:(fs.map (·.1)).Nodup) (hz:fs.length <= 1000)
  (hs:ge ek=true:=by symm) (M:bE o "setdefault" c.env (eval o c.env)=eval o c.env:=by symm) (H:(apos.endLine==pos.line)=true:=by symm):
  rq c G W (.Call (.Attribute o "setdefault" apos) [ek,.List [] lp] [] pos) (λ d W'=>∃p,d=.val (.ref p) /\ W'=(p,.list [])::(a,cy c.w.params (fs++[(x,.val (.ref p))]))::Wr):=λ s K Q E S k=>by
 refine qh M H (by rw[cj hs];rfl) (ho s K _ E S λ v h1 K1 t1 k1 S1 r1=>?_);obtain rfl:=r1;obtain⟨ob,q1,q2,q3⟩:=nC S1.own t;have γ:=q2;obtain⟨η,n0,rfl,_⟩:=γ;refine⟨"dict","dict.setdefault",qi,mU,PySem.F.type_dict_setdefault,⟨_,q1,rfl⟩,(λ b e=>by cases e;exact⟨_,q1,rfl⟩),?_⟩;refine method2_meetsIn mU PySem.F.entry_dict_setdefault (hk _ K1 _ E S1 λ kv h2 K2 t2 k2 S2 r2=>?_);refine(nA (es:=[]) (ds:=[]) (pos:=lp) bW:rq _ _ _ _ _) _ K2 _ E S2 λ lv h3 K3 t3 d W3 k3 S3 r3 p3=>?_;obtain⟨l,rfl,rfl⟩:=p3;obtain rfl:=r3;obtain⟨tk,rfl⟩:=r2;have t':gc ((l,.list [])::W) (a,cy c.w.params fs) ((l,.list [])::Wr):=.tail t;obtain⟨ζ,w1,w2,w3⟩:=nC S3.own t';obtain⟨u,D0,e0,r0⟩:=Dk (prog:=c.pr) w1 w2 nd;have β:u.length=fs.length:=by simpa using congrArg iT e0
 refine⟨D0.typeIs,PySem.F.args_dict_setdefault_3 _ _ _,_,kt_meets_setdefault (strKind c.pr c.w) a (qX c.pr c.w x tk) (EJ (s:={s with heap:=h3,toks:=t3}) (h:=h3) ok V S3 t') (.ref l),u,D0,by rw[ay];exact(lz 5058912496239714045986) hz β,?_,?_⟩
 .intro v hv;rw[(Js e0 r0).1 (EK hx)] at hv;cases hv
 .intro hv h4 D4 sb;have δ:stored u x (.ref l)=u++[(x,.ref l)]:=by
   unfold stored;rw[if_neg];intro hh;obtain⟨p,hp,hq⟩:=List.any_eq_true.mp hh;apply hx;rw[<-e0];exact az.mpr ⟨p,hp,of_decide_eq_true hq⟩
  rw[δ] at D4;obtain⟨ε,y1,y2⟩:=Jq (K:=K3) (fs:=fs++[(x,.val (.ref l))]) D4 (by simp[e0]) (by
   rw[av,av];exact r0.append (cB.cons (by ext rd) cB.nil))
  have S4:=(S3.perm t'.perm).turn (b':=cy c.w.params (fs++[(x,.val (.ref l))])) (λ b x hb e=>(sb.2 b hb).trans e) y1 y2;exact k _ h4 K3 _ _ _ ((k1.trans k2).trans k3) (S4.perm (iH ..)) (by ext rd) ⟨l,rfl,rfl⟩
theorem FZ (ok:Ok c n) (M:(c.T 1).isSome=true) (ho:Ev c G W o (.val (.ref a))) (hk:Ev c G W ek (.str x)) (β:Ev c G W ez z) (t:gc W (a,cy c.w.params fs) Wr) (nd:(fs.map (·.1)).Nodup) (hd:(fs.lookup x).getD z=d)
  (hs:ge ek=true:=by symm) (γ:ge ez=true:=by symm) (H:bE o "get" c.env (eval o c.env)=eval o c.env:=by symm) (u:(apos.endLine==pos.line)=true:=by symm):
  Ev c G W (.Call (.Attribute o "get" apos) [ek,ez] [] pos) d:=λ s K Q E S k=>by
 refine qh H u (by rw[cj hs,cj γ];rfl) (ho s K _ E S λ v h1 K1 t1 k1 S1 r1=>?_);obtain rfl:=r1;obtain⟨ob,q1,q2,q3⟩:=nC S1.own t;have V:=q2;obtain⟨ζ,n0,rfl,_⟩:=V;refine⟨"dict","dict.get",qi,lY,rJ,⟨_,q1,rfl⟩,(λ b e=>by cases e;exact⟨_,q1,rfl⟩),?_⟩;refine wpAny_dict_get2 (knd:=strKind c.pr c.w) (EJ (s:={s with heap:=h1,toks:=t1}) (h:=h1) ok M S1 t) (hk _ K1 _ E S1 λ kv h2 K2 t2 k2 S2 r2=>β _ K2 _ E S2 λ zv h3 K3 t3 k3 S3 r3=>?_);obtain⟨tk,rfl⟩:=r2;obtain⟨δ,w1,w2,w3⟩:=nC S3.own t;obtain⟨ε,D0,e0,r0⟩:=Dk (prog:=c.pr) w1 w2 nd;refine⟨x,_,qX c.pr c.w x tk,D0.mapOf,?_⟩;refine k _ h3 K3 _ ((k1.trans k2).trans k3) S3 ?_;subst hd;obtain⟨i1,i2⟩:=Js (x:=x) e0 r0;cases q:fs.lookup x with
 |none=>rw[i1 q];exact r3
 |some d=>obtain⟨v,e,r⟩:=i2 d q;rw[e];exact r
end
section
variable{c:Cx} {G G':Gm} {W Wr W':Om} {n:Nat}
def zJ (a:Int) (k:Nat):List D:=(dD k).map λ i:Nat=>.int (a+(i:Int))
theorem yj (h:(zJ a k)[i]?=some d):i<k /\ d=.int (a+(i:Int)):=by
 unfold zJ at h;rw[a9] at h;by_cases q:i<k
 .rw[tC q] at h;cases h;exact⟨q,rfl⟩
 .rw[eL (by simpa using q)] at h;cases h
def Hv (a:Int) (k i:Nat) (o:Obj):Prop:=o={cls:=.type "range_iterator",dict:=none,data:=.fields #[rawInt (a+(i:Int)),rawInt ((k:Int)-(i:Int)),rawInt 1],slots:=#[]}
theorem EL (hA:A.handled=none):vi pr w A K₀ (λ i=>[(it,.pred (Hv a k i))]) (λ i=>[(it,.pred (Hv a k i))]) (zJ a k) it where
 item i d hd s K Q E k0 kp o u:=by
  obtain⟨ob,H,t,a3⟩:=o.at_ _ (ag ..);have t:ob=_:=t;subst t;obtain⟨hi,rfl⟩:=yj hd;refine wpAny_pyNext_range_item H (by omega) λ h' v hs=>?_;have e1:a+(i:Int)+1=a+((i+1:Nat):Int):=by push_cast;omega
  have e2:(k:Int)-(i:Int)-1=(k:Int)-((i+1:Nat):Int):=by push_cast;omega
  have V:=Aft.turn (b':=.pred (Hv a k (i+1))) kp o (λ x o M e=>(hs.2 x M).trans e) v (by show _=_;rw[e1,e2]);refine u _ h' K _ V ⟨_,rfl⟩ λ target _ γ δ ε β q=>uo (β▸v) rfl rfl (by decide) ?_;have:=q h' (Aft.same V.kp V.own);rw[<-β] at this;exact this
 done s K Q E k0 kp o u:=by
  obtain⟨ob,H,t,a3⟩:=o.at_ _ (ag ..);have t:ob=_:=t;subst t;have hl:(zJ a k).length=k:=by simp[zJ]
  refine wpAny_pyNext_range_end hA H (by rw[hl];omega) λ h' hs=>?_;exact u h' K s.toks (Aft.end1 kp o λ x o M e=>hs x o M e)
 self i s K Q E k0 kp o u:=by
  obtain⟨ob,H,t,a3⟩:=o.at_ _ (ag ..);have t:ob=_:=t;subst t;exact wpAny_pyIter_rangeiter H (u s.toks)
theorem vq {a b:Int} {t u v:Tok} {s:ak} {d K:FM} {r:aM} {Q:aj->ak->Prop} {E:aj->ak->Prop} (ok:Ok c n) (S:c.S s K G W) (hr:IsRange s.heap r a b 1 t u v) (ha:-1000000 <= a) (V:a <= 1000000) (hb:-1000000 <= b) (H:b <= 1000000) (le:FM.Le d K)
  (k:∀it P P' h' K' t',FM.Le d K'->f' c.B c.env.locals h' K' G (P 0++W)->vi c.pr c.w c.A K' P P' (zJ a (b-a).toNat) it false->Q (.ref it) {s with heap:=h',toks:=t'}):wpAny c.M c.A (pyIter (.ref r)) Q E s:=by
 refine wpAny_pyIter_range hr (small_one (by omega) (by omega) (by omega) (by omega)) ?_;have e:A9 a b 1=((b-a).toNat:Int)-((0:Nat):Int):=by rw[rangeSize_one];split<;>omega
 refine k _ (λ i=>[(_,.pred (Hv a (b-a).toNat i))]) (λ i=>[(_,.pred (Hv a (b-a).toNat i))]) _ K s.toks le (S.new _ (b:=.pred (Hv a (b-a).toNat 0)) ?_) (EL ok.h);show _=_;rw[e];simp
theorem EM (ok:Ok c n) (V:Ev c G W (.Name x p) (.val (.type "range"))) (he:vd c G W [e] [.int b]) (hb:-1000000 <= b) (d:b <= 1000000):KS c G W (.Call (.Name x p) [e] [] pos) (zJ 0 (b-0).toNat):=λ s K Q E S k=>by
 refine dw (V s K _ E S λ v g1 K1 t1 M S1 r1=>?_);obtain rfl:=r1;refine jk ok kP he _ K1 _ E S1 λ vs g2 K2 t2 H S2 r2=>?_;obtain⟨_,_,rfl,⟨t,rfl⟩,rfl⟩:=r2;refine call_range_1 ?_;exact vq (s:={s with heap:=g2.push _,toks:=t2+1+1}) (v:=t2+1) (t:=t2) (u:=t) ok (S2.grow λ b o e=>aA _ e) (bv _ rfl) (by omega) (lz 4294968806544896) hb d (M.trans H) k
theorem EN (ok:Ok c n) (hx:Ev c G W (.Name x p) (.val (.type "range"))) (he:vd c G W [e1,e2] [.int a,.int b]) (ha:-1000000 <= a) (H:a <= 1000000) (hb:-1000000 <= b) (d:b <= 1000000):KS c G W (.Call (.Name x p) [e1,e2] [] pos) (zJ a (b-a).toNat):=λ s K Q E S k=>by
 refine dw (hx s K _ E S λ v g1 K1 t1 V S1 r1=>?_);obtain rfl:=r1;refine jk ok kP he _ K1 _ E S1 λ vs g2 K2 t2 M S2 r2=>?_;obtain⟨_,_,rfl,⟨t,rfl⟩,_,_,rfl,⟨u,rfl⟩,rfl⟩:=r2;refine call_range_2 ?_;exact vq (s:={s with heap:=g2.push _,toks:=t2+1}) (v:=t2) (t:=t) (u:=u) ok (S2.grow λ b o e=>aA _ e) (bv _ rfl) ha H hb d (V.trans M) k
theorem Hw (ho:Ev c G W o (.val (.ref a))) (t:gc W (a,FX c.pr c.w m) Wr)
  (u:bE o "get" c.env (eval o c.env)=eval o c.env:=by symm) (ht:∀x y,letTemporaryGo o x y=pure ():=by intro _ _;symm):rq c G W (.Attribute o "get" pos) (λ d W'=>∃q,d=.val (.ref q) /\ W'=(q,.raw (gM "dict.get" a))::W):=λ s K Q E S k=>by
 show wpAny c.M c.A (bE o "get" c.env (eval o c.env)>>=_) Q E s;rw[u];refine ae (ho s K _ E S λ v h1 K1 t1 k1 S1 r1=>ae (bn (ae (aD ?_))));obtain rfl:=r1;obtain⟨ob,q1,q2,q3⟩:=nC S1.own t;obtain⟨β,⟨es,ep,⟨c1,V,H⟩,hd,_⟩,_⟩:=O6 q2;obtain⟨cc,dd,γ,sl⟩:=ob;dsimp only at c1 V H hd;subst c1 V H hd;refine we q1 (ae ?_);rw[ht];exact af (af (k _ _ _ _ _ _ k1 (S1.new (gM "dict.get" a) (b:=.raw (gM "dict.get" a)) rfl) (by ext rd) ⟨_,rfl,rfl⟩))
theorem Hx (ho:Ev c G W o (.val (.ref a))) (t:gc W (a,.pred kD) Wr)
  (u:bE o "__contains__" c.env (eval o c.env)=eval o c.env:=by symm):rq c G W (.Attribute o "__contains__" pos) (λ d W'=>∃q,d=.val (.ref q) /\ W'=(q,.raw (gM "set.__contains__" a))::W):=λ s K Q E S k=>by
 show wpAny c.M c.A (bE o "__contains__" c.env (eval o c.env)>>=_) Q E s;rw[u];refine ae (ho s K _ E S λ v h1 K1 t1 V H r1=>ae (bn (ae (aD ?_))));obtain rfl:=r1;obtain⟨ob,q1,⟨led,rfl⟩,q3⟩:=nC H.own t;refine xl q1 (ae ?_);refine wpAny_letTemporaryGo (af ?_);exact(k _ _ _ _ _ _ V (H.new (gM "set.__contains__" a) (b:=.raw (gM "set.__contains__" a)) rfl) (by ext rd) ⟨_,rfl,rfl⟩)
theorem vr {M:sk} {h:dM} {q a:aM} {id:String} (e:h.get? q=some (gM id a)):∃k,(k=Cr \/ k=y5 \/ k=vH) /\ iJ M h (keeperOf (.ref q)) k:=
 ⟨.machine,.inr (.inl rfl),(mI (part:=none) e).andThen .now⟩
theorem yk {q a:aM} {id:String} {B:aC} {vs:List aj} {s:ak} {Q:aj->ak->Prop} {E:aj->ak->Prop} (e:s.heap.get? q=some (gM id a)) (t:gR table id=some B) (u:xH id=true)
  (H:wpAny c.M c.A.in1 (checkBoundCall id ⟨.ref a::vs,[]⟩) (λ _ d=>d=s) (λ _ _=>False) s)
  (h:∀V,wpAny c.M V (B ⟨.ref a::vs,[]⟩) (λ fin d=>∃v,fin=.done (.ret v) /\ Q v d) E s):wpAny c.M c.A (call (.ref q) vs) Q E s:=by
 refine dR (kS ?_);show wpAny _ c.A.in1 (callAny (.ref q) ⟨vs,[]⟩) _ _ s;unfold callAny;refine ae (jT e ?_);dsimp only[gM];rw[if_pos (by decide)];refine ae (bX H (λ _ d z=>?_) λ _ _ z=>z.elim);subst z;refine ae (af (af ?_));refine⟨cG u _,bJ t (bX (h _) (λ fin d z=>?_) λ _ _ z=>z)⟩;obtain⟨v,rfl,z⟩:=z;exact z
theorem Az {T id:String} {a:aM} {vs:List aj} {s:ak} {o:Obj} {u d:jh} (ho:s.heap.get? a=some o) (hc:o.cls=.type T) (t:∀cd,o.data≠.cls cd) (hs:kG id=some u) (hk:fY id=some .method) (hm:hZ (.type T) (.type "module")=pure false) (hv:iP.contains id=false)
  (he:{u with full:=s!"{Bind.lastOf T}.{Bind.lastOf id}"}=d) (V:nX id d ⟨.ref a::vs,[]⟩=pure ()):wpAny c.M c.A.in1 (checkBoundCall id ⟨.ref a::vs,[]⟩) (λ _ v=>v=s) (λ _ _=>False) s:=by
 have hT:s.TypeIs (.ref a) T:=⟨o,ho,hc⟩;unfold checkBoundCall;rw[hs];dsimp only;rw[hk];dsimp only;rw[if_neg (by decide)];refine ae (ey (T:=T) (b:=false) hT hm ?_);rw[hv];rw[if_neg (by decide)];have H:wpAny c.M c.A.in1 (isType (.ref a)) (λ b v=>b=false /\ v=s) (λ _ _=>False) s:=by
  unfold isType;unfold loadHead;refine ae (jZ ho (af ⟨?_,rfl⟩));obtain⟨cc,dd,β,sl⟩:=o;cases β<;>first|rfl|exact absurd rfl (t _)
 refine ae (bX H (λ b v z=>?_) λ _ _ z=>z.elim);obtain⟨rfl,rfl⟩:=z;rw[if_neg (by decide)];refine ae (ko hT ?_);dsimp only;rw[he];exact cz V rfl
def Hz:jh:=⟨.positional,"dict.get","get",.self,[⟨"key",.posOnly,true⟩,⟨"default",.posOnly,false⟩]⟩
def HA:jh:=⟨.oneArg,"set.__contains__","__contains__",.self,[⟨"object",.posOnly,true⟩]⟩
theorem Jt:kG "dict.get"=some Hz:=by
 rw[mw (id:="dict.get") (n:=['t','e','g']) (o:=['t','c','i','d']) (by symm) PySem.F.owner_dict];symm
theorem Ju:kG "set.__contains__"=some HA:=by
 rw[mw (id:="set.__contains__") (n:=['_','_','s','n','i','a','t','n','o','c','_','_']) (o:=['t','e','s']) (by symm) PySem.F.owner_set];symm
theorem HB:({Hz with full:=s!"{Bind.lastOf "dict"}.{Bind.lastOf "dict.get"}"}:jh)=Hz:=by symm
theorem HC:({HA with full:=s!"{Bind.lastOf "set"}.{Bind.lastOf "set.__contains__"}"}:jh)=HA:=by symm
theorem Jv:nX "dict.get" Hz ⟨[a,x,y],[]⟩=pure ():=by symm
theorem Jw:nX "set.__contains__" HA ⟨[a,x],[]⟩=pure ():=by symm
theorem ME:iP.contains "dict.get"=false:=by rfl'
theorem MF:iP.contains "set.__contains__"=false:=by rfl'
theorem EO:hZ (.type "dict") (.type "module")=pure false:=by rw[dy];symm
theorem HD:hZ (.type "set") (.type "module")=pure false:=by rw[dy];symm
theorem HE:fY "dict.get"=some .method:=by rfl'
theorem HF:fY "set.__contains__"=some .method:=by rfl'
theorem MG {a:aM} {x y:aj} {s:ak} {o:Obj} (d:s.heap.get? a=some o) (h1:o.cls=.type "dict") (h2:∀cd,o.data≠.cls cd):wpAny c.M c.A.in1 (checkBoundCall "dict.get" ⟨.ref a::[x,y],[]⟩) (λ _ t=>t=s) (λ _ _=>False) s:=by
 have h3:=@Az c "dict" "dict.get" a [x,y] s o Hz Hz d h1 h2 Jt HE EO ME HB;exact h3 Jv
theorem MH {a:aM} {x:aj} {s:ak} {o:Obj} (d:s.heap.get? a=some o) (h1:o.cls=.type "set") (h2:∀cd,o.data≠.cls cd):wpAny c.M c.A.in1 (checkBoundCall "set.__contains__" ⟨.ref a::[x],[]⟩) (λ _ t=>t=s) (λ _ _=>False) s:=by
 have h3:=@Az c "set" "set.__contains__" a [x] s o HA HA d h1 h2 Ju HF HD MF HC;exact h3 Jw
theorem MI {x:Str} {p pos:Pos} {q a:aM} {m:Option (Int×Int)} {ek ez:cX} {k z r:Int} {Wq Wa:Om} (ok:Ok c n) (t:(c.T 1).isSome=true) (hx:Ev c G W (.Name x p) (.val (.ref q))) (he:vd c G W [ek,ez] [.int k,.int z]) (tq:gc W (q,.raw (gM "dict.get" a)) Wq) (V:gc W (a,FX c.pr c.w m) Wa) (hr:Dl m k z=r):
  Ev c G W (.Call (.Name x p) [ek,ez] [] pos) (.int r):=λ s K Q E S kk=>by
 refine dw (hx s K _ E S λ v g1 K1 t1 k1 S1 r1=>?_);obtain rfl:=r1;refine jR (P:=λ h=>h.get? q=some (gM "dict.get" a)) (by rw[nf he];rfl) (λ h e=>vr e) (Bh he _ K1 _ E S1 λ vs h2 K2 t2 k2 u r2=>?_);obtain⟨ob,w1,w2,w3⟩:=nC u.own tq;have w2:ob=_:=w2;subst w2;refine⟨w1,?_⟩;rw[be];obtain⟨_,_,rfl,⟨tk,rfl⟩,_,_,rfl,⟨M,rfl⟩,rfl⟩:=r2;obtain⟨oa,H,y2,y3⟩:=nC u.own V;obtain⟨d,D0,hl,hv⟩:=O6 y2;have hD:h2.DictOf (intKind c.pr c.w) a d:=rn.mpr ⟨oa,H,D0⟩;obtain⟨es,ep,⟨c1,_,_⟩,hd,_⟩:=D0;refine yk (s:={s with heap:=h2,toks:=t2}) (c:=c) w1 PySem.F.entry_dict_get lY.plain (MG H c1 (λ cd z=>by rw[hd] at z;cases z)) λ A'=>?_;show wpAny _ _ (dictGet a (.int k tk)>>=_) _ _ _;refine ae (wpAny_dictGet_of (intKind_is c.pr c.w k tk) hD.mapOf ?_);obtain⟨tr,er⟩:=hv k z M;have fin:Q ((valueAt d k).getD (.int z M)) {s with heap:=h2,toks:=t2+1}:=by
  rw[er,hr];exact kk _ h2 K2 _ (k1.trans k2) u ⟨_,rfl⟩
 cases hf:valueAt d k with
 |some v=>
  rw[hf] at fin;exact af ⟨v,rfl,fin⟩
 |none=>
  rw[hf] at fin;show wpAny _ _ (Ef a (.int k tk)>>=_) _ _ _;exact ae (wpAny_missed_other (EJ (s:={s with heap:=h2,toks:=t2}) (h:=h2) ok t u V) (af ⟨_,rfl,fin⟩))
end
section
variable{c:Cx} {G G':Gm} {W Wr W':Om} {n:Nat}
theorem QR {pr:aG} {w:aB} {h:dM} {a:aM} {o:Obj} (u:h.get? a=some o) (t:kD o):h.SetOf (strKind pr w) a (λ _=>false) 0:=by
 obtain⟨led,rfl⟩:=t;refine⟨_,#[],0,.fresh 0 0 led,u,⟨rfl,rfl,rfl⟩,rfl,?_⟩;refine⟨λ e d=>absurd d (by simp),λ k=>⟨λ z=>(nomatch z),λ⟨e,d,_⟩=>absurd d (by simp)⟩,by decide,?_,rfl⟩;cases led<;>rfl'
theorem MJ {E:aj->ak->Prop} {Q:aj->ak->Prop} (t:s.heap.SetOf (strKind pr w) a (λ _=>false) 0) (h:Q (.bool false) {s with toks:=s.toks+1}):
  wpAny (model pr w) A (Builtin.«frozenset.__contains__» ⟨[.ref a,.str y tk],[]⟩) (λ fin d=>∃v,fin=.done (.ret v) /\ Q v d) E s:=by
 unfold Builtin.«frozenset.__contains__» jX;simp only[pX,bind_assoc];unfold kN wD setContains;refine ae (af ?_)
 try dsimp only
 refine ae (af ?_)
 try dsimp only
 refine ae (ed ?_);refine aD ?_;refine ae ((strKind pr w).pyHash (qX pr w y tk) ?_);refine ae (wpAny_setFind_of (s:={s with toks:=s.toks+1}) (qX pr w y tk) rfl t λ r hr=>?_);refine af ?_;show wpAny _ _ (ret (zd r.isSome)) _ _ _;rw[hr];exact af ⟨_,rfl,h⟩
theorem xG {x:Str} {p pos:Pos} {q a:aM} {ek:cX} {y:Str} {Wq Wa:Om} (ok:Ok c n) (hx:Ev c G W (.Name x p) (.val (.ref q))) (he:vd c G W [ek] [.str y]) (tq:gc W (q,.raw (gM "set.__contains__" a)) Wq) (ta:gc W (a,.pred kD) Wa):
  Ev c G W (.Call (.Name x p) [ek] [] pos) (.bool false):=λ s K Q E S kk=>by
 refine dw (hx s K _ E S λ v g1 K1 t1 k1 S1 r1=>?_);simp only[j9] at r1;subst r1;refine jR (P:=λ h=>h.get? q=some (gM "set.__contains__" a)) (by rw[nf he];rfl) (λ h e=>vr e) (Bh he _ K1 _ E S1 λ vs h2 K2 t2 k2 t r2=>?_);obtain⟨ob,w1,w2,w3⟩:=nC t.own tq;have w2:ob=_:=w2;subst w2;refine⟨w1,?_⟩;rw[be];simp only[ro,j9] at r2;obtain⟨_,_,rfl,⟨tk,rfl⟩,rfl⟩:=r2;obtain⟨V,H,u,y3⟩:=nC t.own ta;have hS:=QR (pr:=c.pr) (w:=c.w) H u;have d:V.cls=.type "set" /\ ∀cd,V.data≠.cls cd:=by obtain⟨led,rfl⟩:=u;exact⟨rfl,λ _ z=>nomatch z⟩
 have ck:=MH (c:=c) (x:=.str y tk) (s:={s with heap:=h2,toks:=t2}) H d.1 d.2;have fz:∀A',wpAny c.M A' (Builtin.«frozenset.__contains__» ⟨[.ref a,.str y tk],[]⟩) (λ fin s'=>∃v,fin=.done (.ret v) /\ Q v s') E {s with heap:=h2,toks:=t2}:=λ A'=>MJ (s:={s with heap:=h2,toks:=t2}) hS (kk _ h2 K2 _ (k1.trans k2) t (by simp only[j9]));exact yk (s:={s with heap:=h2,toks:=t2}) (c:=c) w1 entry_set_contains ol.plain ck fz
theorem Jx (ho:Ev c G W o (.val (.ref a))) (hi:Ev c G W i (.int j)) (t:gc W (a,FX c.pr c.w none) Wr):RO c G W (.Subscript o i pos) (.int v) G ((a,FX c.pr c.w (some (j,v)))::Wr):=λ s K0 x Q E S r k=>by
 rw[assign_Subscript];refine ae (aD (ho s K0 _ E S λ ov h1 K1 t1 k1 S1 r1=>ae (aD (hi _ K1 _ E S1 λ iv h2 K2 t2 k2 d r2=>ae (bn (ae (aD ?_)))))));simp only[j9] at r1;subst r1;obtain⟨M,rfl⟩:=r2;obtain⟨tv,rfl⟩:=r;obtain⟨ob,w1,w2,w3⟩:=nC d.own t;have w2:ob.IsDictOf (intKind c.pr c.w) []:=w2;refine wpAny_setItem_pairs (s:={s with heap:=h2,toks:=t2}) (intKind_is c.pr c.w j M) (rn.mpr ⟨ob,w1,w2⟩) (λ h' hD hs=>?_) (aU _);obtain⟨V,H,u⟩:=rn.mp hD;have S3:=(d.perm t.perm).turn (b':=FX c.pr c.w (some (j,v))) (λ b x hb e=>(hs.2 b hb).trans e) H ⟨tv,u⟩;exact uk (k h' K2 _ (k1.trans k2) S3)
theorem Dm {P:D->Om->Prop} (hl:rq c G W e P) (hs:ge e=true):∀{es:List cX} {ds:List D},vd c G W es ds->∀(s:ak) (K:FM) (Q:List aj->ak->Prop) (E:aj->ak->Prop),c.S s K G W->
  (∀vs h' K' t' d W',FM.Le K K'->f' c.B c.env.locals h' K' G W'->P d W'->cB K' (ds++[d]) vs->Q vs {s with heap:=h',toks:=t'})->wpAny c.M c.A (spliced (backTo pos (gQ (es++[e]) c.env))) Q E s:=by
 intro es
 induction es with
 |nil=>
  intro ds h s K Q E S k;have h:ds=[]:=h;subst h;rw[be,cj hs];refine dJ (hl s K _ E S λ v h1 K1 t1 d W1 u V r1 p1=>gj ?_);exact k [v] h1 K1 t1 d W1 u V p1 (cB.cons r1 cB.nil)
 |cons e r ih=>
  intro ds h s K Q E S k;obtain⟨d,t,rfl,H,he,hr⟩:=h;rw[bh,cj H];refine dJ (he s K _ E S λ v h1 K1 t1 u V r1=>?_);exact ih hr _ K1 _ E V λ vs h2 K2 t2 d2 W2 k2 S2 p2 r2=>k (v::vs) h2 K2 t2 d2 W2 (u.trans k2) S2 p2 (cB.cons (Rd.mono k2 _ r1) r2)
theorem HG {P:D->Om->Prop} (M:vd c G W es ds) (hl:rq c G W e P) (hn:decide (ds.length <= 100)=true:=by symm) (hs:ge e=true:=by symm):rq c G W (.Tuple (es++[e]) k pos) (λ d W'=>∃t,d=.tup (ds++[t]) /\ P t W'):=λ s K Q E S v=>
 tn (Dm hl hs M s K _ E S λ vs h1 K1 t1 d W1 H u p1 r1=>⟨by rw[r1.length,ay,aF];have:=of_decide_eq_true hn;simp only[aE,bp];exact(lz 1847701109501046820881) this,by
  have V:=u.newFz {cls:=.type "tuple",data:=.seq vs.toArray};have le:=FM.le_add (o:={cls:=.type "tuple",data:=.seq vs.toArray}) (iU u.kp);refine v _ _ _ t1 _ _ (H.trans le) V ?_ ⟨d,rfl,p1⟩;simp only[j9];exact⟨_,vs,0,rfl,FM.add_self,cB.mono le _ r1⟩⟩)
end
structure r8 (K:jK) (C:aM):Prop where
 it:fx K (.ref C) "__iter__"=some (some (.builtin "tuple.__iter__"))
 lt:fx K (.ref C) "__lt__"=some (some (.builtin "tuple.__lt__"))
 sub:mE K (hZ (.ref C) (.type "tuple"))=some true
def RecAt (h:dM) (C a:aM) (items:Array aj):Prop:=∃da e,h.get? a=some ⟨.ref C,some da,.seq items e,#[]⟩
section
variable{pr:aG} {w:aB} {A:bU} {E:aj->ak->Prop} {s:ak} {K:jK} {C a:aM} {items:Array aj}
theorem RecAt.ext (x:RecAt h C a items) (hs:sB b h h') (d:a≠b):RecAt h' C a items:=by
 obtain⟨da,e,t⟩:=x;exact⟨da,e,hs a _ d t⟩
theorem pB (d:RecAt h C a items):iJ M h (typeOf (.ref a)) (.ref C):=by
 obtain⟨da,e,d⟩:=d;exact(mI d).andThen .now
theorem Do (X:K.In h) (R:r8 K C) (d:RecAt h C a items):iJ M h (isInstance (.ref a) (.type "tuple")) true:=(pB d).andThen (iF X _ R.sub)
theorem yl {id n:String} {b:aC} {rest:List aj} {Q:aj->ak->Prop} (X:K.In s.heap) (R:r8 K C) (H:RecAt s.heap C a items) (M:fY id=some .slot) (hs:splitId id=some ("tuple",n)) (t:xH id=true) (d:gR table id=some b) (ha:argsOk id ⟨.ref a::rest,[]⟩)
  (h:wpAny (model pr w) A.in1 (b ⟨.ref a::rest,[]⟩) (λ fin u=>∃v,fin=.done (.ret v) /\ Q v u) E s):wpAny (model pr w) A (call (.builtin id) (.ref a::rest)) Q E s:=by
 refine dR (ip t d (zm M hs (Do X R H) ha (bX h (λ fin u z=>?_) λ _ _ z=>z)));obtain⟨v,rfl,z⟩:=z;exact z
theorem MK:fY "tuple.__iter__"=some .slot:=by rfl'
theorem Jy:splitId "tuple.__iter__"=some ("tuple","__iter__"):=by rfl'
theorem Jz {Q:aj->ak->Prop} (X:K.In s.heap) (R:r8 K C) (ho:RecAt s.heap C a items) (h:Q (.ref s.heap.objs.size) {s with heap:=s.heap.push {cls:=.type "tuple_iterator",data:=.fields #[.ref a,.int 0 0]}}):wpAny (model pr w) A (pyIter (.ref a)) Q E s:=by
 have LT:=pB (M:=model pr w) ho;have LI:=dK (M:=model pr w) X R.it;have LS:iJ (model pr w) s.heap (eK (.ref a) "__iter__") (some (.builtin "tuple.__iter__")):=LT.andThen LI;have hc:wpAny (model pr w) A (call (.builtin "tuple.__iter__") [.ref a]) (λ v d=>∃t r,d.TypeIs v t /\ iy (.type t) "__next__"=pure (some r) /\ Q v d) E s:=by
  refine yl X R ho MK Jy qj.plain PySem.F.entry_tuple_iter (PySem.F.args_tuple_iter_1 _) ?_;show wpAny _ _ (do ret (<-newFields "tuple_iterator" [.ref a,rawInt 0])) _ _ s;have u:=dW.lookup;exact ae (bK (af ⟨_,rfl,"tuple_iterator",_,⟨_,bv _ rfl,rfl⟩,u,h⟩))
 unfold pyIter;refine ae (LS.here ?_);show wpAny _ A (callSpecialIfBoundUnlessNone? (.ref a) "__iter__" _>>=_) Q E s;refine ae ?_;unfold callSpecialIfBoundUnlessNone? bindSpecialIfBound?;dsimp only;refine aD (ae (ae (LS.here ?_)));dsimp only;rw[qj.bind];refine ae (cZ (wx ?_));have fin:∀(ref:Sem aj) (V:Option aj->ak->Prop),(∀v d,(∃t r,d.TypeIs v t /\ iy (.type t) "__next__"=pure (some r) /\ Q v d)->V (some v) d)->wpAny (model pr w) A (if(kM "tuple.__iter__"==bx)=true then(ref>>=λ v=>pure (some v)) else(call (.builtin "tuple.__iter__") [.ref a]>>=λ v=>pure (some v))) V E s:=by
  intro ref V hq;rw[if_neg (show¬((kM "tuple.__iter__"==bx)=true) from aT)];exact ae (bX hc (λ v d h'=>af (hq v d h')) λ _ _ h'=>h')
 have fin2:∀v d,(∃t r,d.TypeIs v t /\ iy (.type t) "__next__"=pure (some r) /\ Q v d)->wpAny (model pr w) A (eK v "__next__">>=λ x=>match x with
   |none=>(do rule "iter.non-iterator";raiseError "TypeError" s!"iter() returned non-iterator of type '{← typeNameOf v}'")
   |some _=>pure v) Q E d:=by
  rintro v d ⟨t,r,H,hl,hQ⟩;exact ae (dN H hl (af hQ))
 refine iteInduction (motive:=λ p:Prop=>p) (λ _=>?_) λ _=>?_
 .exact ae (af (af (fin _ _ fin2)))
 .exact ed (ae (af (af (fin _ _ fin2))))
theorem JA {Q:Option aj->ak->Prop} (hit:s.heap.IsTupleIter it a i) (d:RecAt s.heap C a items) (t:items[i]?=some x) (u:∀h',h'.IsTupleIter it a (i+1)->iY it s.heap h'->Q (some x) {s with heap:=h'}):wpAny (model pr w) A (pyNext (.ref it)) Q E s:=by
 obtain⟨o,h1,hc,hd⟩:=id hit;obtain⟨da,e,d⟩:=d;unfold pyNext;refine ae (gH (dz (name:=cw "__next__") hit.typeIs dW
  (bV dW hit.typeIs lu ?_ (k9 _))))
 show wpAny _ _ (field (.ref it) 0>>=_) _ _ s;refine ae (il h1 hd (x:=.ref a) rfl ?_);show wpAny _ _ (if(iK a==bx)=true then _ else _) _ _ s;rw[if_neg (show¬((iK a==bx)=true) from aT)];show wpAny _ _ (field (.ref it) 1>>=_) _ _ s;refine ae (il h1 hd (x:=.int i 0) rfl ?_);show wpAny _ _ (seqItems? (.ref a)>>=_) _ _ s;refine ae (bI d rfl ?_);simp only[eI,t];refine ae (zn h1 hd (by simp) (af ⟨x,rfl,af (u _ ?_ (fB ..))⟩));exact⟨_,bo _ h1 (Obj.isFreed_of_fields (uX hd _)),(Obj.cls_mapFields ..).trans hc,by
  rw[uX hd];simp[rawInt]⟩
theorem ML {Q:Option aj->ak->Prop} (hh:A.handled=none) (hit:s.heap.IsTupleIter it a i) (d:RecAt s.heap C a items) (t:items[i]?=none) (u:∀h',sB it s.heap h'->Q none {s with heap:=h'}):wpAny (model pr w) A (pyNext (.ref it)) Q E s:=by
 obtain⟨o,h1,hc,hd⟩:=id hit;obtain⟨da,e,d⟩:=d;unfold pyNext;refine ae (gH (dz (name:=cw "__next__") hit.typeIs dW
  (bV dW hit.typeIs lu ?_ (k9 _))))
 show wpAny _ _ (field (.ref it) 0>>=_) _ _ s;refine ae (il h1 hd (x:=.ref a) rfl ?_);show wpAny _ _ (if(iK a==bx)=true then _ else _) _ _ s;rw[if_neg (show¬((iK a==bx)=true) from aT)];show wpAny _ _ (field (.ref it) 1>>=_) _ _ s;refine ae (il h1 hd (x:=.int i 0) rfl ?_);show wpAny _ _ (seqItems? (.ref a)>>=_) _ _ s;refine ae (bI d rfl ?_);simp only[eI,t];refine ae (gw (ae (zn h1 hd (by simp) ?_)));show wpAny _ _ (newExc (.type "StopIteration") []>>=_) _ _ _;refine ae ?_;unfold newExc newTuple;refine ae (bK ?_ (by size_fits));refine ae (m:=firstArgMember _ _) (cz (a:=bx) (by first|rfl|(simp only[firstArgMember];rfl)) ?_);refine bK ?_ (by size_fits);unfold raiseNew;dsimp only;refine ae (zU ?_)
 first|rw[show A.in1.handled=none from hh]|rw[hh]
 refine ae (af (wpAny_throw ?_));refine ae (ey (T:="StopIteration") (b:=true) ⟨_,bv _ rfl,rfl⟩ nS ?_);exact af (u _ (((fB ..).extBut.push _).push _))
theorem Dp (t:a≠it):∀(n i:Nat) (s:ak) (Q:List aj->ak->Prop),s.heap.IsTupleIter it a i->RecAt s.heap C a items->i+n <= items.size->
  (∀h',h'.IsTupleIter it a (i+n)->iY it s.heap h'->Q ((items.toList.drop i).take n) {s with heap:=h'})->wpAny (model pr w) A (draw (.ref it) n) Q E s
 |0,i,s,Q,hit,_,_,hQ=>by
  show wpAny _ _ (pure []) Q E s;exact af (by simpa using hQ s.heap hit (Gz ..))
 |n+1,i,s,Q,hit,ho,v,hQ=>by
  have u:i<items.size:=KQ v;show wpAny _ _ (pyNext (.ref it)>>=_) Q E s;refine ae (JA hit ho (x:=items[i]) (by simp[u]) λ h1 M d=>?_);refine ae (aD (Dp t n (i+1) _ _ M (ho.ext d.extBut t) (PM v) λ h2 H V=>af ?_));have hd:items.toList.drop i=items[i]::items.toList.drop (i+1):=by simp[aJ,u]
  have:=hQ h2 (by rw[show i+(n+1)=i+1+n from ai Ba Lu];exact H) (d.trans V);rw[hd,fD] at this;exact this
theorem EP {Q:List aj->ak->Prop} (hh:A.handled=none) (X:K.In s.heap) (R:r8 K C) (d:RecAt s.heap C a items) (hQ:∀h',sB s.heap.objs.size s.heap h'->Q items.toList {s with heap:=h'}):wpAny (model pr w) A (unpackItems (.ref a) items.size none) Q E s:=by
 have v:a≠s.heap.objs.size:=by obtain⟨da,e,d⟩:=d;exact gE (cC d)
 have LS:iJ (model pr w) s.heap (eK (.ref a) "__iter__") (some (.builtin "tuple.__iter__")):=(pB d).andThen (dK X R.it);unfold unpackItems;refine ae ?_;unfold notIterableAtAll;refine ae (LS.here (af ?_));rw[if_neg aT];refine ae (aD (Jz X R d ?_));have u:RecAt (s.heap.push {cls:=.type "tuple_iterator",data:=.fields #[.ref a,.int 0 0]}) C a items:=let⟨da,e,q⟩:=d;⟨da,e,aA _ q⟩
 refine ae (aD (Dp v items.size 0 _ _ ⟨_,bv _ rfl,rfl,rfl⟩ u (lz 9965569) λ h1 H t=>?_));have M:AY items.size (wo 0 items.toList)=items.toList:=by
  rw[lL];exact lM (by simp)
 rw[M];rw[if_neg (by simp)];refine ae (aD (ML hh H (u.ext t.extBut v) (by simp) λ h2 V=>?_));rw[uP,if_neg aT];exact af (hQ h2 λ b o hb e=>V b o hb (t.extBut b o hb (aA _ e)))
end
section
variable{c:Cx} {G G':Gm} {W:Om} {K:jK} {C:aM} {n:Nat}
theorem EQ (inc:yc K c.T) (R:r8 K C) (ok:Ok c n) (h:KR c W G es ds G'):As c G W (.Tuple es k p) (.rcd C ds) G':=λ s K1 v Q E S r q=>by
 obtain⟨a,da,vs,ep,rfl,ha,hr⟩:=r;have l:=h.len;rw[assign_Tuple];refine ae (bn ?_);unfold unpack;rw[show(gu es c.env).length=(al vs).size by rw[l.1];simp[hr.length],l.2];refine ae (aD (EP ok.h (inc _ (S.inT ok)) R ⟨da,ep,S.kp _ _ ha⟩ λ h' t=>?_));have H:f' c.B c.env.locals h' K1 G W:=by
  have A:=Aft.grow (h':=h') S.kp (S.own) (λ b o e=>t b o (gE (cC e)) e);have:=(S.perm (W':=W++[]) (by simp)).call A
  rwa [ax] at this
 exact h.go _ K1 vs Q E H hr λ h2 K2 t2 d u=>q h2 K2 t2 d u
end
section
open PySem.Builtin PySem.Builtin.ObjectAttr
theorem SW:splitId "tuple.__new__"=some ("tuple","__new__"):=by rfl'
theorem Ur:fY "tuple.__new__"=some .builtinFn:=by rfl'
theorem JB:"tuple.__new__".startsWith "lifetime."=false:=by rfl'
abbrev BU (C da:aM) (items:Array aj):Obj:=⟨.ref C,some da,.seq items 0,#[]⟩
theorem JC {prog:aG} {w:aB} {A:bU} {K:jK} {C t:aM} {R:mS->ak->Prop} {h:dM} {g:Array yZ} {d:Drawn} {tk:Nat} {os:qy} {oc:aj} {od:Option aM} {cd:tf} {sl:Array (Option aj)} {B:aj} {items:Array aj} {o:Obj} {n:Nat} (X:K.In h)
  (hC:h.get? C=some ⟨oc,od,.cls cd,sl⟩) (e2:cd.hasDel=false) (h1:mE K (isType (.ref C))=some true) (h2:mE K (fT "tuple.__new__" ⟨[.ref C,.ref t],[]⟩)=some ()) (h9:mE K (hZ (.ref C) (.type "tuple"))=some true) (h3:mE K (kU (.ref C))=some B) (h4:mE K (j7 B)=some (some "tuple.__new__")) (h5:fx K (.ref C) "__init__"=some (some (.builtin "object.__init__")))
  (ht:h.get? t=some o) (H:o.cls=.type "tuple") (v:o.data=.seq items n) (u:items.size <= 1000)
  (hq:∀h':dM,(∀b o,h.get? b=some o->h'.get? b=some o)->R (.ok (.ret (.ref (h'.objs.size+1)))) ⟨(h'.push emptyDict).push (BU C h'.objs.size items),g,d,tk,os⟩):
  eQ (model prog w) A (.call (.builtin "tuple.__new__") ⟨[.ref C,.ref t],[]⟩) R ⟨h,g,d,tk,os⟩:=by
 have typ:=iF (M:=model prog w) X _ h1;have top:=iF (M:=model prog w) X _ h9;have ini:=dK (M:=model prog w) X h5;have here:iJ (model prog w) h (z7 "tuple.__new__" (.ref C)) ():=(iF X _ h3).andThen ((iF X _ h4).andThen (jx (if_neg (ne_true_of_eq_false (bne_self_eq_false _)))));refine oj (jc _ JB) (Looks.at (iF X _ h2) ?_);refine bJ F.entry_tuple_new ?_;unfold Builtin.«tuple.__new__»;have V:items.size <= aO:=by rw[ay];exact Lr u
 repeat (first|(with_reducible refine wpAny_collect_seq (s:=⟨h,g,d,tk,os⟩) t (.inr rfl) ht H v (λ h' kh=>?_) V)|(with_reducible refine Vh rfl ?_)|(with_reducible refine Vh (bne_self_eq_false _) ?_)|(with_reducible refine QM rfl ?_)|lk)
 have β:((h'.push emptyDict).push (BU C h'.objs.size items)).get? C=some ⟨oc,od,.cls cd,sl⟩:=aA _ (aA _ (kh _ _ hC));show wpAny _ _ (if items.toList.toArray.size>aO then _ else _) _ _ _;rw[Array.toArray_toList];rw[if_neg (by exact(lz 4504620042906572049) u)];unfold newObjAsIs classHasDel;refine ae (mK (ae (ae (jT β (af ?_)))));rw[e2];refine af (af ?_);show R _ _;rw[jU];exact hq h' kh
structure JD (K:jK) (T:FM) (C:aM):Prop where
 at_:∃oc od cd sl,T C=some ⟨oc,od,.cls cd,sl⟩ /\ cd.hasDel=false
 ty:mE K (isType (.ref C))=some true
 sub:∀t:aM,mE K (fT "tuple.__new__" ⟨[.ref C,.ref t],[]⟩)=some ()
 su:mE K (hZ (.ref C) (.type "tuple"))=some true
 base:∃B,mE K (kU (.ref C))=some B /\ mE K (j7 B)=some (some "tuple.__new__")
 ini:fx K (.ref C) "__init__"=some (some (.builtin "object.__init__"))
theorem Dq {prog:aG} {w:aB} {A:bU} {E:aj->ak->Prop} {s:ak} {K:jK} {H:Sem Bool} {Q:aj×List aj->ak->Prop} (X:K.In s.heap) (e:findCls K (.type "tuple") (.type "type") "__new__"=some (.val (.builtin "tuple.__new__")))
  (h:Q (.builtin "tuple.__new__",[]) {s with toks:=s.toks+1}):wpAny (model prog w) A (getMethod (.type "tuple") "__new__" H) Q E s:=by
 have hs:xw "tuple"=false:=by rfl'
 have M:typeOf (.type "tuple")=pure (.type "type"):=by symm
 have d:opaqueClassAbove (.type "tuple")=pure none:=by unfold opaqueClassAbove;dsimp only;rw[hs];rfl
 have u:iJ (model prog w) s.heap (typeOf (.type "tuple")) (.type "type"):=jx M;have t:fx K (.type "type") "__getattribute__"=some (some (.builtin "type.__getattribute__")):=type_tga;unfold getMethod eK;refine ae (ae (u.here ((dK X t).here ?_)));dsimp only;rw[if_pos canon_tga];refine ae (bX (Q:=λ v=>Q (v,[])) (E:=E) ?_ (λ _ _ z=>af z) λ _ _ z=>z);have V:iJ (model prog w) s.heap (opaqueClassAbove (.type "tuple")) none:=jx d;refine cls_open X V u t (looks_hook X (r:=none) (by rfl)) (by show subIn K _ _=_;rfl) e ?_;exact af (th rfl h)
theorem F0 {c:Cx} {G:Gm} {W:Om} {n:Nat} {K:jK} {C:aM} {o e1 e2:cX} {apos pos:Pos} {ds:List D} (inc:yc K c.T) (ok:Ok c n) (N:JD K c.T C) (ho:Ev c G W o (.val (.type "tuple"))) (he:vd c G W [e1,e2] [.val (.ref C),.tup ds])
  (hm:findCls K (.type "tuple") (.type "type") "__new__"=some (.val (.builtin "tuple.__new__"))) (hz:ds.length <= 1000)
  (H:bE o "__new__" c.env (eval o c.env)=eval o c.env:=by symm) (t:(apos.endLine==pos.line)=true:=by symm):
  Ev c G W (.Call (.Attribute o "__new__" apos) [e1,e2] [] pos) (.rcd C ds):=λ s K0 Q E S k=>by
 rw[pg,H];refine ae (ho s K0 _ E S λ v g1 K1 t1 k1 S1 r1=>ae (bn ?_));obtain rfl:=r1;have u:j0 (([e1,e2]:List cX).length+([]:List Cv).length) (backTo pos (gQ [e1,e2] c.env)) (backToKw pos (keywordEach [] c.env))=true:=by
  unfold j0;rw[Bl he]
  rfl
 have V:iz true o c.env apos pos=pure pos:=by unfold iz;simp[t]
 unfold methodCall;rw[u];refine ae (aD (Dq (s:={s with heap:=g1,toks:=t1}) (inc _ (S1.inT ok)) hm ?_));refine ae (cz V ?_);refine jk ok iu he {s with heap:=g1,toks:=t1+1} K1 Q E S1 λ vs g2 K2 t2 k2 S2 r2=>?_;obtain⟨_,_,rfl,rfl,_,_,rfl,⟨ta,us,ep,rfl,δ,M⟩,rfl⟩:=r2;obtain⟨oc,od,cd,sl,η,γ⟩:=N.at_;obtain⟨B,ζ,ε⟩:=N.base;have β:=M.length;refine dR (JC (g:=s.gens) (d:=s.drawn) (os:=s.os) (inc _ (S2.inT ok)) (S2.inT ok _ _ η) γ N.ty (N.sub _) N.su ζ ε N.ini (S2.kp _ _ δ) rfl rfl (by rw[aN,β];exact hz) λ h' kh=>?_);have S3:=(S2.grow kh).grow (h':=h'.push emptyDict) (λ b o e=>aA _ e);have S4:=S3.newFz (BU C h'.objs.size us.toArray);have le:=FM.le_add (o:=BU C h'.objs.size us.toArray) (iU S3.kp);rw[jU] at S4 le;refine k _ _ _ t2 ((k1.trans k2).trans le) S4 ?_;show∃_,_;exact⟨_,h'.objs.size,us,0,rfl,FM.add_self,cB.mono le _ M⟩
end
section
open PySem.Builtin PySem.Builtin.ObjectAttr
theorem MM:fY "object.__init__"=some .slot:=by rfl'
theorem JE:splitId "object.__init__"=some ("object","__init__"):=by rfl'
theorem JF:xH "object.__init__"=true:=by rfl'
theorem MN (a:aj) (l:List aj) (kw:List (Str×aj)):argsOk "object.__init__" ⟨a::l,kw⟩:=by unfold argsOk;symm
theorem JG {prog:aG} {w:aB} {A:bU} {K:jK} {C a:aM} {R:mS->ak->Prop} {s:ak} {o:Obj} {rest:List aj} {kw:List (Str×aj)} (X:K.In s.heap) (t:s.heap.get? a=some o) (hc:o.cls=.ref C) (ini:fx K (.ref C) "__init__"=some (some (.builtin "object.__init__"))) (made:iJ (model prog w) s.heap (j7 (.ref C)) none) (d:mE K (hZ (.ref C) (.type "object"))=some true)
  (h:R (.ok (.ret .none)) s):eQ (model prog w) A (.call (.builtin "object.__init__") ⟨.ref a::rest,kw⟩) R s:=by
 have LT:iJ (model prog w) s.heap (typeOf (.ref a)) (.ref C):=by
  obtain⟨H,dd,u,sl⟩:=o;dsimp only at hc;subst hc;exact(mI t).andThen .now
 have v:=dK (M:=model prog w) X ini;have hl:iJ (model prog w) s.heap (isInstance (.ref a) (.type "object")) true:=LT.andThen (iF X _ d);have ha:=MN (.ref a) rest kw;refine ip JF og ?_;refine zm (i:="object.__init__") (owner:="object") (n:="__init__") MM JE hl ha ?_;unfold Builtin.«object.__init__»;dsimp only;by_cases hr:(!rest.isEmpty||!kw.isEmpty)=true
 .rw[if_pos hr];refine ae (LT.here (ae (v.here ?_)));refine ae (made.here ?_);exact af h
 .rw[if_neg hr];exact af h
theorem JH {pr:aG} {w:aB} {T:FM} {K:jK} {n:Nat} {C fN sm:aM} {obj:aj} {sr:List aj} {ds ds':List D} (inc:yc K T) (hm:rY K C=true) (ini:fx K (.ref C) "__init__"=some (some (.builtin "object.__init__"))) (u:mE K (hZ (.ref C) (.type "object"))=some true)
  (hr:readsIn K C (.type "type")=true) (hg:findCls K (.ref C) (.type "type") "__new__"=some (.get (.builtin "staticmethod.__get__") (.ref sm) obj (.ref C))) (hs:recIn K sm "staticmethod"=some (.ref fN::sr))
  (hN:O2 pr w T n (.ref fN) (MA λ vs=>⟨vs,[]⟩) (.val (.ref C)::ds) [] (Is (.rcd C ds') [])):vn pr w T (n+1) (.ref C) (λ vs=>⟨vs,[]⟩) ds [] (Is (.rcd C ds') []):=by
 intro A hA hd hu s K0 vs Q E hT hK β hO k;have X:K.In s.heap:=inc _ λ b o e=>hK _ _ (hT _ _ e);obtain⟨hh,g,dr,t,os⟩:=s;dsimp only at*;have Y:=Aw (M:=model pr w) X hm;have made:=Y.made;refine yg (rest:=vs) (kw:=[]) X Y (dK X ini) (λ self=>jx (PySem.F.slot_tuple_init.bind self)) hr hg hs ?_;have δ:(A.under (.builtin "type.__call__" ⟨.ref C::vs,[]⟩)).depth+n <= 990:=by show A.depth+1+n <= 990;exact CD hd
 have γ:(A.under (.builtin "type.__call__" ⟨.ref C::vs,[]⟩)).units+3*n <= 9000:=by show A.units+1+3*n <= 9000;exact PW hu
 refine hN (A.under (.builtin "type.__call__" ⟨.ref C::vs,[]⟩)) hA δ γ ⟨hh,g,dr,t+1,os⟩ K0 (.ref C::vs) _ _ hT hK (cB.cons (by ext rd) β) gx.nil λ v h' K' t' d Wo H r p=>?_;obtain⟨rfl,rfl⟩:=p;have r':=r;simp only[j9] at r';obtain⟨a,da,us,ep,rfl,ra,_⟩:=r';have V:∀b o,hh.get? b=some o->h'.get? b=some o:=λ b o e=>H.old b o e (by simp);refine⟨a,rfl,V,⟨_,H.kp _ _ ra,rfl⟩,?_⟩;have fin:=k (.ref a) h' K' t' (.rcd C ds') [] H r ⟨rfl,rfl⟩;exact JG (s:=⟨h',g,dr,t',os⟩) (X.keeps V) (H.kp _ _ ra) rfl ini (made.keeps V) u ⟨rfl,fin⟩
end
abbrev JI:=Int×Int×Int
abbrev lD (C:aM) (m:JI):D:=.rcd C [.int m.1,.int m.2.1,.int m.2.2]
abbrev Vi (m:JI):D:=.tup [.int m.1,.int m.2.1,.int m.2.2]
def QS:D->Int
 |.rcd _ (.int i::_)=>i
 |_=>0
def QT (a b:D):Bool:=decide (QS a<QS b)
theorem MO:fY "tuple.__lt__"=some .slot:=by rfl'
theorem JJ:splitId "tuple.__lt__"=some ("tuple","__lt__"):=by rfl'
section
variable{pr:aG} {w:aB} {A:bU} {E:aj->ak->Prop} {s:ak} {K:jK} {C a b:aM}
theorem MP {Q:Fin->ak->Prop} (X:K.In s.heap) (R:r8 K C) (ha:RecAt s.heap C a #[.int v t1,.int x2 t2,.int x3 t3]) (hb:RecAt s.heap C b #[.int d u1,.int y2 u2,.int y3 u3]) (H:v≠d \/ (v=d /\ x2=y2 /\ x3=y3))
  (h:Q (.done (.ret (.bool (decide (v<d))))) s):wpAny (model pr w) A (Builtin.«tuple.__lt__» ⟨[.ref a,.ref b],[]⟩) Q E s:=by
 have LB:=Do (M:=model pr w) X R hb;obtain⟨da,ea,ha⟩:=ha;obtain⟨db,eb,hb⟩:=hb;show wpAny _ _ (isInstance (.ref b) (.type "tuple")>>=_) _ _ _;refine ae (LB.here ?_);rw[if_neg (by decide)];show wpAny _ _ (fw (.ref a)>>=_) _ _ _;refine ae ?_;unfold fw;refine ae (bI ha rfl (af ?_));refine ae (ae (bI hb rfl (af ?_)));refine ae ?_;dsimp only[List.zip,List.zipWith];simp only[jq,nR];by_cases q:v=d
 .obtain⟨r2,r3⟩:x2=y2 /\ x3=y3:=by
   rcases H with z|z
   .exact absurd q z
   .exact z.2
  subst q r2 r3;have V:∀{x:Int} {t u:Tok} {Q':Bool->ak->Prop},Q' true s->wpAny (model pr w) A (eqBool (.int x t) (.int x u)) Q' E s:=λ h=>wE (by simpa using h);refine ae (ae (V ?_));rw[if_neg (by decide)];refine af ?_;refine ae (ae (V ?_));rw[if_neg (by decide)];refine af ?_;refine ae (ae (V ?_));rw[if_neg (by decide)];refine af (af ?_);simp only[Int.lt_irrefl,decide_false] at h;exact af h
 .refine ae (ae (wE ?_));rw[show(v==d)=false by simpa using q];rw[if_pos (by decide)];refine ae (gw (ae (richCompare_gives (op:=.Lt) (typeIs_int s _ _) (typeIs_int s _ _) PySem.F.slot_int_lt PySem.F.entry_int_lt (PySem.F.args_int_lt_2 _ _) (gives_int_lt _ _ _ _) (λ x=>nomatch x) ?_)));exact ae (af (af (af (af h))))
theorem MQ {T:FM} {KK:FM} {ms:List JI} (inc:yc K T) (R:r8 K C) (hT:FM.Le T KK) (hu:A.units+1<cLine) (h2:2 <= ms.length) (nd:(ms.map (·.1)).Nodup):vm pr w A KK (ms.map (lD C)) (λ i j=>QT ((ms.map (lD C)).getD i .none) ((ms.map (lD C)).getD j .none)):=by
 injections pr w A K C T KK ms inc R hT hu h2 nd;intros vs s rs kp;have X:K.In s.heap:=inc _ λ b o e=>kp _ _ (hT _ _ e);have t:=rs.length;rw[ah] at t;have at_:∀i,i<ms.length->∃a t1 t2 t3,vs[i]?=some (.ref a) /\ RecAt s.heap C a #[.int (ms.getD i default).1 t1,.int (ms.getD i default).2.1 t2,.int (ms.getD i default).2.2 t3]:=λ i hi=>by
  obtain⟨v,e,r⟩:=rs.get (i:=i) (d:=lD C ms[i]) (by simp[hi]);simp only[j9,ro] at r;obtain⟨a,da,us,ep,rfl,ha,v1,_,rfl,⟨t1,rfl⟩,v2,_,rfl,⟨t2,rfl⟩,v3,_,rfl,⟨t3,rfl⟩,rfl⟩:=r;exact⟨a,t1,t2,t3,e,da,ep,by simp[hi];exact kp _ _ ha⟩
 refine⟨oneType',λ Q E H=>kas_kind (T:=.ref C) (NO h2 t) ?_ (by rfl) (by simp) H,?_⟩
 .intro v hv;obtain⟨i,hi,e⟩:=mO.mp hv;obtain⟨a,t1,t2,t3,V,ha⟩:=at_ i (PS t hi);rw[am hi,e] at V;cases V;exact pB ha
 .intro i j Cc hi hj hC;rw[ah] at hi hj;obtain⟨a,t1,t2,t3,V,ha⟩:=at_ i hi;obtain⟨b,u1,u2,u3,e2,hb⟩:=at_ j hj;unfold Cs;have g1:vs.getD i bx=.ref a:=by simp[V]
  have g2:vs.getD j bx=.ref b:=by simp[e2]
  rw[g1,g2,ze,oneLt'_eq];rw[if_pos rfl];refine ae (zf (NP hu) ?_);have LS:iJ (model pr w) s.heap (eK (.ref a) "__lt__") (some (.builtin "tuple.__lt__")):=(pB ha).andThen (dK X R.lt);have d1:(ms.map (lD C)).getD i .none=lD C (ms.getD i default):=by simp[hi]
  have d2:(ms.map (lD C)).getD j .none=lD C (ms.getD j default):=by simp[hj]
  dsimp only at hC;rw[d1,d2] at hC;have β:(ms.getD i default).1≠(ms.getD j default).1 \/ ((ms.getD i default).1=(ms.getD j default).1 /\ (ms.getD i default).2.1=(ms.getD j default).2.1 /\ (ms.getD i default).2.2=(ms.getD j default).2.2):=by
   by_cases q:i=j
   .subst q;exact .inr ⟨rfl,rfl,rfl⟩
   .left
    intro z;apply q;have z1:(ms.map (·.1))[i]'(by simpa using hi)=(ms.map (·.1))[j]'(by simpa using hj):=by simpa [hi,hj] using z
    exact(iL nd).mp z1
  have hc:∀u:aj->ak->Prop,u (.bool (decide ((ms.getD i default).1<(ms.getD j default).1))) s->wpAny (model pr w) A (call (.builtin "tuple.__lt__") [.ref a,.ref b]) u (λ _ _=>False) s:=λ u H=>
   yl X R ha MO JJ rK.plain PySem.F.entry_tuple_lt (PySem.F.args_tuple_lt_2 _ _) (MP X R ha hb β ⟨_,rfl,H⟩)
  refine ae ?_;unfold callSpecialIfBound? bindSpecialIfBound?;dsimp only;refine aD (ae (ae (LS.here ?_)));dsimp only;rw[rK.bind];refine ae (cZ (wx ?_));have fin:∀(u:Option aj->ak->Prop),u (some (.bool (decide ((ms.getD i default).1<(ms.getD j default).1)))) s->wpAny (model pr w) A (call (.builtin "tuple.__lt__") ([.ref a]++[.ref b])>>=λ v=>pure (some v)) u (λ _ _=>False) s:=λ u H=>
   ae (hc _ (af H))
  have fin2:=fu (M:=model pr w) (A:=A) (E:=λ _ _=>False) hC;refine iteInduction (motive:=λ p:Prop=>p) (λ _=>?_) λ _=>?_
  .exact ae (af (af (fin _ fin2)))
  .exact ed (ae (af (af (fin _ fin2))))
theorem MR {ms:List JI} (nd:(ms.map (·.1)).Nodup):Ord (λ i j=>QT ((ms.map (lD C)).getD i .none) ((ms.map (lD C)).getD j .none)) (ms.map (lD C)).length:=by
 injections C ms nd;have e:∀i (h:i<(ms.map (lD C)).length),QS ((ms.map (lD C)).getD i .none)=(ms[i]'(by simpa using h)).1:=λ i h=>by
  have h':i<ms.length:=by simpa using h
  have:(ms.map (lD C)).getD i .none=lD C ms[i]:=by simp[h']
  rw[this];rfl
 refine⟨λ i j hi hj d h=>?_,λ i j hi hj h=>?_,λ i j k hi hj t h1 h2=>?_⟩
 .unfold QT at*;rw[e i hi,e j hj] at*;simp only[decide_eq_false_iff_not,decide_eq_true_eq] at*;have h1:i<ms.length:=by simpa using hi
  have h2:j<ms.length:=by simpa using hj
  have:ms[i].1≠ms[j].1:=λ z=>d ((iL nd (h₀:=by simpa using h1) (h₁:=by simpa using h2)).mp (by simpa using z));omega
 .unfold QT at*;rw[e i hi,e j hj] at*;simp only[decide_eq_false_iff_not,decide_eq_true_eq] at*;omega
 .unfold QT at*;rw[e i hi,e j hj,e k t] at*;simp only[decide_eq_true_eq] at*;omega
end
section
open PySem.Builtin PySem.Builtin.ObjectAttr
section
variable{pr:aG} {w:aB} {T:FM} {n:Nat} {K:jK} {C:aM}
def Us (d:D):JI:=match d with
 |.rcd _ [.int i,.int j,.int k]=>(i,j,k)
 |_=>default
theorem MS (inc:yc K T) (R:r8 K C) (nd:(ms.map (·.1)).Nodup) (V:ms.length<64):Fn pr w T (n+1) (.builtin "list.sort") [.val (.ref a)] [(a,.list (ms.map (lD C)))] (λ d W=>d=.none /\ ∃t:List JI,t.Perm ms /\ t.Pairwise (λ x y=>x.1<y.1) /\ W=[(a,.list (t.map (lD C)))]):=λ A h1 h2 h3 s KK vs Q E hT kp rd o k=>by
 obtain⟨_,_,rfl,rfl,rfl⟩:=rd;obtain⟨β,e',M,_⟩:=l0 o;refine bV qY ⟨_,M,rfl⟩ PySem.F.entry_list_sort ?_ (PySem.F.args_list_sort_1 _);have hu:A.in1.units+1<cLine:=by show A.units+1+1<cLine;unfold cLine;exact(lz 11963436701008868570668240813321737474322) h3
 refine CS (f:=λ i j=>QT ((ms.map (lD C)).getD i .none) ((ms.map (lD C)).getD j .none)) kp o (by rw[ah];exact V) (λ h2=>MQ inc R hT hu (by rw[ah] at h2;exact h2) nd) (MR nd) λ p h' t' hp H A3=>?_;refine⟨_,rfl,?_⟩;have hs:=Ha (lt:=QT) hp H;generalize(p.toList.map λ i=>(ms.map (lD C)).getD i .none)=l at hs A3;obtain⟨v,u⟩:=hs;have e1:(ms.map (lD C)).map Us=ms:=by
  rw[bH];conv=>rhs;rw[<-jY ms]
  rfl
 have e2:l=(l.map Us).map (lD C):=by
  rw[bH]
  conv=>lhs;rw[<-jY l]
  apply dQ;intro d hd;obtain⟨m,hm,rfl⟩:=az.mp (v.mem_iff.mp hd)
  rfl
 refine k .none h' KK t' .none _ A3 (by ext rd) ⟨rfl,l.map Us,?_,?_,by rw[<-e2]⟩
 .have:=v.map Us;rw[e1] at this;exact this
 .rw[dU];rw[e2,dU] at u;rw[dU] at u;refine u.imp_of_mem λ{x y} hx hy q=>?_;exact of_decide_eq_true q
theorem JK {P:D->Om->Prop} (t:T m=none) (hf:vn pr w T n (.ref f) (λ vs=>⟨vs,[]⟩) (.val v0::ds) [] P):Fn pr w (T.add m (methodObj (.ref f) v0)) n (.ref m) ds [] P:=λ A h1 h2 h3 s KK vs Q E d kp r o k=>
 dR (ks_codeAny_call_bound (a:=⟨vs,[]⟩) (kp _ _ (d _ _ FM.add_self)) (hf A h1 h2 h3 s KK (v0::vs) Q E ((FM.le_add t).trans d) kp (cB.cons (by ext rd) r) o k))
theorem HH:fY "tuple.__len__"=some .slot:=by rfl'
theorem ER:splitId "tuple.__len__"=some ("tuple","__len__"):=by rfl'
theorem HI (inc:yc K T) (R:r8 K C) (hl:fx K (.ref C) "__len__"=some (some (.builtin "tuple.__len__"))) (hz:ds.length <= 1000):Fn pr w T n (.builtin "len") [.rcd C ds] [] (Is (.int ds.length) []):=iW λ A s KK vs Q E _ _ _ M kp _ r k=>by
 obtain⟨_,_,rfl,⟨a,da,t,ep,rfl,ha,u⟩,rfl⟩:=r;have X:K.In s.heap:=inc _ λ b o e=>kp _ _ (M _ _ e);have v:=kp _ _ ha;have H:RecAt s.heap C a t.toArray:=⟨da,ep,v⟩;have V:iJ (model pr w) s.heap (eK (.ref a) "__len__") (some (.builtin "tuple.__len__")):=(pB H).andThen (dK X hl);refine oh kind_len plain_len entry_len (args_len1 _) ?_;unfold aC.«len»;refine ae (m:=oneArg "len" _) (af ?_);refine ae ?_;unfold callSpecial?;refine ae (V.here ?_);dsimp only;refine aD ?_;rw[qZ.bind];refine ae (af (ae (yl X R H HH ER qZ.plain PySem.F.entry_tuple_len (PySem.F.args_tuple_len_1 _) ?_)));show wpAny _ _ (fw (.ref a)>>=_) _ _ _;refine ae ?_;unfold fw;refine ae (bI v rfl (af ?_));have d:=u.length;refine ae (sF (af ⟨_,rfl,af ?_⟩));refine ae (aD (af ?_));refine ae (fZ ?_);show wpAny _ _ (if((t.toArray.size:Nat):Int)<0 then _ else _) _ _ _;rw[if_neg (by exact lz 9444097)];rw[if_neg (by rw[aN];omega)];refine ae (sF (af ⟨_,rfl,?_⟩));have e:((t.toArray.size:Nat):Int)=(ds.length:Int):=by simp[d]
 rw[e];exact k _ s.heap _ (λ _ _ e=>e) ⟨_,rfl⟩
end
section
variable{c:Cx} {G G':Gm} {W Wr:Om} {n:Nat}
theorem JL {K:jK} {C:aM} {o:cX} {apos pos M:Pos} {a:aM} {ms:List JI} {rest:List eX} {R:iD->Prop} (inc:yc K c.T) (Rk:r8 K C) (ok:Ok c (n+1)) (ho:Ev c G W o (.val (.ref a))) (t:gc W (a,.list (ms.map (lD C))) Wr) (nd:(ms.map (·.1)).Nodup) (V:ms.length<64)
  (h:∀u:List JI,u.Perm ms->u.Pairwise (λ x y=>x.1<y.1)->Ex c G ((a,.list (u.map (lD C)))::Wr) rest R) (H:bE o "sort" c.env (eval o c.env)=eval o c.env:=by symm) (v:(apos.endLine==pos.line)=true:=by symm)
  (hi:interactive c.env=false:=by symm):Ex c G W (.Expr (.Call (.Attribute o "sort" apos) [] [] pos) M::rest) R:=
 pA (pq ok ho (uq t) fk qY PySem.F.type_list_sort bW (.cons t .nil) (MS inc Rk nd V) H v rfl) (λ d W' q=>by
  obtain⟨Wo,⟨rfl,u,p1,p2,rfl⟩,rfl⟩:=q;exact⟨rfl,h u p1 p2⟩) hi rfl
theorem MT (ok:Ok c n) (M:Ev c G W o (.val (.ref a))) (t:gc W (a,.list (l++[d])) Wr) (hl:l.length+1 <= aO) (v:bE o "pop" c.env (eval o c.env)=eval o c.env:=by symm) (u:(apos.endLine==pos.line)=true:=by symm):
  rq c G W (.Call (.Attribute o "pop" apos) [] [] pos) (λ H W'=>H=d /\ W'=(a,.list l)::Wr):=rq.mono (pq ok M (uq t) fk lU rB bW (.cons t .nil) (O0 hl) v u rfl) λ H W' q=>by
 obtain⟨Wo,⟨rfl,rfl⟩,rfl⟩:=q;exact⟨rfl,rfl⟩
theorem BV {K:jK} {C f p0:aM} {k:Nat} {x y z name:Str} {p q H pa pos γ:Pos} {ex:cX} {ds ds':List D} {rest:List aj} (inc:yc K c.T) (ok:Ok c n) (hn:k+5 <= n) (hx:Ev c G W (.Name x p) (.val (.type "list"))) (hy:Ev c G W (.Name y q) (.val (.type "map"))) (hz:Ev c G W (.Name z H) (.val (.ref C))) (he:Ev c G W ex (.lst ds))
  (hr:readsIn K C (.type "type")=true) (e:findCls K (.ref C) (.type "type") name=some (.get (.builtin "classmethod.__get__") (.ref p0) .none (.ref C))) (hp:recIn K p0 "classmethod"=some (.ref f::rest)) (ε:ds.length=ds'.length)
  (hm:∀(i:Nat) (d d':D),ds[i]?=some d->ds'[i]?=some d'->vn c.pr c.w c.T k (.ref f) (λ vs=>⟨vs,[]⟩) [.val (.ref C),d] [] (Is d' [])) (κ:ds'.length <= aO) (hs:ge ex=true:=by symm)
  (β:bE (.Name z H) name c.env (eval (.Name z H) c.env)=eval (.Name z H) c.env:=by symm) (ht:∀x y,letTemporaryGo (.Name z H) x y=pure ():=by intro _ _;symm):
  Ev c G W (.Call (.Name x p) [.Call (.Name y q) [.Attribute (.Name z H) name pa,ex] [] γ] [] pos) (.lst ds'):=λ s K0 Q E S kk=>by
 refine dw (hx s K0 _ E S λ v g1 K1 t1 k1 S1 r1=>?_);obtain rfl:=r1;refine Aj (n:=n) kP rfl _ Q E ?_;refine dw (hy _ K1 _ E S1 λ v g2 K2 t2 k2 S2 r2=>?_);obtain rfl:=r2;refine jR (P:=FM.In c.T) (by rw[cj rfl,cj hs];rfl) kP ?_;rw[cj rfl,cj hs];refine ij (dJ ?_);show wpAny c.M c.A (bE (.Name z H) name c.env (eval (.Name z H) c.env)>>=_) _ E _;rw[β];refine ae (hz _ K2 _ E S2 λ v h3 K3 t3 k3 S3 r3=>ae (bn (ae (aD ?_))));obtain rfl:=r3;have X:=inc _ (S3.inT ok);refine cls_bind (s:={s with heap:=h3,toks:=t3}) X hr e (dR (cm_get (s:={s with heap:=h3,toks:=t3+1}) X hp (th rfl ?_)));refine ae ?_;rw[ht];refine af (af ?_);have V:K3 h3.objs.size=none:=iU S3.kp;have S4:=S3.newFz (methodObj (.ref f) (.ref C));have θ:=FM.le_add (o:=methodObj (.ref f) (.ref C)) V;have ο:c.T h3.objs.size=none:=by
  cases q:c.T h3.objs.size with
  |none=>rfl
  |some o=>rw[(ok.T.trans S3.k0) _ _ q] at V;cases V
 refine dJ (he _ _ _ E S4 λ v h5 K5 t5 k5 S5 r5=>gj ?_);obtain⟨l,us,ep,rfl,hl,μ⟩:=r5;refine⟨S5.inT ok,?_⟩;have ν:K5 h3.objs.size=some (methodObj (.ref f) (.ref C)):=k5 _ _ FM.add_self;refine FL (n:=n) (ds:=ds) (ds':=ds') S5.kp hl λ m tp it h' K' δ ι t A1 ξ=>?_;have S6:=(S5.perm (W':=[]++W) (by simp)).call A1;refine⟨S6.inT ok,?_⟩;have hu:c.A.units+3*n <= 9000:=ok.u;have hd:c.A.depth+n <= 990:=ok.d;have ζ:FM.Le (c.T.add h3.objs.size (methodObj (.ref f) (.ref C))) K':=by
  intro b o q;unfold FM.add at q
  split at q
  .rename_i q2;subst q2;cases q;exact t _ _ ν
  .exact(ok.T.trans S6.k0) _ _ q
 have IT:=CL (A:=c.A.in1.in1) (m:=m) (tp:=tp) (it:=it) (K₀:=K') (ds:=ds) (ds':=ds') (n:=k) ok.h (by show c.A.depth+k <= 990;exact So hn hd) (by show c.A.units+1+1+3*k+1 <= 9000;exact(lz 3367408032607997540989791686249659090742307824486322211) hn hu) ζ δ ι (t _ _ hl) (cB.mono t _ μ) ⟨ε,λ i d d' a b=>JK ο (hm i d d' a b)⟩;refine GW IT (λ _=>rfl) κ (nohint_map δ) _ K' ξ FM.Le.rfl S6.kp S6.own.left λ a h2 ρ η A2=>?_;have S7:=S6.call A2;obtain⟨o,q,le,A⟩:=(Aft.same S7.kp S7.own).freeze;obtain⟨vs,ee,rfl,r⟩:=q;have S8:=(S7.perm (W':=((a,.list ds')::W)++[]) (by simp)).call A;rw[ax] at S8;refine kk (.ref a) h2 _ η (((((((k1.trans k2).trans k3).trans θ).trans k5).trans t).trans A2.le).trans le) S8 ?_;show∃_,_;exact⟨a,vs,ee,rfl,FM.add_self,cB.mono le _ r⟩
end
end
section
variable{c:Cx} {G G':Gm} {W Wr:Om} {n:Nat}
theorem nD {p:aM×Ob} {st:List eX} {R:iD->Prop} (t:gc W p Wr) (h:Ex c G Wr st R):Ex c G W st R:=λ s K Q E S k=>h s K Q E (S.perm t.perm).drop k
inductive HJ (c:Cx):Gm->List Str->List D->Gm->Prop
 |nil {G:Gm}:HJ c G [] [] G
 |cons {G G1 G':Gm} {x:Str} {r:List Str} {d:D} {t:List D} (h:un G x d G1) (hr:HJ c G1 r t G') (hl:c.env.kindOf x=some .local:=by symm):HJ c G (x::r) (d::t) G'
theorem HJ.go (h:HJ c G xs ds G') (hp:(c.env.scope.kind==.class||(c.env.scope.kind==.module&&c.env.locals !=c.env.globals))=false):∀(s:ak) (K:FM) (vs:List aj) (Q:Unit->ak->Prop) (E:aj->ak->Prop),c.S s K G W->cB K ds vs->
  (∀h' K' t',FM.Le K K'->f' c.B c.env.locals h' K' G' W->Q () {s with heap:=h',toks:=t'})->wpAny c.M c.A (assignInOrder (xs.map λ n=>bindName c.env n) vs) Q E s:=by
 induction h with
 |nil=>intro s K vs Q E S r k;obtain rfl:=r;exact af (k s.heap K s.toks FM.Le.rfl S)
 |@cons G G1 G' x xr d dr h hr hl ih=>
  intro s K vs Q E S r k;obtain⟨v,t,rfl,r1,r2⟩:=r;show wpAny c.M c.A (jH t (bindName c.env x v)>>=λ _=>assignInOrder _ t) Q E s;have key:∀(V:Unit->ak->Prop),(∀h' K' t',FM.Le K K'->f' c.B c.env.locals h' K' G1 W->V () {s with heap:=h',toks:=t'})->wpAny c.M c.A (bindName c.env x v) V E s:=λ V k'=>by
   obtain⟨m,hn,hm⟩:=S.ns;exact wpAny_bindName (gV hl hn (λ h2 H u=>k' h2 K _ FM.Le.rfl (S.store h m hm H u r1)) hp)
  refine ae (aD (key _ λ h1 K1 t1 k1 S1=>?_));exact ih _ K1 t Q E S1 (cB.mono k1 _ r2) λ h2 K2 t2 k2 S2=>k h2 K2 t2 (k1.trans k2) S2
theorem cB.rev {K:FM}:∀{ds:List D} {vs:List aj},cB K ds vs->cB K ds.reverse vs.reverse
 |[],_,h=>by obtain rfl:=h;exact cB.nil
 |d::l,_,h=>by
  obtain⟨v,r,rfl,h2,h3⟩:=h;rw[oI,oI];exact(cB.rev h3).append (cB.cons h2 cB.nil)
theorem nh {R:iD->Prop} (ok:Ok c n) (he:Ev c G W e (.tup ds)) (hP:HJ c G xs.reverse ds.reverse G') (h:Ex c G' W rest R)
  (hx:swappedStores [.Tuple es k tp] e c.env=pure (some xs):=by symm) (d:xs.length=ds.length:=by symm) (hw:swapsWithSole [.Tuple es k tp] e pos.line c.env=pure false:=by symm) (hp:(c.env.scope.kind==.class||(c.env.scope.kind==.module&&c.env.locals !=c.env.globals))=false:=by symm):Ex c G W (.Assign [.Tuple es k tp] e pos::rest) R:=
 gy λ s K Q E S H=>by
  show wpAny c.M c.A (jG pos>>=λ _=>swapsWithSole [.Tuple es k tp] e pos.line c.env>>=_) Q E s;refine ae (bn ?_);rw[hw];refine ae (af ?_);simp only[bQ,if_false];refine ae (he s K _ E S λ v h1 K1 t1 k1 u r1=>?_);rw[hx];refine ae (af ?_);show wpAny c.M c.A (rule "assign.swapped-stores">>=λ _=>unpackItems v xs.length none>>=λ items=>assignInOrder (xs.reverse.map λ n=>bindName c.env n) items.reverse>>=λ _=>pure .next) Q E _;obtain⟨a,vs,ep,rfl,ha,hr⟩:=r1;have hl:xs.length=(al vs).size:=by rw[d,aN,hr.length]
  rw[hl];refine ae (gw (ae (wpAny_unpackItems_tuple ok.h (items:=al vs) ⟨_,u.kp _ _ ha,rfl,_,rfl⟩ λ h' t=>?_)));have S':f' c.B c.env.locals h' K1 G W:=u.grow λ b o e=>t b o (gE (cC e)) e;refine ae (hP.go hp _ K1 vs.reverse _ E S' hr.rev λ h2 K2 t2 V S2=>af ?_);exact H .next h2 K2 t2 (k1.trans V) ⟨G',W,S2,h⟩
theorem sU {R:iD->Prop} (v:Sub G G) (u:cv W W []) (t:Tt c G W d false) (h:Ex c G W rest R):Ex c G W (.While d body [] pos::rest) R:=
 kc (σ:=Unit) (λ _=>0) (λ _=>True) (λ _=>G) (λ _=>W) () trivial v u λ _ _=>.inr ⟨t,h⟩
end
section
open PySem.Builtin PySem.Builtin.ObjectAttr
section
variable{c:Cx} {G G':Gm} {W W₁ Wr:Om} {n:Nat}
theorem Vj:Tv c G W (.int i) (decide (i≠0)):=λ s K x Q E S r k=>by
 obtain⟨t,rfl⟩:=r;refine PySem.P.truthy_int ?_;have e:decide (i≠0)=(i !=0):=by by_cases q:i=0<;>simp[q]
 rw[<-e];exact k s.toks
theorem JM (ok:Ok c n) (H:rq c G W e (λ d W'=>d=.lst ds /\ W'=W₁)):RJ c G W W₁ e ds:=λ s K Q E S k=>
 H s K _ E S λ v h1 K1 t1 d W' u t r1 p1=>by
  obtain⟨rfl,rfl⟩:=p1;obtain⟨l,vs,ep,rfl,hl,hr⟩:=r1;refine jI (items:=al vs) ⟨_,t.kp _ _ hl,rfl,_,rfl⟩ ?_;exact k _ (λ i=>[(_,.pred (eg l i))]) (λ i=>[(_,.pred (eg l i))]) _ K1 t1 u (t.new _ (b:=.pred (eg l 0)) ⟨rfl,rfl⟩) (sO ok.h hl hr)
theorem MU {K:jK} {C f:aM} {o:cX} {name:Str} {apos pos:Pos} {P0 P1:D->Om->Prop} (inc:yc K c.T) (ok:Ok c n) (cf:oz K C) (ho:rq c G W o P0) (hf:fx K (.ref C) name=some (some (.ref f))) (γ:typeIn K (.ref f)=some (.type "function")) (kp:Kp c.pr c.w c.T (.ref f))
  (u:∀d W',P0 d W'->∃x da fs Wq Wi Wr,d=.inst C x da /\ gc W' (da,cy c.w.params fs) Wq /\ fs.any (λ p=>p.1==name)=false /\ cv W' Wi Wr /\ Fn c.pr c.w c.T n (.ref f) [.inst C x da] Wi (λ d Wo=>P1 d (Wo++Wr)))
  (V:bE o name c.env (eval o c.env)=eval o c.env:=by symm) (H:(apos.endLine==pos.line)=true:=by symm):
  rq c G W (.Call (.Attribute o name apos) [] [] pos) P1:=λ s K0 Q E S k=>by
 rw[pg,V];refine ae (ho s K0 _ E S λ v h1 K1 t1 d W' k1 S1 r1 p1=>ae (bn ?_));obtain⟨x,da,fs,Wq,Wi,Wr,rfl,t,δ,tk,ε⟩:=u d W' p1;obtain⟨η,n',rfl,I,ζ⟩:=S1.inst r1 t;obtain⟨q1,q2⟩:=Dc δ ζ;have M:j0 (([]:List cX).length+([]:List Cv).length) (backTo pos (gQ [] c.env)) (backToKw pos (keywordEach [] c.env))=true:=rfl;have β:iz true o c.env apos pos=pure pos:=by unfold iz;simp[H]
 unfold methodCall;rw[M];refine ae (aD ?_);refine method_fn (s:={s with heap:=h1,toks:=t1}) (inc _ (S1.inT ok)) I cf.ga cf.gt hf γ (by show(lookIn name _).map (·.isSome)=some false;rw[wO q1 q2];rfl) ?_;refine ae (cz β ?_);refine jk ok kp bW {s with heap:=h1,toks:=t1} K1 Q E S1 λ vs h2 K2 t2 k2 S2 r2=>?_;refine sJ ok tk ε {s with heap:=h2,toks:=t2} K2 (.ref x::vs) Q E S2 (cB.cons (Rd.mono k2 _ r1) r2) λ v h3 K3 t3 d Wo k3 S3 r3 p=>k v h3 K3 t3 d _ ((k1.trans k2).trans k3) S3 r3 p
end
end
def wg (b:List Str) (x:Str):Option Nat:=if x∈b then some (b.idxOf x) else none
structure FS where
 prev:Option (Nat×Nat)
 bi:Nat
 bj:Nat
 bk:Nat
def fK (p:Option (Nat×Nat)) (j:Nat):Nat:=match p with
 |some (t,d)=>if t+1=j then d else 0
 |none=>0
def ym (blo bhi i:Nat) (o:Option Nat) (s:FS):FS:=match o with
 |none=>⟨none,s.bi,s.bj,s.bk⟩
 |some j=>if j<blo then⟨none,s.bi,s.bj,s.bk⟩ else if bhi <= j then⟨none,s.bi,s.bj,s.bk⟩ else
  if s.bk<fK s.prev j+1 then⟨some (j,fK s.prev j+1),i-fK s.prev j,j-fK s.prev j,fK s.prev j+1⟩ else⟨some (j,fK s.prev j+1),s.bi,s.bj,s.bk⟩
def fN (a b:List Str) (alo blo bhi:Nat):Nat->FS
 |0=>⟨none,alo,blo,0⟩
 |n+1=>ym blo bhi (alo+n) (wg b (a.getD (alo+n) "")) (fN a b alo blo bhi n)
theorem V0:fN a b i j k 0=⟨none,i,j,0⟩:=rfl
theorem WW:fN a b i j k (n+1)=ym j k (i+n) (wg b (a.getD (i+n) "")) (fN a b i j k n):=rfl
def oD (p:Option (Nat×Nat)):Option (Int×Int):=p.map λ q=>((q.1:Int),(q.2:Int))
set_option tactic.hygienic true in
theorem MV (a b:List Str) (alo blo bhi:Nat):∀n,∀j k,(fN a b alo blo bhi n).prev=some (j,k)->k <= n /\ k <= j+1:=by
 intro n
 induction n with
 |zero=>
  intro j k h;exact nomatch h
 |succ n v=>
  intro j k h;have H:∀j,fK (fN a b alo blo bhi n).prev j <= n /\ fK (fN a b alo blo bhi n).prev j <= j:=by
   intro j;unfold fK
   split
   .rename_i u d e;have:=v u d e
    split<;>(first|exact⟨GC,GC⟩|exact⟨this.1,GH this.2 ‹_›⟩)
   .exact⟨GC,GC⟩
  rw[WW] at h;unfold ym at h
  split at h
  .cases h
  .rename_i o t e;have:=H t
   split at h
   .cases h
   .split at h
    .cases h
    .split at h
     .simp only[oJ,um] at h;exact⟨NW this.1 h.2,NX this.2 h.1 h.2⟩
     .simp only[oJ,um] at h;exact⟨NW this.1 h.2,NX this.2 h.1 h.2⟩
set_option tactic.hygienic true in
theorem SX (a b:List Str) (alo blo bhi n j:Nat):fK (fN a b alo blo bhi n).prev j <= n /\ fK (fN a b alo blo bhi n).prev j <= j:=by
 unfold fK
 split
 .rename_i t d e;have:=MV a b alo blo bhi n t d e
  split<;>(first|exact⟨GC,GC⟩|exact⟨this.1,GH this.2 ‹_›⟩)
 .exact⟨GC,GC⟩
structure QU (a b:List Str) (alo ahi blo bhi bi bj bk:Nat):Prop where
 ia:alo <= bi
 ib:blo <= bj
 ja:bi+bk <= ahi
 jb:bj+bk <= bhi
 lo:∀x,alo<bi->blo<bj->a[bi-1]?=some x->b[bj-1]?≠some x
 hi:∀x,bi+bk<ahi->bj+bk<bhi->a[bi+bk]?=some x->b[bj+bk]?≠some x
abbrev sV:=Nat×Nat×Nat
abbrev AA:=Nat×Nat×Nat×Nat
def vW (a b:List Str) (B:AA):sV:=((fN a b B.1 B.2.2.1 B.2.2.2 (B.2.1-B.1)).bi,(fN a b B.1 B.2.2.1 B.2.2.2 (B.2.1-B.1)).bj,(fN a b B.1 B.2.2.1 B.2.2.2 (B.2.1-B.1)).bk)
def qq (B:AA) (t:sV):List AA:=if B.1<t.1 /\ B.2.2.1<t.2.1 then[(B.1,t.1,B.2.2.1,t.2.1)] else[]
def qr (B:AA) (t:sV):List AA:=if t.1+t.2.2<B.2.1 /\ t.2.1+t.2.2<B.2.2.2 then[(t.1+t.2.2,B.2.1,t.2.1+t.2.2,B.2.2.2)] else[]
structure JN (a b:List Str) (B:AA):Prop where
 h1:B.1 <= B.2.1
 h2:B.2.1 <= a.length
 h3:B.2.2.1 <= B.2.2.2
 h4:B.2.2.2 <= b.length
 e:QU a b B.1 B.2.1 B.2.2.1 B.2.2.2 (vW a b B).1 (vW a b B).2.1 (vW a b B).2.2
def pC (qs:List AA):Nat:=(qs.map λ B=>2*(B.2.1-B.1)+1).sum
theorem wh:pC (qs++[B])=pC qs+(2*(B.2.1-B.1)+1):=by simp[pC]
theorem Dr:pC (qs++l)=pC qs+pC l:=by simp[pC]
theorem AC (h:JN a b B) (d:0<(vW a b B).2.2):pC (qs++qq B (vW a b B)++qr B (vW a b B))<pC (qs++[B]):=by
 rw[wh,Dr,Dr];have h1:=h.e.ia;have h2:=h.e.ja;have h3:=h.h1;have u:pC (qq B (vW a b B)) <= 2*((vW a b B).1-B.1)+1:=by
  unfold qq;split
  .simp[pC]
  .simp[pC]
 have t:pC (qr B (vW a b B)) <= 2*(B.2.1-((vW a b B).1+(vW a b B).2.2))+1:=by
  unfold qr;split
  .simp[pC]
  .simp[pC]
 exact(lz 28618799180918695098200310267143593441485323756564178965326929097688167739822442) d u t dX (dE h2) (dE h1)
structure Vk (a b:List Str) (P:List AA->List sV->Prop) (RR:List sV):Prop where
 h0:P [(0,a.length,0,b.length)] []
 h1:∀qs B bl,P (qs++[B]) bl->JN a b B /\ qs.length <= 1000 /\ bl.length <= 1000
 hz:∀qs B bl,P (qs++[B]) bl->(vW a b B).2.2=0->P qs bl
 hs:∀qs B bl,P (qs++[B]) bl->0<(vW a b B).2.2->P (qs++qq B (vW a b B)++qr B (vW a b B)) (bl++[vW a b B])
 nd:∀bl,P [] bl->(bl.map (·.1)).Nodup /\ bl.length<64
 so:∀bl ms:List sV,P [] bl->ms.Perm bl->ms.Pairwise (λ x y=>x.1<y.1)->ms=RR
 pos:∀t∈RR,0<t.2.2
 len:RR.length<64
 adj:∀i x y,RR[i]?=some x->RR[i+1]?=some y->¬(x.1+x.2.2=y.1 /\ x.2.1+x.2.2=y.2.1)
def lE:Nat->Nat->List sV->List gL
 |_,_,[]=>[]
 |i,j,t::r=>cT i t.1 j t.2.1++dS t.1 (t.1+t.2.2) t.2.1 (t.2.1+t.2.2)++lE (t.1+t.2.2) (t.2.1+t.2.2) r
theorem Vl:lE i j []=[]:=rfl
theorem Ut:lE i j (t::r)=cT i t.1 j t.2.1++dS t.1 (t.1+t.2.2) t.2.1 (t.2.1+t.2.2)++lE (t.1+t.2.2) (t.2.1+t.2.2) r:=rfl
section
variable{a b:List Str} {alo blo bhi:Nat}
def Mt (a b:List Str) (p q:Nat):Prop:=∃x,a[p]?=some x /\ b[q]?=some x
theorem Mt.la (h:Mt a b p q):p<a.length:=by
 obtain⟨x,h1,_⟩:=h;exact(au.mp h1).1
theorem Mt.lb (h:Mt a b p q):q<b.length:=by
 obtain⟨x,_,h1⟩:=h;exact(au.mp h1).1
theorem F1 {l:List Str} (nd:l.Nodup) {i j:Nat} {x:Str} (h1:l[i]?=some x) (h2:l[j]?=some x):i=j:=by
 obtain⟨v,t⟩:=au.mp h1;obtain⟨u,d⟩:=au.mp h2;exact(iL nd).mp (t.trans d.symm)
theorem Mt.fn {p q d:Nat} (nb:b.Nodup) (h:Mt a b p q) (h':Mt a b p d):q=d:=by
 obtain⟨x,h1,h2⟩:=h;obtain⟨y,h3,h4⟩:=h';rw[h1] at h3;cases h3;exact F1 nb h2 h4
theorem Mt.inj {p d q:Nat} (t:a.Nodup) (h:Mt a b p q) (h':Mt a b d q):p=d:=by
 obtain⟨x,h1,h2⟩:=h;obtain⟨y,h3,h4⟩:=h';rw[h2] at h4;cases h4;exact F1 t h1 h3
structure MW (a b:List Str) (alo blo i j k:Nat):Prop where
 ia:alo <= i
 ib:blo <= j
 all:∀s,s<k->Mt a b (i+s) (j+s)
 left:¬(alo<i /\ blo<j /\ Mt a b (i-1) (j-1))
structure ES (a b:List Str) (alo blo bhi n:Nat) (S:FS):Prop where
 prev:∀j k,S.prev=some (j,k)->0<k /\ 0<n /\ k <= n /\ k <= j+1 /\ j<bhi /\ blo <= j /\ MW a b alo blo (alo+n-k) (j+1-k) k
 none:S.prev=aH->0<n->∀q,blo <= q->q<bhi->¬Mt a b (alo+n-1) q
 zero:S.bk=0->S.bi=alo /\ S.bj=blo /\ ∀p q,alo <= p->p<alo+n->blo <= q->q<bhi->¬Mt a b p q
 pos:0<S.bk->MW a b alo blo S.bi S.bj S.bk /\ S.bi+S.bk <= alo+n /\ S.bj+S.bk <= bhi /\ (S.bi+S.bk<alo+n->S.bj+S.bk<bhi->¬Mt a b (S.bi+S.bk) (S.bj+S.bk)) /\ (S.bi+S.bk=alo+n->S.prev=some (S.bj+S.bk-1,S.bk))
 best:∀j k,S.prev=some (j,k)->k <= S.bk
theorem SY:ES a b alo blo bhi 0 ⟨aH,alo,blo,0⟩:=
 ⟨λ _ _ h=>(nomatch h),λ _ h=>absurd h (cU _),λ _=>⟨rfl,rfl,λ p q h1 h2=>absurd h2 ((lz 282576912717074) h1)⟩,λ h=>absurd h (cU _),λ _ _ h=>nomatch h⟩
theorem JO (h:wg b x=some j):b[j]?=some x:=by
 unfold wg at h
 split at h
 .rename_i d;cases h;have:=pi.mpr d;rw[am this,List.getElem_idxOf this]
 .cases h
theorem JP (h:wg b x=none):x∉b:=by
 unfold wg at h
 split at h
 .cases h
 .assumption
theorem HK (nb:b.Nodup) {n:Nat} {S:FS} (hn:alo+n<a.length) (ε:blo <= bhi) (I:ES a b alo blo bhi n S) {x:Str} (hx:a[alo+n]?=some x):ES a b alo blo bhi (n+1) (ym blo bhi (alo+n) (wg b x) S):=by
 injections a b alo blo bhi nb n S hn ε I x hx;have miss:(∀q,blo <= q->q<bhi->¬Mt a b (alo+n) q)->ES a b alo blo bhi (n+1) ⟨none,S.bi,S.bj,S.bk⟩:=by
  intro hm;refine⟨λ _ _ h=>(nomatch h),λ _ _ q h1 h2=>by rw[show alo+(n+1)-1=alo+n from ai ((lz 118798768262694804918291) (dE NY)) ((lz 118798840038805268336659) dX)];exact hm q h1 h2,λ h=>?_,λ h=>?_,λ _ _ h=>nomatch h⟩
  .obtain⟨e1,e2,e3⟩:=I.zero h;refine⟨e1,e2,λ p q h1 h2 h3 h4=>?_⟩;by_cases e:p=alo+n
   .subst e;exact hm q h3 h4
   .exact e3 p q h1 ((bc e).elim (λ q=>q) λ q=>(lz 40504061475082012658237731) h2 q) h3 h4
  .obtain⟨l,r1,r2,r3,r4⟩:=I.pos h;refine⟨l,by show S.bi+S.bk <= _;exact NZ r1,r2,λ h1 h2=>?_,λ h1=>?_⟩
   .by_cases e:S.bi+S.bk=alo+n
    .intro d;have d:Mt a b (S.bi+S.bk) (S.bj+S.bk):=d;rw[e] at d;exact hm (S.bj+S.bk) (by have:=l.ib;exact(lz 38118477214724984867) h this) h2 d
    .have h1:S.bi+S.bk<alo+(n+1):=h1;exact r3 ((bc e).elim (λ q=>q) λ q=>N0 r1 q) h2
   .have h1:S.bi+S.bk=alo+(n+1):=h1;exact(N1 r1 h1).elim
 cases ho:wg b x with
 |none=>
  refine miss λ q _ _ ⟨y,h1,h2⟩=>?_;rw[hx] at h1;cases h1;exact JP ho (bD h2)
 |some j=>
  have hj:=JO ho;have hM:Mt a b (alo+n) j:=⟨x,hx,hj⟩;show ES _ _ _ _ _ _ (if j<blo then _ else _);by_cases c1:j<blo
  .rw[if_pos c1];exact miss λ q h1 h2 h=>by have:=Mt.fn nb hM h;exact(lz 151468598011097359388467) c1 h1 this
  rw[if_neg c1];by_cases c2:bhi <= j
  .rw[if_pos c2];exact miss λ q h1 h2 h=>by have:=Mt.fn nb hM h;exact(lz 156170284245948801027891) c2 h2 this
  rw[if_neg c2];have hk:∃k,fK S.prev j=k /\ k <= n /\ k <= j /\ MW a b alo blo (alo+n-k) (j-k) (k+1) /\ (∀V u,S.prev=some (V,u)->V+1=j->k=u):=by
   unfold fK;cases hp:S.prev with
   |none=>
    refine⟨0,rfl,aU _,aU _,⟨(lz 41237218230013971) dX,N2 c1 dX,λ s hs=>?_,?_⟩,λ _ _ h=>nomatch h⟩
    .rw[show s=0 from ai (N3 hs) GC];exact hM
    .rintro⟨h1,h2,h3⟩;exact I.none hp ((lz 37474735078435787043) h1 (bG _ _)) (j-0-1) (Lz h2 dX) ((lz 646794048295263211828) c2 (bG _ _) (bG _ _)) (by rw[show alo+n-1=alo+n-0-1 from ai ((lz 1371279140922205196306365764552888373) dX dX (dE ((lz 9593532180079545225251) h1 (bG _ _)))) ((lz 32048141813169476818530555138101) (bG _ _) dX (dE (GA h1)))];exact h3)
   |some t=>
    obtain⟨V,u⟩:=t;obtain⟨p1,p2,p3,p4,p5,p6,p7⟩:=I.prev V u hp;dsimp only;by_cases e:V+1=j
    .rw[if_pos e];refine⟨u,rfl,p3,GH p4 e,⟨by have:=p7.ia;exact this,by have:=p7.ib;exact(lz 33273931941459311232718829115846824006) e this dX (dE p4),λ s hs=>?_,?_⟩,λ M v h _=>by cases h;rfl⟩
     .by_cases es:s=u
      .subst es;rw[show alo+n-s+s=alo+n from ai ((lz 931634905124306423828) (dE (LK p3))) dX,show j-s+s=j from ai ((lz 9297548188061715) (dE ((lz 118209114233931488694307) e p4))) dX];exact hM
      .have:=p7.all s ((bc es).elim (λ q=>q) λ q=>Ly hs q)
       rwa [show V+1-u=j-u from ai (N4 e dX (dE p4)) (N5 e dX (dE (GH p4 e)))] at this
     .rintro⟨h1,h2,h3⟩;exact p7.left ⟨h1,(lz 28204928314197961434426901040883437894) e h2 dX (dE (GH p4 e)),by rw[show V+1-u=j-u from ai (N4 e dX (dE p4)) (N5 e dX (dE (GH p4 e)))];exact h3⟩
    .rw[if_neg e];refine⟨0,rfl,aU _,aU _,⟨(lz 43239276476680164675619) p2 dX,N2 c1 dX,λ s hs=>?_,?_⟩,λ M v h h2=>by cases h;exact absurd h2 e⟩
     .rw[show s=0 from ai (N3 hs) GC];exact hM
     .rintro⟨h1,h2,h3⟩;have h4:=p7.all (u-1) (Il (dE (zw p1)));rw[show alo+n-u+(u-1)=alo+n-0-1 from ai ((lz 5894932334740253724547453159926176986528485447) dX dX (dE (zw p1)) (dE (LK p3))) ((lz 138326294899253818993540099161234971430983) (bG _ _) dX dX (dE (GA h1))),show V+1-u+(u-1)=V from ai ((lz 7804912476043669465928831012) (dE (zw p1)) (dE p4)) ((lz 1085098305443819118640893988) dX dX)] at h4;have:=Mt.fn nb h3 h4;exact(bc e).elim (λ q=>(lz 196071840473785009543271455341178064708) this q dX dX) λ q=>(lz 257353444065831840042104988696645444) this q (bG _ _) (dE (GA h2))
  obtain⟨k,δ,β,H,hR,γ⟩:=hk;rw[δ];have pv:∀M v,(some (j,k+1):Option (Nat×Nat))=some (M,v)->0<v /\ 0<n+1 /\ v <= n+1 /\ v <= M+1 /\ M<bhi /\ blo <= M /\ MW a b alo blo (alo+(n+1)-v) (M+1-v) v:=by
   intro M v h;cases h;refine⟨PX,PX,Eh β,Eh H,(lz 69055090962) c2,tG c1,?_⟩;rw[show alo+(n+1)-(k+1)=alo+n-k from ai ((lz 508964222360640165693525871300645) dX (dE ((lz 296307890118875156499) β))) ((lz 334919747748262314023111316738085) dX (dE (LK β))),show j+1-(k+1)=j-k from ai ((lz 7746915453162707090643554340) dX (dE (Eh H))) ((lz 686755332195489550964035620) dX (dE H))];exact hR
  by_cases c3:S.bk<k+1
  .rw[if_pos c3];refine⟨pv,λ h=>(nomatch h),λ h=>absurd h (wF _),λ _=>⟨hR,?_,?_,?_,?_⟩,λ M v h=>by cases h;exact aR _⟩
   .show alo+n-k+(k+1) <= _;exact(lz 15630240034588043421596258324) (dE (LK β))
   .show j-k+(k+1) <= _;exact(lz 1447426151996175256391716) c2 (dE H)
   .intro h1;exfalso;have h1:alo+n-k+(k+1)<alo+(n+1):=h1;omega
   .intro _;show some (j,k+1)=some (j-k+(k+1)-1,k+1);rw[show j-k+(k+1)-1=j from ai ((lz 15503350177392384716198383652) (dE NY) (dE H)) ((lz 5110205461432732337389637668) dX dX)]
  .rw[if_neg c3];refine⟨pv,λ h=>(nomatch h),λ h=>?_,λ h=>?_,λ M v h=>by cases h;show k+1 <= S.bk;exact(lz 1808196693919272978) c3⟩
   .have h:S.bk=0:=h;omega
   .obtain⟨l,r1,r2,r3,r4⟩:=I.pos h;have h:0<S.bk:=h;refine⟨l,by show S.bi+S.bk <= _;exact NZ r1,r2,λ h1 h2=>?_,λ h1=>?_⟩
    .have h1:S.bi+S.bk<alo+(n+1):=h1;by_cases e:S.bi+S.bk=alo+n
     .intro d;have d:Mt a b (S.bi+S.bk) (S.bj+S.bk):=d;rw[e] at d;have e2:=Mt.fn nb hM d;have:=γ _ _ (r4 e) (ai ((lz 10369653324794356680657211428) e2 (dE (PY h))) ((lz 7804983309306837989964386340) e2 dX));exact(lz 317166426060378148642) c3 this
     .exact r3 ((bc e).elim (λ q=>q) λ q=>N0 r1 q) h2
    .have h1:S.bi+S.bk=alo+(n+1):=h1;exact(N1 r1 h1).elim
theorem MX (nb:b.Nodup) (d:blo <= bhi):∀n,alo+n <= a.length->ES a b alo blo bhi n (fN a b alo blo bhi n)
 |0,_=>SY
 |n+1,h=>by
  have t:a[alo+n]?=some a[alo+n]:=am (N6 h);have:=HK nb (N6 h) d (MX nb d n ((lz 38701692263175032851) h)) t;show ES _ _ _ _ _ _ (ym blo bhi (alo+n) (wg b (a.getD (alo+n) "")) _);rw[bu,t];exact this
theorem Vm (nb:b.Nodup) {d:Nat} (h1:alo <= d) (h2:d <= a.length) (h3:blo <= bhi):QU a b alo d blo bhi (fN a b alo blo bhi (d-alo)).bi (fN a b alo blo bhi (d-alo)).bj (fN a b alo blo bhi (d-alo)).bk:=by
 injections a b alo blo bhi nb d h1 h2 h3;have I:=MX (a:=a) (alo:=alo) (bhi:=bhi) nb h3 (d-alo) (P4 h2 (dE h1));have mt:∀p q x,a[p]?=some x->b[q]?=some x->Mt a b p q:=λ p q x h1 h2=>⟨x,h1,h2⟩;rcases Nat.eq_zero_or_pos (fN a b alo blo bhi (d-alo)).bk with z|z
 .obtain⟨V,M,H⟩:=I.zero z;rw[V,M,z];refine⟨aR _,aR _,N7 h1,N7 h3,λ x h=>absurd h (cU _),λ x h4 v u t=>H alo blo (aR _) ((lz 189208328563777351979299) h4 dX) (aR _) ((lz 291405227364626) v) ⟨x,by simpa using u,by simpa using t⟩⟩
 .obtain⟨l,r1,r2,r3,r4⟩:=I.pos z;refine⟨l.ia,l.ib,(lz 80053892298198392230121509) r1 (dE h1),r2,λ x h4 v u t=>l.left ⟨h4,v,x,u,t⟩,λ x h4 v u t=>r3 ((lz 81612235085029708201988389) h4 dX) v ⟨x,u,t⟩⟩
end
section
variable{a b:List Str}
structure q7 (a b:List Str) (t:sV):Prop where
 pos:0<t.2.2
 all:∀s,s<t.2.2->Mt a b (t.1+s) (t.2.1+s)
 left:¬(0<t.1 /\ 0<t.2.1 /\ Mt a b (t.1-1) (t.2.1-1))
 right:¬Mt a b (t.1+t.2.2) (t.2.1+t.2.2)
def JQ (a b:List Str):Prop:=∀p q t d,Mt a b p q->Mt a b t d->p<t->q<d
structure GB (a b:List Str) (B:AA):Prop where
 h1:B.1 <= B.2.1
 h2:B.2.1 <= a.length
 h3:B.2.2.1 <= B.2.2.2
 h4:B.2.2.2 <= b.length
 lft:(B.1=0 /\ B.2.2.1=0) \/ (0<B.1 /\ 0<B.2.2.1 /\ Mt a b (B.1-1) (B.2.2.1-1) /\ ¬Mt a b B.1 B.2.2.1)
 rgt:(B.2.1=a.length /\ B.2.2.2=b.length) \/ (Mt a b B.2.1 B.2.2.2 /\ ¬(0<B.2.1 /\ 0<B.2.2.2 /\ Mt a b (B.2.1-1) (B.2.2.2-1)))
def Vn (t:sV) (B:AA):Prop:=B.1 <= t.1 /\ t.1+t.2.2 <= B.2.1 /\ B.2.2.1 <= t.2.1 /\ t.2.1+t.2.2 <= B.2.2.2
theorem BW (na:a.Nodup) (nb:b.Nodup) (v:JQ a b) (h:q7 a b t) (h':q7 a b t') (hl:t'.1<t.1):t'.1+t'.2.2 <= t.1 /\ t'.2.1+t'.2.2 <= t.2.1:=by
 have d:=h.all 0 h.pos;have M:=h'.all 0 h'.pos;simp only[gD] at d M;have u:t'.1+t'.2.2 <= t.1:=by
  by_cases q:t'.1+t'.2.2 <= t.1
  .exact q
  .exfalso;have m2:=h'.all (t.1-t'.1) ((lz 594336138492990656804) q (dE (di hl)));rw[show t'.1+(t.1-t'.1)=t.1 from ai (Ir (dE (di hl))) (LC dX)] at m2;have e:=Mt.fn nb d m2;have m3:=h'.all (t.1-t'.1-1) ((lz 245508741044271722945934790965) q (dE (di hl)) (dE (P5 hl dX)));rw[show t'.1+(t.1-t'.1-1)=t.1-1 from ai ((lz 681085247463009800120375099002933) dX (dE (di hl)) (dE (P5 hl dX))) ((lz 32048141813150458502752290213941) dX dX (dE (GA hl))),show t'.2.1+(t.1-t'.1-1)=t.2.1-1 from ai ((lz 681085249129985465325003533193269) e dX (dE (P5 hl dX))) ((lz 32048141813168905246834572922933) e dX (dE ((lz 87123017074006200409460789) hl e dX)))] at m3;exact h.left ⟨(lz 1104092401938) hl,(lz 87123017074006200408412469) hl e dX,m3⟩
 have H:=h'.all (t'.2.2-1) (by have:=h'.pos;exact Il (dE (zw this)));have V:=h'.pos;have:=v _ _ _ _ H d ((lz 1328019305688730354323748) u (dE (zw V)));exact⟨u,P6 this dX⟩
theorem JR (nb:b.Nodup) (h:q7 a b t) (h':q7 a b t') (u:t'.1=t.1):t'=t:=by
 obtain⟨i,j,k⟩:=t;obtain⟨V,M,d⟩:=t';have u:V=i:=u;subst u;have H:=h.all 0 h.pos;have v:=h'.all 0 h'.pos;simp only[gD] at H v;have e:M=j:=Mt.fn nb v H;subst e;have e2:d=k:=by
  rcases oK d k with q|q|q
  .exact absurd (h.all d q) h'.right
  .exact q
  .exact absurd (h'.all k q) h.right
 rw[e2]
theorem JS (nb:b.Nodup) (g:GB a b B):JN a b B:=⟨g.h1,g.h2,g.h3,g.h4,Vm nb g.h1 g.h2 g.h3⟩
theorem MY (na:a.Nodup) (nb:b.Nodup) {B:AA} (g:GB a b B) (hk:0<(vW a b B).2.2):q7 a b (vW a b B) /\ Vn (vW a b B) B:=by
 injections a b na nb B g hk;have I:=MX (a:=a) (alo:=B.1) (bhi:=B.2.2.2) nb g.h3 (B.2.1-B.1) (by have:=g.h1;have:=g.h2;exact P4 this (dE ‹_›));have⟨l,r1,r2,r3,r4⟩:=I.pos hk;have h1:=g.h1;have e:B.1+(B.2.1-B.1)=B.2.1:=ai (Ir (dE h1)) (LC dX);rw[e] at r1 r3;have H:=l.ia;have t:=l.ib;show q7 a b (_,_,_) /\ _;have d:0<(fN a b B.1 B.2.2.1 B.2.2.2 (B.2.1-B.1)).bk:=hk;refine⟨⟨d,l.all,?_,?_⟩,H,r1,t,r2⟩
 .rintro⟨c1,c2,M⟩;dsimp only at c1 c2 M;have V:=l.all 0 d;simp only[gD] at V;by_cases q:B.1<(fN a b B.1 B.2.2.1 B.2.2.2 (B.2.1-B.1)).bi /\ B.2.2.1<(fN a b B.1 B.2.2.1 B.2.2.2 (B.2.1-B.1)).bj
  .exact l.left ⟨q.1,q.2,M⟩
  .rcases g.lft with⟨v,u⟩|⟨v,u,z3,z4⟩
   .exact(rM q).elim (λ q=>N8 c1 v q) λ q=>N8 c2 u q
   .by_cases q1:(fN a b B.1 B.2.2.1 B.2.2.2 (B.2.1-B.1)).bi=B.1
    .rw[q1] at M V;have:=Mt.fn nb M z3;rw[show(fN a b B.1 B.2.2.1 B.2.2.2 (B.2.1-B.1)).bj=B.2.2.1 from ai ((lz 15340669529521777164139237428) this dX (dE (zw u))) t] at V;exact z4 V
    .have q2:(fN a b B.1 B.2.2.1 B.2.2.2 (B.2.1-B.1)).bj=B.2.2.1:=by exact(rM q).elim (λ q=>(bc q1).elim (λ r=>ai ((lz 300235665571876) H r) t) λ r=>ai ((lz 4522360400117796) q r) t) λ q=>ai (tG q) t
     rw[q2] at M V;have:=Mt.inj na M z3;exact(bc q1).elim (λ q=>(lz 76860329699118882) H q) λ q=>(lz 174296976544852714946265715569135428) this q dX (dE (zw v))
 .intros c;dsimp only at c;by_cases q:(fN a b B.1 B.2.2.1 B.2.2.2 (B.2.1-B.1)).bi+(fN a b B.1 B.2.2.1 B.2.2.2 (B.2.1-B.1)).bk<B.2.1 /\ (fN a b B.1 B.2.2.1 B.2.2.2 (B.2.1-B.1)).bj+(fN a b B.1 B.2.2.1 B.2.2.2 (B.2.1-B.1)).bk<B.2.2.2
  .exact r3 q.1 q.2 c
  .have ca:=c.la;have cb:=c.lb;rcases g.rgt with⟨v,u⟩|⟨v,u⟩
   .exact(rM q).elim (λ q=>N9 ca v q) λ q=>N9 cb u q
   .have m4:=l.all ((fN a b B.1 B.2.2.1 B.2.2.2 (B.2.1-B.1)).bk-1) (Il (dE (zw d)));have both:(fN a b B.1 B.2.2.1 B.2.2.2 (B.2.1-B.1)).bi+(fN a b B.1 B.2.2.1 B.2.2.2 (B.2.1-B.1)).bk=B.2.1 /\ (fN a b B.1 B.2.2.1 B.2.2.2 (B.2.1-B.1)).bj+(fN a b B.1 B.2.2.1 B.2.2.2 (B.2.1-B.1)).bk=B.2.2.2:=by
     by_cases q1:(fN a b B.1 B.2.2.1 B.2.2.2 (B.2.1-B.1)).bi+(fN a b B.1 B.2.2.1 B.2.2.2 (B.2.1-B.1)).bk=B.2.1
     .rw[q1] at c;exact⟨q1,Mt.fn nb c v⟩
     .have q2:(fN a b B.1 B.2.2.1 B.2.2.2 (B.2.1-B.1)).bj+(fN a b B.1 B.2.2.1 B.2.2.2 (B.2.1-B.1)).bk=B.2.2.2:=by exact(rM q).elim (λ q=>(rM u).elim (λ r=>ai r2 ((lz 10079197237067249172206518325) r1 d r)) λ r=>(bc q1).elim (λ s=>ai r2 ((lz 155986902163947476156453) q s)) λ s=>ai r2 ((lz 77957174732134597984293) r1 s)) λ q=>ai r2 ((lz 9297560795746323) q)
      rw[q2] at c;exact⟨Mt.inj na c v,q2⟩
    refine u ⟨N' r1 d,N' r2 d,?_⟩
    rwa [show(fN a b B.1 B.2.2.1 B.2.2.2 (B.2.1-B.1)).bi+((fN a b B.1 B.2.2.1 B.2.2.2 (B.2.1-B.1)).bk-1)=B.2.1-1 from ai (Oa r1 dX (dE (zw d))) (Oc both.1 dX (dE (Od r1 d))),show(fN a b B.1 B.2.2.1 B.2.2.2 (B.2.1-B.1)).bj+((fN a b B.1 B.2.2.1 B.2.2.2 (B.2.1-B.1)).bk-1)=B.2.2.2-1 from ai (Oa r2 dX (dE (zw d))) (Oc both.2 dX (dE (Od r2 d)))] at m4
theorem JT (nb:b.Nodup) (g:GB a b B) (hk:(vW a b B).2.2=0) (h:q7 a b t) (hi:Vn t B):False:=by
 have I:=MX (a:=a) (alo:=B.1) (bhi:=B.2.2.2) nb g.h3 (B.2.1-B.1) (by have:=g.h1;have:=g.h2;exact P4 this (dE ‹_›));obtain⟨_,_,e⟩:=I.zero hk;have d:=h.all 0 h.pos;have u:=h.pos;simp only[gD] at d;obtain⟨V,M,H,v⟩:=hi;have h1:=g.h1;exact e t.1 t.2.1 V ((lz 334283714631575106398921494837) u M dX) H (Oe u v) d
structure QI (a b:List Str) (qs:List AA) (bl:List sV):Prop where
 gb:∀B∈qs,GB a b B
 runs:∀t∈bl,q7 a b t
 cov:∀t,q7 a b t->t∈bl \/ ∃B∈qs,Vn t B
 dis:∀t∈bl,∀B∈qs,t.1+t.2.2 <= B.1 \/ B.2.1 <= t.1
 disq:qs.Pairwise λ B B'=>B.2.1 <= B'.1 \/ B'.2.1 <= B.1
 nd:(bl.map (·.1)).Nodup
 sz:pC qs+bl.length <= 2*a.length+1
theorem WX:QI a b [(0,a.length,0,b.length)] []:=
 ⟨λ B hB=>by rw[aw] at hB;subst hB;exact⟨aU _,aR _,aU _,aR _,.inl ⟨rfl,rfl⟩,.inl ⟨rfl,rfl⟩⟩,λ t h=>(nomatch h),λ t h=>.inr ⟨_,aw.mpr rfl,aU _,by
  have:=(h.all (t.2.2-1) (by have:=h.pos;exact Il (dE (zw this)))).la;have:=h.pos;show t.1+t.2.2 <= a.length;exact P6 ‹_› dX,aU _,by
  have:=(h.all (t.2.2-1) (by have:=h.pos;exact Il (dE (zw this)))).lb;have:=h.pos;show t.2.1+t.2.2 <= b.length;exact P6 ‹_› dX⟩,λ t h=>(nomatch h),gm _ _,nJ,by simp[pC]⟩
theorem MZ (nb:b.Nodup) (h:QI a b (qs++[B]) bl) (v:(vW a b B).2.2=0):QI a b qs bl:=by
 have sub:∀d∈qs,d∈qs++[B]:=λ d h=>aP _ h;refine⟨λ d hB=>h.gb d (sub d hB),h.runs,λ t u=>?_,λ t u d hB=>h.dis t u d (sub d hB),(ir.mp h.disq).1,h.nd,?_⟩
 .rcases h.cov t u with z|⟨d,hB,z⟩
  .exact .inl z
  .rcases aQ.mp hB with q|q
   .exact .inr ⟨d,q,z⟩
   .rw[aw] at q;subst q;exact(JT nb (h.gb _ (aS _ (aw.mpr rfl))) v u z).elim
 .have:=h.sz;rw[wh] at this;exact(lz 8573663403527444336296030236226978582548) this
theorem M0 (na:a.Nodup) (nb:b.Nodup) (mo:JQ a b) {qs:List AA} {B:AA} {bl:List sV} (h:QI a b (qs++[B]) bl) (H:0<(vW a b B).2.2):QI a b (qs++qq B (vW a b B)++qr B (vW a b B)) (bl++[vW a b B]):=by
 injections a b na nb mo qs B bl h H;have hB:B∈qs++[B]:=aS _ (aw.mpr rfl);have g:=h.gb B hB;have⟨hr,γ⟩:=MY na nb g H;have hM:=AC (qs:=qs) (JS nb g) H;generalize vW a b B=t at H hr γ hM⊢;have⟨z1,z2,z3,z4⟩:=γ;have m0:=hr.all 0 hr.pos;simp only[gD] at m0;have m1:=hr.all (t.2.2-1) (Il (dE (zw H)));have mL:∀u,u∈qq B t->u=(B.1,t.1,B.2.2.1,t.2.1) /\ B.1<t.1 /\ B.2.2.1<t.2.1:=λ u v=>by
  unfold qq at v
  split at v
  .rename_i q;rw[aw] at v;exact⟨v,q⟩
  .cases v
 have mR:∀u,u∈qr B t->u=(t.1+t.2.2,B.2.1,t.2.1+t.2.2,B.2.2.2) /\ t.1+t.2.2<B.2.1 /\ t.2.1+t.2.2<B.2.2.2:=λ u v=>by
  unfold qr at v
  split at v
  .rename_i q;rw[aw] at v;exact⟨v,q⟩
  .cases v
 have M:∀u,u∈qs++qq B t++qr B t->u∈qs \/ u∈qq B t \/ u∈qr B t:=λ u v=>by
  rcases aQ.mp v with q|q
  .rcases aQ.mp q with q|q
   .exact .inl q
   .exact .inr (.inl q)
  .exact .inr (.inr q)
 have dq:=ir.mp h.disq;have dB:∀u∈qs,u.2.1 <= B.1 \/ B.2.1 <= u.1:=λ u v=>dq.2.2 u v B (aw.mpr rfl);refine⟨λ u v=>?_,λ t' v=>?_,λ t' ht=>?_,λ t' v u V=>?_,?_,?_,?_⟩
 .rcases M u v with q|q|q
  .exact h.gb u (aP _ q)
  .have⟨rfl,q1,q2⟩:=mL u q;refine⟨di q1,by have:=g.h2;show t.1 <= _;exact LL H z2 this,di q2,by have:=g.h4;show t.2.1 <= _;exact LL H z4 this,g.lft,.inr ⟨m0,λ⟨c1,c2,c3⟩=>hr.left ⟨c1,c2,c3⟩⟩⟩
  .have⟨rfl,q1,q2⟩:=mR u q;refine⟨di q1,g.h2,di q2,g.h4,.inr ⟨by show 0<t.1+t.2.2;exact Of H,by show 0<t.2.1+t.2.2;exact Of H,?_,hr.right⟩,g.rgt⟩;show Mt a b (t.1+t.2.2-1) (t.2.1+t.2.2-1)
   rwa [show t.1+(t.2.2-1)=t.1+t.2.2-1 from ai (Og dX (dE (zw H))) (Oh dX (dE (PY H))),show t.2.1+(t.2.2-1)=t.2.1+t.2.2-1 from ai (Og dX (dE (zw H))) (Oh dX (dE (PY H)))] at m1
 .rcases aQ.mp v with q|q
  .exact h.runs t' q
  .rw[aw] at q;subst q;exact hr
 .rcases h.cov t' ht with q|⟨u,V,q⟩
  .exact .inl (aP _ q)
  .rcases aQ.mp V with q2|q2
   .exact .inr ⟨u,aP _ (aP _ q2),q⟩
   .rw[aw] at q2;subst q2;have⟨y1,y2,y3,y4⟩:=q;have hp:=ht.pos;rcases oK t'.1 t.1 with c|c|c
    .have⟨c1,c2⟩:=BW na nb mo hr ht c;refine .inr ⟨(u.1,t.1,u.2.2.1,t.2.1),aP _ (aS _ ?_),y1,c1,y3,c2⟩;unfold qq;rw[if_pos ⟨je y1 c,(lz 3784995329431317903315252) y3 hp c2⟩];exact aw.mpr rfl
    .left
     rw[JR nb hr ht c];exact aS _ (aw.mpr rfl)
    .have⟨c1,c2⟩:=BW na nb mo ht hr c;refine .inr ⟨(t.1+t.2.2,u.2.1,t.2.1+t.2.2,u.2.2.2),aS _ ?_,c1,y2,c2,y4⟩;unfold qr;rw[if_pos ⟨Oi y2 hp c1,Oi y4 hp c2⟩];exact aw.mpr rfl
 .rcases aQ.mp v with q|q
  .have d0:=h.dis t' q B hB;rcases M u V with q1|q1|q1
   .exact h.dis t' q u (aP _ q1)
   .have⟨rfl,_,_⟩:=mL u q1;rcases d0 with d|d
    .exact .inl d
    .right;show t.1 <= t'.1;exact LL H z2 d
   .have⟨rfl,_,_⟩:=mR u q1;rcases d0 with d|d
    .left;show _ <= t.1+t.2.2;exact(lz 100119619361354911331290452021) H z1 d
    .exact .inr d
  .rw[aw] at q;subst q;rcases M u V with q1|q1|q1
   .rcases dB u q1 with d|d
    .right;exact aL d z1
    .left;exact aL z2 d
   .have⟨rfl,_,_⟩:=mL u q1;exact .inr (aR _)
   .have⟨rfl,_,_⟩:=mR u q1;exact .inl (aR _)
 .rw[de,ir,ir];refine⟨dq.1,⟨?_,?_,?_⟩,?_⟩
  .unfold qq;split
   .exact gm _ _
   .exact iq
  .unfold qr;split
   .exact gm _ _
   .exact iq
  .intros x hx y hy;have⟨rfl,_,_⟩:=mL x hx;have⟨rfl,_,_⟩:=mR y hy
   left;show t.1 <= t.1+t.2.2;exact lz 276828162
  .intros x hx y hy;have d:=dB x hx;rcases aQ.mp hy with q|q
   .have⟨rfl,_,_⟩:=mL y q;rcases d with d|d
    .exact .inl d
    .right;show t.1 <= x.1;exact LL H z2 d
   .have⟨rfl,_,_⟩:=mR y q;rcases d with d|d
    .left;show x.2.1 <= t.1+t.2.2;exact(lz 1440359895752456515293236) H z1 d
    .exact .inr d
 .rw[av,cP];refine⟨h.nd,by simp,?_⟩;intros x hx y hy e;subst e;have⟨t',β,rfl⟩:=az.mp hx;have hy:t'.1=t.1:=by simpa using hy
  have hp:=(h.runs t' β).pos;rcases h.dis t' β B hB with d|d<;>(first|exact(lz 63462127056888919475568299806532) H z2 hy d|exact(lz 4001335361573824634888385007428) z1 hy hp d)
 .have:=h.sz;rw[aF,rI];exact(lz 535853962715473961209393116586401337380) hM this
end
section
variable{a b:List Str}
theorem HL (h:lQ old new i j) (g1:∀hi:i<old.length,old[i]∈new) (g2:∀hj:j<new.length,new[j]∈old) (d:i<old.length \/ j<new.length):Mt old new i j:=by
 unfold lQ at h;by_cases hi:i<old.length
 .rw[aJ hi,dc] at h;simp only[g1 hi,decide_true,if_true] at h;by_cases hj:j<new.length
  .rw[aJ hj,dc] at h;simp only[g2 hj,decide_true,if_true,dO] at h;exact⟨old[i],am hi,by rw[am hj,h.1]⟩
  .rw[bN (cO hj)] at h;simp at h
 .have hj:j<new.length:=d.elim (λ q=>NV hi q) λ q=>q;rw[bN (cO hi),aJ hj,dc] at h;simp[g2 hj] at h
theorem Ds (h:aW l o i<l.length):l[aW l o i]∈o:=by
 injections l o i h;by_cases q:l[aW l o i]∈o
 .exact q
 .exfalso;unfold aW at h q;generalize d:((l.drop i).takeWhile λ x=>decide (x∉o))=tw at h q;have h1:(l.drop i)=tw++(l.drop i).dropWhile λ x=>decide (x∉o):=by rw[<-d];exact(iA).symm
  have h2:(l.drop i)[tw.length]?=some l[i+tw.length]:=by rw[lc,am h]
  rw[h1,fy (aR _),nr] at h2;cases hd:(l.drop i).dropWhile λ x=>decide (x∉o) with
  |nil=>rw[hd] at h2;cases h2
  |cons y r=>
   rw[hd] at h2;have h2:y=l[i+tw.length]:=by simpa using h2
   have:=List.head_dropWhile_not (λ x=>decide (x∉o)) (l:=l.drop i) (by rw[hd];exact ks _ _);simp only[hd,List.head_cons] at this;rw[h2] at this;simp at this;exact q this
theorem ET {α:Type} {f:α->Bool} {x:α}:∀{l:List α},x∈l.takeWhile f->f x=true
 |[],h=>nomatch h
 |y::l,h=>by
  rw[kE] at h
  split at h
  .rename_i q;rcases ap.mp h with e|e
   .rw[e];exact q
   .exact ET e
  .cases h
theorem yn {l o:List Str} {i p:Nat} (h1:i <= p) (h2:p<aW l o i) {x:Str} (d:l[p]?=some x):x∉o:=by
 unfold aW at h2;have h3:((l.drop i).takeWhile λ x=>decide (x∉o))[p-i]?=some x:=by
  have h4:(l.drop i)[p-i]?=some x:=by rw[lc,show i+(p-i)=p from ai (Ir (dE h1)) (LC dX)];exact d
  rw[<-iA (p:=λ x=>decide (x∉o)) (l:=l.drop i),fJ (by exact(lz 22487072723341349156) h2 (dE h1))] at h4;exact h4
 have t:=bD h3;have:=ET t;simpa using this
theorem BX:∀(r i j:Nat),r <= jm a b i j->∀s,s<r->Mt a b (i+s) (j+s)
 |0,_,_,_,s,hs=>absurd hs (mV _)
 |r+1,i,j,hr,s,hs=>by
  by_cases q:i<a.length /\ j<b.length /\ a[i]?=b[j]?
  .obtain⟨hi,hj,e⟩:=q;have h1:a[i]?=some a[i]:=am hi;have h2:b[j]?=some a[i]:=by rw[<-e];exact h1
   rw[jL h1 h2] at hr;cases s with
   |zero=>exact⟨a[i],h1,h2⟩
   |succ s=>
    have:=BX r (i+1) (j+1) (NU hr) s ((lz 1808222772825952530) hs)
    rwa [show i+1+s=i+(s+1) from ai Lu Ba,show j+1+s=j+(s+1) from ai Lu Ba] at this
  .rw[qo q] at hr;exact((lz 655564085723205393) hr).elim
theorem yo:∀(r i j:Nat),jm a b i j=r->¬Mt a b (i+r) (j+r)
 |0,i,j,hr,⟨x,h1,h2⟩=>by
  simp only[gD] at h1 h2;rw[jL h1 h2] at hr;exact(lz 655564094313139985) hr
 |r+1,i,j,hr,h=>by
  by_cases q:i<a.length /\ j<b.length /\ a[i]?=b[j]?
  .obtain⟨hi,hj,e⟩:=q;have h1:a[i]?=some a[i]:=am hi;have h2:b[j]?=some a[i]:=by rw[<-e];exact h1
   rw[jL h1 h2] at hr;have:=yo r (i+1) (j+1) (ai ((lz 1808222772842729490) hr) ((lz 1808222772858523666) hr));rw[show i+1+r=i+(r+1) from ai Lu Ba,show j+1+r=j+(r+1) from ai Lu Ba] at this;exact this h
  .rw[qo q] at hr;exact(lz 1803701628122500881) hr
def oP (a b:List Str):Nat->Nat->Nat->List sV
 |0,_,_=>[]
 |z+1,i,j=>if i<a.length \/ j<b.length then
   (if 0<jm a b (aW a b i) (aW b a j) then[(aW a b i,aW b a j,jm a b (aW a b i) (aW b a j))] else[])++oP a b z (zB a b i j) (BA a b i j) else[]
theorem S9:oP a b (z+1) i j=if i<a.length \/ j<b.length then
   (if 0<jm a b (aW a b i) (aW b a j) then[(aW a b i,aW b a j,jm a b (aW a b i) (aW b a j))] else[])++oP a b z (zB a b i j) (BA a b i j) else[]:=rfl
def Ta (a b:List Str):List sV:=oP a b (a.length+b.length+1) 0 0
structure JU (a b:List Str) (z i j:Nat):Prop where
 hi:i <= a.length
 hj:j <= b.length
 sm:lQ a b i j
 bd:(i=0 /\ j=0) \/ ¬Mt a b i j
 z:a.length-i+(b.length-j)<z
theorem JV (h:JU a b z i j):(aW a b i<a.length \/ aW b a j<b.length)->Mt a b (aW a b i) (aW b a j):=λ d=>
 HL (qp (sS (qp (sS h.sm)))) (λ hi=>Ds hi) (λ hj=>Ds hj) d
theorem F2 (h:JU a b z i j):(aW a b i<a.length \/ aW b a j<b.length)->0<jm a b (aW a b i) (aW b a j):=λ d=>by
 obtain⟨x,h1,h2⟩:=JV h d;rw[jL h1 h2];exact PX
theorem pD (h:JU a b (z+1) i j) (d:i<a.length \/ j<b.length):JU a b z (zB a b i j) (BA a b i j):=by
 have h1:=SR (old:=a) (new:=b) h.hi h.hj;have h2:=FQ h.sm h.hi h.hj d;have h3:=I2 (old:=a) (new:=b) (i:=i) (j:=j);have h4:=h.z;refine⟨h1.1,h1.2,Ap h.sm,.inr ?_,by exact d.elim (λ q=>h2.elim (λ r=>Oj h3.2 h4 r dX dX (dE h1.2) (dE h1.1)) λ r=>Ol h3.1 h4 r dX dX (dE h1.2) (dE h1.1)) λ q=>h2.elim (λ r=>Oj h3.2 h4 r dX dX (dE h1.2) (dE h1.1)) λ r=>Ol h3.1 h4 r dX dX (dE h1.2) (dE h1.1)⟩;exact yo _ _ _ rfl
theorem F3 (h:JU a b z i j) (hp:0<jm a b (aW a b i) (aW b a j)):q7 a b (aW a b i,aW b a j,jm a b (aW a b i) (aW b a j)):=by
 have d:=BX (a:=a) (b:=b) _ (aW a b i) (aW b a j) (aR _);have v:=d 0 hp;simp only[gD] at v;refine⟨hp,d,?_,yo _ _ _ rfl⟩;rintro⟨V,c2,x,M,H⟩;dsimp only at V c2 M H;have g1:=gf (l:=a) (o:=b) (i:=i);have g2:=gf (l:=b) (o:=a) (i:=j);by_cases t:i<aW a b i
 .exact yn (l:=a) (o:=b) (i:=i) (p:=aW a b i-1) (Lz t dX) (Il (dE (zw V))) M (bD H)
 .by_cases u:j<aW b a j
  .exact yn (l:=b) (o:=a) (i:=j) (p:=aW b a j-1) (Lz u dX) (Il (dE (zw c2))) H (bD M)
  .have t:aW a b i=i:=ai (tG t) g1;have u:aW b a j=j:=ai (tG u) g2;rw[t,u] at v;rcases h.bd with⟨q1,q2⟩|q
   .exact(lz 10961221430369641019543346) V t q1
   .exact q v
theorem sW:∀(z i j:Nat),JU a b z i j->∀t∈oP a b z i j,q7 a b t /\ i <= t.1:=by
 intro z
 induction z with
 |zero=>
  intro _ _ _ t h;exact nomatch h
 |succ z u=>
  intro i j hs t h;rw[S9] at h
  split at h
  .rename_i d;rcases aQ.mp h with q|q
   .split at q
    .rename_i v;rw[aw] at q;subst q;exact⟨F3 hs v,gf⟩
    .cases q
   .obtain⟨q1,q2⟩:=u _ _ (pD hs d) t q;exact⟨q1,aL (I2 (old:=a) (new:=b) (i:=i) (j:=j)).1 q2⟩
  .cases h
theorem QV (na:a.Nodup) (nb:b.Nodup) (mo:JQ a b):∀(z i j:Nat),JU a b z i j->∀t,q7 a b t->i <= t.1->t∈oP a b z i j:=by
 intro z
 induction z with
 |zero=>
  intro i j hs t d hi;exact absurd hs.z (mV _)
 |succ z M=>
  intro i j hs t d hi;have H:=d.all 0 d.pos;simp only[gD] at H;have v:=H.la;have V:aW a b i <= t.1:=by
   by_cases q:aW a b i <= t.1
   .exact q
   .exfalso;obtain⟨x,h1,h2⟩:=H;exact yn hi ((lz 69055090962) q) h1 (bD h2)
  have hp:=F2 hs (.inl (je V v));have hr:=F3 hs hp;have u:i<a.length \/ j<b.length:=.inl (je hi v);rw[S9];rw[if_pos u,if_pos hp];by_cases q:t.1=aW a b i
  .rw[JR nb hr d q];exact aP _ (aw.mpr rfl)
  .obtain⟨c1,c2⟩:=BW na nb mo d hr (by show aW a b i<t.1;omega);exact aS _ (M _ _ (pD hs u) t d c1)
theorem AD:∀(z i j:Nat),JU a b z i j->(oP a b z i j).Pairwise λ x y=>x.1<y.1:=by
 intro z
 induction z with
 |zero=>
  intro _ _ _;exact iq
 |succ z u=>
  intro i j hs;rw[S9]
  split
  .rename_i d;rw[ir];refine⟨?_,u _ _ (pD hs d),?_⟩
   .split
    .exact gm _ _
    .exact iq
   .intro x t y hy
    split at t
    .rename_i v;rw[aw] at t;subst t;have:=(sW z _ _ (pD hs d) y hy).2;unfold zB at this;show aW a b i<y.1;exact Oe v this
    .cases t
  .exact iq
theorem JW:∀(z i j:Nat),JU a b z i j->lE i j (oP a b z i j++[(a.length,b.length,0)])=dP a b z i j:=by
 intro z
 induction z with
 |zero=>
  intro i j hs;exact absurd hs.z (mV _)
 |succ z H=>
  intro i j hs;rw[S9,QB];by_cases d:i<a.length \/ j<b.length
  .rw[if_pos d,if_pos d];have M:=H _ _ (pD hs d);by_cases t:0<jm a b (aW a b i) (aW b a j)
   .rw[if_pos t,de,rD];rw[Ut];rw[<-M];unfold mq zB BA
    rfl
   .rw[if_neg t,be];have e:¬(aW a b i<a.length \/ aW b a j<b.length):=λ q=>t (F2 hs q);have l1:=ma (l:=a) (o:=b) hs.hi;have l2:=ma (l:=b) (o:=a) hs.hj;have v:aW a b i=a.length:=ai l1 (tG (not_or.1 e).1);have u:aW b a j=b.length:=ai l2 (tG (not_or.1 e).2);have e0:jm a b (aW a b i) (aW b a j)=0:=ai ((lz 624121876497) t) GC;have e3:zB a b i j=a.length:=by unfold zB;exact ai (On t l1) (Oo v)
    have e4:BA a b i j=b.length:=by unfold BA;exact ai (On t l2) (Oo u)
    have e5:oP a b z a.length b.length=[]:=by
     cases z with
     |zero=>rfl
     |succ z=>rw[S9,if_neg (λ q=>q.elim (λ r=>LM r) λ r=>LM r)]
    have V:dP a b z a.length b.length=[]:=by
     cases z with
     |zero=>rfl
     |succ z=>rw[QB,if_neg (λ q=>q.elim (λ r=>LM r) λ r=>LM r)]
    unfold mq;rw[e3,e4,e5,V,v,u];simp[Vl,Ut,dS]
  .rw[if_neg d,if_neg d];have hi:=hs.hi;have hj:=hs.hj;have v:i=a.length:=ai hi (tG (not_or.1 d).1);have u:j=b.length:=ai hj (tG (not_or.1 d).2);subst v u;simp[Vl,Ut,cT,dS]
theorem zK (hs:lQ a b 0 0):JU a b (a.length+b.length+1) 0 0:=⟨aU _,aU _,hs,.inl ⟨rfl,rfl⟩,(lz 3782634072021400394666276) (bG _ _) (bG _ _)⟩
theorem JX (hs:lQ a b 0 0):lE 0 0 (Ta a b++[(a.length,b.length,0)])=dm a b:=JW _ _ _ (zK hs)
theorem yp:∀{l l':List sV},l.Pairwise (λ x y=>x.1<y.1)->l'.Pairwise (λ x y=>x.1<y.1)->(∀t,t∈l↔t∈l')->l=l'
 |[],[],_,_,_=>rfl
 |[],y::l',_,_,h=>nomatch(h y).mpr (ag ..)
 |x::l,[],_,_,h=>nomatch(h x).mp (ag ..)
 |x::l,y::l',h1,h2,h=>by
  rw[eY] at h1 h2;have u:x=y:=by
   rcases ap.mp ((h x).mp (ag ..)) with q|q
   .exact q
   .rcases ap.mp ((h y).mpr (ag ..)) with q2|q2
    .exact q2.symm
    .have:=h1.1 y q2;have:=h2.1 x q;exact((lz 76860333994086178) ‹_› this).elim
  subst u;rw[yp h1.2 h2.2 λ t=>⟨λ d=>?_,λ d=>?_⟩]
  .rcases ap.mp ((h t).mp (ao _ d)) with q|q
   .subst q;exact absurd (h1.1 t d) (cU _)
   .exact q
  .rcases ap.mp ((h t).mpr (ao _ d)) with q|q
   .subst q;exact absurd (h2.1 t d) (cU _)
   .exact q
theorem F4:∀{l:List sV} (lo:Nat),l.Pairwise (λ x y=>x.1<y.1)->(∀t∈l,lo <= t.1 /\ t.1<n)->l.length <= n-lo
 |[],_,_,_=>aU _
 |x::l,lo,h1,h=>by
  rw[eY] at h1;have d:=h x (ag ..);have:=F4 (n:=n) (x.1+1) h1.2 λ t u=>⟨h1.1 t u,(h t (ao _ u)).2⟩;rw[aE];exact(lz 87155369996608337251758399057318907974) d.1 this dX (dE (zu d.2))
theorem F5:∀(qs:List AA),qs.length <= pC qs
 |[]=>aU _
 |B::qs=>by
  have:=F5 qs;show qs.length+1 <= ((B::qs).map λ B=>2*(B.2.1-B.1)+1).sum;rw[aq,ui];unfold pC at this;exact(lz 1213668443881844035293203) this
theorem Vo (H:a.Nodup) (nb:b.Nodup) (M:JQ a b) (hs:lQ a b 0 0) (ha:a.length <= 30):Vk a b (QI a b) (Ta a b) where
 h0:=WX
 h1 qs B bl h:=by
  have hz:=h.sz;have hl:=F5 (qs++[B]);rw[aF] at hl;exact⟨JS nb (h.gb B (aS _ (aw.mpr rfl))),(lz 110082683042554734415492709928092542636085) ha hz hl,(lz 8115635356569218120616855245819939) ha hz⟩
 hz qs B bl h v:=MZ nb h v
 hs qs B bl h v:=M0 H nb M h v
 nd bl h:=⟨h.nd,by have:=h.sz;exact(lz 507227208507897260056221003616546) ha this⟩
 so bl ms h V u:=yp u (AD _ _ _ (zK hs)) λ t=>by
  refine⟨λ d=>?_,λ d=>?_⟩
  .exact QV H nb M _ _ _ (zK hs) t (h.runs t (V.mem_iff.mp d)) (aU _)
  .rcases h.cov t (sW _ _ _ (zK hs) t d).1 with q|⟨B,hB,_⟩
   .exact V.mem_iff.mpr q
   .cases hB
 pos t d:=(sW _ _ _ (zK hs) t d).1.pos
 len:=by
  have:=F4 (n:=a.length) 0 (AD _ _ _ (zK hs)) λ t d=>⟨aU _,by
   have h:=(sW _ _ _ (zK hs) t d).1;have:=(h.all 0 h.pos).la;simpa using this⟩
  show(oP a b _ 0 0).length<64;exact(lz 39904310510744684586930483) ha this (bG _ _)
 adj i x y hx hy:=by
  rintro⟨e1,e2⟩;have h1:=(sW _ _ _ (zK hs) x (bD hx)).1;have h2:=(sW _ _ _ (zK hs) y (bD hy)).1;have m:=h2.all 0 h2.pos;simp only[gD] at m;rw[<-e1,<-e2] at m;exact h1.right m
def gB (s:Nat×Nat×List gL) (t:sV):Nat×Nat×List gL:=(t.1+t.2.2,t.2.1+t.2.2,s.2.2++cT s.1 t.1 s.2.1 t.2.1++dS t.1 (t.1+t.2.2) t.2.1 (t.2.1+t.2.2))
def Eb (bs:List sV) (n:Nat):Nat×Nat×List gL:=(bs.take n).foldl gB (0,0,[])
theorem F6:∀(bs:List sV) (s:Nat×Nat×List gL),(bs.foldl gB s).2.2=s.2.2++lE s.1 s.2.1 bs
 |[],s=>by simp[Vl,Ut]
 |t::bs,s=>by
  rw[bf,F6 bs (gB s t)];have e:lE s.1 s.2.1 (t::bs)=cT s.1 t.1 s.2.1 t.2.1++dS t.1 (t.1+t.2.2) t.2.1 (t.2.1+t.2.2)++lE (t.1+t.2.2) (t.2.1+t.2.2) bs:=rfl;rw[e];unfold gB;simp only[de]
theorem Dt (h:bs[n]?=some t):Eb bs (n+1)=gB (Eb bs n) t:=by
 unfold Eb;rw[bY,h,cr,cq];rfl
theorem M1 (bs:List sV):(Eb bs bs.length).2.2=lE 0 0 bs:=by
 unfold Eb;rw[bF,F6];rfl
theorem F7 (i t j d:Nat):(cT i t j d).length <= 1:=by unfold cT;split<;>(try split)<;>(try split)<;>simp
theorem F8 (i t j d:Nat):(dS i t j d).length <= 1:=by unfold dS;split<;>simp
theorem F9 (bs:List sV):∀n,(Eb bs n).2.2.length <= 2*n
 |0=>by simp[Eb]
 |n+1=>by
  have d:=F9 bs n;cases h:bs[n]? with
  |none=>
   have:Eb bs (n+1)=Eb bs n:=by unfold Eb;rw[bY,h];simp
   rw[this];exact(lz 5343795705043798200338) d
  |some t=>
   rw[Dt h];unfold gB;have h1:=F7 (Eb bs n).1 t.1 (Eb bs n).2.1 t.2.1;have h2:=F8 t.1 (t.1+t.2.2) t.2.1 (t.2.1+t.2.2);simp only[aF];exact(lz 535762468726177319280100222874497323060) d h1 h2
end
noncomputable section
abbrev pw:aG:=Mine.pw
def Tw (w:aB):FM:=λ b=>(Mine.hF pw w.params).get? b
def fdOf (o:Obj):nL:=match o.data with
 |.func f=>f
 |_=>default
def uy (o:Obj):Array aj:=match o.data with
 |.fields vs=>vs
 |_=>⟨[]⟩
def QW (v:aj):Str:=match v with
 |.str s _=>s
 |_=>⟨⟨[]⟩⟩
def tokOf (v:Option aj):Nat:=match v with
 |some (.str _ t)=>t
 |_=>0
theorem M2 {T:FM} {a:aM} {cl:aj} {d:Option aM} {u:nL} {sl:Array (Option aj)} {body:List eX} {v:aM} {t:Obj} (h1:T a=some ⟨cl,d,.func u,sl⟩) (h2:u.code=.ref v) (h3:T v=some t) (h4:t.data=.fields (uy t)) (H:(uy t)[1]?=some (.str u.qualname (tokOf (uy t)[1]?))) (M:u.body=.stmts body):FnAt T a u body where
 at_:=⟨cl,d,sl,h1⟩
 code:=⟨v,t,uy t,_,h2,h3,h4,H⟩
 body:=M
abbrev PZ:dg:={strHash:=λ _=>0,shareClass:=λ _=>0,mergeTok:=id,idOf:=λ _=>0,idOfShared:=λ _ _=>0,followText:=λ _=>false,idOfImm:=λ _=>0}
def dictOf (o:Obj):Array dv:=match o.data with
 |H' es _=>es
 |_=>⟨[]⟩
def F' (o:Obj):Nat:=match o.data with
 |H' _ n=>n
 |_=>0
theorem JY {h:dM} {a:aM} {o:Obj} (ha:h.get? a=some o) (u:o.data=.dict (dictOf o) (F' o):=by symm) (t:(dictOf o).toList.map (λ e=>e.key)=(dictOf o).toList.map (λ e=>wC (QW e.key) (tokOf (some e.key))):=by symm):h.Ns a (λ x=>nsFind (dictOf o) x):=
 ⟨o,dictOf o,F' o,ha,u,λ e d=>⟨_,_,List.map_inj_left.mp t e (Array.mem_toList_iff.mpr d)⟩,λ _=>rfl⟩
theorem ff (w:aB):xJ (Tw w):=λ h k=>
 ⟨_,JY (o:=Mine.ob 2 pw w.params) (k _ _ (by show(Mine.hF pw w.params).get? 2=_;symm)),by symm⟩
def Vp (w:aB):Str->Option aj:=λ x=>nsFind (dictOf (Mine.ob 3 pw w.params)) x
def V3 (w:aB):Str->Option aj:=λ x=>nsFind (dictOf (Mine.ob 0 pw w.params)) x
theorem M3 (w:aB):Qm (Tw w) (Vp w) (V3 w) where
 g h k:=JY (o:=Mine.ob 3 pw w.params) (k _ _ (by show(Mine.hF pw w.params).get? 3=_;symm))
 b h k:=JY (o:=Mine.ob 0 pw w.params) (k _ _ (by show(Mine.hF pw w.params).get? 0=_;symm))
structure Gl (w:aB) (x:Str) (v:aj):Prop where
 h:Vp w x=some v
structure Bt (w:aB) (x:Str) (v:aj):Prop where
 n:Vp w x=none
 h:V3 w x=some v
theorem KZ (w:aB):Bt w "isinstance" (.builtin "isinstance"):=⟨by symm,by symm⟩
theorem K8 (w:aB):Bt w "issubclass" (.builtin "issubclass"):=⟨by symm,by symm⟩
theorem Vq (w:aB):Bt w "len" (.builtin "len"):=⟨by symm,by symm⟩
theorem Tc (w:aB):Bt w "bytes" (.type "bytes"):=⟨by symm,by symm⟩
theorem Vr (w:aB):Bt w "str" (.type "str"):=⟨by symm,by symm⟩
theorem Uu (w:aB):Bt w "type" (.type "type"):=⟨by symm,by symm⟩
theorem Xg (h:∀w,FnAt (Tw w) a d body):Kp pw w (Tw w) (.ref a):=(h w).kp
abbrev Cw (w:aB) (A:bU) (env:Env) (B:Bs):Cx:=⟨pw,w,Tw w,A,env,B⟩
section
variable{w:aB} {A:bU} {env:Env} {B:Bs} {G:Gm} {W:Om} {n:Nat}
theorem V4 (g:Gl w x v) (ok:Ok (Cw w A env B) n) (t:env.globals=iS:=by symm) (d:env.scope.kind=.function:=by symm)
  (hl:env.kindOf x=some .globalImplicit:=by symm) (hd:(x==("__debug__":Str))=false:=by symm):Ev (Cw w A env B) G W (.Name x pos) (.val v):=L' (c:=Cw w A env B) ok (M3 w) g.h t d hl hd
theorem V5 (g:Bt w x v) (ok:Ok (Cw w A env B) n) (t:env.globals=iS:=by symm) (hb:env.builtins=qD:=by symm) (d:env.scope.kind=.function:=by symm)
  (hl:env.kindOf x=some .globalImplicit:=by symm) (hd:(x==("__debug__":Str))=false:=by symm):Ev (Cw w A env B) G W (.Name x pos) (.val v):=Ma (c:=Cw w A env B) ok (M3 w) g.n g.h t hb d hl hd
end
end
noncomputable section
def fb (a:Nat):nL:=fdOf (Mine.ob a pw PZ)
def gb (i j:Nat):List eX:=Mine.fnB (Mine.g2 pw i j)
def hb (i:Nat):List eX:=Mine.fnB (Mine.g pw i)
abbrev q8 (a:Nat) (b:List eX):Prop:=∀w:aB,FnAt (Tw w) a (fb a) b
theorem q9 (a:Nat) {d:nL} {bd:List eX} {w:aB} (h1:Tw w (a+1)=some ⟨.type "function",aH,.func d,⟨[]⟩⟩:=by symm) (h2:d.code=.ref a:=by symm) (h3:Tw w a=some (Mine.ob a pw w.params):=by symm) (h4:(Mine.ob a pw w.params).data=.fields (uy (Mine.ob a pw w.params)):=by symm) (t:(uy (Mine.ob a pw w.params))[1]?=some (.str d.qualname (tokOf (uy (Mine.ob a pw w.params))[1]?)):=by symm) (u:d.body=.stmts bd:=by symm):FnAt (Tw w) (a+1) d bd:=
 M2 h1 h2 h3 h4 t u
theorem Td:q8 105 (gb 3 4):=λ w=>q9 104
theorem Te:q8 112 (gb 3 5):=λ w=>q9 111
theorem Tf:q8 183 (gb 5 1):=λ w=>q9 182
theorem O7:q8 190 (gb 5 2):=λ w=>q9 189
theorem O8:q8 197 (gb 5 3):=λ w=>q9 196
theorem O9:q8 204 (gb 5 4):=λ w=>q9 203
theorem O':q8 211 (gb 5 5):=λ w=>q9 210
theorem Pa:q8 219 (gb 5 6):=λ w=>q9 218
theorem Pb:q8 226 (gb 5 7):=λ w=>q9 225
theorem Pc:q8 233 (gb 5 8):=λ w=>q9 232
theorem Tg:q8 342 (hb 14):=λ w=>q9 341
theorem Th:q8 356 (hb 19):=λ w=>q9 355
theorem Ti:q8 363 (hb 20):=λ w=>q9 362
theorem Tj:q8 370 (hb 22):=λ w=>q9 369
theorem Tk:q8 377 (hb 23):=λ w=>q9 376
theorem Tl:q8 382 (hb 24):=λ w=>q9 381
theorem Tm:q8 401 (hb 28):=λ w=>q9 400
theorem To:q8 428 (gb 30 1):=λ w=>q9 427
theorem Tp:q8 705 (gb 34 1):=λ w=>q9 704
theorem Pd:q8 712 (gb 34 2):=λ w=>q9 711
theorem Pe:q8 719 (gb 34 3):=λ w=>q9 718
theorem JZ:q8 881 (gb 34 25):=λ w=>q9 880
theorem Tr:q8 994 (gb 45 1):=λ w=>q9 993
theorem QX:q8 1001 (gb 45 2):=λ w=>q9 1000
theorem BY:q8 1031 (gb 45 6):=λ w=>q9 1030
theorem BZ:q8 1038 (gb 45 7):=λ w=>q9 1037
theorem QY:q8 1060 (gb 45 10):=λ w=>q9 1059
theorem B0:q8 1067 (gb 45 11):=λ w=>q9 1066
theorem J0:q8 1082 (hb 46):=λ w=>q9 1081
theorem QZ:q8 1090 (hb 48):=λ w=>q9 1089
theorem Q0:q8 1095 (hb 50):=λ w=>q9 1094
theorem Q1:q8 1100 (hb 51):=λ w=>q9 1099
theorem Q2:q8 1107 (hb 52):=λ w=>q9 1106
theorem Q3:q8 1114 (hb 53):=λ w=>q9 1113
theorem J1:q8 1119 (hb 54):=λ w=>q9 1118
theorem J2:q8 1126 (hb 55):=λ w=>q9 1125
theorem J3:q8 1133 (hb 56):=λ w=>q9 1132
theorem Q4:q8 1138 (hb 57):=λ w=>q9 1137
theorem RP (w:aB):Gl w "fspath" (.ref 342):=⟨by symm⟩
theorem Q5 (w:aB):Gl w "_get_sep" (.ref 356):=⟨by symm⟩
theorem M4 (w:aB):Gl w "splitroot" (.ref 370):=⟨by symm⟩
theorem Pf (w:aB):Gl w "normpath" (.ref 377):=⟨by symm⟩
theorem Ga (w:aB):Gl w "join_posixpath" (.ref 363):=⟨by symm⟩
theorem K9 (w:aB):Gl w "commonpath" (.ref 382):=⟨by symm⟩
theorem Ts (w:aB):Gl w "_index" (.ref 401):=⟨by symm⟩
theorem RQ (w:aB):Gl w "IOBase" (.ref 431):=⟨by symm⟩
theorem Pg (w:aB):Gl w "StringIO" (.ref 935):=⟨by symm⟩
theorem Q6 (w:aB):Gl w "BytesIO" (.ref 688):=⟨by symm⟩
theorem Tu (w:aB):Gl w "shlex" (.ref 1070):=⟨by symm⟩
theorem Tz (w:aB):Gl w "split" (.ref 1082):=⟨by symm⟩
theorem TA (w:aB):Gl w "quote" (.ref 1090):=⟨by symm⟩
theorem J4 (w:aB):Gl w "_law_spelled" (.ref 1095):=⟨by symm⟩
theorem M5 (w:aB):Gl w "_law_drawn" (.ref 1100):=⟨by symm⟩
theorem Ie (w:aB):Gl w "_law_commands" (.ref 1107):=⟨by symm⟩
theorem Ph (w:aB):Gl w "_law_done" (.ref 1114):=⟨by symm⟩
theorem M6 (w:aB):Gl w "_law_shelf" (.ref 1119):=⟨by symm⟩
theorem J5 (w:aB):Gl w "_law_changes" (.ref 1126):=⟨by symm⟩
theorem HM (w:aB):Gl w "_law_told_back" (.ref 1133):=⟨by symm⟩
theorem EU (w:aB):Gl w "SequenceMatcher" (.ref 265):=⟨by symm⟩
theorem TC (w:aB):Gl w "Match" (.ref 158):=⟨by symm⟩
theorem RS (w:aB):Bt w "sorted" (.builtin "sorted"):=⟨by symm,by symm⟩
theorem Vs (w:aB):Bt w "min" (.builtin "min"):=⟨by symm,by symm⟩
theorem Vt (w:aB):Bt w "max" (.builtin "max"):=⟨by symm,by symm⟩
theorem M7 (w:aB):Bt w "enumerate" (.type "enumerate"):=⟨by symm,by symm⟩
theorem Vu (w:aB):Bt w "map" (.type "map"):=⟨by symm,by symm⟩
theorem TD (w:aB):Bt w "range" (.type "range"):=⟨by symm,by symm⟩
theorem TE (w:aB):Bt w "tuple" (.type "tuple"):=⟨by symm,by symm⟩
theorem Uv (w:aB):Bt w "list" (.type "list"):=⟨by symm,by symm⟩
theorem Vv (w:aB):Bt w "set" (.type "set"):=⟨by symm,by symm⟩
theorem Vw (w:aB):Bt w "int" (.type "int"):=⟨by symm,by symm⟩
theorem Uw (w:aB):Bt w "bool" (.type "bool"):=⟨by symm,by symm⟩
theorem RT (w:aB):Bt w "object" (.type "object"):=⟨by symm,by symm⟩
end
theorem Q7 (w:aB) (x:Str):Fn pw w (Tw w) 2 (.ref 356) [.str x] [] (Is (.str "/") []):=by
 refine dF ["path"] [("path",.str x)] (Th w) (ff w) ?_ rfl (by rfl') (by rfl') (by rfl') ?_
 .exact ku λ v=>rfl
 .intro A L B ok
  conv=>arg 4;whnf
  ext iff;dsimp only[cond];ext ret;exact⟨[],[],.nil,rfl,rfl⟩
theorem yq (w:aB) (x:Str):Fn pw w (Tw w) 2 (.ref 342) [.str x] [] (Is (.str x) []):=by
 refine dF ["path"] [("path",.str x)] (Tg w) (ff w) ?_ rfl (by rfl') (by rfl') (by rfl') ?_
 .exact ku λ v=>rfl
 .intro A L B ok
  conv=>arg 4;whnf
  ext st;ext iff;dsimp only[cond];ext ret;exact⟨[],[],.nil,rfl,rfl⟩
def r9 (x:Str):List D:=
 if sP none (some 1) x≠"/" then[.str "",.str "",.str x]
 else if sP (some 1) (some 2) x≠"/" \/ sP (some 2) (some 3) x="/" then[.str "",.str "/",.str (sP (some 1) none x)]
 else[.str "",.str (sP none (some 2) x),.str (sP (some 2) none x)]
theorem HN (w:aB) (x:Str) (u:x.length <= aO):Fn pw w (Tw w) 4 (.ref 370) [.str x] [] (Is (.tup (r9 x)) []):=by
 injections w x u;refine dF ["p"] [("p",.str x)] (Tj w) (ff w) ?_ rfl (by rfl') (by rfl') (by rfl') ?_
 .exact ku λ v=>rfl
 .intros A L B ok
  conv=>arg 4;whnf
  have h1:=(yq w x).le (m:=3) (by decide);ext st;ext st;ext iff;dsimp only[cond];ext st;ext st;ext st;ext ite
  .intros d;ext ret;exact⟨[],[],.nil,by unfold r9;rw[if_pos];exact of_decide_eq_true d,rfl⟩
  .intros d;ext ite
   .intros t;ext ret;exact⟨[],[],.nil,by unfold r9;rw[if_neg (of_decide_eq_false d),if_pos];simpa using t,rfl⟩
   .intros t;ext ret;exact⟨[],[],.nil,by unfold r9;rw[if_neg (of_decide_eq_false d),if_neg];simpa using t,rfl⟩
def du (st:List Str) (c:Str):List Str:=if c="" \/ c="." then st else if c=".." then st.dropLast else st++[c]
def eV (cs:List Str):List Str:=cs.foldl du []
theorem B3 {st:List Str} {c:Str} (h:∀x∈st,x≠".."):∀x∈du st c,x≠"..":=by
 unfold du
 split
 .exact h
 .split
  .intro x d;exact h x (sH _ d)
  .rename_i h2;intro x d;rcases aQ.mp d with d|d
   .exact h x d
   .rw[aw.mp d];exact h2
theorem B4 (st:List Str) (c:Str):(du st c).length <= st.length+1:=by
 unfold du
 split
 .exact lz 6719279105
 .split
  .rw[List.length_dropLast];exact P7 (bG _ _)
  .simp
theorem EV (cs:List Str):∀z∈eV cs,z≠"..":=by
 have:∀(cs st:List Str),(∀z∈st,z≠"..")->∀z∈cs.foldl du st,z≠"..":=by
  intro cs
  induction cs with
  |nil=>intro st h;exact h
  |cons c cs d=>intro st h;exact d _ (B3 h)
 exact this cs [] (λ z hz=>nomatch hz)
theorem yr (cs:List Str):(eV cs).length <= cs.length:=by
 have:∀(cs st:List Str),(cs.foldl du st).length <= st.length+cs.length:=by
  intro cs
  induction cs with
  |nil=>intro st;simp
  |cons c cs d=>intro st;have:=d (du st c);have:=B4 st c;simp only[bf,aE];exact LJ ‹_› this
 have:=this cs [];simpa [eV] using this
theorem Str.length_eq_zero' (x:Str):x.length=0↔x="":=by
 constructor
 .intro h;cases x with
  |mk c=>
   have:c=#[]:=Array.eq_empty_of_size_eq_zero h;subst this;rfl'
 .intro h;subst h;rfl'
theorem Du (w:aB) (x y:Str) (t:x.length <= 1000) (h0:x.length≠0) (hr:r9 x=[.str "",.str "/",.str y]) (hy:y.length <= 1000) (hs:(Txt.split y "/").length <= 2000) (hb:∀z∈Txt.split y "/",z.length <= 1000) (hj:nP "/" (eV (Txt.split y "/"))=true)
  (hz:bA "/"+(bw "/" (eV (Txt.split y "/"))).length <= aO):
  Fn pw w (Tw w) 6 (.ref 377) [.str x] [] (Is (.str ("/"++bw "/" (eV (Txt.split y "/")))) []):=by
 injections w x y t h0 hr hy hs hb hj hz;refine dF ["path"] [("path",.str x)] (Tk w) (ff w) ?_ rfl (by rfl') (by rfl') (by rfl') ?_
 .exact ku λ v=>rfl
 .intros A L B ok
  conv=>arg 4;whnf
  have z0:(1000:Nat) <= aO:=by rw[ay];decide
  have h1:=(yq w x).le (m:=5) (by decide);have h2:=(HN w x (Lr t)).le (m:=5) (by decide);rw[hr] at h2;ext st;ext st;ext iff;dsimp only[cond];ext st;ext st;ext st;ext st;refine rN (b:=false) (Tt.cast (by ext tt) (by simp[h0])) (aV ?_);ext st;ext st;ext new;intros a;ext bind;generalize Txt.split y "/"=cs at*;refine lA (eZ ok (by ext ev)) (λ i=>[("path",.str y),("sep",.str "/"),("dot",.str "."),("dotdot",.str ".."),("_",.str ""),("initial_slashes",.str "/"),("comps",.lst (cs.map .str)),("new_comps",.val (.ref a))])
   (λ i=>[(a,.list ((eV (cs.take i)).map .str))]) (by ext sub) (by show cv _ [(a,.list [])] [];ext takes) ?_ ?_
  .intros i d hd p;rw[a9,cN] at hd;have⟨x,t,rfl⟩:=hd;have ε:x.length <= 1000:=hb x (bD t);have hi:i<cs.length:=(au.mp t).1;have ht:eV (cs.take (i+1))=du (eV (cs.take i)) x:=by
    rw[bY,t];simp[eV]
   have β:∀z∈eV (cs.take i),z≠"..":=EV _;have H:(eV (cs.take i)).length <= i:=aL (yr _) (by simp;exact(bO _ _));rw[ht];generalize eV (cs.take i)=st at*;refine' ⟨_,?as,?k⟩;ext as as;refine dY (b:=decide (x="" \/ x=".")) (Tt.cast (by ext tt) (by simp[Str.length_eq_zero'])) (λ u=>?_) (λ u=>?_)
   .have e:du st x=st:=by unfold du;rw[if_pos (of_decide_eq_true u)]
    rw[e];exact rO ⟨by ext sub,by ext takes⟩
   .have u:=of_decide_eq_false u;refine aV ?_;by_cases hd:x=".."
    .have e:du st x=st.dropLast:=by unfold du;rw[if_neg u,if_pos hd]
     rw[e];rcases fR st with rfl|⟨M,z,rfl⟩
     .simp only[aX,List.dropLast_nil];refine rN (b:=false) (wH (rL.skip (Tt.cast (by ext tt) (by simp[hd])) (rL.skip (ce (eN.miss (Tt.cast (by ext tt) (by decide)))) (rL.last (ce (eN.miss (Tt.cast (by ext tt) (by rfl)))))))) ?_;dsimp only[cond];refine rN (b:=false) (Tt.cast (by ext tt) (by rfl)) ?_;dsimp only[cond];exact aY (aY (aY ⟨by ext sub,by ext takes⟩))
     .have V:z≠"..":=β z (by simp);have γ:M.length <= 2000:=by simp at H;exact(lz 5702531178178359258213553308569651) hs hi H
      simp only[gW,av,aq,aX];refine rN (b:=false) (wH (rL.skip (Tt.cast (by ext tt) (by simp[hd])) (rL.skip (ce (eN.miss (Tt.cast (by ext tt) (by decide)))) (rL.last (ce (eN.step (Tt.cast (by ext tt) (by simp)) (eN.last (Tt.cast (by ext tt) (by simp[V]))))))))) ?_;dsimp only[cond];refine rN (b:=true) (Tt.cast (by ext tt) (by simp)) ?_;dsimp only[cond];ext st;refine aY (aY (aY ⟨by ext sub,?_⟩));rw[List.dropLast_concat];ext takes
    .refine rN (b:=true) (wH (rL.hit (Tt.cast (by ext tt) (by simp[hd])))) ?_;have e:du st x=st++[x]:=by unfold du;rw[if_neg u,if_neg hd]
     rw[e];dsimp only[cond];ext st;refine aY (aY ⟨by ext sub,?_⟩);simp only[av,aq,aX];ext takes
  .have e:(cs.map D.str).length=cs.length:=ah ..;rw[e,bF];ext st;ext st;have hl:bA ("/"++bw "/" (eV cs))=bA "/"+(bw "/" (eV cs)).length:=cF ..;have ζ:bA "/"=1:=by rfl'
   rw[ay] at hz;have δ:bA ("/"++bw "/" (eV cs))<2^62:=(lz 493322633536101349529293090) hz hl;refine ly (Ev.cast (by ext ev) (b:=.str ("/"++bw "/" (eV cs))) (by rw[decide_eq_true (by exact λ q=>(lz 42522130168197430185762) hl q)];rfl)) ?_;exact⟨[],_,.nil,rfl,rfl⟩
def oQ (a b:Str):Str:=if eO b "/"=true \/ a.length=0 then b else if qI a "/"=true then a++b else a++("/"++b)
theorem TF (w:aB) (a b:Str) (ha:a.length <= 100000) (hb:b.length <= 100000):Fn pw w (Tw w) 4 (.ref 363) [.str a,.str b] [] (Is (.str (oQ a b)) []):=by
 injections w a b ha hb;have V:bA "/"=1:=by rfl'
 refine GU ["a","p"] [("a",.str a),("p",.tup [.str b])] (Ti w) (ff w) (Mf (λ v M t=>pure [("a",v),("p",t)]) ?_ ?_) rfl (by rfl') (by rfl') (by rfl') ?_
 .intros v M;rfl
 .intros v M t;rfl
 .intros A L B ok
  conv=>arg 4;whnf
  have h1:=(yq w a).le (m:=3) (by decide);have h2:=(yq w b).le (m:=3) (by decide);have h3:=(Q7 w a).le (m:=3) (by decide);ext st;ext st;ext st;ext st;refine Eo ?_;refine lA (ds:=[.str b]) (xD (by assumption) (by ext ev)) (λ i=>if i=0 then[("path",.str a),("a",.str a),("sep",.str "/"),("p",.tup [.str b])] else[("path",.str (oQ a b))])
   (λ i=>[]) (by show Sub [("path",D.str a),("a",D.str a),("sep",D.str "/"),("p",D.tup [D.str b])] _;ext sub) (by show cv _ [] [];ext takes) ?_ ?_
  .intros i d hd p;have hi:i=0:=by have:=(au.mp hd).1;simp at this;exact this
   subst hi;have hd:D.str b=d:=by simpa using hd
   subst hd;simp only[if_true,kj,xx,if_false];refine' ⟨_,?as,?k⟩;ext as as;ext st;refine dY (b:=decide (eO b "/"=true \/ a.length=0)) (Tt.cast (by ext tt) (by simp)) (λ u=>?_) (λ u=>?_)
   .have e:oQ a b=b:=by unfold oQ;rw[if_pos (of_decide_eq_true u)]
    rw[e];ext st;exact aY (aY ⟨by ext sub,by ext takes⟩)
   .have u:=of_decide_eq_false u;ext ite
    .intros H;have e:oQ a b=a++b:=by unfold oQ;rw[if_neg u,if_pos H]
     rw[e];ext st;exact aY (aY (aY ⟨by ext sub,by ext takes⟩))
    .intros H;have e:oQ a b=a++("/"++b):=by unfold oQ;rw[if_neg u,if_neg (by rw[H];decide)]
     rw[e];have hz:("/"++b).length <= 100001:=by rw[cF];exact(lz 120893006993003072461259411473) hb
     ext st;exact aY (aY (aY ⟨by ext sub,by ext takes⟩))
  .simp only[aE,bp,kj,xx,if_false];refine FI (aV ?_);ext ret;exact⟨[],[],.nil,rfl,rfl⟩
def fO (p:Str):List Str:=(Txt.split p "/").filter λ c=>decide (c≠"" /\ c≠".")
def yt:List Str->List Str->List Str
 |x::xs,y::ys=>if x=y then x::yt xs ys else[]
 |_,_=>[]
theorem Ux:yt (x::a) (y::b)=if x=y then x::yt a b else[]:=rfl
def eD (p:Str) (ps:List Str):List Str:=yt (kJ false (fO p) (ps.map fO)) (kJ true (fO p) (ps.map fO))
theorem vt (g:Bool):∀(r:List (List Str)) (b:List Str),kJ g b r=b \/ kJ g b r∈r
 |[],b=>.inl rfl
 |v::r,b=>by
  show kJ g (if dZ g v b=true then v else b) r=b \/ _;rcases vt g r (if dZ g v b=true then v else b) with h|h
  .by_cases q:dZ g v b=true
   .rw[if_pos q] at h;exact .inr (by show kJ g (if dZ g v b=true then v else b) r∈_;rw[if_pos q,h];exact ag ..)
   .rw[if_neg q] at h;rw[if_neg q];exact .inl h
  .exact .inr (ao _ h)
theorem Dv (h1:dZ g x y=true) (h2:dZ g y z=true):dZ g x z=true:=by
 cases g
 .exact iQ h1 h2
 .exact iQ (x:=z) h2 h1
theorem HO (h1:dZ g x z=true):dZ g x y=true \/ dZ g y z=true:=by
 cases g
 .simp only[dZ,bQ,if_false] at*;cases q:lexLt x y with
  |true=>exact .inl rfl
  |false=>
   rcases lf q with e|e
   .subst e;exact .inr h1
   .exact .inr (iQ e h1)
 .simp only[dZ,if_true] at*;cases q:lexLt z y with
  |true=>exact .inr rfl
  |false=>
   rcases lf q with e|e
   .subst e;exact .inl h1
   .exact .inl (iQ e h1)
theorem sX (g:Bool):∀(r:List (List Str)) (b:List Str),∀v∈b::r,dZ g v (kJ g b r)=false:=by
 injections g;intro r
 induction r with
 |nil=>
  intro b v d;have d:v=b:=by simpa using d
  subst d;show dZ g v v=false;cases g<;>exact ng _
 |cons u r t=>
  intro b v d;show dZ g v (kJ g (if dZ g u b=true then u else b) r)=false;have H:=t (if dZ g u b=true then u else b);have hb:=H _ (ag ..);rcases ap.mp d with rfl|d
  .by_cases q:dZ g u v=true
   .rw[if_pos q] at hb⊢;cases z:dZ g v (kJ g u r) with
    |false=>rfl
    |true=>rw[Dv q z] at hb;cases hb
   .rw[if_neg q] at hb⊢;exact hb
  .rcases ap.mp d with rfl|d
   .by_cases q:dZ g v b=true
    .rw[if_pos q] at hb⊢;exact hb
    .rw[if_neg q] at hb⊢;cases z:dZ g v (kJ g b r) with
     |false=>rfl
     |true=>
      rcases HO (y:=b) z with e|e
      .exact absurd e q
      .rw[e] at hb;cases hb
   .exact H v (ao _ d)
theorem M8 (b:List Str) (r:List (List Str)):lexLt (kJ true b r) (kJ false b r)=false:=by
 have h:=sX false r b (kJ true b r) (by
  rcases vt true r b with h|h
  .rw[h];exact ag ..
  .exact ao _ h)
 exact h
theorem AE:∀(i:Nat) (x y:List Str),x.take i=y.take i->i<x.length->x[i]?≠y[i]?->yt x y=x.take i
 |0,x::xs,[],_,_,_=>rfl
 |0,x::xs,y::ys,_,_,h=>by
  have h:x≠y:=by simpa using h
  rw[Ux,if_neg h];rfl
 |i+1,x::xs,[],h,_,_=>by simp at h
 |i+1,x::xs,y::ys,h,hl,hn=>by
  simp only[fD,dO] at h;rw[Ux,if_pos h.1,fD,AE i xs ys h.2 (by simpa using hl) (by simpa using hn)]
theorem yu:∀(x y:List Str),x.take x.length=y.take x.length->yt x y=x
 |[],_,_=>rfl
 |x::xs,[],h=>by simp at h
 |x::xs,y::ys,h=>by
  simp only[aE,fD,dO] at h;rw[Ux,if_pos h.1,yu xs ys h.2]
theorem Dw:∀(i:Nat) (x y:List Str),lexLt y x=false->x.take i=y.take i->i<x.length->i<y.length
 |0,x::xs,[],h,_,_=>by simp[Ah,↓Ai,↓xj] at h
 |0,_::_,_::_,_,_,_=>by simp
 |i+1,x::xs,[],_,h,_=>by simp at h
 |i+1,x::xs,y::ys,h,d,hl=>by
  simp only[fD,dO] at d;rw[xj,if_pos d.1.symm] at h;have:=Dw i xs ys h d.2 (by simpa using hl);simpa using this
theorem Gc (w:aB) (p:Str) (ps:List Str) (hn:(p::ps).length <= 1000) (ha:∀q∈p::ps,eO q "/"=true) (hl:∀q∈p::ps,q.length <= 100000 /\ (Txt.split q "/").length <= 1000 /\ ∀z∈Txt.split q "/",z.length <= 100000) (hj:nP "/" (eD p ps)=true) (hz:bA "/"+(bw "/" (eD p ps)).length <= aO):Fn pw w (Tw w) 9 (.ref 382) [.lst ((p::ps).map .str)] [] (Is (.str ("/"++bw "/" (eD p ps))) []):=by
 injections w p ps hn ha hl hj hz;refine Ae ["paths"] [("paths",.lst ((p::ps).map .str))] (λ L=>[("curdir",L+2),("sep",L+1)]) (Tl w) (ff w) ?_ rfl (by rfl') (by rfl') ?_ ?_ ?_
 .exact ku λ v=>rfl
 .intro L
  rfl
 .intro L p hp;simp only[ap,aK,or_false] at hp;rcases hp with rfl|rfl<;>rfl
 .intros A L B ok
  conv=>arg 4;whnf
  simp only[aq,aX,bh,be];generalize ε:D.str p::ps.map D.str=ds;have u:ds.length=ps.length+1:=by rw[<-ε];simp
  have φ:ps.length+1 <= 1000:=by simpa using hn
  have β:∀d∈ds,∃q∈p::ps,d=.str q:=by
   rw[<-ε,<-aq];intro d hd;have⟨q,hq,rfl⟩:=az.mp hd;exact⟨q,hq,rfl⟩
  have η:II pw w (Tw w) 2 (.ref 342) ds ds:=⟨rfl,λ i d d' h1 h2=>by
   rw[h1] at h2;cases h2;obtain⟨q,_,rfl⟩:=β d (bD h1);exact yq w q⟩
  ext st;refine' jt (Bv (k:=2) (ds:=ds) (ds':=ds) ok (by decide) ?a1 ?a2 ?a3 η ?a4) ?p1 ?k1;ext a1 ev a2 ev a3 evl a4 sz p1 put;refine rN (b:=false) (Tt.cast (by ext tt) (by cases ds with|nil=>simp at u|cons _ _=>rfl)) ?_;dsimp only[cond];ext st;have ρ:ds[0]?=some (.str p):=by rw[<-ε];rfl
  refine rN (b:=false) (lw (ka ok iu (by ext ev) (bg (ur (l:=ds) (k:=0) (j:=0) (d:=.str p) (by ext ev) (by ext ev) (by decide) (by decide) (by rw[u];unfold seqIndex?;simp) ρ) (bg (by ext ev) bW)) .nil xh) vh) ?_;dsimp only[cond]
  with_reducible refine' jl ?c1 ?c2 ?c3 ?c4
  ext c1 ev
  case c2=>with_unfolding_all rfl
  ext c3 take
  with_reducible refine' jl ?c5 ?c6 ?c7 ?c8
  ext c5 ev
  case c6=>with_unfolding_all rfl
  ext c7 take;refine aV ?_;refine Eo ?_;have ν:∀q∈p::ps,eO q "/"=true:=ha
  let f1:D->Option D:=λ d=>some (.lst ((Txt.split (strOfD d) "/").map .str))
  with_reducible refine' lB (f:=f1) ok (xD ok (ds:=ds) ?d1) ?d2 ?d3 ?d4 ?d5 (cl:=[("sep",L+1)]) ?d6 ?d7 ?d8 ?d9
  ext d1 ev d2 sz
  case d3=>
   intro d hd C B' X q V;obtain⟨x,M,rfl⟩:=β d hd;have μ:=(hl x M).1;have δ:=(hl x M).2.1;refine' ⟨_,true,.lst ((Txt.split x "/").map .str),?X6,kQ,rfl,λ _=>?_⟩;ext X6 as;ext ev
  ext d4 put
  case d6=>rfl
  case d7=>rfl'
  case d8=>rfl
  case d9=>rfl'
  have e1:ds.filterMap f1=(p::ps).map (λ q=>dL (Txt.split q "/")):=by
   rw[<-ε,<-aq (f:=D.str),jg];exact congrFun (jA (f:=λ q=>dL (Txt.split q "/"))) (p::ps)
  rw[e1];refine Eo ?_
  with_reducible refine' zA ok (xD ok (ds:=ds) ?e1) ?e2 ?e3 ?e4 ?e5 (cl:=[("sep",L+1)]) ?e6 ?e7 ?e8 ?e9
  ext e1 ev
  case e2=>intros e;rw[e] at u;simp at u
  case e3=>
   intro d hd C B' X q V;obtain⟨x,M,rfl⟩:=β d hd;refine' ⟨_,true,.bool true,?X5,kQ,rfl,λ _=>?_⟩;ext X5 as;exact Ev.cast (by ext ev) (by rw[ν x M])
  ext e4 put
  case e6=>rfl
  case e7=>rfl'
  case e8=>rfl
  case e9=>rfl'
  refine FI (aV ?_)
  let g1:D->Option D:=λ d=>if decide (strOfD d≠"" /\ strOfD d≠".") then some (.str (strOfD d)) else none
  let f2:D->Option D:=λ d=>some (.lst ((SP d).filterMap g1))
  with_reducible refine' lB (f:=f2) ok (eZ ok (ds:=(p::ps).map (λ q=>dL (Txt.split q "/"))) ?h1) ?h2 ?h3 ?h4 ?h5 (cl:=[("curdir",L+1+1)]) ?h6 ?h7 ?h8 ?h9
  ext h1 ev h2 sz
  case h3=>
   intro d hd C B' X q V;obtain⟨x,M,rfl⟩:=az.mp hd;have μ:=(hl x M).1;have δ:=(hl x M).2.1;refine' ⟨_,true,.lst (((Txt.split x "/").map .str).filterMap g1),?X4,kQ,rfl,λ _=>?_⟩;ext X4 as
   with_reducible refine' ic V (eZ V (ds:=(Txt.split x "/").map .str) ?i1) ?i2 ?i3 (cl:=[("curdir",L+1+1)]) ?i6 ?i7 ?i8 ?i9
   ext i1 ev i2 sz
   case i3=>
    intro d hd C B' X q V;obtain⟨z,κ,rfl⟩:=az.mp hd;have υ:z.length <= 100000:=(hl x M).2.2 z κ;refine' ⟨_,decide (z≠"" /\ z≠"."),.str z,?X3,FF (Tt.cast ?X0 ?q4),rfl,λ _=>?_⟩;ext X3 as X0 tt
    case q4=>simp[Str.length_eq_zero']
    ext ev
   case i6=>rfl
   case i7=>rfl'
   case i8=>rfl
   case i9=>rfl'
  ext h4 put
  case h6=>rfl
  case h7=>rfl'
  case h8=>rfl
  case h9=>rfl'
  have e2:((p::ps).map (λ q=>dL (Txt.split q "/"))).filterMap f2=(fO p::ps.map fO).map dL:=by
   have e3:∀l:List Str,(l.map D.str).filterMap g1=(l.filter λ(c:Str)=>decide (c≠"" /\ c≠".")).map D.str:=by
    intros l
    induction l with
    |nil=>rfl
    |cons c l ih=>
     rw[aq,fC,dc];by_cases q:decide (c≠"" /\ c≠".")=true
     .rw[show g1 (.str c)=some (.str c) from if_pos q,if_pos q,ih];rfl
     .rw[show g1 (.str c)=none from if_neg q,if_neg q,ih]
   have e4:∀qs:List Str,(qs.map (λ q=>dL (Txt.split q "/"))).filterMap f2=(qs.map fO).map dL:=by
    intros qs
    induction qs with
    |nil=>rfl
    |cons q qs ih=>
     have hq:f2 (dL (Txt.split q "/"))=some (dL (fO q)):=by
      show some (D.lst (((Txt.split q "/").map D.str).filterMap g1))=some (dL (fO q));rw[e3];rfl
     rw[aq,List.filterMap_cons_some hq,aq,aq,ih]
   exact e4 (p::ps)
  rw[e2];have ξ:=M8 (fO p) (ps.map fO);have σ:Fn pw w (Tw w) 8 (.builtin "min") [.lst ((fO p::ps.map fO).map dL)] [] (Is (dL (kJ false (fO p) (ps.map fO))) []):=SN (g:=false);have τ:Fn pw w (Tw w) 8 (.builtin "max") [.lst ((fO p::ps.map fO).map dL)] [] (Is (dL (kJ true (fO p) (ps.map fO))) []):=SN (g:=true);have ο:∀g,∃q∈p::ps,kJ g (fO p) (ps.map fO)=fO q:=λ g=>by
   rcases vt g (ps.map fO) (fO p) with h|h
   .exact⟨p,ag ..,h⟩
   .obtain⟨q,hq,e⟩:=az.mp h;exact⟨q,ao _ hq,e.symm⟩
  have γ:∀g,(kJ g (fO p) (ps.map fO)).length <= 1000:=λ g=>by
   obtain⟨q,hq,e⟩:=ο g;rw[e];exact aL (jB ..) (hl q hq).2.1
  have ψ:=γ false;have χ:=γ true;unfold eD at hj hz⊢;generalize fO p::ps.map fO=cs at*;generalize kJ false (fO p) (ps.map fO)=H at*;generalize kJ true (fO p) (ps.map fO)=t at*;ext st;ext st;ext st;refine' Mk (CJ ok (ds:=H.map .str) ?j1 ?j2) (λ i=>H.take i=t.take i) (λ i=>[("s1",dL H),("s2",dL t),("common",dL H),("isabs",.bool true)])
   (λ i=>[(L+1+1,.cell (some (.str "."))),(L+1,.cell (some (.str "/")))]) rfl ?j3 ?j4 ?j5 ?j6
  ext j1 ev j2 evl j3 sub j4 takes
  case j5=>
   intros i d hd hJ P;have⟨d',ι,rfl⟩:=vZ hd;rw[a9,cN] at ι;have⟨x,M,rfl⟩:=ι;have hi:i<H.length:=(au.mp M).1;have θ:=Dw i H t ξ hJ hi;have δ:t[i]?=some t[i]:=am θ;have ζ:(t.map D.str)[((i:Int)).toNat]?=some (.str t[i]):=by simp[θ]
   refine' ⟨_,?X1,?k5⟩;ext X1 as;refine dY (b:=decide (x≠t[i])) (cp (by ext ev) (bS (l:=t.map .str) (k:=i) (d:=.str t[i]) (by ext ev) (by ext ev) Bb (by omega) ζ) Ab) (λ b1=>?_) (λ b1=>?_)
   .have b1:=of_decide_eq_true b1;have hc:yt H t=H.take i:=AE i H t hJ hi (by rw[M,δ];exact λ e=>b1 (jr e))
    with_reducible refine' jt (d:=dL (H.take i)) (Ev.cast ?b3 ?b4) ?b5 ?b6
    ext b3 ev
    case b4=>rw[Bm,<-mx]
    ext b5 put;refine rP ?_;refine xY ?_;rw[hc] at hj hz⊢
    with_reducible refine' jt (d:=.str "/") (xK (v:=true) ?m1 ?m2) ?m3 ?m4
    ext m1 tt
    case m2=>dsimp only[cond];ext ev
    ext m3 put;ext ret;exact⟨[],_,.nil,rfl,rfl⟩
   .have b1:x=t[i]:=by simpa using of_decide_eq_false b1
    refine aV (aY ⟨?_,by ext sub,by ext takes⟩);rw[bY,bY,hJ,M,δ,b1]
  case j6=>
   intro hJ;rw[v6,ah] at hJ;have hc:yt H t=H:=yu H t hJ;rw[hc] at hj hz⊢
   with_reducible refine' jt (d:=.str "/") (xK (v:=true) ?m5 ?m6) ?m7 ?m8
   ext m5 tt
   case m6=>dsimp only[cond];ext ev
   ext m7 put;ext ret;exact⟨[],_,.nil,rfl,rfl⟩
theorem EW (w:aB) (t:List Str) (u:Int) (hn:Wd 100 1000 t):Fn pw w (Tw w) 2 (.ref 1095) [.tup (t.map .str),.int u] [] (Is (.str (fp t u)) []):=by
 injections w t u hn;have l1:bA "/"=1:=by rfl'
 have l2:bA "/./"=3:=by rfl'
 have l3:bA "//"=2:=by rfl'
 have l4:bA "/."=2:=by rfl'
 have l5:bA "///"=3:=by rfl'
 have l6:bA "/../"=4:=by rfl'
 have V:=ot (sep:="/") hn;have M:=ot (sep:="/./") hn;have H:=ot (sep:="//") hn;have k1:=ig (sep:="/") hn;have k2:=ig (sep:="/./") hn;have k3:=ig (sep:="//") hn;rw[l1] at k1;rw[l2] at k2;rw[l3] at k3;have V:(t.map (·.length)).sum+t.length*bA "/" <= 16777216:=by rw[l1] at V⊢;exact Op V
 have M:(t.map (·.length)).sum+t.length*bA "/./" <= 16777216:=by rw[l2] at M⊢;exact(lz 496663286058347659359153323249682) M
 have H:(t.map (·.length)).sum+t.length*bA "//" <= 16777216:=by rw[l3] at H⊢;exact(lz 496168109967075643523275055173650) H
 have hm:Wd 100 3000 (t.map λ n=>n++"/../"++n):=⟨by rw[ah];exact hn.1,λ y hy=>by
  obtain⟨x,hx,rfl⟩:=az.mp hy;have:=hn.2 x hx;rw[cF,cF,l6];exact(lz 1209199754608612482958757905) this⟩
 have j4:=wa (sep:="/") hm (by rw[l1];exact lz 6989132708057088);have k4:=ig (sep:="/") hm;rw[l1] at k4;refine dF ["names","dress"] [("names",.tup (t.map .str)),("dress",.int u)] (Q0 w) (ff w) ?_ rfl (by rfl') (by rfl') (by rfl') ?_
 .exact pn λ v v2=>rfl
 .intros A L B ok
  conv=>arg 4;whnf
  ext ite
  .intros b1;ext ret;exact⟨[],[],.nil,by unfold fp;rw[if_pos (of_decide_eq_true b1)],rfl⟩
  .intros b1;ext st;ext ite
   .intros b2
    with_reducible refine' ly (kB ?a1 ?a2 (iV ?a3)) ?a4
    ext a1 ev a2 ev
    case a3=>rw[cF,l2,l4,ay];exact(lz 7578480296180581201623912465) k2
    exact⟨[],[],.nil,by unfold fp;rw[if_neg (of_decide_eq_false b1),if_pos (of_decide_eq_true b2)],rfl⟩
   .intros b2;ext st;ext ite
    .intros b3
     with_reducible refine' ly (kB ?b1 ?b2 (iV ?b3)) ?b4
     ext b1 ev b2 ev
     case b3=>rw[cF,l5,l1,ay];exact(lz 7570924509807988669770371089) k3
     exact⟨[],[],.nil,by unfold fp;rw[if_neg (of_decide_eq_false b1),if_neg (of_decide_eq_false b2),if_pos (of_decide_eq_true b3)],rfl⟩
    .intros b3;ext st
     let f1:D->Option D:=λ d=>some (.str (strOfD d++"/../"++strOfD d))
     have e1:(t.map D.str).filterMap f1=(t.map λ(n:Str)=>n++"/../"++n).map D.str:=by
      rw[jg,bH];exact congrFun (jA (f:=D.str∘λ(n:Str)=>n++"/../"++n)) t
     with_reducible refine' ly (kB ?c1 ?mm (iV ?X1)) ?X4
     ext c1 ev
     case mm=>
      with_reducible refine' xB (by assumption) ?mo ?X0 gG jC jD ?ml ?mt ?mf
      ext mo ev
      case X0=>exact Bk
      case ml=>
       refine bg (d:=.lst ((t.map λ(n:Str)=>n++"/../"++n).map D.str)) ?mz bW;rw[<-e1];refine' ic (f:=f1) ok (xD ok (ds:=t.map .str) ?c3) ?c4 ?c5 (cl:=[]) ?c6 ?c7 ?c8 ?c9;ext c3 ev
       case c4=>have:=hn.1;rw[ah,ay];exact(lz 473655019815776500090744850) ‹_›
       case c5=>
        intro d hd C B' X q γ;obtain⟨x,hx,rfl⟩:=az.mp hd;have β:=hn.2 x hx;refine' ⟨_,true,.str (x++"/../"++x),?X3,kQ,rfl,λ _=>?_⟩;ext X3 as
        with_reducible refine' kB ?d1 ?d2 (iV ?d3)
        ext d1 ev d2 ev
        case d3=>rw[cF,l6,ay];exact(lz 4723436538577634164477969) β
       case c6=>rfl
       case c7=>rfl'
       case c8=>rfl
       case c9=>rfl'
      case mf=>exact IC j4
      case mt=>exact .nil
     case X1=>rw[l1,ay];exact(lz 5535874381986879958945809) k4
     exact⟨[],[],.nil,by unfold fp;rw[if_neg (of_decide_eq_false b1),if_neg (of_decide_eq_false b2),if_neg (of_decide_eq_false b3)],rfl⟩
def mW (x:Str):Str:="/"++bw "/" (eV (Txt.split (sP (some 1) none x) "/"))
structure yv (x:Str):Prop where
 h1:x.length <= 1000
 h0:x.length≠0
 hr:r9 x=[.str "",.str "/",.str (sP (some 1) none x)]
 hy:(sP (some 1) none x).length <= 1000
 hs:(Txt.split (sP (some 1) none x) "/").length <= 2000
 hb:∀z∈Txt.split (sP (some 1) none x) "/",z.length <= 1000
 hj:nP "/" (eV (Txt.split (sP (some 1) none x) "/"))=true
 hz:bA "/"+(bw "/" (eV (Txt.split (sP (some 1) none x) "/"))).length <= aO
def lR (x:Str):Bool:=decide (x="md" \/ x="rm" \/ x="mv")
def mr (cs:List (List Str)) (x:Str):List (List Str):=if lR x=true then cs++[[x]] else match cs.getLast? with
 |some c=>cs.dropLast++[c++[mW x]]
 |none=>cs
def gN (d:List Str):List (List Str):=d.foldl mr []
structure Gd (ws:List Str):Prop where
 len:ws.length <= 1000
 each:∀x∈ws,okS x /\ (lR x=true \/ yv x)
 first:∀x,ws[0]?=some x->lR x=true
theorem zL {d:List Str} {i:Nat} {x:Str} (h:d[i]?=some x):gN (d.take (i+1))=mr (gN (d.take i)) x:=by
 unfold gN;rw[bY,h,cr,cq];rfl
theorem Dx (w:aB) (u:List Str) (hw:Gd u):Fn pw w (Tw w) 12 (.ref 1107) [.lst (u.map .str)] [] (Is (.lst ((gN u).map dL)) []):=by
 injections w u hw;refine dF ["words"] [("words",.lst (u.map .str))] (Q2 w) (ff w) ?_ rfl (by rfl') (by rfl') (by rfl') ?_
 .exact ku λ v=>rfl
 .intros A L B ok
  conv=>arg 4;whnf
  ext new;intros a;ext bind;have e0:gN (u.take 0)=[]:=rfl;refine' Bz (eZ ok (ds:=u.map .str) ?f1) (σ:=List D×Option (aM×List D))
   (λ i st=>i <= u.length /\ ((st=([],none) /\ i=0) \/ ∃pre t l,gN (u.take i)=pre++[t] /\ pre.length+1 <= i /\ t.length <= i /\ st=(pre.map dL++[.val (.ref l)],some (l,t.map .str))))
   (λ _ _=>[("words",.lst (u.map .str)),("commands",.val (.ref a))]) (λ _ st=>(a,.list st.1)::(match st.2 with|none=>[]|some q=>[(q.1,.list q.2)])) ([],none) ?f2 ?f3 ?f4 ?f5 ?f6
  ext f1 ev
  case f2=>exact⟨aU _,.inl ⟨rfl,rfl⟩⟩
  ext f3 sub
  case f4=>show cv _ [(a,.list [])] [];ext takes
  case f5=>
   intros i d hd st hI p;rw[a9,cN] at hd;have⟨x,hx,rfl⟩:=hd;have ζ:x∈u:=bD hx;have hi:i<u.length:=(au.mp hx).1;have hs:=zL hx;have V:=hw.len;have⟨θ,η⟩:=hw.each x ζ;have ι:∀G W,eM (Cw w A (cx (fb 1107) L 1107) B) G W (.str x) (.tup [.str "md",.str "rm",.str "mv"]) (.bool (lR x)) (bq .In):=λ G W=>by
    have:=Ao (c:=Cw w A (cx (fb 1107) L 1107) B) (G:=G) (W:=W) ok encStr (by decide) (a:=x) (l:=["md","rm","mv"]) θ (by rfl');rw[show lR x=decide (x∈(["md","rm","mv"]:List Str)) from by unfold lR;simp];exact this
   with_reducible refine' ⟨_,?X0,?kk⟩
   ext X0 as
   with_reducible refine' dY (b:=lR x) (cp ?g1 ?g2 (ι _ _)) ?g3 ?g4
   ext g1 ev g2 ev
   case g3=>
    intros b1;have M:∀cs,mr cs x=cs++[[x]]:=λ cs=>by unfold mr;rw[if_pos b1]
    rcases hI with⟨γ,⟨rfl,rfl⟩|⟨pre,t,l,hc,H,β,rfl⟩⟩
    .dsimp only
     with_reducible refine' x8 ok ?p1 ?p2 (nA (ds:=[.str x]) ?p3) ?p4
     ext p1 ev
     case p2=>exact uq (.over .head)
     ext p3 evl;rintro d W' ⟨l,rfl,rfl⟩;refine⟨[],_,.tail (.over .head),by simp,aY (aY ⟨([.val (.ref l)],some (l,[.str x])),⟨hi,.inr ⟨[],[x],l,by rw[hs,M];rfl,by simp,by simp,rfl⟩⟩,?_,?_⟩)⟩
     .ext sub
     .show cv _ (p (0+1)++[(a,.list [.val (.ref l)]),(l,.list [.str x])]) [];simp only[be];ext takes
    .dsimp only;refine wM (.over .head) (.over .head) ?_
     with_reducible refine' x8 ok ?q1 ?q2 (nA (ds:=[.str x]) ?q3) ?q4
     ext q1 ev
     case q2=>exact uq .head
     ext q3 evl;rintro d W' ⟨l',rfl,rfl⟩;refine⟨pre.map dL++[.lst (t.map .str)],_,.tail .head,by rw[ay];simp;exact(lz 2089920077525079589794683587490091059) hi V H,aY (aY ⟨((pre++[t]).map dL++[.val (.ref l')],some (l',[.str x])),⟨hi,.inr ⟨pre++[t],[x],l',by rw[hs,hc,M],by simp;exact H,by simp,rfl⟩⟩,?_,?_⟩)⟩
     .ext sub
     .show cv _ (p (i+1)++[(a,.list ((pre++[t]).map dL++[.val (.ref l')])),(l',.list [.str x])]) [];simp only[av,aq,aX];ext takes
   case g4=>
    intros b1;rcases hI with⟨γ,⟨rfl,rfl⟩|⟨pre,t,l,hc,H,β,rfl⟩⟩
    .rw[hw.first x hx] at b1;cases b1
    .dsimp only;have hP:yv x:=η.resolve_left (by rw[b1];simp);have κ:Fn pw w (Tw w) 11 (.ref 377) [.str x] [] (Is (.str (mW x)) []):=(Du w x (sP (some 1) none x) hP.h1 hP.h0 hP.hr hP.hy hP.hs hP.hb hP.hj hP.hz).le (by decide);have ε:(pre.map dL).length<2^62:=by simp;exact(lz 1993103101277427282134328021299) hi V H
     have δ:(t.map D.str).length <= aO:=by rw[ay];simp;exact(lz 638608047607729683550048307) hi V β
     with_reducible refine' fc (a:=l) (l:=t.map .str) (d:=.str (mW x)) ok (wI ?r1 ?r2 ?r3 ε) ?r4 ?r5 δ ?r6
     ext r1 ev r2 ev
     case r3=>exact .over .head
     ext r4 ev
     case r5=>exact .over (.tail .head)
     refine aY (aY ⟨(pre.map dL++[.val (.ref l)],some (l,(t++[mW x]).map .str)),⟨hi,.inr ⟨pre,t++[mW x],l,?_,(lz 5184116076655604666386) H,by simp;exact β,rfl⟩⟩,?_,?_⟩)
     .rw[hs,hc];unfold mr;rw[if_neg (by rw[b1];simp)];simp
     .ext sub
     .show cv _ (p (i+1)++[(a,.list (pre.map dL++[.val (.ref l)])),(l,.list ((t++[mW x]).map .str))]) [];simp only[av,aq,aX];ext takes
  case f6=>
   intros st hI;rw[ah,bF] at hI;rcases hI with⟨γ,⟨rfl,h0⟩|⟨pre,t,l,hc,H,β,rfl⟩⟩
   .have:u=[]:=by cases u with
     |nil=>rfl
     |cons _ _=>simp at h0
    subst this;dsimp only;refine' gd (x:="commands") (a:=a) (l:=[]) (vf.mem ?s1) .head ?s2 ?s3;ext s1 has s2 put;ext ret;exact⟨[],_,.nil,rfl,rfl⟩
   .dsimp only;refine wM .head .head ?_;refine' gd (x:="commands") (a:=a) (l:=pre.map dL++[.lst (t.map .str)]) (vf.mem ?t1) .head ?t2 ?t3;ext t1 has t2 put;ext ret;exact⟨[],_,.nil,by rw[hc];simp,rfl⟩
def ni (a b:Str):Str:="/"++bw "/" (eD a [b])
def mu (u t d:Str):Str:=oQ t (sP (some ((u.length:Int)+1)) none d)
def fW (v t u d:Str):Option Str:=if ni d t≠t then some d else if v="mv" then some (mW (mu t u d)) else none
def oR (d:List Str) (u t v:Str):List Str:=if u="md" then d++[t] else d.filterMap (fW u t v)
structure TG (a b:Str):Prop where
 ha:∀q∈[a,b],eO q "/"=true
 hl:∀q∈[a,b],q.length <= 100000 /\ (Txt.split q "/").length <= 1000 /\ ∀z∈Txt.split q "/",z.length <= 100000
 hj:nP "/" (eD a [b])=true
 hz:bA "/"+(bw "/" (eD a [b])).length <= aO
structure J6 (ways:List Str) (cmd:List Str):Prop where
 n:ways.length <= 1000
 two:2 <= cmd.length
 mv:cmd.getD 0 ""="mv"->3 <= cmd.length
 len:∀x∈cmd,x.length <= 1000
 each:∀x∈ways,x.length <= 1000 /\ TG x (cmd.getD 1 "") /\ (cmd.getD 0 ""="mv"->ni x (cmd.getD 1 "")=cmd.getD 1 ""->yv (mu (cmd.getD 1 "") (cmd.getD 2 "") x))
theorem M9 {α β:Type} {f:α->Option β} {l:List α} {i:Nat} {x:α} (h:l[i]?=some x):(l.take (i+1)).filterMap f=(l.take i).filterMap f++(f x).toList:=by
 rw[bY,h,rC,cr];cases q:f x<;>simp[q]
theorem M' (w:aB) (u t:List Str) (V:J6 u t):Fn pw w (Tw w) 12 (.ref 1114) [.lst (u.map .str),.lst (t.map .str)] [] (Is (.lst ((oR u (t.getD 0 "") (t.getD 1 "") (t.getD 2 "")).map .str)) []):=by
 injections w u t V;have hn:=V.n;have h2:=V.two;have i0:(t.map D.str)[(0:Int).toNat]?=some (.str (t.getD 0 "")):=by simp[show 0<t.length from Su h2]
 have i1:(t.map D.str)[(1:Int).toNat]?=some (.str (t.getD 1 "")):=by simp[show 1<t.length from Oq h2]
 have i2:3 <= t.length->(t.map D.str)[(2:Int).toNat]?=some (.str (t.getD 2 "")):=λ h=>by simp[show 2<t.length from Ot h]
 have ξ:(t.getD 1 "").length <= 1000:=V.len _ (by
  have:t.getD 1 ""=t[1]:=by simp[show 1<t.length from Oq h2]
  rw[this];exact cE _)
 have β:3 <= t.length->(t.getD 2 "").length <= 1000:=λ h=>V.len _ (by
  have:t.getD 2 ""=t[2]:=by simp[show 2<t.length from Ot h]
  rw[this];exact cE _)
 have θ:=V.mv;have γ:=V.each;generalize t.getD 0 ""=c0 at*;generalize t.getD 1 ""=c1 at*;generalize t.getD 2 ""=c2 at*;refine dF ["ways","command"] [("ways",.lst (u.map .str)),("command",.lst (t.map .str))] (Q3 w) (ff w) ?_ rfl (by rfl') (by rfl') (by rfl') ?_
 .exact pn λ v v2=>rfl
 .intros A L B ok
  conv=>arg 4;whnf
  with_reducible refine' dY (cp (bS ?a1 ?a2 ?a3 ?a4 i0) ?a5 sL) ?a6 ?a7
  ext a1 ev a2 ev
  case a3=>decide
  case a4=>decide
  ext a5 ev
  case a6=>
   intros b1;have hz:(u.map D.str).length+([D.str c1]:List D).length <= aO:=by rw[ay];simp;exact(lz 4723436470587113875705873) hn
   with_reducible refine' ly (kB ?b1 (xC (bg (bS ?b2 ?b3 ?b4 ?b5 i1) bW)) (mB hz)) ?b6
   ext b1 ev b2 ev b3 ev
   case b4=>decide
   case b5=>decide
   exact⟨[],_,.nil,by unfold oR;rw[if_pos (of_decide_eq_true b1)];simp,rfl⟩
  case a7=>
   intros b1;have b1:=of_decide_eq_false b1;ext st;ext new;intros a;ext bind;refine' lA (eZ ok (ds:=u.map .str) ?c1) (λ i=>[("ways",.lst (u.map .str)),("command",.lst (t.map .str)),("left",.val (.ref a))]) (λ i=>[(a,.list (((u.take i).filterMap (fW c0 c1 c2)).map .str))]) ?c2 ?c3 ?c4 ?c5;ext c1 ev c2 sub
   case c3=>show cv _ [(a,.list [])] [];ext takes
   case c4=>
    intros i d hd p;rw[a9,cN] at hd;have⟨x,hx,rfl⟩:=hd;have ε:x∈u:=bD hx;have hi:i<u.length:=(au.mp hx).1;have⟨η,H,ζ⟩:=γ x ε;have ι:((u.take i).filterMap (fW c0 c1 c2)).length <= 1000:=aL (oY ..) (by simp;exact P8 hn hi (bO _ _));have μ:(((u.take i).filterMap (fW c0 c1 c2)).map D.str).length <= aO:=by rw[ay,ah];exact Lr ι
    have δ:Fn pw w (Tw w) 11 (.ref 382) [.lst ([x,c1].map .str)] [] (Is (.str (ni x c1)) []):=(Gc w x [c1] (by simp) H.ha H.hl H.hj H.hz).le (by decide);have δ:Fn pw w (Tw w) 11 (.ref 382) [.lst [.str x,.str c1]] [] (Is (.str (ni x c1)) []):=δ;rw[M9 hx]
    with_reducible refine' ⟨_,?X5,?kk⟩
    ext X5 as
    with_reducible refine' dY (b:=decide (ni x c1≠c1)) (cp (ka ok ?d1 ?d2 (bg (xC (bg ?d3 (bg (bS ?d4 ?d5 ?d6 ?d7 i1) bW))) bW) .nil δ) (bS ?d8 ?d9 ?X4 ?X3 i1) Ab) ?X1 ?X0
    ext d1 kp d2 ev d3 ev d4 ev d5 ev
    case d6=>decide
    case d7=>decide
    ext d8 ev d9 ev
    case X4=>decide
    case X3=>decide
    case X1=>
     intros b2;have b2:=of_decide_eq_true b2;ext st;have e:fW c0 c1 c2 x=some x:=by unfold fW;rw[if_pos b2]
     rw[e];refine aY (aY ⟨by ext sub,?_⟩);simp only[cr,av,aq,aX];ext takes
    case X0=>
     intros b2;have b2:ni x c1=c1:=by simpa using of_decide_eq_false b2
     with_reducible refine' dY (b:=decide (c0="mv")) (cp (bS ?e1 ?e2 ?e3 ?e4 i0) ?e5 sL) ?e6 ?e7
     ext e1 ev e2 ev
     case e3=>decide
     case e4=>decide
     ext e5 ev
     case e6=>
      intros b3;have b3:=of_decide_eq_true b3;have h3:=θ b3;have i2:=i2 h3;have β:=β h3;have M:=ζ b3 b2;have κ:(sP (some ((c1.length:Int)+1)) none x).length <= 1000:=aL (FP _ _ _) η;have ο:Fn pw w (Tw w) 11 (.ref 363) [.str c2,.str (sP (some ((c1.length:Int)+1)) none x)] [] (Is (.str (mu c1 c2 x)) []):=(TF w c2 (sP (some ((c1.length:Int)+1)) none x) (Ou β) (Ou κ)).le (by decide);have ν:Fn pw w (Tw w) 11 (.ref 377) [.str (mu c1 c2 x)] [] (Is (.str (mW (mu c1 c2 x))) []):=(Du w _ _ M.h1 M.h0 M.hr M.hy M.hs M.hb M.hj M.hz).le (by decide);have e:fW c0 c1 c2 x=some (mW (mu c1 c2 x)):=by unfold fW;rw[if_neg (by simpa using b2),if_pos b3]
      rw[e];ext st;refine aY (aY (aY ⟨by ext sub,?_⟩));simp only[cr,av,aq,aX];ext takes
     case e7=>
      intros b3;have b3:=of_decide_eq_false b3;have e:fW c0 c1 c2 x=none:=by unfold fW;rw[if_neg (by simpa using b2),if_neg b3]
      rw[e];refine aY (aY (aY ⟨by ext sub,?_⟩));simp only[uN,ax];ext takes
   case c5=>
    rw[ah,bF];refine' gd (x:="left") (a:=a) (vf.mem ?t1) .head ?t2 ?t3;ext t1 has t2 put;ext ret;exact⟨[],_,.nil,by unfold oR;rw[if_neg b1],rfl⟩
def mX (t:List Str) (d:List Str):List Str:=oR t (d.getD 0 "") (d.getD 1 "") (d.getD 2 "")
def rowsOf (d:List Str):List (List Str):=d.map λ x=>Txt.split x "/"
def lm (d:List Str) (t:List Str):List Str:=(ie (rowsOf (mX d t))).map (bw "/")
def eF (d:List Str) (cmds:List (List Str)) (i:Nat):List Str:=(cmds.take i).foldl lm d
def B5 (d:List Str) (cmds:List (List Str)):List (List Str):=(dD (cmds.length+1)).map (eF d cmds)
theorem wS (h:cmds[i]?=some c):eF d cmds (i+1)=lm (eF d cmds i) c:=by
 unfold eF;rw[bY,h,cr,cq];rfl
structure EX (ways:List Str) (cmd:List Str):Prop where
 d:J6 ways cmd
 nd:(rowsOf (mX ways cmd)).Nodup
 n:(mX ways cmd).length<64
 len:∀x∈mX ways cmd,x.length <= 1000 /\ (Txt.split x "/").length <= 1000 /\ nP "/" (Txt.split x "/")=true
theorem J7 (w:aB) (t:List Str) (cmds:List (List Str)) (hn:cmds.length <= 1000) (hw:∀i c,cmds[i]?=some c->EX (eF t cmds i) c):Fn pw w (Tw w) 14 (.ref 1119) [.lst (t.map .str),.lst (cmds.map dL)] [] (Is (.lst ((B5 t cmds).map dL)) []):=by
 injections w t cmds hn hw;refine dF ["ways","commands"] [("ways",.lst (t.map .str)),("commands",.lst (cmds.map dL))] (J1 w) (ff w) ?_ rfl (by rfl') (by rfl') (by rfl') ?_
 .exact pn λ v v2=>rfl
 .intros A L B ok
  conv=>arg 4;whnf
  ext new;intros a;ext bind;refine' lA (eZ ok (ds:=cmds.map dL) ?c1) (λ i=>[("ways",.lst (t.map .str)),("commands",.lst (cmds.map dL)),("shelf",.val (.ref a))]) (λ i=>[(a,.list (((dD (i+1)).map (eF t cmds)).map dL))]) ?c2 ?c3 ?c4 ?c5;ext c1 ev c2 sub
  case c3=>show cv _ [(a,.list [.lst (t.map .str)])] [];ext takes
  case c4=>
   intros i d hd p;rw[a9,cN] at hd;have⟨x,hx,rfl⟩:=hd;have hi:i<cmds.length:=(au.mp hx).1;have H:=hw i x hx;have e1:((dD (i+1)).map (eF t cmds)).map dL=((dD i).map (eF t cmds)).map dL++[dL (eF t cmds i)]:=by
    rw[xy,av,av];rfl
   have e2:((dD (i+1+1)).map (eF t cmds)).map dL=((dD (i+1)).map (eF t cmds)).map dL++[dL (lm (eF t cmds i) x)]:=by
    rw[xy,av,av,<-wS hx];rfl
   have θ:Fn pw w (Tw w) 13 (.ref 1114) [dL (eF t cmds i),dL x] [] (Is (.lst ((mX (eF t cmds i) x).map .str)) []):=(M' w (eF t cmds i) x H.d).le (by decide);have δ:Fn pw w (Tw w) 13 (.builtin "sorted") [.lst ((rowsOf (mX (eF t cmds i) x)).map dL)] [] (Is (.lst ((ie (rowsOf (mX (eF t cmds i) x))).map dL)) []):=Hd H.nd (by unfold rowsOf;rw[ah];exact H.n);have M:=H.len;have u:=H.n;have η:(((dD i).map (eF t cmds)).map dL).length<2^62:=by simp;exact(lz 5040465752166642028834) hn hi
   have β:(((dD (i+1)).map (eF t cmds)).map dL).length <= aO:=by rw[ay];simp;exact(lz 5285311416547287348992348194) hn hi
   have ζ:(ie (rowsOf (mX (eF t cmds i) x))).length<64:=by rw[(fm _).length_eq];unfold rowsOf;rw[ah];exact u
   have ε:∀r∈ie (rowsOf (mX (eF t cmds i) x)),r.length <= 1000 /\ nP "/" r=true:=λ r hr=>by
    have:=(fm _).mem_iff.mp hr;unfold rowsOf at this;obtain⟨z,hz,rfl⟩:=az.mp this;exact(M z hz).2
   rw[e2]
   with_reducible refine' ⟨_,?X3,?kk⟩
   ext X3 as
   let f1:D->Option D:=λ d=>some (.lst ((Txt.split (strOfD d) "/").map .str))
   have e3:((mX (eF t cmds i) x).map D.str).filterMap f1=(rowsOf (mX (eF t cmds i) x)).map dL:=by
    unfold rowsOf;rw[jg,bH];exact congrFun (jA (f:=λ q=>dL (Txt.split q "/"))) _
   let f2:D->Option D:=λ d=>some (.str (bw "/" (mA d)))
   have e4:((ie (rowsOf (mX (eF t cmds i) x))).map dL).filterMap f2=(lm (eF t cmds i) x).map D.str:=by
    unfold lm;rw[jg,bH];refine Eq.trans ?_ (congrFun (jA (f:=D.str∘bw "/")) _)
    congr 1
    funext r
    show some (D.str (bw "/" (mA (dL r))))=some (D.str (bw "/" r));rw[eJ]
   rw[e1]
   with_reducible refine' jt (ka ok ?h1 ?h2 (bg (d:=.lst ((rowsOf (mX (eF t cmds i) x)).map dL)) ?h3 bW) .nil δ) ?h4 ?h5
   ext h1 kp h2 ev h4 put
   case h3=>
    rw[<-e3];refine' ic (f:=f1) ok (eZ ok (ds:=(mX (eF t cmds i) x).map D.str) ?k1) ?k2 ?k3 (cl:=[]) ?k4 ?k5 ?k6 ?k7
    case k1=>
     with_reducible refine' ka ok ?l1 ?l2 (bg (wI ?l3 ?l4 ?l5 η) (bg ?l6 bW)) .nil θ
     ext l1 kp l2 ev l3 ev l4 ev
     case l5=>exact .over .head
     ext l6 ev
    case k2=>rw[ah,ay];exact Ov u
    case k3=>
     intro d hd C B' X q γ;obtain⟨z,hz,rfl⟩:=az.mp hd;obtain⟨μ,κ,ι⟩:=M z hz;refine' ⟨_,true,.lst ((Txt.split z "/").map .str),?X1,kQ,rfl,λ _=>?_⟩;ext X1 as;ext ev
    case k4=>rfl
    case k5=>rfl'
    case k6=>rfl
    case k7=>rfl'
   have V:(((dD i).map (eF t cmds)).map dL++[dL (eF t cmds i)]).length <= aO:=by rw[<-e1];exact β
   with_reducible refine' fc (a:=a) (d:=.lst ((lm (eF t cmds i) x).map D.str)) ok ?m1 ?m2 ?m3 V ?m4
   ext m1 ev
   case m3=>exact .over .head
   case m2=>
    rw[<-e4];refine' ic (f:=f2) ok (eZ ok (ds:=(ie (rowsOf (mX (eF t cmds i) x))).map dL) ?n1) ?n2 ?n3 (cl:=[]) ?n4 ?n5 ?n6 ?n7;ext n1 ev
    case n2=>rw[ah,ay];exact Ov ζ
    case n3=>
     intro d hd C B' X q γ;obtain⟨r,hr,rfl⟩:=az.mp hd;obtain⟨ξ,ν⟩:=ε r hr;refine' ⟨_,true,.str (bw "/" r),?X0,kQ,?q3,λ _=>?_⟩;ext X0 as
     case q3=>
      show some (D.str (bw "/" (mA (dL r))))=some (D.str (bw "/" r));rw[eJ]
     ext ev
    case n4=>rfl
    case n5=>rfl'
    case n6=>rfl
    case n7=>rfl'
   refine aY ⟨by ext sub,?_⟩;ext takes
  case c5=>
   rw[ah];refine' gd (x:="shelf") (a:=a) (vf.mem ?t1) .head ?t2 ?t3;ext t1 has t2 put;ext ret;exact⟨[],_,.nil,rfl,rfl⟩
abbrev dC (c:gL):D:=.tup [.str c.1,.int c.2.1,.int c.2.2.1,.int c.2.2.2.1,.int c.2.2.2.2]
def yw (i j:Nat) (l:List Str):List Str:=sl (some (i:Int)) (some (j:Int)) l
theorem EY {α β:Type} (f:α->β) (l u:Option Int) (x:List α):sl l u (x.map f)=(sl l u x).map f:=by
 unfold sl;rw[ah,mx,z8]
theorem yx {α:Type} (l u:Option Int) (x:List α):(sl l u x).length <= x.length:=by
 unfold sl;rw[bL,eo];exact aL (cD _ _) (bG _ _)
def gp (old:List Str) (cs:List gL):List Str:=cs.flatMap λ c=>if c.1≠("equal":Str) then yw c.2.1 c.2.2.1 old else[]
def gq (new:List Str) (cs:List gL):List Str:=cs.flatMap λ c=>if c.1≠("equal":Str) then yw c.2.2.2.1 c.2.2.2.2 new else[]
def sY:List Str->Str
 |[]=>""
 |p::ps=>"/"++bw "/" (eD p ps)
def toldBack (old new:List Str) (cs:List gL):List Str:=
 if gp old cs=[] then["md",sY (gq new cs)] else if gq new cs=[] then["rm",sY (gp old cs)] else["mv",sY (gp old cs),sY (gq new cs)]
structure Na (l:List Str):Prop where
 n:l.length <= 1000
 ha:∀q∈l,eO q "/"=true
 hl:∀q∈l,q.length <= 100000 /\ (Txt.split q "/").length <= 1000 /\ ∀z∈Txt.split q "/",z.length <= 100000
 hj:∀p ps,l=p::ps->nP "/" (eD p ps)=true /\ bA "/"+(bw "/" (eD p ps)).length <= aO
theorem yy (w:aB) (l:List Str) (h:Na l) (d:l≠[]):Fn pw w (Tw w) 11 (.ref 382) [.lst (l.map .str)] [] (Is (.str (sY l)) []):=by
 cases l with
 |nil=>exact absurd rfl d
 |cons p ps=>exact(Gc w p ps h.n h.ha h.hl (h.hj p ps rfl).1 (h.hj p ps rfl).2).le (by decide)
theorem Dy {α β:Type} {f:α->List β} {l:List α} {i:Nat} {x:α} (h:l[i]?=some x):(l.take (i+1)).flatMap f=(l.take i).flatMap f++f x:=by
 rw[bY,h,cr,kH];simp
theorem EZ {α β:Type} {f:α->List β}:∀{l:List α},(∀x∈l,(f x).length <= b)->(l.flatMap f).length <= l.length*b
 |[],_=>aU _
 |x::l,h=>by
  rw[bR,aF,aE,w9,w'];have h1:=h x (ag ..);have h2:=EZ (l:=l) (λ y hy=>h y (ao _ hy));exact NS h1 h2
structure J8 (old new:List Str) (cs:List gL):Prop where
 o:old.length <= 1000
 n:new.length <= 1000
 c:cs.length <= 1000
 g:Na (gp old cs)
 h:Na (gq new cs)
 some_:gp old cs=[]->gq new cs≠[]
 ok1:∀x∈gp old cs,okS x
 ok2:∀x∈gq new cs,okS x
theorem Nb (w:aB) (old new:List Str) (cs:List gL) (H:J8 old new cs):Fn pw w (Tw w) 12 (.ref 1133) [.lst (old.map .str),.lst (new.map .str),.lst (cs.map dC)] [] (Is (.lst ((toldBack old new cs).map .str)) []):=by
 injections w old new cs H;have ho:=H.o;have hn:=H.n;have hc:=H.c;refine dF ["old","new","codes"] [("old",.lst (old.map .str)),("new",.lst (new.map .str)),("codes",.lst (cs.map dC))] (J3 w) (ff w) ?_ rfl (by rfl') (by rfl') (by rfl') ?_
 .exact Fx λ v v2 v3=>rfl
 .intros A L B ok
  conv=>arg 4;whnf
  ext new;intros a;ext bind;ext new;intros b;ext bind;refine' lA (eZ ok (ds:=cs.map dC) ?c1) (λ i=>[("old",.lst (old.map .str)),("new",.lst (new.map .str)),("gone",.val (.ref a)),("come",.val (.ref b))]) (λ i=>[(a,.list ((gp old (cs.take i)).map .str)),(b,.list ((gq new (cs.take i)).map .str))]) ?c2 ?c3 ?c4 ?c5;ext c1 ev c2 sub
  case c3=>show cv _ [(a,.list []),(b,.list [])] [];ext takes
  case c4=>
   intros i d hd p;rw[a9,cN] at hd;have⟨⟨tag,i1,i2,j1,V⟩,hx,rfl⟩:=hd;have hi:i<cs.length:=(au.mp hx).1;have g1:gp old (cs.take (i+1))=gp old (cs.take i)++(if tag≠("equal":Str) then yw i1 i2 old else[]):=Dy hx;have g2:gq new (cs.take (i+1))=gq new (cs.take i)++(if tag≠("equal":Str) then yw j1 V new else[]):=Dy hx;have t:(gp old (cs.take i)).length <= 1000*1000:=by
    refine aL (EZ (b:=1000) λ c _=>?_) (jP _ (by simp;exact P8 hc hi (bO _ _)))
    split
    .exact aL (yx _ _ _) ho
    .simp
   have u:(gq new (cs.take i)).length <= 1000*1000:=by
    refine aL (EZ (b:=1000) λ c _=>?_) (jP _ (by simp;exact P8 hc hi (bO _ _)))
    split
    .exact aL (yx _ _ _) hn
    .simp
   rw[g1,g2]
   with_reducible refine' ⟨_,?X0,?kk⟩
   ext X0 as;ext ite
   .intros t1;have t1:=of_decide_eq_true t1;rw[if_pos t1,if_pos t1];have s1:=yx (some (i1:Int)) (some (i2:Int)) (old.map D.str);have s2:=yx (some (j1:Int)) (some (V:Int)) (new.map D.str);rw[ah] at s1 s2;have z1:((gp old (cs.take i)).map D.str).length+(sl (some (i1:Int)) (some (i2:Int)) (old.map D.str)).length <= aO:=by rw[ay,ah];exact Ow ho t s1
    have z2:((gq new (cs.take i)).map D.str).length+(sl (some (j1:Int)) (some (V:Int)) (new.map D.str)).length <= aO:=by rw[ay,ah];exact Ow hn u s2
    ext st;ext st;refine aY (aY ⟨by ext sub,?_⟩);unfold yw;rw[EY,EY,av,av];ext takes
   .intros t1;have t1:=of_decide_eq_false t1;rw[if_neg t1,if_neg t1,ax,ax];exact aY (aY ⟨by ext sub,by ext takes⟩)
  case c5=>
   rw[ah,bF];have hg:=H.g;have hh:=H.h;have hs:=H.some_;have o1:=SQ H.ok1;have o2:=SQ H.ok2;have fg:=yy w _ hg;have M:=yy w _ hh;unfold toldBack;generalize gp old cs=X at*;generalize gq new cs=Y at*;refine' gd (x:="gone") (a:=a) (vf.mem ?t1) .head ?t2 ?t3;ext t1 has t2 put;refine' gd (x:="come") (a:=b) (vf.mem ?u1) .head ?u2 ?u3;ext u1 has u2 put;have he:∀(Z:List Str) G W,(gI (Z.map .str)).canLay0=true->eM (Cw w A (cx (fb 1133) L 1133) B) G W (.lst (Z.map .str)) (.lst []) (.bool (decide (Z=[]))) (bq .Eq):=λ Z G W o=>IY (c:=Cw w A (cx (fb 1133) L 1133) B) ok encStr.list (by decide) (a:=Z) (b:=[]) o rfl
   with_reducible refine' dY (cp ?v1 ?v2 (he X _ _ o1)) ?v3 ?v4
   ext v1 ev v2 ev
   case v3=>
    intros t;have t:=of_decide_eq_true t;have M:=M (hs t);ext ret;exact⟨[],_,.nil,by rw[if_pos t];rfl,rfl⟩
   case v4=>
    intros t;have t:=of_decide_eq_false t;have fg:=fg t;ext st
    with_reducible refine' dY (cp ?w1 ?w2 (he Y _ _ o2)) ?w3 ?w4
    ext w1 ev w2 ev
    case w3=>
     intros u;have u:=of_decide_eq_true u;ext ret;exact⟨[],_,.nil,by rw[if_neg t,if_pos u];rfl,rfl⟩
    case w4=>
     intros u;have u:=of_decide_eq_false u;have M:=M u;ext st;ext ret;exact⟨[],_,.nil,by rw[if_neg t,if_neg u];rfl,rfl⟩
structure TH (old new:List Str):Prop where
 o:old.length <= 1000
 n:new.length <= 1000
 same:lQ old new 0 0
 ok1:∀x∈old,okS x
 ok2:∀x∈new,okS x
theorem E0 (w:aB) (old new:List Str) (V:TH old new):Fn pw w (Tw w) 4 (.ref 1126) [.lst (old.map .str),.lst (new.map .str)] [] (Is (.lst ((dm old new).map dC)) []):=by
 injections w old new V;have ho:=V.o;have hn:=V.n;have ψ:(old.map D.str).length<2^62:=by simp;exact Ox ho
 have χ:(new.map D.str).length<2^62:=by simp;exact Ox hn
 refine dF ["old","new"] [("old",.lst (old.map .str)),("new",.lst (new.map .str))] (J2 w) (ff w) ?_ rfl (by rfl') (by rfl') (by rfl') ?_
 .exact pn λ v v2=>rfl
 .intros A L B ok
  conv=>arg 4;whnf
  ext new;intros a;ext bind;ext st;ext st;have η:∀(x:Str) (l:List Str) G W,okS x->(∀y∈l,okS y)->eM (Cw w A (cx (fb 1126) L 1126) B) G W (.str x) (.lst (l.map .str)) (.bool (decide (x∉l))) (bq .NotIn):=λ x l G W o1 o2=>An (c:=Cw w A (cx (fb 1126) L 1126) B) ok encStr (by decide) o1 (x9 o2);refine' kc (σ:=Nat×Nat×List gL×Nat) (λ st=>(old.length-st.1)+(new.length-st.2.1))
   (λ st=>st.1 <= old.length /\ st.2.1 <= new.length /\ lQ old new st.1 st.2.1 /\ st.2.2.1++dP old new st.2.2.2 st.1 st.2.1=dm old new /\ (old.length-st.1)+(new.length-st.2.1)<st.2.2.2 /\ st.2.2.1.length+2*st.2.2.2 <= 2*(old.length+new.length+1))
   (λ st=>[("old",.lst (old.map .str)),("new",.lst (new.map .str)),("codes",.val (.ref a)),("i",.int st.1),("j",.int st.2.1)]) (λ st=>[(a,.list (st.2.2.1.map dC))]) (0,0,[],old.length+new.length+1) ?a1 ?a2 ?a3 ?a4
  case a1=>exact⟨aU _,aU _,V.same,rfl,by simp,by simp⟩
  case a2=>show Sub [("old",D.lst (old.map .str)),("new",.lst (new.map .str)),("codes",.val (.ref a)),("i",.int 0),("j",.int 0)] _;ext sub
  case a3=>show cv _ [(a,.list [])] [];ext takes
  case a4=>
   refine Fu ?_;intros i j cs z h_;have⟨hi,hj,M,θ,hm,hl⟩:=h_
   try dsimp only at hi hj M θ hm hl⊢
   by_cases hc:i<old.length \/ j<new.length
   .left
    constructor
    .exact Tt.cast (by ext tt) (by simp;exact hc.elim (λ q=>.inl q) λ q=>.inr q)
    .ext st;ext st;refine' kc (σ:=Nat) (λ q=>old.length-q) (λ q=>i <= q /\ q <= old.length /\ aW old new q=aW old new i) (λ q=>[("old",.lst (old.map .str)),("new",.lst (new.map .str)),("codes",.val (.ref a)),("i",.int q),("j",.int j),("i1",.int i),("j1",.int j)]) (λ _=>[(a,.list (cs.map dC))]) i ?b1 ?b2 ?b3 ?b4
     case b1=>exact⟨aR _,hi,rfl⟩
     ext b2 sub b3 takes
     case b4=>
      intros q h_;have⟨q1,q2,q3⟩:=h_;by_cases hs:aW old new q=q
      .right
       constructor
       .by_cases h1:q<old.length
        .have hx:(old.map D.str)[((q:Int)).toNat]?=some (.str old[q]):=by simp[h1]
         have h2:old[q]∈new:=by
          by_cases z:old[q]∈new
          .exact z
          .have e:=lh (am h1) z;have g:=gf (l:=old) (o:=new) (i:=q+1);exact(LF hs e g).elim
         have ι:=η old[q] new [("old",.lst (old.map .str)),("new",.lst (new.map .str)),("codes",.val (.ref a)),("i",.int q),("j",.int j),("i1",.int i),("j1",.int j)] [(a,.list (cs.map dC))] (V.ok1 _ (cE h1)) V.ok2;exact ce (eN.step (Tt.cast (by ext tt) (by simp;exact h1)) (eN.last (Tt.cast (by ext tt) (by simp[h2]))))
        .exact ce (eN.miss (Tt.cast (by ext tt) (by simp;exact tG h1)))
       .rw[hs] at q3;subst q3;generalize μ:aW old new i=d at*;have ρ:d <= old.length:=q2;refine' kc (σ:=Nat) (λ q=>new.length-q) (λ q=>j <= q /\ q <= new.length /\ aW new old q=aW new old j) (λ q=>[("old",.lst (old.map .str)),("new",.lst (new.map .str)),("codes",.val (.ref a)),("i",.int d),("j",.int q),("i1",.int i),("j1",.int j)]) (λ _=>[(a,.list (cs.map dC))]) j ?c1 ?c2 ?c3 ?c4
        case c1=>exact⟨aR _,hj,rfl⟩
        ext c2 sub c3 takes
        case c4=>
         intros q h_;have⟨p1,p2,p3⟩:=h_;by_cases ζ:aW new old q=q
         .right
          constructor
          .by_cases h1:q<new.length
           .have hx:(new.map D.str)[((q:Int)).toNat]?=some (.str new[q]):=by simp[h1]
            have h2:new[q]∈old:=by
             by_cases z:new[q]∈old
             .exact z
             .have e:=lh (am h1) z;have g:=gf (l:=new) (o:=old) (i:=q+1);exact(LF ζ e g).elim
            have ι:=η new[q] old [("old",.lst (old.map .str)),("new",.lst (new.map .str)),("codes",.val (.ref a)),("i",.int d),("j",.int q),("i1",.int i),("j1",.int j)] [(a,.list (cs.map dC))] (V.ok2 _ (cE h1)) V.ok1;exact ce (eN.step (Tt.cast (by ext tt) (by simp;exact h1)) (eN.last (Tt.cast (by ext tt) (by simp[h2]))))
           .exact ce (eN.miss (Tt.cast (by ext tt) (by simp;exact tG h1)))
          .rw[ζ] at p3;subst p3;generalize κ:aW new old j=u at*;have ω:(cs.map dC).length <= aO:=by rw[ay,ah];exact(lz 2289495038913345334287833736434525234521877647412) ho hn hl
           refine sR (b:=decide (d>i /\ u>j)) [("old",.lst (old.map .str)),("new",.lst (new.map .str)),("codes",.val (.ref a)),("i",.int d),("j",.int u),("i1",.int i),("j1",.int j)] [(a,.list ((cs++cT i d j u).map dC))] (Tt.cast (by ext tt) (by simp)) (λ b1=>?_) (λ b1=>?_) ?_
           .have b1:=of_decide_eq_true b1;ext st;refine aY ⟨by ext sub,?_⟩;unfold cT;rw[if_pos b1,av,aq,aX];ext takes
           .have b1:=of_decide_eq_false b1;refine dY (b:=decide (d>i)) (Tt.cast (by ext tt) (by simp)) (λ b2=>?_) (λ b2=>?_)
            .have b2:=of_decide_eq_true b2;ext st;refine aY (aY ⟨by ext sub,?_⟩);unfold cT;rw[if_neg b1,if_pos b2,av,aq,aX];ext takes
            .have b2:=of_decide_eq_false b2;refine dY (b:=decide (u>j)) (Tt.cast (by ext tt) (by simp)) (λ b3=>?_) (λ b3=>?_)
             .have b3:=of_decide_eq_true b3;ext st;refine aY (aY (aY ⟨by ext sub,?_⟩));unfold cT;rw[if_neg b1,if_neg b2,if_pos b3,av,aq,aX];ext takes
             .have b3:=of_decide_eq_false b3;refine aY (aY (aY ⟨by ext sub,?_⟩));unfold cT;rw[if_neg b1,if_neg b2,if_neg b3,ax];ext takes
           .have ο:u <= new.length:=p2;ext st;ext st;refine' kc (σ:=Nat) (λ t=>old.length-(d+t)) (λ t=>d+t <= old.length /\ u+t <= new.length /\ jm old new (d+t) (u+t)+t=jm old new d u) (λ t=>[("old",.lst (old.map .str)),("new",.lst (new.map .str)),("codes",.val (.ref a)),("i",.int (d+t:Nat)),("j",.int (u+t:Nat)),("i1",.int d),("j1",.int u)]) (λ _=>[(a,.list ((cs++cT i d j u).map dC))]) 0 ?e1 ?e2 ?e3 ?e4
            case e1=>exact⟨ρ,ο,rfl⟩
            case e2=>show Sub [("old",.lst (old.map .str)),("new",.lst (new.map .str)),("codes",.val (.ref a)),("i",.int d),("j",.int u),("i1",.int d),("j1",.int u)] _;ext sub
            ext e3 takes
            case e4=>
             intros t h_;have⟨t1,t2,t3⟩:=h_
             skip
             have X0:cT i d j u=cT i d j u:=rfl;by_cases hr:jm old new (d+t) (u+t)=0
             .right
              constructor
              .generalize d+t=I at*;generalize u+t=J at*;by_cases h1:I<old.length
               .by_cases h2:J<new.length
                .have hx:(old.map D.str)[((I:Int)).toNat]?=some (.str old[I]):=by simp[h1]
                 have hy:(new.map D.str)[((J:Int)).toNat]?=some (.str new[J]):=by simp[h2]
                 have h3:old[I]≠new[J]:=λ e=>by
                  have:=jL (am h1) (by rw[e];exact am h2);exact Oy hr this
                 exact ce (eN.step (Tt.cast (by ext tt) (by simp;exact h1)) (eN.step (Tt.cast (by ext tt) (by simp;exact h2)) (eN.last (Tt.cast (by ext tt) (by simp[h3])))))
                .exact ce (eN.step (Tt.cast (by ext tt) (by simp;exact h1)) (eN.miss (Tt.cast (by ext tt) (by simp;exact tG h2))))
               .exact ce (eN.miss (Tt.cast (by ext tt) (by simp;exact tG h1)))
              .have ht:t=jm old new d u:=ai ((lz 36318547611667) t3) ((lz 10381396409605820451) t3 hr);have hI:zB old new i j=d+t:=by unfold zB;rw[μ,κ,ht]
               have hJ:BA old new i j=u+t:=by unfold BA;rw[μ,κ,ht]
               have υ:mq old new i j=cT i d j u++dS d (d+t) u (u+t):=by unfold mq;rw[hI,hJ,μ,κ]
               obtain⟨z',rfl⟩:∃z',z=z'+1:=⟨z-1,ai dX (Oz (dE ((lz 581096493879315) hm)))⟩;have ν:dP old new (z'+1) i j=mq old new i j++dP old new z' (d+t) (u+t):=by
                rw[QB,if_pos hc,hI,hJ]
               have γ:=FQ M hi hj hc;have τ:=I2 (old:=old) (new:=new) (i:=i) (j:=j);rw[hI,hJ] at γ τ;have ε:lQ old new (d+t) (u+t):=by have:=Ap M;rw[hI,hJ] at this;exact this
               have l1:(cT i d j u).length <= 1:=by unfold cT;split<;>(try split)<;>(try split)<;>simp
               have l2:(dS d (d+t) u (u+t)).length <= 1:=by unfold dS;split<;>simp
               have φ:((cs++cT i d j u).map dC).length <= aO:=by rw[ay,ah,aF];exact(lz 2536343820664230585050237162040377819725417782283195610828869) ho hn hl l1
               have fin:Sub [("old",D.lst (old.map .str)),("new",.lst (new.map .str)),("codes",.val (.ref a)),("i",.int (d+t:Nat)),("j",.int (u+t:Nat))] [("old",.lst (old.map .str)),("new",.lst (new.map .str)),("codes",.val (.ref a)),("i",.int (d+t:Nat)),("j",.int (u+t:Nat)),("i1",.int d),("j1",.int u)]:=by ext sub
               have nx:∀W',cv W' [(a,.list (((cs++cT i d j u)++dS d (d+t) u (u+t)).map dC))] []->∃H:Nat×Nat×List gL×Nat,(old.length-H.1)+(new.length-H.2.1)<(old.length-i)+(new.length-j) /\ (H.1 <= old.length /\ H.2.1 <= new.length /\ lQ old new H.1 H.2.1 /\ H.2.2.1++dP old new H.2.2.2 H.1 H.2.1=dm old new /\ (old.length-H.1)+(new.length-H.2.1)<H.2.2.2 /\ H.2.2.1.length+2*H.2.2.2 <= 2*(old.length+new.length+1)) /\ Sub [("old",.lst (old.map .str)),("new",.lst (new.map .str)),("codes",.val (.ref a)),("i",.int H.1),("j",.int H.2.1)] [("old",.lst (old.map .str)),("new",.lst (new.map .str)),("codes",.val (.ref a)),("i",.int (d+t:Nat)),("j",.int (u+t:Nat)),("i1",.int d),("j1",.int u)] /\ cv W' [(a,.list (H.2.2.1.map dC))] []:=λ W' tk=>
                ⟨(d+t,u+t,(cs++cT i d j u)++dS d (d+t) u (u+t),z'),by dsimp only;exact hc.elim (λ q=>γ.elim (λ r=>OA p1 r dX dX (dE t2) (dE t1)) λ r=>OB q1 r dX dX (dE t2) (dE t1)) λ q=>γ.elim (λ r=>OA p1 r dX dX (dE t2) (dE t1)) λ r=>OB q1 r dX dX (dE t2) (dE t1),⟨t1,t2,ε,by dsimp only;rw[<-θ,ν,υ];simp,by dsimp only;exact hc.elim (λ q=>γ.elim (λ r=>OC p1 hm r dX dX (dE t2) (dE t1)) λ r=>OD q1 hm r dX dX (dE t2) (dE t1)) λ q=>γ.elim (λ r=>OC p1 hm r dX dX (dE t2) (dE t1)) λ r=>OD q1 hm r dX dX (dE t2) (dE t1),by dsimp only;rw[aF,aF];exact(lz 650910960777225946030865483942864067620208630706535084860117046) hl l1 l2⟩,fin,tk⟩
               refine dY (b:=decide (d+t>d)) (Tt.cast (by ext tt) (by simp;omega)) (λ b1=>?_) (λ b1=>?_)
               .have b1:=of_decide_eq_true b1;ext st;refine aY (aY (nx _ ?_));unfold dS;rw[if_pos b1,av (l₁:=(cs++cT i d j u)),aq,aX];ext takes
               .have b1:=of_decide_eq_false b1;refine aY (aY (nx _ ?_));unfold dS;rw[if_neg b1,ax];ext takes
             .left
              obtain⟨h1,h2,h3⟩:d+t<old.length /\ u+t<new.length /\ old[d+t]?=new[u+t]?:=by
               by_cases z:d+t<old.length /\ u+t<new.length /\ old[d+t]?=new[u+t]?
               .exact z
               .exact absurd (qo z) hr
              have hx:(old.map D.str)[(((d+t:Nat):Int)).toNat]?=some (.str old[d+t]):=by rw[eI];simp[h1]
              have hy:(new.map D.str)[(((u+t:Nat):Int)).toNat]?=some (.str new[u+t]):=by rw[eI];simp[h2]
              have h4:old[d+t]=new[u+t]:=by rw[am h1,am h2] at h3;exact jr h3
              have ξ:=jL (am h1) (by rw[h4];exact am h2);constructor
              .exact ce (eN.step (Tt.cast (by ext tt) (by simp;exact OE h1)) (eN.step (Tt.cast (by ext tt) (by simp;exact OE h2)) (eN.last (Tt.cast (by ext tt) (by simp[h4])))))
              .ext st;ext st;have δ:((d+t:Nat):Int)+1=((d+(t+1):Nat):Int):=eS OF OG;have hc2:((u+t:Nat):Int)+1=((u+(t+1):Nat):Int):=eS OF OG;rw[δ,hc2];exact aY ⟨t+1,by show old.length-(d+(t+1))<old.length-(d+t);exact(lz 7805015315568186873343119653) dX (dE (P9 h1)),⟨P9 h1,P9 h2,by rw[show d+(t+1)=d+t+1 from rfl,show u+(t+1)=u+t+1 from rfl];exact ai ((lz 7804830737325001774804242468) t3 ξ) ((lz 7804830442177113605321920548) t3 ξ)⟩,by ext sub,by ext takes⟩
         .left
          have h1:q<new.length:=by
           by_cases z:q<new.length
           .exact z
           .exact absurd (ya (cO z)) ζ
          have hx:(new.map D.str)[((q:Int)).toNat]?=some (.str new[q]):=by simp[h1]
          have β:new[q]?=some new[q]:=am h1;have h2:new[q]∉old:=λ z=>ζ (wN β z);have ι:=η new[q] old [("old",.lst (old.map .str)),("new",.lst (new.map .str)),("codes",.val (.ref a)),("i",.int d),("j",.int q),("i1",.int i),("j1",.int j)] [(a,.list (cs.map dC))] (V.ok2 _ (cE h1)) V.ok1;constructor
          .exact ce (eN.step (Tt.cast (by ext tt) (by simp;exact h1)) (eN.last (Tt.cast (by ext tt) (by simp[h2]))))
          .ext st;have δ:(q:Int)+1=((q+1:Nat):Int):=eS Qa Qb;rw[δ];exact aY ⟨q+1,by show new.length-(q+1)<new.length-q;exact KP dX (dE (zu h1)),⟨P7 p1,h1,by rw[lh β h2,p3]⟩,by ext sub,by ext takes⟩
      .left
       have h1:q<old.length:=by
        by_cases z:q<old.length
        .exact z
        .exact absurd (ya (cO z)) hs
       have hx:(old.map D.str)[((q:Int)).toNat]?=some (.str old[q]):=by simp[h1]
       have β:old[q]?=some old[q]:=am h1;have h2:old[q]∉new:=λ z=>hs (wN β z);have ι:=η old[q] new [("old",.lst (old.map .str)),("new",.lst (new.map .str)),("codes",.val (.ref a)),("i",.int q),("j",.int j),("i1",.int i),("j1",.int j)] [(a,.list (cs.map dC))] (V.ok1 _ (cE h1)) V.ok2;constructor
       .exact ce (eN.step (Tt.cast (by ext tt) (by simp;exact h1)) (eN.last (Tt.cast (by ext tt) (by simp[h2]))))
       .ext st;have δ:(q:Int)+1=((q+1:Nat):Int):=eS Qa Qb;rw[δ];exact aY ⟨q+1,by show old.length-(q+1)<old.length-q;exact KP dX (dE (zu h1)),⟨P7 q1,h1,by rw[lh β h2,q3]⟩,by ext sub,by ext takes⟩
   .right
    have e1:i=old.length:=ai hi (tG (not_or.1 hc).1);have e2:j=new.length:=ai hj (tG (not_or.1 hc).2);constructor
    .exact Tt.cast (by ext tt) (by simp;exact⟨PL e1,PL e2⟩)
    .have ν:dP old new z i j=[]:=by
      cases z with
      |zero=>rfl
      |succ z=>rw[QB,if_neg hc]
     rw[ν,ax] at θ;subst θ;refine' gd (x:="codes") (a:=a) (vf.mem ?t1) .head ?t2 ?t3;ext t1 has t2 put;ext ret;exact⟨[],_,.nil,rfl,rfl⟩
theorem yz {α:Type} (a:α) (l:List α):sl (some (1:Int)) none (a::l)=l:=FD 1 (a::l)
def fH (d:List Int):List Int:=[569,60]++d.take 6
abbrev nE (b:List (List fF)):List D:=b.map λ r=>.lst (r.map dT)
abbrev sd (b:List (List Str)):List D:=b.map dL
theorem J9 (rows:List fF) (x:Int):((bm rows).map dT)[(BB rows x).toNat]?=some (dT (cR rows x)):=by
 have h:=BC (rows:=rows) (y:=x.fdiv 3);have h2:(BB rows x).toNat<(bm rows).length:=(vU h.1).2 h.2;unfold cR;rw[a9,bu,am h2];rfl
theorem J' (rows:List fF) (x:Int):((bm rows).map dT)[(mc rows x).toNat]?=some (dT ((bm rows).getD (mc rows x).toNat [])):=by
 have h:=BC (rows:=rows) (y:=restOf rows x);have h2:(mc rows x).toNat<(bm rows).length:=(vU h.1).2 h.2;rw[a9,bu,am h2];rfl
theorem Ge (rows:List fF) (x:Int):0 <= iB rows x /\ iB rows x<4:=by
 unfold iB;exact⟨lN _ (by decide),nW _ (by decide)⟩
theorem Nc (rows:List fF) (x:Int):([.str "a",.str "a b",.str "it's",.str "#"]:List D)[(iB rows x).toNat]?=some (.str (kC.getD (iB rows x).toNat "")):=by
 have h:=Ge rows x;have k:(iB rows x).toNat<4:=(vU h.1).2 h.2;generalize(iB rows x).toNat=j at k⊢;rcases j with _|_|_|_|j
 iterate 4 exact rfl
 exact absurd k (Fs.2 (kT 4 j))
theorem Gf (h:fV rows x=some (k,ns,rows')):ns.length <= 2 /\ ∀n∈ns,n=cR rows x \/ n=dG rows x:=by
 unfold fV at h;dsimp only at h
 split at h
 .cases h;exact⟨by simp,by simp⟩
 .split at h
  .cases h;exact⟨by simp,by simp⟩
  .split at h
   .cases h;exact⟨by simp,by simp⟩
   .cases h
theorem Gg {f:D->Option D} {p:fF->Bool} (h:∀r,f (dT r)=if p r=true then some (dT r) else none):∀rows:List fF,(rows.map dT).filterMap f=(rows.filter p).map dT
 |[]=>rfl
 |r::rows=>by
  rw[aq,fC,h,dc,Gg h rows];by_cases z:p r=true
  .rw[if_pos z,if_pos z];rfl
  .rw[if_neg z,if_neg z]
theorem B6 {f:D->Option D} {g:fF->D} {k:fF->D} (h:∀r,f (k r)=some (g r)):∀rows:List fF,(rows.map k).filterMap f=rows.map g
 |[]=>rfl
 |r::rows=>by rw[aq,fC,h,B6 h rows];rfl
def vv (d:D):Option D:=some (.str (ar (mA d)))
def wi (y:Int) (d:D):Option D:=some (.str (fp (mA d) y))
theorem AG (ns:List fF):(ns.map dT).filterMap vv=ns.map λ n=>.str (ar n):=B6 (λ r=>by show some (D.str (ar (mA (dT r))))=_;rw[eJ]) ns
theorem E1 (y:Int) (ns:List fF):(ns.map dT).filterMap (wi y)=ns.map λ n=>.str (fp n y):=B6 (λ r=>by show some (D.str (fp (mA (dT r)) _))=_;rw[eJ]) ns
theorem HP (j:Nat):okS (kC.getD j "") /\ (kC.getD j "").length <= 1000:=by
 rcases j with _|_|_|_|j
 .exact⟨by unfold okS;rfl',by rfl'⟩
 .exact⟨by unfold okS;rfl',by rfl'⟩
 .exact⟨by unfold okS;rfl',by rfl'⟩
 .exact⟨by unfold okS;rfl',by rfl'⟩
 .rw[bu,eL (kT 4 j)];exact⟨by unfold okS;rfl',by rfl'⟩
theorem qt {P:fF->Prop} (h0:P []) (h:∀r∈rows,P r) (j:Nat):P ((bm rows).getD j []):=by
 by_cases z:j<(bm rows).length
 .rw[bu,am z];have:=cE z;rcases ap.mp this with e|e
  .show P ((bm rows)[j]);rw[e];exact h0
  .exact h _ e
 .rw[bu,eL (cO z)];exact h0
theorem Q8 (h:CX rows x):(∀y∈cR rows x,okS y) /\ Wd 90 1000 (cR rows x):=
 ⟨qt (P:=λ r=>∀y∈r,okS y) (λ y hy=>nomatch hy) h.okS _,qt (P:=λ r=>Wd 90 1000 r) ⟨by simp,λ y hy=>nomatch hy⟩ h.len _⟩
theorem Q9 (h:CX rows x):(∀y∈dG rows x,okS y) /\ Wd 100 1000 (dG rows x) /\ dG rows x≠[]:=by
 have h1:=qt (P:=λ r=>∀y∈r,okS y) (λ y hy=>nomatch hy) h.okS (mc rows x).toNat;have h2:=qt (P:=λ r=>Wd 90 1000 r) ⟨by simp,λ y hy=>nomatch hy⟩ h.len (mc rows x).toNat;have h3:=HP (iB rows x).toNat;unfold dG;refine⟨λ y hy=>?_,⟨?_,λ y hy=>?_⟩,by simp⟩
 .rcases aQ.mp hy with q|q
  .exact h1 y q
  .rw[aw.mp q];exact h3.1
 .have:=h2.1;rw[aF];simp only[aE,bp];exact(lz 26611738783066840633361) this
 .rcases aQ.mp hy with q|q
  .exact h2.2 y q
  .rw[aw.mp q];exact h3.2
theorem Ka {c:Cx} {G:Gm} {W:Om} {n:Nat} (ok:Ok c n) {r old:fF} (hr:∀y∈r,okS y) (d:∀y∈old,okS y):eM c G W (.tup ((r.map D.str).take (old.map D.str).length)) (dT old) (.bool (decide (r.take old.length=old))) (bq .Eq):=by
 rw[<-mx,ah];exact D8 (congrArg (λ b=>eM c G W (.tup ((r.take old.length).map D.str)) (dT old) (.bool b) (bq .Eq)) (cQ.mpr (by simp only[decide_eq_true_iff]))) (IY (c:=c) (G:=G) (W:=W) ok encStr.tup (by decide) (a:=r.take old.length) (b:=old) (Mr λ y hy=>hr y (mP hy)) (Mr d))
theorem Kb {c:Cx} {G:Gm} {W:Om} {n:Nat} (ok:Ok c n) {r old:fF} (hr:∀y∈r,okS y) (d:∀y∈old,okS y):eM c G W (.tup ((r.map D.str).take (old.map D.str).length)) (dT old) (.bool (decide (r.take old.length≠old))) (bq .NotEq):=by
 rw[<-mx,ah];exact D8 (congrArg (λ b=>eM c G W (.tup ((r.take old.length).map D.str)) (dT old) (.bool b) (bq .NotEq)) (cQ.mpr (by simp only[decide_eq_true_iff]))) (rX (c:=c) (G:=G) (W:=W) ok encStr.tup (by decide) (a:=r.take old.length) (b:=old) (Mr λ y hy=>hr y (mP hy)) (Mr d))
def Uy (old:fF) (d:D):Option D:=if decide ((mA d).take old.length≠old) then some d else none
def Uz (old new:fF) (d:D):Option D:=some (dT (ec old new (mA d)))
theorem E2:∀(xs:List Int) (st:DS),(xs.foldl dp st).books.length <= st.books.length+xs.length /\ (xs.foldl dp st).deeds.length <= st.deeds.length+xs.length /\ (xs.foldl dp st).words.length <= st.words.length+3*xs.length:=by
 intro xs
 induction xs with
 |nil=>
  intro st;simp
 |cons x xs d=>
  intro st;have h:=d (dp st x);have h2:(dp st x).books.length <= st.books.length+1 /\ (dp st x).deeds.length <= st.deeds.length+1 /\ (dp st x).words.length <= st.words.length+3:=by
   unfold dp;cases q:fV st.rows x with
   |none=>simp
   |some z=>
    obtain⟨k,ns,r⟩:=z;have:=(Gf q).1;simp only[aF,aE,bp,ah];exact⟨OH,⟨OH,(lz 12102233104427534258194) this⟩⟩
  rw[bf,aE];exact⟨LJ h.1 h2.1,⟨LJ h.2.1 h2.2.1,(lz 297098083432098016878237329074950180) h.2.2 h2.2.2⟩⟩
theorem Xh:Nonempty DS:=⟨⟨[],[],[],[]⟩⟩
theorem Kc (w:aB) (t:List Int) (hn:t.length <= 1000000) (hw:∀i x,(fH t)[i]?=some x->CX (drawn ((fH t).take i)).rows x):
  Fn pw w (Tw w) 8 (.ref 1100) [.lst (t.map .int)] [] (Is (.tup [.lst (nE (drawn (fH t)).books),.lst (sd (drawn (fH t)).deeds),.lst ((drawn (fH t)).words.map .str)]) []):=by
 injections w t hn hw;refine Ae ["script"] [("script",.lst (t.map .int))] (λ L=>[("dress",L+3),("new",L+2),("old",L+1)]) (Q1 w) (ff w) ?_ rfl (by rfl') (by rfl') ?_ ?_ ?_
 .exact ku λ v=>rfl
 .intro L
  rfl
 .intro L p hp;simp only[ap,aK,or_false] at hp;rcases hp with rfl|rfl|rfl<;>rfl
 .intros A L B ok
  conv=>arg 4;whnf
  simp only[aq,aX,bh,be];ext st;ext new;intros a1;ext bind;ext new;intros a2;ext bind;ext new;intros a3;ext bind;have Y5:([.int 569,.int 60]++sl none (some (6:Int)) (t.map D.int))=(fH t).map D.int:=by
   rw[EY,show(6:Int)=((6:Nat):Int) from rfl,Bm];simp[fH]
  refine' Bz (σ:=DS×Option D×Option D×Option D) (eZ ok (ds:=(fH t).map .int) ?c1) (λ i st=>st.1=drawn ((fH t).take i)) (λ i st=>[("rows",.lst (st.1.rows.map dT)),("books",.val (.ref a1)),("deeds",.val (.ref a2)),("words",.val (.ref a3))])
   (λ i st=>[(a1,.list (nE st.1.books)),(a2,.list (sd st.1.deeds)),(a3,.list (st.1.words.map .str)),(L+3,.cell st.2.1),(L+2,.cell st.2.2.1),(L+1,.cell st.2.2.2)]) (drawn [],none,none,none) rfl ?c2 ?c3 ?c4 ?c5
  case c1=>
   rw[<-Y5]
   with_reducible refine' kB ?b1 (oM ?b2 ?b3 ?b4 ?b5) (mB ?b6)
   ext b1 ev b2 ev b3 evo b4 evo
   case b5=>rw[ah,ay];exact Qc hn
   case b6=>have:=yx none (some (6:Int)) (t.map D.int);rw[ah] at this;simp only[aE,bp,ay];exact(lz 5279691917522042363741474850) hn this
  case c2=>show Sub [("rows",.lst [.tup [.str "a"],.tup [.str "a",.str "a b"],.tup [.str "it's"]]),("books",D.val (.ref a1)),("deeds",.val (.ref a2)),("words",.val (.ref a3))] _;ext sub
  case c3=>show cv _ [(a1,.list [.lst [.tup [.str "a"],.tup [.str "a",.str "a b"],.tup [.str "it's"]]]),(a2,.list []),(a3,.list []),(L+3,.cell none),(L+2,.cell none),(L+1,.cell none)] [];ext takes
  case c4=>
   intros i d hd;refine Fu ?_;intros st co cn cd hI p
   try dsimp only at hI⊢
   rw[a9,cN] at hd;have⟨x,hx,rfl⟩:=hd;have hR:=hw i x hx;rw[<-hI] at hR;have μ:st.books.length <= i+1 /\ st.deeds.length <= i /\ st.words.length <= 3*i:=by
    have h:=E2 ((fH t).take i) ⟨lC,[lC],[],[]⟩;have hl:((fH t).take i).length <= i:=by rw[bL];exact(bO _ _)
    rw[hI];unfold drawn;simp only[aE,bp] at h;exact⟨(lz 156134509604279014133795) h.1 hl,⟨(lz 38118759166671589411) h.2.1 hl,(lz 641945249197232429252743203) h.2.2 hl⟩⟩
   have ρ:i<8:=by
    have:=(au.mp hx).1;unfold fH at this;simp at this;exact(lz 127017520225803466433368354) this (bO _ _)
   have H:=Ez hx;rw[<-hI] at H;have V:=hR.n;have hrr:CX st.rows x:=hR
   with_reducible refine' ⟨_,?X0,?kk⟩
   ext X0 as;have hF:(bm st.rows).length=st.rows.length+1:=by unfold bm;simp
   have hFd:([.tup []]++st.rows.map dT:List D)=(bm st.rows).map dT:=rfl;have Y4:([.tup []]:List D).length+(st.rows.map dT).length <= aO:=by rw[ay,ah];simp;exact(lz 925363905815176024081) V
   with_reducible refine' jt (d:=.lst ((bm st.rows).map dT)) (hFd▸kB ?d1 ?d2 (mB Y4)) ?d3 ?d4
   ext d1 ev d2 ev d3 put;have X4:((((bm st.rows).map dT).length:Nat):Int)=((bm st.rows).length:Int):=by rw[ah]
   have Y3:((bm st.rows).map dT).length<2^62:=by rw[ah];exact(lz 30261240548639871761191202) V hF
   have hN0:((bm st.rows).length:Int)≠0:=λ q=>(lz 42529081474222276546338) hF q;have hN1:(0:Int)<((bm st.rows).length:Int):=(lz 7063267797702418) hF;have hN2:((bm st.rows).length:Int)<1000000:=(lz 1983200660595662835109320529698) V hF;have hlf:Fn pw w (Tw w) 7 (.builtin "len") [.lst ((bm st.rows).map dT)] [] (Is (.int ((bm st.rows).length:Int)) []):=by rw[<-X4];exact qm Y3
   have X1:((bm st.rows).map dT)[((x.fdiv 3).fmod ((bm st.rows).length:Int)).toNat]?=some (dT (cR st.rows x)):=J9 st.rows x;have X3:((bm st.rows).map dT)[((restOf st.rows x).fmod ((bm st.rows).length:Int)).toNat]?=some (dT ((bm st.rows).getD (mc st.rows x).toNat [])):=J' st.rows x;have ο:([.str "a",.str "a b",.str "it's",.str "#"]:List D)[(((restOf st.rows x).fdiv ((bm st.rows).length:Int)).fmod 4).toNat]?=some (.str (kC.getD (iB st.rows x).toNat "")):=Nc st.rows x;have X8:=BC (rows:=st.rows) (y:=x.fdiv 3);have X7:=BC (rows:=st.rows) (y:=restOf st.rows x);have X6:0 <= ((restOf st.rows x).fdiv ((bm st.rows).length:Int)).fmod 4 /\ ((restOf st.rows x).fdiv ((bm st.rows).length:Int)).fmod 4<4:=Ge st.rows x;have Z2:∀r∈bm st.rows,Wd 90 1000 r:=λ r hr=>by
    rcases ap.mp hr with rfl|hr
    .exact⟨by simp,λ y hy=>nomatch hy⟩
    .exact hR.len r hr
   have Y6:((bm st.rows).getD (mc st.rows x).toNat []).length <= 90:=by
    by_cases z:(mc st.rows x).toNat<(bm st.rows).length
    .rw[bu,am z];exact(Z2 _ (cE z)).1
    .rw[bu,eL (cO z)];simp
   have Y2:(((bm st.rows).getD (mc st.rows x).toNat []).map D.str).length+([D.str (kC.getD (iB st.rows x).toNat "")]:List D).length <= aO:=by rw[ay,ah];simp only[aE,bp];exact(lz 1663233668763951304721) Y6
   have ξ:D.tup (((bm st.rows).getD (mc st.rows x).toNat []).map D.str++[D.str (kC.getD (iB st.rows x).toNat "")])=dT (dG st.rows x):=by unfold dG;show _=D.tup (sI D.str (_++_));rw[av];rfl
   with_reducible refine' jl (bS ?e1 ?e2 ?e3 ?e4 X1) ?e5 ?e6 ?e7
   ext e1 ev e2 ev
   case e3=>exact X8.1
   case e4=>have:=X8.2;omega
   case e5=>with_unfolding_all rfl
   ext e6 take
   with_reducible refine' jt (d:=.int (restOf st.rows x)) (Ev.cast (a:=.int ((x.fdiv 3).fdiv ((bm st.rows).length:Int))) ?f1 ?f2) ?f3 ?f4
   ext f1 ev
   case f2=>rfl
   ext f3 put
   with_reducible refine' jl (d:=dT (dG st.rows x)) (Ev.cast (kB (bS ?g1 ?g2 ?g3 ?g4 X3) (fa (bg (bS ?g5 ?g6 ?g7 ?g8 ο) bW)) (x0 Y2)) ξ) ?g9 ?g10 ?g11
   ext g1 ev g2 ev
   case g3=>exact X7.1
   case g4=>have:=X7.2;omega
   ext g5 ev g6 ev
   case g7=>exact X6.1
   case g8=>have:=X6.2;omega
   case g9=>with_unfolding_all rfl
   ext g10 take
   with_reducible refine' jl (d:=.int (gz st.rows x)) (Ev.cast (a:=.int (((restOf st.rows x).fdiv ((bm st.rows).length:Int)).fdiv 4)) ?h1 ?h2) ?h3 ?h4 ?h5
   ext h1 ev
   case h2=>rfl
   case h3=>with_unfolding_all rfl
   ext h4 take;have hO:=Q8 hR;have hN:=Q9 hR;have hOl:=hO.2.1;have υ:=hN.2.1.1;have Y8:eH (st.rows.map λ l=>Ct (l.map .str))=true:=x9 λ r hr=>Mr (hR.okS r hr);have β:∀G W,eM (Cw w A (callEnvC (fb 1100) L 1100) B) G W (dT (dG st.rows x)) (.lst (st.rows.map dT)) (.bool (decide (dG st.rows x∉st.rows))) (bq .NotIn):=λ G W=>
    D8 (congrArg (λ b=>eM (Cw w A (callEnvC (fb 1100) L 1100) B) G W (dT (dG st.rows x)) (.lst (st.rows.map dT)) (.bool b) (bq .NotIn)) (cQ.mpr (by simp only[decide_eq_true_iff]))) (An (c:=Cw w A (callEnvC (fb 1100) L 1100) B) ok encStr.tup (by decide) (a:=dG st.rows x) (Mr hN.1) Y8)
   have γ:∀G W,eM (Cw w A (callEnvC (fb 1100) L 1100) B) G W (dT (cR st.rows x)) (.tup []) (.bool (decide (cR st.rows x≠[]))) (bq .NotEq):=λ G W=>
    D8 (congrArg (λ b=>eM (Cw w A (callEnvC (fb 1100) L 1100) B) G W (dT (cR st.rows x)) (.tup []) (.bool b) (bq .NotEq)) (cQ.mpr (by simp only[decide_eq_true_iff]))) (rX (c:=Cw w A (callEnvC (fb 1100) L 1100) B) ok encStr.tup (by decide) (a:=cR st.rows x) (b:=[]) (Mr hO.1) rfl)
   have φ:∀G W,eM (Cw w A (callEnvC (fb 1100) L 1100) B) G W (.tup (((dG st.rows x).map D.str).take ((cR st.rows x).map D.str).length)) (dT (cR st.rows x)) (.bool (decide ((dG st.rows x).take (cR st.rows x).length≠cR st.rows x))) (bq .NotEq):=λ G W=>by
    rw[<-mx,ah];exact D8 (congrArg (λ b=>eM (Cw w A (callEnvC (fb 1100) L 1100) B) G W (.tup (((dG st.rows x).take (cR st.rows x).length).map D.str)) (dT (cR st.rows x)) (.bool b) (bq .NotEq)) (cQ.mpr (by simp only[decide_eq_true_iff]))) (rX (c:=Cw w A (callEnvC (fb 1100) L 1100) B) ok encStr.tup (by decide) (a:=(dG st.rows x).take (cR st.rows x).length) (b:=cR st.rows x) (Mr λ y hy=>hN.1 y (mP hy)) (Mr hO.1))
   have hm3:∀G W,eM (Cw w A (callEnvC (fb 1100) L 1100) B) G W (.int x) (.int 3) (.int (x.fmod 3)) (jQ .Mod):=λ G W=>Ej (by decide);cases u:fV st.rows x with
   |none=>
    have χ:=u;unfold fV at u;dsimp only at u
    split at u
    .cases u
    .next q1=>
     split at u
     .cases u
     .next q2=>
      split at u
      .cases u
      .next q3=>
       refine' br ?t1 ?k1
       case t1=>
        by_cases z:x.fmod 3=0
        .exact ce (eN.step (Tt.cast (by ext tt) (by simp[z])) (eN.last (Tt.cast (cp (by ext ev) (by ext ev) (β _ _)) (by simpa [z] using q1))))
        .exact ce (eN.miss (Tt.cast (by ext tt) (by simp[z])))
       case k1=>
        refine' br ?t2 ?k2
        case t2=>
         by_cases z:x.fmod 3=1
         .exact ce (eN.step (Tt.cast (by ext tt) (by simp[z])) (eN.last (Tt.cast (cp (by ext ev) (by ext ev) (γ _ _)) (by simpa [z] using q2))))
         .exact ce (eN.miss (Tt.cast (by ext tt) (by simp[z])))
        case k2=>
         refine' br ?t3 ?k3
         case t3=>
          have κ:((dG st.rows x).map D.str).length <= aO:=by rw[ay,ah];exact LP υ
          by_cases z:x.fmod 3=2
          .by_cases z2:cR st.rows x=[]
           .exact ce (eN.step (Tt.cast (by ext tt) (by simp[z])) (eN.miss (Tt.cast (cp (by ext ev) (by ext ev) (γ _ _)) (by simp[z2]))))
           .by_cases z3:dG st.rows x∈st.rows
            .exact ce (eN.step (Tt.cast (by ext tt) (by simp[z])) (eN.step (Tt.cast (cp (by ext ev) (by ext ev) (γ _ _)) (by simp[z2])) (eN.miss (Tt.cast (cp (by ext ev) (by ext ev) (β _ _)) (by simp[z3])))))
            .exact ce (eN.step (Tt.cast (by ext tt) (by simp[z])) (eN.step (Tt.cast (cp (by ext ev) (by ext ev) (γ _ _)) (by simp[z2])) (eN.step (Tt.cast (cp (by ext ev) (by ext ev) (β _ _)) (by simp[z3])) (eN.last (Tt.cast (cp (sQ (by ext ev) (by ext ev) κ) (by ext ev) (φ _ _)) (by simpa [z,z2,z3] using q3))))))
          .exact ce (eN.miss (Tt.cast (by ext tt) (by simp[z])))
         case k3=>exact rO ⟨(st,some (.int (gz st.rows x)),some (dT (dG st.rows x)),some (dT (cR st.rows x))),by dsimp only;rw[H];unfold dp;rw[χ],by ext sub,by ext takes⟩
   |some q=>
    revert q
    refine Sb ?_;intros k ns rows' u;have M:=Gf u;have ζ:∀n∈ns,Wd 100 1000 n:=λ n hn=>by
     rcases M.2 n hn with rfl|rfl
     .exact⟨(lz 6497006538834579473) hOl,hO.2.2⟩
     .exact hN.2.1
    refine' sR (b:=decide (x.fmod 3=0 /\ dG st.rows x∉st.rows)) [("rows",.lst (rows'.map dT)),("books",.val (.ref a1)),("deeds",.val (.ref a2)),("words",.val (.ref a3)),("deed",.lst (.tup [.str k]::ns.map dT))]
     (p (i+1)++[(a1,.list (nE st.books)),(a2,.list (sd st.deeds)),(a3,.list (st.words.map .str)),(L+3,.cell (some (.int (gz st.rows x)))),(L+2,.cell (some (dT (dG st.rows x)))),(L+1,.cell (some (dT (cR st.rows x))))]) ?u1 (λ b1=>?u2) (λ b1=>?u3) ?u4
    case u1=>
     clear M ζ u H
     by_cases z:x.fmod 3=0
     .by_cases z2:dG st.rows x∈st.rows
      .exact Tt.cast (ce (eN.step (Tt.cast (by ext tt) (decide_eq_true z)) (eN.last (cp (by ext ev) (by ext ev) (β _ _))))) (by simp[z,z2])
      .exact Tt.cast (ce (eN.step (Tt.cast (by ext tt) (decide_eq_true z)) (eN.last (cp (by ext ev) (by ext ev) (β _ _))))) (by simp[z,z2])
     .exact Tt.cast (ce (eN.miss (Tt.cast (by ext tt) (decide_eq_false z)))) (by simp[z])
    case u2=>
     have b1:=of_decide_eq_true b1;have e:fV st.rows x=some (("md":Str),[dG st.rows x],ie (st.rows++[dG st.rows x])):=by unfold fV;dsimp only;rw[if_pos b1]
     rw[u] at e;cases e
     clear u H
     have hz5:(st.rows.map dT).length+([dT (dG st.rows x)]:List D).length <= aO:=by rw[ay,ah];simp;exact(lz 236893163955771569868817) V
     have ψ:Fn pw w (Tw w) 7 (.builtin "sorted") [.lst (st.rows.map dT++[dT (dG st.rows x)])] [] (Is (.lst ((ie (st.rows++[dG st.rows x])).map dT)) []):=by
      have h:=Al (pr:=pw) (w:=w) (T:=Tw w) (n:=6) (xss:=st.rows++[dG st.rows x]) (by rw[cP];exact⟨hR.nd,by simp,λ a ha b hb=>by rw[aw.mp hb];exact λ q=>b1.2 (q▸ha)⟩) (by simp;exact(lz 925363904578618659089) V) (λ r hr=>by
       rcases aQ.mp hr with q|q
       .exact hR.ne r q
       .rw[aw.mp q];exact hN.2.2)
      rw[av] at h;exact h
     ext st;ext st;exact aY ⟨by simp only[aq,aX];ext sub,by ext takes⟩
    case u3=>
     have b1:=of_decide_eq_false b1;refine' sR (b:=decide (x.fmod 3=1 /\ cR st.rows x≠[])) [("rows",.lst (rows'.map dT)),("books",.val (.ref a1)),("deeds",.val (.ref a2)),("words",.val (.ref a3)),("deed",.lst (.tup [.str k]::ns.map dT))]
      (p (i+1)++[(a1,.list (nE st.books)),(a2,.list (sd st.deeds)),(a3,.list (st.words.map .str)),(L+3,.cell (some (.int (gz st.rows x)))),(L+2,.cell (some (dT (dG st.rows x)))),(L+1,.cell (some (dT (cR st.rows x))))]) ?v1 (λ b2=>?v2) (λ b2=>?v3) ?v4
     case v1=>
      clear M ζ u H
      by_cases z:x.fmod 3=1
      .exact Tt.cast (ce (eN.step (Tt.cast (by ext tt) (decide_eq_true z)) (eN.last (cp (by ext ev) (by ext ev) (γ _ _))))) (by simp[z])
      .exact Tt.cast (ce (eN.miss (Tt.cast (by ext tt) (decide_eq_false z)))) (by simp[z])
     case v2=>
      have b2:=of_decide_eq_true b2;have e:fV st.rows x=some (("rm":Str),[cR st.rows x],st.rows.filter λ r=>decide (r.take (cR st.rows x).length≠cR st.rows x)):=by unfold fV;dsimp only;rw[if_neg b1,if_pos b2]
      rw[u] at e;cases e
      clear u H
      ext st
      with_reducible refine' lB (f:=Uy (cR st.rows x)) ok (eZ ok (ds:=st.rows.map dT) ?m1) ?m2 ?m3 ?m4 ?m5 (cl:=[("old",L+1)]) ?m6 ?m7 ?m8 ?m9
      ext m1 ev
      case m2=>rw[ah,ay];exact OI V
      case m3=>
       intro d hd C B' X q δ;obtain⟨r,hr,rfl⟩:=az.mp hd;have η:=(hR.len r hr).1;have ε:(r.map D.str).length <= aO:=by rw[ah,ay];exact OJ η
       refine' ⟨_,decide (r.take (cR st.rows x).length≠cR st.rows x),dT r,?X0,FF ?Y0,?q1,λ _=>?_⟩;ext X0 as
       case Y0=>
        with_reducible refine' cp (sQ ?n1 ?n2 ε) ?n3 (Kb δ (hR.okS r hr) hO.1)
        ext n1 ev n2 ev n3 ev
       case q1=>unfold Uy;rw[eJ]
       ext ev
      ext m4 put
      case m6=>rfl
      case m7=>rfl'
      case m8=>rfl
      case m9=>rfl'
      have e5:(st.rows.map dT).filterMap (Uy (cR st.rows x))=(st.rows.filter λ r=>decide (r.take (cR st.rows x).length≠cR st.rows x)).map dT:=Gg (λ r=>by unfold Uy;rw[eJ]) _;rw[e5];exact aY ⟨by simp only[aq,aX];ext sub,by ext takes⟩
     case v3=>
      have b2:=of_decide_eq_false b2;have b3:x.fmod 3=2 /\ cR st.rows x≠[] /\ dG st.rows x∉st.rows /\ (dG st.rows x).take (cR st.rows x).length≠cR st.rows x:=by
       unfold fV at u;dsimp only at u;rw[if_neg b1,if_neg b2] at u
       split at u
       .assumption
       .cases u
      have e:fV st.rows x=some (("mv":Str),[cR st.rows x,dG st.rows x],ie (st.rows.map (ec (cR st.rows x) (dG st.rows x)))):=by unfold fV;dsimp only;rw[if_neg b1,if_neg b2,if_pos b3]
      rw[u] at e;cases e
      clear u H
      obtain⟨y1,y2,y3,y4⟩:=b3;have κ:((dG st.rows x).map D.str).length <= aO:=by rw[ay,ah];exact LP υ
      refine' fG ?t3 ?k3
      case t3=>exact ce (eN.step (Tt.cast (by ext tt) (decide_eq_true y1)) (eN.step (Tt.cast (cp (by ext ev) (by ext ev) (γ _ _)) (decide_eq_true y2)) (eN.step (Tt.cast (cp (by ext ev) (by ext ev) (β _ _)) (decide_eq_true y3)) (eN.last (Tt.cast (cp (sQ (by ext ev) (by ext ev) κ) (by ext ev) (φ _ _)) (decide_eq_true y4))))))
      case k3=>
       ext st;have ψ:Fn pw w (Tw w) 7 (.builtin "sorted") [.lst ((st.rows.map (ec (cR st.rows x) (dG st.rows x))).map dT)] [] (Is (.lst ((ie (st.rows.map (ec (cR st.rows x) (dG st.rows x)))).map dT)) []):=
        Al (pr:=pw) (w:=w) (T:=Tw w) (n:=6) (hR.mv y2 y3 y4) (by rw[ah];exact(lz 225918922016166161) V) (λ r hr=>by
         obtain⟨r',Y9,rfl⟩:=az.mp hr;unfold ec
         split
         .exact λ q=>hN.2.2 (fA.mp q).1
         .exact hR.ne r' Y9)
       have e6:(st.rows.map dT).filterMap (Uz (cR st.rows x) (dG st.rows x))=(st.rows.map (ec (cR st.rows x) (dG st.rows x))).map dT:=by
        rw[B6 (g:=λ r=>dT (ec (cR st.rows x) (dG st.rows x) r)) (λ r=>by unfold Uz;rw[eJ]),bH];rfl
       with_reducible refine' jt (ka ok ?n1 ?n2 (bg (d:=.lst ((st.rows.map (ec (cR st.rows x) (dG st.rows x))).map dT)) ?n3 bW) .nil ψ) ?n4 ?n5
       ext n1 kp n2 ev n4 put
       case n3=>
        rw[<-e6];refine' ic (f:=Uz (cR st.rows x) (dG st.rows x)) ok (eZ ok (ds:=st.rows.map dT) ?m1) ?m2 ?m3 (cl:=[("old",L+1),("new",L+2)]) ?m6 ?m7 ?m8 ?m9;ext m1 ev
        case m2=>rw[ah,ay];exact OI V
        case m3=>
         intro d hd C B' X q δ;obtain⟨r,hr,rfl⟩:=az.mp hd;have η:=(hR.len r hr).1;have ε:(r.map D.str).length <= aO:=by rw[ah,ay];exact OJ η
         refine' ⟨_,true,dT (ec (cR st.rows x) (dG st.rows x) r),?X0,kQ,?q1,λ _=>?_⟩;ext X0 as
         case q1=>unfold Uz;rw[eJ];rfl
         refine' xK (v:=decide (r.take (cR st.rows x).length=cR st.rows x)) ?i1 ?i2
         case i1=>
          with_reducible refine' cp (sQ ?n1 ?n2 ε) ?n3 (Ka δ (hR.okS r hr) hO.1)
          ext n1 ev n2 ev n3 ev
         case i2=>
          by_cases z:r.take (cR st.rows x).length=cR st.rows x
          .rw[decide_eq_true z];dsimp only[cond];have ez:dT (ec (cR st.rows x) (dG st.rows x) r)=.tup ((dG st.rows x).map D.str++(r.map D.str).drop ((cR st.rows x).map D.str).length):=by
            unfold ec;rw[if_pos z,ah,<-z8,<-av]
           have Z1:1 <= (cR st.rows x).length:=kI.mpr y2;have Z0:(cR st.rows x).length <= r.length:=by
            have:=congrArg iT z;rw[bL] at this;exact NQ this (cD _ _)
           have Z6:1 <= ((cR st.rows x).map D.str).length:=by rw[ah];exact Z1
           have Z5:((cR st.rows x).map D.str).length <= (r.map D.str).length:=by rw[ah,ah];exact Z0
           have Z4:((dG st.rows x).map D.str).length+((r.map D.str).drop ((cR st.rows x).map D.str).length).length <= aO:=by rw[eo,ah,ah,ah,ay];exact(lz 366378927972122353431285586202675) υ η (bG _ _)
           rw[ez]
           with_reducible refine' kB ?o1 (CU ?o2 ?o3 Z6 Z5 ε) (x0 Z4)
           ext o1 ev o2 ev o3 ev
          .rw[decide_eq_false z];dsimp only[cond];have ez:ec (cR st.rows x) (dG st.rows x) r=r:=by unfold ec;rw[if_neg z]
           rw[ez];ext ev
        case m6=>rfl
        case m7=>rfl'
        case m8=>rfl
        case m9=>rfl'
       exact aY (by unfold q6;exact aY ⟨by simp only[aq,aX];ext sub,by ext takes⟩)
     case v4=>exact aY ⟨by ext sub,by ext takes⟩
    case u4=>
     have l1:bA "/"=1:=by rfl'
     have X9:=AG ns;have τ:=E1 (gz st.rows x) ns;have Z':(nE st.books).length <= aO:=by rw[ay,ah];exact(lz 647279068736171348594722) μ.1 ρ
     have Z9:(sd st.deeds).length <= aO:=by rw[ay,ah];exact(lz 158027106461101854754) μ.2.1 ρ
     with_reducible refine' fc ok ?w1 ?w2 ?w3 Z' ?w4
     ext w1 ev w2 ev w3 take
     with_reducible refine' fc (d:=dL (k::ns.map ar)) ok ?x1 ?x2 ?x3 Z9 ?x4
     ext x1 ev x3 take
     case x2=>
      have ex:dL (k::ns.map ar)=.lst ([.str k]++(ns.map dT).filterMap vv):=by rw[X9];show D.lst (sI D.str (k::ns.map ar))=_;rw[aq,bH];rfl
      have ι:([.str k]:List D).length+((ns.map dT).filterMap vv).length <= aO:=by rw[X9,ah,ay];simp only[aE,bp];exact OK M.1
      have θ:(D.tup [.str k]::ns.map dT).length <= aO:=by rw[aE,ah,ay];exact OL M.1
      rw[ex];refine' kB (xC (bg (ur (l:=[.str k]) (k:=0) (j:=0) (bS (l:=.tup [.str k]::ns.map dT) (k:=0) ?b1 ?b2 (by decide) (by decide) rfl) ?b3 (by decide) (by decide) rfl rfl) bW)) (ic (f:=vv) ok (eZ ok (ds:=ns.map dT) ?m1) ?m2 ?m3 (cl:=[]) ?m6 ?m7 ?m8 ?m9) (mB ι);ext b1 ev b2 ev b3 ev
      case m1=>
       refine' Ev.cast (oM ?b4 (xM (i:=1) ?b5) xL θ) ?b6;ext b4 ev b5 ev
       case b6=>rw[yz]
      case m2=>rw[ah,ay];exact OM M.1
      case m3=>
       intro d hd C B' X q δ;obtain⟨r,hr,rfl⟩:=az.mp hd;have ω:=ζ r hr;have hj:=ot (sep:="/") ω;have X5:=ig (sep:="/") ω;rw[l1] at hj X5;refine' ⟨_,true,.str (ar r),?X0,kQ,?q1,λ _=>?_⟩;ext X0 as
       case q1=>unfold vv;rw[eJ];rfl
       unfold ar
       with_reducible refine' kB ?c1 ?c2 (iV ?c3)
       ext c1 ev
       case c2=>
        with_reducible refine' xB (by assumption) ?mo ?Y1 gG jC jD ?ml ?mt ?mf
        ext mo ev
        case Y1=>exact Bk
        ext ml evl
        case mf=>exact Am (by rw[l1];exact Op hj)
        case mt=>exact .nil
       case c3=>rw[l1,ay];exact(lz 1846525567244969635745809) X5
      case m6=>rfl
      case m7=>rfl'
      case m8=>rfl
      case m9=>rfl'
     have Z8:(st.words.map D.str).length+([.str k]++(ns.map dT).filterMap (wi (gz st.rows x)):List D).length <= aO:=by rw[τ,ah,aF,ah,ay];simp only[aE,bp];exact(lz 213554169476802564362351909651615795) μ.2.2 ρ M.1
     with_reducible refine' Hg ok ?y1 ?y2 ?y3 Z8 ?y4
     ext y1 ev y3 take
     case y2=>
      have ι:([.str k]:List D).length+((ns.map dT).filterMap (wi (gz st.rows x))).length <= aO:=by rw[τ,ah,ay];simp only[aE,bp];exact OK M.1
      have θ:(D.tup [.str k]::ns.map dT).length <= aO:=by rw[aE,ah,ay];exact OL M.1
      refine' kB (xC (bg (ur (l:=[.str k]) (k:=0) (j:=0) (bS (l:=.tup [.str k]::ns.map dT) (k:=0) ?b1 ?b2 (by decide) (by decide) rfl) ?b3 (by decide) (by decide) rfl rfl) bW)) (ic (f:=wi (gz st.rows x)) ok (eZ ok (ds:=ns.map dT) ?m1) ?m2 ?m3 (cl:=[("dress",L+3)]) ?m6 ?m7 ?m8 ?m9) (mB ι);ext b1 ev b2 ev b3 ev
      case m1=>
       refine' Ev.cast (oM ?b4 (xM (i:=1) ?b5) xL θ) ?b6;ext b4 ev b5 ev
       case b6=>rw[yz]
      case m2=>rw[ah,ay];exact OM M.1
      case m3=>
       intro d hd C B' X q δ;obtain⟨r,hr,rfl⟩:=az.mp hd;have hfs:Fn pw w (Tw w) 7 (.ref 1095) [.tup (r.map .str),.int (gz st.rows x)] [] (Is (.str (fp r (gz st.rows x))) []):=(EW w r (gz st.rows x) (ζ r hr)).le (by decide);refine' ⟨_,true,.str (fp r (gz st.rows x)),?X0,kQ,?q1,λ _=>?_⟩;ext X0 as
       case q1=>unfold wi;rw[eJ];rfl
       ext ev
      case m6=>rfl
      case m7=>rfl'
      case m8=>rfl
      case m9=>rfl'
     have ν:(dp st x).rows=rows':=by unfold dp;rw[u]
     have Z7:nE (dp st x).books=nE st.books++[.lst (rows'.map dT)]:=by unfold dp;rw[u];show sI _ (_++[_])=_;rw[av];rfl
     have Z3:sd (dp st x).deeds=sd st.deeds++[dL (k::ns.map ar)]:=by unfold dp;rw[u];show sI _ (_++[_])=_;rw[av];rfl
     have Y7:(dp st x).words.map D.str=st.words.map D.str++([.str k]++(ns.map dT).filterMap (wi (gz st.rows x))):=by unfold dp;rw[u,τ];show sI _ (_++_::_)=_;rw[av,aq,bH];rfl
     refine aY ⟨(dp st x,some (.int (gz st.rows x)),some (dT (dG st.rows x)),some (dT (cR st.rows x))),H.symm,?_,?_⟩
     .dsimp only;rw[ν];ext sub
     .dsimp only;rw[Z7,Z3,Y7];ext takes
  case c5=>
   refine Fu ?_;intros st co cn cd hI
   try dsimp only at hI⊢
   rw[ah,bF] at hI;subst hI;refine' gd (x:="books") (a:=a1) (vf.mem ?t1) .head ?t2 ?t3;ext t1 has t2 put;refine' gd (x:="deeds") (a:=a2) (vf.mem ?u1) .head ?u2 ?u3;ext u1 has u2 put;refine' gd (x:="words") (a:=a3) (vf.mem ?v1) .head ?v2 ?v3;ext v1 has v2 put;ext ret;exact⟨[],_,.nil,rfl,rfl⟩
theorem RU (w:aB):Gl w "_find_unsafe" (.ref 1083):=⟨by symm⟩
theorem Kd (w:aB):Tw w 1083=some ⟨.type "builtin_function_or_method",aH,.fields #[.builtin "re.Pattern.search",.ref 387],#[]⟩:=by show(Mine.hF pw w.params).get? 1083=_;symm
theorem TJ (w:aB):∃s t f,Tw w 387=some (I8 386 s t f):=⟨Mine.z [91,94,92,119,64,37,43,61,58,44,46,47,45,93],889,.int 256 926,by show(Mine.hF pw w.params).get? 387=_;symm⟩
theorem TK (w:aB):Tw w 386=some ⟨.type "tuple",aH,.seq cL.toArray 0,#[]⟩:=by show(Mine.hF pw w.params).get? 386=_;symm
theorem Ra (w:aB):Kp pw w (Tw w) (.ref 1083):=λ h k=>⟨.machine,.inr (.inl rfl),(mI (part:=none) (k _ _ (Kd w))).andThen .now⟩
def iG (x:Str):Str:=if x.length=0 then"''" else if jE x.cps=true then x else"'"++Txt.replace x "'" "'\"'\"'"++"'"
theorem Ke (w:aB) (x:Str) (H:x.length <= 100000) (hr:(Txt.replace x "'" "'\"'\"'").length <= 1000000):Fn pw w (Tw w) 2 (.ref 1090) [.str x] [] (Is (.str (iG x)) []):=by
 injections w x H hr;have l1:bA "'"=1:=by rfl'
 have l5:bA "'\"'\"'"=5:=by rfl'
 have⟨ps,pt,pf,u⟩:=TJ w;refine dF ["s"] [("s",.str x)] (QZ w) (ff w) ?_ rfl (by rfl') (by rfl') ?_ ?_
 .exact ku λ v=>rfl
 .intro p hp;simp only[ap,aK,or_false] at hp;rcases hp with rfl<;>rfl
 .intros A L B ok
  conv=>arg 4;whnf
  ext st;ext ite
  .intros b1;ext ret;exact⟨[],[],.nil,by unfold iG;rw[if_pos (by simpa using b1)],rfl⟩
  .intros b1;have t:x.length≠0:=by simpa using b1
   have M:=I9 (pr:=pw) (w:=w) (n:=1) (Kd w) u (TK w) (x:=x) ((bc t).elim (λ q=>(lz 9900168642833) q) λ q=>(lz 623039287569) q) ((lz 450361546103566897425) H);refine aV ?_;refine' dY (b:=jE x.cps) (Hl (my ok (Ra w) ?c1 ?c2 .nil M) ?c3) (λ V=>?e1) (λ V=>?e2);ext c1 ev c2 evl
   case c3=>
    intros d W' h_;have⟨Wo,⟨rfl,h1⟩,rfl⟩:=h_;refine⟨rfl,?_⟩;cases q:jE x.cps with
    |true=>rw[q] at h1;have h1:d=.none:=h1;subst h1;exact rfl
    |false=>rw[q] at h1;obtain⟨a,h1⟩:∃a,d=.val (.ref a):=h1;subst h1;exact rfl
   case e1=>
    ext ret;exact⟨[],[],.nil,by unfold iG;rw[if_neg t,if_pos V],rfl⟩
   case e2=>
    refine aV ?_;refine' ly (d:=.str ("'"++Txt.replace x "'" "'\"'\"'"++"'")) (kB (Mv (C9 ok ?d1 (by rfl') ?d2) (iV ?d3)) ?d4 (iV ?d5)) ?d6;ext d1 ev
    case d2=>rw[l5];exact(lz 1934288113363817812323524415505) H
    case d3=>rw[l1,ay];exact(lz 18446750559176195134984209) hr
    ext d4 ev
    case d5=>rw[cF,l1,ay];exact(lz 75557890290385696881772072977) hr
    exact⟨[],[],.nil,by unfold iG;rw[if_neg t,if_neg (by rw[V];exact aT)],rfl⟩
structure RG (rows:List fF):Prop where
 srt:SL rows
 ne:∀r∈rows,r≠[]
 nm:∀r∈rows,∀y∈r,y∈kC
 pc:∀p s,p++s∈rows->p≠[]->p∈rows
theorem gJ {old r:fF}:r.take old.length=old↔∃s,r=old++s:=by
 constructor
 .intro h;exact⟨r.drop old.length,by conv=>lhs;rw[<-gT old.length r,h]⟩
 .rintro⟨s,rfl⟩;exact lO
theorem len_sub {α:Type} [DecidableEq α]:∀{l l':List α},l.Nodup->(∀x∈l,x∈l')->l.length <= l'.length
 |[],_,_,_=>aU _
 |x::l,l',h,hs=>by
  rw[bZ] at h;have h1:=hs x (ag ..);have h2:=len_sub (l:=l) (l':=l'.erase x) h.2 λ y hy=>(List.mem_erase_of_ne (λ(e:y=x)=>h.1 (e▸hy))).mpr (hs y (ao _ hy));rw[List.length_erase_of_mem h1] at h2;have:=List.length_pos_of_mem h1;rw[aE];exact(lz 158522176544799822712867) h2 (dE (zw this))
theorem RG.nd (h:RG rows):rows.Nodup:=xZ h.srt
theorem RG.deep (h:RG rows) (hr:r∈rows):r.length <= rows.length:=by
 have:=len_sub (l:=(dD r.length).map λ k=>r.take (k+1)) (l':=rows) ?_ ?_
 .simpa using this
 .rw[uY,dU];refine pj (R:=λ a b=>a≠b) ?_ wy;intro a b ha hb u e;have:=congrArg iT e;rw[nU] at ha hb;rw[bL,bL] at this;omega
 .intro x t;obtain⟨k,d,rfl⟩:=az.mp t;rw[nU] at d;refine h.pc (r.take (k+1)) (r.drop (k+1)) (by rw[gT];exact hr) ?_;intro e;have:=congrArg iT e;rw[bL,bp] at this;exact Bc.elim (λ q=>Oy this q) λ q=>(lz 1365659882757809995583283) d this q
structure rc (rows:List fF) (new:fF):Prop where
 out:new∉rows
 par:∃p n,new=p++[n] /\ n∈kC /\ (p=[] \/ p∈rows)
inductive B7 (rows:List fF):Str->List fF->List fF->Prop
 |md {new:fF} (h:rc rows new):B7 rows "md" [new] (ie (rows++[new]))
 |rm {old:fF} (h:old∈rows):B7 rows "rm" [old] (rows.filter λ r=>decide (r.take old.length≠old))
 |mv {old new:fF} (h:old∈rows) (h2:rc rows new) (h3:new.take old.length≠old):B7 rows "mv" [old,new] (ie (rows.map (ec old new)))
theorem wj (rows:List fF) (j:Nat):(bm rows).getD j []=[] \/ (bm rows).getD j []∈rows:=by
 by_cases z:j<(bm rows).length
 .rw[bu,am z];have:=cE z;rcases ap.mp this with e|e
  .exact .inl e
  .exact .inr e
 .rw[bu,eL (cO z)];exact .inl rfl
theorem Dz (rows:List fF) (x:Int):kC.getD (iB rows x).toNat ""∈kC:=by
 have h:0 <= iB rows x /\ iB rows x<4:=⟨lN _ (by decide),nW _ (by decide)⟩;have hl:(iB rows x).toNat<kC.length:=by show _<4;omega
 rw[bu,am hl];exact cE hl
theorem Nd (h:fV rows x=some (k,ns,rows')):B7 rows k ns rows':=by
 injections rows x k ns rows' h;have d:=wj rows (BB rows x).toNat;have t:dG rows x∉rows->rc rows (dG rows x):=λ h=>⟨h,_,_,rfl,Dz rows x,wj rows (mc rows x).toNat⟩;unfold fV at h;dsimp only at h
 split at h
 .rename_i c;cases h;exact .md (t c.2)
 .split at h
  .rename_i c;cases h;exact .rm (d.resolve_left c.2)
  .split at h
   .rename_i c;cases h;exact .mv (d.resolve_left c.2.1) (t c.2.2.1) c.2.2.2
   .cases h
section
variable{rows:List fF}
theorem rc.ne (h:rc rows new):new≠[]:=by obtain⟨p,n,rfl,_⟩:=h.par;simp
theorem rc.nm (g:RG rows) (h:rc rows new):∀y∈new,y∈kC:=by
 obtain⟨p,n,rfl,hn,d⟩:=h.par;intro y hy;rcases aQ.mp hy with hy|hy
 .rcases d with rfl|d
  .cases hy
  .exact g.nm p d y hy
 .rw[aw.mp hy];exact hn
theorem rc.part (g:RG rows) (h:rc rows new) (e:new=p++s) (u:p≠[]):p=new \/ p∈rows:=by
 obtain⟨q,n,rfl,_,d⟩:=h.par;rcases fR s with rfl|⟨t,m,rfl⟩
 .left;rw[e];simp
 .right
  have H:q++[n]=(p++t)++[m]:=by rw[e];simp
  have v:q=p++t:=(List.append_inj' H rfl).1;rcases d with rfl|d
  .exact absurd (fA.mp v.symm).1 u
  .rw[v] at d;exact g.pc p t d u
theorem TL (h:r.take old.length=old):ec old new r=new++r.drop old.length:=by unfold ec;rw[if_pos h]
theorem qu (old new s:fF):ec old new (old++s)=new++s:=by rw[TL lO,lP]
theorem vx (h:r.take old.length≠old):ec old new r=r:=by unfold ec;rw[if_neg h]
theorem E3 (g:RG rows) (h:rc rows new) (s:fF):new++s∉rows:=λ q=>h.out (g.pc new s q h.ne)
theorem yA {old new:fF} (g:RG rows) (h:rc rows new):(rows.map (ec old new)).Nodup:=by
 rw[uY,dU];refine pj (R:=λ a b=>a≠b) ?_ g.nd;intro a b ha hb u e;by_cases v:a.take old.length=old
 .by_cases d:b.take old.length=old
  .obtain⟨s,rfl⟩:=gJ.mp v;obtain⟨t,rfl⟩:=gJ.mp d;rw[qu,qu] at e;exact u (by rw[List.append_cancel_left e])
  .obtain⟨s,rfl⟩:=gJ.mp v;rw[qu,vx d] at e;exact E3 g h s (e▸hb)
 .by_cases d:b.take old.length=old
  .obtain⟨s,rfl⟩:=gJ.mp d;rw[qu,vx v] at e;exact E3 g h s (e▸ha)
  .rw[vx v,vx d] at e;exact u e
theorem wk {old p s:fF} (h:(p++s).take old.length≠old):p.take old.length≠old:=λ q=>h (by
 obtain⟨t,rfl⟩:=gJ.mp q;exact gJ.mpr ⟨t++s,by simp⟩)
theorem B7.rg {k:Str} {ns rows':List fF} (g:RG rows) (d:B7 rows k ns rows'):RG rows' /\ rows'.length <= rows.length+1:=by
 injections rows k ns rows' g d;cases d with
 |@md new h=>
  have nd:(rows++[new]).Nodup:=by
   rw[cP];exact⟨g.nd,by simp,λ a ha b hb e=>h.out (by rw[<-aw.mp hb,<-e];exact ha)⟩
  have v:∀r,r∈ie (rows++[new])↔r∈rows \/ r=new:=λ r=>by rw[(fm _).mem_iff,aQ,aw]
  refine⟨⟨rW nd,λ r hr=>?_,λ r hr=>?_,λ p s H u=>?_⟩,by rw[(fm _).length_eq];simp⟩
  .rcases(v r).mp hr with q|rfl
   .exact g.ne r q
   .exact h.ne
  .rcases(v r).mp hr with q|rfl
   .exact g.nm r q
   .exact h.nm g
  .rw[v] at H⊢;rcases H with q|q
   .exact .inl (g.pc p s q u)
   .exact(h.part g q.symm u).symm
 |@rm old h=>
  have v:∀r,r∈(rows.filter λ r=>decide (r.take old.length≠old))↔r∈rows /\ r.take old.length≠old:=λ r=>by rw[hY,decide_eq_true_iff]
  refine⟨⟨g.srt.filter _,λ r hr=>g.ne r ((v r).mp hr).1,λ r hr=>g.nm r ((v r).mp hr).1,λ p s H u=>?_⟩,vV (jB ..)⟩;rw[v] at H⊢;exact⟨g.pc p s H.1 u,wk H.2⟩
 |@mv old new h h2 h3=>
  have v:∀r,r∈ie (rows.map (ec old new))↔(r∈rows /\ r.take old.length≠old) \/ ∃s,old++s∈rows /\ r=new++s:=λ r=>by
   rw[(fm _).mem_iff,az];constructor
   .rintro⟨a,ha,rfl⟩;by_cases q:a.take old.length=old
    .obtain⟨s,rfl⟩:=gJ.mp q;exact .inr ⟨s,ha,qu ..⟩
    .rw[vx q];exact .inl ⟨ha,q⟩
   .rintro(⟨ha,q⟩|⟨s,hs,rfl⟩)
    .exact⟨r,ha,vx q⟩
    .exact⟨old++s,hs,qu ..⟩
  refine⟨⟨rW (yA g h2),λ r hr=>?_,λ r hr=>?_,λ p s H u=>?_⟩,by rw[(fm _).length_eq];simp⟩
  .rcases(v r).mp hr with⟨q,_⟩|⟨s,_,rfl⟩
   .exact g.ne r q
   .exact λ e=>h2.ne (fA.mp e).1
  .rcases(v r).mp hr with⟨q,_⟩|⟨s,hs,rfl⟩
   .exact g.nm r q
   .intro y hy;rcases aQ.mp hy with hy|hy
    .exact h2.nm g y hy
    .exact g.nm _ hs y (aS _ hy)
  .rw[v] at H⊢;rcases H with⟨q1,q2⟩|⟨t,ht,e⟩
   .exact .inl ⟨g.pc p s q1 u,wk q2⟩
   .rcases List.append_eq_append_iff.mp e with⟨a,M,V⟩|⟨a,M,V⟩
    .
     rcases h2.part g M u with q|q
     .right;exact⟨[],by rw[ax];exact h,by rw[ax];exact q⟩
     .left;exact⟨q,wk (M▸h3)⟩
    .
     right
     exact⟨a,g.pc (old++a) s (by rw[de,<-V];exact ht) (λ z=>g.ne old h (fA.mp z).1),M⟩
end
abbrev cd (x:Str):List Nat:=x.cps.toList
theorem kZ (h:cd x=cd y):x=y:=by
 rcases x with⟨⟨a⟩⟩;rcases y with⟨⟨b⟩⟩;simp[cd] at h;rw[h]
theorem fS (a b:Str):cd (a++b)=cd a++cd b:=by
 show(a.cps++b.cps).toList=_;simp
theorem oS (x:Str):x.length=(cd x).length:=by simp[bA]
def tJ (s:List Nat):List (List Nat)->List Nat
 |[]=>[]
 |[x]=>x
 |x::y::r=>x++s++tJ s (y::r)
theorem Vx:tJ s [x]=x:=rfl
theorem Vy:tJ s (x::y::r)=x++s++tJ s (y::r):=rfl
theorem fi (h:r≠[]):tJ s (x::r)=x++s++tJ s r:=by
 cases r with
 |nil=>exact absurd rfl h
 |cons y r=>rfl
theorem jF (s:Str):∀l:List Str,cd (bw s l)=tJ (cd s) (l.map cd):=by
 intro l;show cd (qc s l)=_;rw[jz]
 induction l with
 |nil=>rfl
 |cons x l d=>
  cases l with
  |nil=>rfl
  |cons y r=>
   show cd (x++s++D9 s (y::r))=_;rw[fS,fS,d];rfl
theorem DA:∀{p t s d:List Nat},p++c::s=t++c::d->c∉p->c∉t->p=t /\ s=d
 |[],[],s,d,h,_,_=>by simpa using h
 |[],b::t,s,d,h,_,h2=>by simp at h;exact absurd (h.1▸ag ..) h2
 |a::p,[],s,d,h,h1,_=>by simp at h;exact absurd (h.1▸ag ..) h1
 |a::p,b::t,s,d,h,h1,h2=>by
  simp only[bh,dO] at h;have:=DA h.2 (λ z=>h1 (ao _ z)) (λ z=>h2 (ao _ z));exact⟨by rw[h.1,this.1],this.2⟩
theorem Gh:∀{l l':List (List Nat)},l≠[]->l'≠[]->(∀x∈l,c∉x)->(∀x∈l',c∉x)->tJ [c] l=tJ [c] l'->l=l'
 |[],_,h,_,_,_,_=>absurd rfl h
 |_,[],_,h,_,_,_=>absurd rfl h
 |[x],[y],_,_,_,_,h=>by rw[show x=y from h]
 |[x],y::z::r,_,_,h1,_,h=>by
  have h:x=y++[c]++tJ [c] (z::r):=h;exact absurd (by rw[h];simp) (h1 x (ag ..))
 |x::z::r,[y],_,_,_,h1,h=>by
  have h:x++[c]++tJ [c] (z::r)=y:=h;exact absurd (by rw[<-h];simp) (h1 y (ag ..))
 |x::a::r,y::b::d,_,_,h1,h2,h=>by
  have h:x++[c]++tJ [c] (a::r)=y++[c]++tJ [c] (b::d):=h;rw[de,de] at h;have:=DA h (h1 x (ag ..)) (h2 y (ag ..));rw[this.1,Gh (by simp) (by simp) (λ z hz=>h1 z (ao _ hz)) (λ z hz=>h2 z (ao _ hz)) this.2]
theorem E4 {l l':List Str} (h:l.map cd=l'.map cd):l=l':=by
 induction l generalizing l' with
 |nil=>cases l' with
  |nil=>rfl
  |cons y r=>simp at h
 |cons x l d=>cases l' with
  |nil=>simp at h
  |cons y r=>
   rw[aq,aq,dO] at h;rw[kZ h.1,d h.2]
theorem E5 {c:Nat} {l:List Str} (t:l≠[]) (hf:∀x∈l,c∉cd x):Txt.split (bw ⟨#[c]⟩ l) ⟨#[c]⟩=l:=by
 have h1:=uZ (bw ⟨#[c]⟩ l) ⟨#[c]⟩;have h2:=va (bw ⟨#[c]⟩ l) c;have h3:=split_pos (bw ⟨#[c]⟩ l) ⟨#[c]⟩;generalize Txt.split (bw ⟨#[c]⟩ l) ⟨#[c]⟩=l' at h1 h2 h3;refine E4 (Gh (c:=c) ?_ ?_ ?_ ?_ ?_)
 .intro e;have:=congrArg iT e;rw[ah] at this;simp at this;subst this;simp at h3
 .intro e;exact t (mY.mp e)
 .intro x d;obtain⟨y,hy,rfl⟩:=az.mp d;exact h2 y hy
 .intro x d;obtain⟨y,hy,rfl⟩:=az.mp d;exact hf y hy
 .have e:D9 ⟨#[c]⟩ l'=bw ⟨#[c]⟩ l':=(jz ..).symm;rw[e] at h1;have:=congrArg cd h1;rw[jF,jF] at this;exact this
theorem pE:("/":Str)=⟨#[47]⟩:=by rfl'
abbrev HQ (P:List Str):Prop:=∀x∈P,47∉cd x
theorem lq (d:P≠[]) (hf:HQ P):Txt.split (bw "/" P) "/"=P:=by
 rw[pE];exact E5 d hf
theorem gi (P:List Str):cd (ar P)=47::tJ [47] (P.map cd):=by
 unfold ar;rw[fS,jF,pE];rfl
theorem yB (l u:Option Int) (x:Str):cd (sP l u x)=sl l u (cd x):=by simp[sP,cd]
theorem nw (P:List Str):sP (some 1) none (ar P)=bw "/" P:=by
 apply kZ;rw[yB,gi,yz,jF,pE]
theorem AH (P:List Str) (h:P≠[]):ar P=bw "/" (("":Str)::P):=by
 apply kZ;rw[gi,jF,aq,fi (by simpa using h),pE];rfl
theorem qv (h:P≠[]) (hf:HQ P):Txt.split (ar P) "/"=("":Str)::P:=by
 rw[AH P h];refine lq (by simp) λ x d=>?_;rcases ap.mp d with rfl|d
 .show 47∉cd (cw "");rfl'
 .exact hf x d
theorem AI (h:P≠[]) (hf:HQ P):mW (ar P)=ar (eV P):=by
 unfold mW;rw[nw,lq h hf];rfl
theorem Kf (P:List Str):∀z∈eV P,z∈P:=by
 have key:∀(P st:List Str),∀z∈P.foldl du st,z∈st \/ z∈P:=by
  intro P
  induction P with
  |nil=>intro st z hz;exact .inl hz
  |cons c P d=>
   intro st z hz;rcases d _ z hz with q|q
   .unfold du at q
    split at q
    .exact .inl q
    .split at q
     .exact .inl (sH _ q)
     .rcases aQ.mp q with q|q
      .exact .inl q
      .rw[aw.mp q];exact .inr (ag ..)
   .exact .inr (ao _ q)
 intro z hz;rcases key P [] z hz with q|q
 .cases q
 .exact q
abbrev Wn (P:List Str):Prop:=Wd 40 4 P
theorem kg:bA "/"=1:=by rfl'
theorem qw (h:Wn P):(bw "/" P).length <= 200:=by
 have:=ig (sep:="/") h;rw[kg] at this;exact this
theorem uz (h:Wn P):(ar P).length <= 201:=by
 have:=qw h;unfold ar;rw[cF,kg];exact(lz 59078008463845932666897) this
theorem B8 (h:Wn P):nP "/" P=true:=wa h (by rw[kg];decide)
inductive DB:List Str->Prop
 |one {p:Str} {P:List Str} (h:p≠"") (hf:47∉cd p):DB (p::P)
 |two {p:Str} {P:List Str}:DB (""::""::p::P)
theorem TM {α:Type} (a b:α) (l:List α):sl (some (1:Int)) (some (2:Int)) (a::b::l)=[b]:=xN (i:=1) (j:=2) (jW 1) (kT 2 l.length)
theorem TN {α:Type} (a b c:α) (l:List α):sl (some (2:Int)) (some (3:Int)) (a::b::c::l)=[c]:=xN (i:=2) (j:=3) (jW 2) (kT 3 l.length)
theorem TO {α:Type} (a:α) (l:List α):sl none (some (1:Int)) (a::l)=[a]:=Bm (a::l) 1
theorem HR (h:DB P):r9 (ar P)=[.str "",.str "/",.str (sP (some 1) none (ar P))]:=by
 have H:sP none (some 1) (ar P)="/":=by
  apply kZ;rw[yB,gi,TO,pE]
 unfold r9;rw[if_neg (by rw[H];simp),if_pos];cases h with
 |@one p P u hf=>
  left
  intro e;have e:=congrArg cd e;rw[yB,gi,aq] at e;obtain⟨c,q,d⟩:∃c q,cd p=c::q:=by
   cases hc:cd p with
   |nil=>exact absurd (kZ (y:="") (hc.trans (by rfl'))) u
   |cons c q=>exact⟨c,q,rfl⟩
  have t:∃z,tJ [47] (cd p::P.map cd)=c::z:=by
   cases P with
   |nil=>exact⟨q,by rw[d];rfl⟩
   |cons y r=>exact⟨_,by rw[aq,fi (by simp),d];rfl⟩
  obtain⟨z,t⟩:=t;rw[t,TM,pE] at e;have e:[c]=[47]:=e;have e:c=47:=by simpa using e
  rw[d,e] at hf;exact hf (ag ..)
 |@two p P=>
  right
  apply kZ;have v:cd ""=[]:=by rfl'
  rw[yB,gi,aq,aq,aq,fi (by simp),fi (by simp),v,pE];show sl _ _ (47::47::47::_)=_;rw[TN]
theorem Pj (h:DB P) (hf:HQ P) (t:Wn P):yv (ar P):=by
 have d:P≠[]:=by cases h<;>simp
 have hn:Wn (eV P):=⟨aL (yr P) t.1,λ y hy=>t.2 y (Kf P y hy)⟩;have h1:=uz t;have h2:=qw t;have h3:=qw hn;refine⟨LQ h1,?_,HR h,?_,?_,?_,?_,?_⟩
 .rw[oS,gi];simp
 .rw[nw];exact(lz 230773469966401277969) h2
 .rw[nw,lq d hf];have:=t.1;exact(lz 46306029497741217809) this
 .rw[nw,lq d hf];intro z hz;have:=t.2 z hz;exact ON this
 .rw[nw,lq d hf];exact B8 hn
 .rw[nw,lq d hf,kg,ay];exact Qd h3
abbrev tE:Str:=""
abbrev tD:Str:="."
abbrev tT:Str:=".."
def E6 (c:Nat):Bool:=decide (c<128)&&c !=9&&c !=10&&c !=13&&c !=92
abbrev Ck (x:Str):Prop:=∀c∈cd x,E6 c=true
theorem AJ (h:Ck x):okS x:=by
 unfold okS;simp only[iN,PyData.strOk];rw[<-Array.all_toList,qf];intro c hc;have:=h c hc;simp only[E6,bB,decide_eq_true_iff] at this;have h2:c<128:=this.1.1.1.1;exact decide_eq_true ((lz 2305919869474633158929) h2)
theorem Gi:∀{l:List (List Nat)},c∈tJ s l->c∈s \/ ∃x∈l,c∈x
 |[],h=>nomatch h
 |[x],h=>.inr ⟨x,ag ..,h⟩
 |x::y::r,h=>by
  have h:c∈x++s++tJ s (y::r):=h;rw[aQ,aQ] at h;rcases h with(h|h)|h
  .exact .inr ⟨x,ag ..,h⟩
  .exact .inl h
  .rcases Gi h with q|⟨z,hz,q⟩
   .exact .inl q
   .exact .inr ⟨z,ao _ hz,q⟩
theorem Gj (h:∀x∈P,Ck x):Ck (ar P):=by
 intro c hc;rw[gi] at hc;rcases ap.mp hc with rfl|hc
 .decide
 .rcases Gi hc with q|⟨x,d,q⟩
  .rw[aw.mp q];decide
  .obtain⟨y,hy,rfl⟩:=az.mp d;exact h y hy c q
abbrev Nm (r:fF):Prop:=∀y∈r,y∈kC
structure TP (x:Str):Prop where
 e:x≠tE
 d:x≠tD
 dd:x≠tT
 f:47∉cd x
 l:x.length <= 4
 c:Ck x
theorem gr (h:x∈kC):TP x:=by
 have key:∀x∈kC,x≠tE /\ x≠tD /\ x≠tT /\ 47∉cd x /\ x.length <= 4 /\ ∀c∈cd x,E6 c=true:=by rfl'
 obtain⟨a,b,c,d,e,f⟩:=key x h;exact⟨a,b,c,d,e,f⟩
theorem vy (h:x∈[tE,tD,tT]):47∉cd x /\ x.length <= 4 /\ Ck x:=by
 have key:∀x∈[tE,tD,tT],47∉cd x /\ x.length <= 4 /\ ∀c∈cd x,E6 c=true:=by rfl'
 exact key x h
def me (r:fF) (d:Int):List Str:=
 if d.fmod 4=0 then r
 else if d.fmod 4=1 then(r.flatMap λ n=>[tD,n])++[tD]
 else if d.fmod 4=2 then tE::((r.flatMap λ n=>[tE,n])++[tE])
 else r.flatMap λ n=>[n,tT,n]
theorem wm (e:List Nat):∀R:List (List Nat),R≠[]->e++[47]++tJ ([47]++e++[47]) R++[47]++e=tJ [47] ((R.flatMap λ n=>[e,n])++[e])
 |[],h=>absurd rfl h
 |[n],_=>by simp[Vx,Vy]
 |n::m::R,_=>by
  have d:((n::m::R).flatMap λ n=>[e,n])++[e]=e::n::(((m::R).flatMap λ n=>[e,n])++[e]):=by rw[bR];rfl
  rw[d,fi (x:=e) (ks _ _),fi (x:=n) (by simp),fi (x:=n) (by simp),<-wm e (m::R) (by simp)];simp
theorem Kg (R:List (List Nat)):tJ [47] (R.map λ n=>n++[47,46,46,47]++n)=tJ [47] (R.flatMap λ n=>[n,[46,46],n]):=by
 induction R with
 |nil=>rfl
 |cons n R d=>
  cases R with
  |nil=>simp[Vx,Vy]
  |cons m R=>
   have t:((n::m::R).flatMap λ n=>[n,[46,46],n])=n::[46,46]::n::((m::R).flatMap λ n=>[n,[46,46],n]):=by rw[bR];rfl
   rw[aq,fi (by simp),d,t,fi (x:=n) (ks _ _),fi (x:=[46,46]) (ks _ _),fi (x:=n) (by rw[bR];simp)];simp
theorem yC {α β γ:Type} (f:β->γ) (g:α->List β) (l:List α):(l.flatMap g).map f=l.flatMap λ a=>(g a).map f:=by
 induction l with
 |nil=>rfl
 |cons a l d=>rw[bR,av,d,bR]
theorem yD {α β γ:Type} (f:α->β) (g:β->List γ) (l:List α):(l.map f).flatMap g=l.flatMap λ a=>g (f a):=by
 induction l with
 |nil=>rfl
 |cons a l d=>rw[aq,bR,bR,d]
theorem mh (h:r≠[]) (d:Int):fp r d=ar (me r d):=by
 injections r h d;have t:r.map cd≠[]:=by simpa using h
 have H:cd "/"=[47]:=by rfl'
 have e1:cd "/./"=[47,46,47]:=by rfl'
 have e2:cd "/."=[47,46]:=by rfl'
 have e3:cd "///"=[47,47,47]:=by rfl'
 have e4:cd "//"=[47,47]:=by rfl'
 have e5:cd "/../"=[47,46,46,47]:=by rfl'
 have v:cd "."=[46]:=by rfl'
 have u:cd ""=[]:=by rfl'
 have V:cd ".."=[46,46]:=by rfl'
 unfold fp me
 split
 .rfl
 .split
  .apply kZ;rw[gi,fS,fS,jF,e1,e2,av,yC,aq,aX,v];have:=wm [46] (r.map cd) t;rw[yD] at this;simp only[aq,aX,v];rw[<-this];simp
  .split
   .apply kZ;rw[gi,fS,fS,jF,e3,e4,H,aq,av,yC,aq,aX,u,fi (by simp)];have:=wm [] (r.map cd) t;rw[yD] at this;simp only[aq,aX,u];rw[<-this];simp
   .apply kZ;rw[gi,fS,jF,H,yC,bH];have:=Kg (r.map cd);rw[yD,bH] at this;simp only[aq,aX,V];rw[<-this];have M:(cd∘λ(n:Str)=>n++"/../"++n)=(λ n=>n++[47,46,46,47]++n)∘cd:=by
     funext n
     show cd (n++"/../"++n)=_;rw[fS,fS,e5];rfl
    rw[M];rfl
theorem uA (h:x∈me r d):x∈r \/ x∈[tE,tD,tT]:=by
 injections r d x h;have u:∀(e:Str),x∈(r.flatMap λ n=>[e,n])->x=e \/ x∈r:=λ e h=>by
  obtain⟨n,hn,t⟩:=wG.mp h;rcases ap.mp t with rfl|t
  .exact .inl rfl
  .rw[aw.mp t];exact .inr hn
 unfold me at h
 split at h
 .exact .inl h
 .split at h
  .rcases aQ.mp h with h|h
   .rcases u _ h with rfl|h
    .exact .inr (by simp)
    .exact .inl h
   .rw[aw.mp h];exact .inr (by simp)
  .split at h
   .rcases ap.mp h with rfl|h
    .exact .inr (by simp)
    .rcases aQ.mp h with h|h
     .rcases u _ h with rfl|h
      .exact .inr (by simp)
      .exact .inl h
     .rw[aw.mp h];exact .inr (by simp)
   .have⟨n,hn,t⟩:=wG.mp h;simp only[ap,aK,or_false] at t;rcases t with rfl|rfl|rfl
    .exact .inl hn
    .exact .inr (by simp)
    .exact .inl hn
theorem yE {α β:Type} (f:α->List β) (k:Nat) (h:∀a,(f a).length=k) (l:List α):(l.flatMap f).length=l.length*k:=by
 induction l with
 |nil=>simp
 |cons a l d=>rw[bR,aF,d,h,aE,Nat.succ_mul];exact ai (lz 6459756546) (lz 6459756546)
theorem E7 (r:fF) (d:Int):(me r d).length <= 3*r.length+2:=by
 unfold me
 split
 .exact lz 45093323018241
 .split
  .rw[aF,yE _ 2 (λ _=>rfl)];simp;exact lz 112644657063399425
  .split
   .rw[aE,aF,yE _ 2 (λ _=>rfl)];simp;exact lz 3414534393857
   .rw[yE _ 3 (λ _=>rfl)];exact lz 184702251118104577
theorem DD (P Q:List Str):eV (P++Q)=Q.foldl du (eV P):=by unfold eV;rw[cq]
theorem sZ {st:List Str} {n:Str} (h:TP n):du st n=st++[n]:=by unfold du;rw[if_neg (λ q=>q.elim h.e h.d),if_neg h.dd]
theorem pF {st:List Str} {n:Str} (h:n=tE \/ n=tD):du st n=st:=by unfold du;rw[if_pos h]
theorem yF {r:fF} (h:Nm r) (st:List Str):r.foldl du st=st++r:=by
 induction r generalizing st with
 |nil=>simp
 |cons n r d=>rw[bf,sZ (gr (h n (ag ..))),d (λ y hy=>h y (ao _ hy))];simp
theorem AK (h:Nm r) (e:Str) (t:e=tE \/ e=tD) (st:List Str):(r.flatMap λ n=>[e,n]).foldl du st=st++r:=by
 induction r generalizing st with
 |nil=>simp
 |cons n r d=>
  rw[bR,cq,bf,bf,gS,pF t,sZ (gr (h n (ag ..))),d (λ y hy=>h y (ao _ hy))];simp
theorem HS {r:fF} (h:Nm r) (st:List Str):(r.flatMap λ n=>[n,tT,n]).foldl du st=st++r:=by
 induction r generalizing st with
 |nil=>simp
 |cons n r d=>
  have hn:=gr (h n (ag ..));have e:du (st++[n]) tT=st:=by
   unfold du;rw[if_neg (by rfl'),if_pos rfl];simp
  rw[bR,cq,bf,bf,bf,gS,sZ (st:=st) hn,e,sZ hn,d (λ y hy=>h y (ao _ hy))];simp
theorem yG (h:Nm r):eV r=r:=by unfold eV;rw[yF h];rfl
theorem DE (h:Nm r) (d:Int):eV (me r d)=r:=by
 unfold eV me
 split
 .rw[yF h];rfl
 .split
  .rw[cq,AK h _ (.inr rfl),bf,gS,pF (.inr rfl)];rfl
  .split
   .rw[bf,pF (.inl rfl),cq,AK h _ (.inl rfl),bf,gS,pF (.inl rfl)];rfl
   .rw[HS h];rfl
theorem wT (h:Nm r) (t:r≠[]) (d:Int):DB (me r d):=by
 cases r with
 |nil=>exact absurd rfl t
 |cons n r=>
  have hn:=gr (h n (ag ..));unfold me
  split
  .exact .one hn.e hn.f
  .split
   .rw[bR];exact .one (by rfl') (by rfl')
   .split
    .rw[bR];exact .two
    .rw[bR];exact .one hn.e hn.f
theorem DB.nil (h:DB P):P≠[]:=by cases h<;>simp
structure iR (r:fF):Prop where
 nm:Nm r
 ne:r≠[]
 len:r.length <= 12
theorem wU (h:Nm r) (d:Int):HQ (me r d):=λ x t=>by
 rcases uA t with q|q
 .exact(gr (h x q)).f
 .exact(vy q).1
theorem AL (h:iR r) (d:Int):Wn (me r d):=⟨by have:=E7 r d;have:=h.len;exact(lz 62229468687756507809042141218) ‹_› this,λ x t=>by
 rcases uA t with q|q
 .exact(gr (h.nm x q)).l
 .exact(vy q).2.1⟩
theorem B9 (h:iR r) (d:Int):yv (fp r d):=by
 rw[mh h.ne];exact Pj (wT h.nm h.ne d) (wU h.nm d) (AL h d)
theorem Ca (h:iR r) (d:Int):mW (fp r d)=ar r:=by
 have t:me r d≠[]:=(wT h.nm h.ne d).nil;rw[mh h.ne,AI t (wU h.nm d),DE h.nm]
theorem E8 (h:iR r) (d:Int):Ck (fp r d):=by
 rw[mh h.ne];refine Gj λ x t=>?_;rcases uA t with q|q
 .exact(gr (h.nm x q)).c
 .exact(vy q).2.2
theorem DF (h:iR r) (d:Int):(fp r d).length <= 201:=by rw[mh h.ne];exact uz (AL h d)
theorem DG (P:List Str):lR (ar P)=false:=by
 have h:=gi P;unfold lR;rw[decide_eq_false_iff_not];have u:cd "md"=[109,100]:=by rfl'
 have t:cd "rm"=[114,109]:=by rfl'
 have d:cd "mv"=[109,118]:=by rfl'
 rintro(q|q|q)<;>rw[q] at h
 .rw[u] at h;simp at h
 .rw[t] at h;simp at h
 .rw[d] at h;simp at h
theorem yH (h:iR r) (d:Int):lR (fp r d)=false:=by rw[mh h.ne];exact DG _
theorem mi (h:Nm r):fO (ar r)=r:=by
 by_cases z:r=[]
 .subst z;rfl'
 .unfold fO;rw[qv z λ x t=>(gr (h x t)).f,dc,if_neg (by simp)];exact nc.mpr λ x t=>decide_eq_true ⟨(gr (h x t)).e,(gr (h x t)).d⟩
theorem DH (ha:Nm a) (hb:Nm b) (h:ar a=ar b):a=b:=by rw[<-mi ha,<-mi hb,h]
theorem HT {bs:List fF} (h:∀r∈bs,Nm r):(bs.map ar).map fO=bs:=by
 rw[bH]
 conv=>rhs;rw[<-jY bs]
 exact dQ λ r hr=>mi (h r hr)
theorem se {a:fF} {bs:List fF} (h:∀r∈a::bs,Nm r):eD (ar a) (bs.map ar)=yt (kJ false a bs) (kJ true a bs):=by
 unfold eD;rw[mi (h a (ag ..)),HT λ r hr=>h r (ao _ hr)]
theorem vz (g:Bool) (a:fF) (bs:List fF):kJ g a bs∈a::bs:=by
 rcases vt g bs a with h|h
 .rw[h];exact ag ..
 .exact ao _ h
theorem Gk:∀(o s:fF),s≠[]->lexLt o (o++s)=true
 |[],s,h=>by
  cases s with
  |nil=>exact absurd rfl h
  |cons x s=>rfl
 |x::o,s,h=>by
  show lexLt (x::o) (x::(o++s))=true;rw[xj,if_pos rfl];exact Gk o s h
theorem yI (nm:∀r∈a::bs,Nm r) (d:o∈a::bs) (h:∀v∈a::bs,∃s,v=o++s):eD (ar a) (bs.map ar)=o:=by
 rw[se nm];have e:kJ false a bs=o:=by
  obtain⟨s,hs⟩:=h _ (vz false a bs);have hb:=sX false bs a o d;by_cases z:s=[]
  .rw[hs,z,ax]
  .rw[hs] at hb;have:=Gk o s z;have hb:lexLt o (o++s)=false:=hb;rw[this] at hb;cases hb
 obtain⟨s,hs⟩:=h _ (vz true a bs);rw[e,hs];exact yu o (o++s) (by simp)
theorem yJ:∀(x y:fF),(∃s,x=yt x y++s) /\ ∃s,y=yt x y++s
 |[],y=>⟨⟨[],rfl⟩,⟨y,rfl⟩⟩
 |x::xs,[]=>⟨⟨x::xs,rfl⟩,⟨[],rfl⟩⟩
 |x::xs,y::ys=>by
  rw[Ux]
  split
  .rename_i e;subst e;obtain⟨⟨s,hs⟩,⟨t,d⟩⟩:=yJ xs ys;exact⟨⟨s,by rw[bh,<-hs]⟩,⟨t,by rw[bh,<-d]⟩⟩
  .exact⟨⟨x::xs,rfl⟩,⟨y::ys,rfl⟩⟩
theorem yK (nm:∀r∈a::bs,Nm r):∃r∈a::bs,∃s,r=eD (ar a) (bs.map ar)++s:=by
 rw[se nm];exact⟨_,vz false a bs,(yJ _ _).1⟩
theorem Cb (x y:Str):ni x y=ar (eD x [y]):=rfl
theorem sf (hr:Nm r) (u:Nm o):ni (ar r) (ar o)=ar o↔r.take o.length=o:=by
 injections r o hr u;have nm:∀v∈r::[o],Nm v:=λ v d=>by
  rcases ap.mp d with rfl|d
  .exact hr
  .rw[aw.mp d];exact u
 rw[Cb,gJ];constructor
 .intro h;have t:=se nm;have h0:=yK nm;have hn:Nm (eD (ar r) [ar o]):=λ y hy=>by
   obtain⟨v,d,s,e⟩:=h0;exact nm v d y (by rw[e];exact aP _ hy)
  have e:=DH hn u h;have t:eD (ar r) [ar o]=_:=t;rw[e] at t;have c:=yJ (kJ false r [o]) (kJ true r [o]);rw[<-t] at c;rcases ap.mp (vz false r [o]) with q|q
  .rw[q] at c;exact c.1
  .rcases ap.mp (vz true r [o]) with q2|q2
   .rw[q2] at c;exact c.2
   .have q:=aw.mp q;have q2:=aw.mp q2;have M:lexLt r (kJ false r [o])=false:=sX false [o] r r (ag ..);have H:lexLt (kJ true r [o]) r=false:=sX true [o] r r (ag ..);rw[q] at M;rw[q2] at H;rcases lf M with z|z
    .exact⟨[],by rw[z];simp⟩
    .rw[z] at H;cases H
 .rintro⟨s,rfl⟩;have:=yI (o:=o) (a:=o++s) (bs:=[o]) nm (by simp) (λ v d=>by
   rcases ap.mp d with rfl|d
   .exact⟨s,rfl⟩
   .exact⟨[],by rw[aw.mp d];simp⟩)
  have this:eD (ar (o++s)) [ar o]=o:=this;rw[this]
theorem sg (P:List Str):eO (ar P) "/"=true:=by
 unfold eO;rw[qk,bB];have h:=gi P;refine⟨decide_eq_true ?_,?_⟩
 .rw[kg,oS,h];simp
 .rw[kg];show((cd (ar P)).drop 0).take 1==cd "/";rw[h,pE];rfl
theorem E9 (h:Nm r) (hl:r.length <= 40):Wn r:=⟨hl,λ y hy=>(gr (h y hy)).l⟩
theorem mF (h:iR r):(ar r).length <= 201 /\ (Txt.split (ar r) "/").length <= 13 /\ ∀z∈Txt.split (ar r) "/",z.length <= 4:=by
 refine⟨uz (E9 h.nm (by have:=h.len;exact OO this)),?_,?_⟩
 .rw[qv h.ne λ x d=>(gr (h.nm x d)).f];have:=h.len;simp;exact this
 .rw[qv h.ne λ x d=>(gr (h.nm x d)).f];intro z hz;rcases ap.mp hz with rfl|hz
  .decide+kernel
  .exact(gr (h.nm z hz)).l
theorem AM (h:∀r∈a::bs,iR r):nP "/" (eD (ar a) (bs.map ar))=true /\ bA "/"+(bw "/" (eD (ar a) (bs.map ar))).length <= aO:=by
 obtain⟨r,hr,s,e⟩:=yK λ r hr=>(h r hr).nm;have d:Wn (eD (ar a) (bs.map ar)):=by
  refine E9 (λ y hy=>(h r hr).nm y (by rw[e];exact aP _ hy)) ?_;have h1:=(h r hr).len;have:=congrArg iT e;rw[aF] at this;exact(lz 158200702848000447287331) h1 this
 exact⟨B8 d,by have:=qw d;rw[kg,ay];exact Qd this⟩
theorem Rb (hr:iR r) (u:iR o):TG (ar r) (ar o):=by
 have two:∀{P:Str->Prop},P (ar r)->P (ar o)->∀q∈[ar r,ar o],P q:=λ h1 h2 q t=>by
  rcases ap.mp t with rfl|t
  .exact h1
  .rw[aw.mp t];exact h2
 have h:=AM (a:=r) (bs:=[o]) λ v d=>by
  rcases ap.mp d with rfl|d
  .exact hr
  .rw[aw.mp d];exact u
 have sm:∀{v:fF},iR v->(ar v).length <= 100000 /\ (Txt.split (ar v) "/").length <= 1000 /\ ∀z∈Txt.split (ar v) "/",z.length <= 100000:=λ d=>by
  obtain⟨a,b,c⟩:=mF d;exact⟨Qe a,Qf b,λ z hz=>by have:=c z hz;exact OP this⟩
 exact⟨two (sg r) (sg o),two (P:=λ q=>q.length <= 100000 /\ (Txt.split q "/").length <= 1000 /\ ∀z∈Txt.split q "/",z.length <= 100000) (sm hr) (sm u),h.1,h.2⟩
theorem TQ {l:List fF} (h:∀r∈l,iR r) (hl:l.length <= 1000):Na (l.map ar) where
 n:=by rw[ah];exact hl
 ha q d:=by obtain⟨r,hr,rfl⟩:=az.mp d;exact sg r
 hl q d:=by
  obtain⟨r,hr,rfl⟩:=az.mp d;obtain⟨a,b,c⟩:=mF (h r hr);exact⟨Qe a,Qf b,λ z hz=>by have:=c z hz;exact OP this⟩
 hj p ps e:=by
  cases l with
  |nil=>cases e
  |cons a bs=>
   rw[aq,dO] at e;obtain⟨rfl,rfl⟩:=e;exact AM h
theorem oE {o:fF} {l:List fF} (nm:∀r∈l,Nm r) (d:o∈l) (h:∀v∈l,∃s,v=o++s):sY (l.map ar)=ar o:=by
 cases l with
 |nil=>cases d
 |cons a bs=>
  show"/"++bw "/" (eD (ar a) (bs.map ar))=_;rw[yI nm d h];rfl
theorem qx:∀{r s:List (List Nat)},r≠[]->s≠[]->tJ sp (r++s)=tJ sp r++sp++tJ sp s
 |[],_,h,_=>absurd rfl h
 |[x],s,_,h=>by rw[bh,be,fi h];rfl
 |x::y::r,s,_,h=>by
  rw[bh,fi (by simp),qx (by simp) h,fi (r:=y::r) (by simp)];simp only[de]
theorem E' (d:o≠[]) (s:fF):sP (some (((ar o).length:Int)+1)) none (ar (o++s))=if s=[] then tE else bw "/" s:=by
 apply kZ;rw[yB,show(((ar o).length:Int)+1)=((((ar o).length+1:Nat)):Int) from eS Qa Qb,FD]
 split
 .rename_i h;subst h;rw[ax,bN (by rw[oS];exact lz 6719279105)];rfl'
 .rename_i h;rw[gi,av,qx (by simpa using d) (by simpa using h),oS,gi,jF,pE];rw[aE,kF,de,<-jO,lP];rfl
theorem DJ:∀(r:List (List Nat)) (m:List Nat),∃z,tJ sp (r++[m])=z++m
 |[],m=>⟨[],rfl⟩
 |x::r,m=>by
  obtain⟨z,hz⟩:=DJ (sp:=sp) r m;exact⟨x++sp++z,by rw[bh,fi (by simp),hz];simp only[de]⟩
theorem HU (h:Nm n) (d:n≠[]):qI (ar n) "/"=false:=by
 rcases fR n with rfl|⟨p,m,rfl⟩
 .exact absurd rfl d
 .rw[gW] at*;have u:=gr (h m (by simp));obtain⟨z,hz⟩:=DJ (sp:=[47]) (p.map cd) (cd m);rcases fR (cd m) with e|⟨q,c,e⟩
  .exact absurd (kZ (y:=tE) (e.trans (by rfl'))) u.e
  .rw[gW] at e;have hc:c≠47:=λ z=>u.f (by rw[e,z];simp);have t:cd (ar (p++[m]))=(47::(z++q))++[c]:=by
    rw[gi,av,aq,aX,hz,e];simp
   unfold qI;rw[lX]
   right
   rw[qk,kg,oS];show(((cd (ar (p++[m]))).drop ((cd (ar (p++[m]))).length-1)).take 1==cd "/")=false;rw[t,aF,show[c].length=1 from rfl,ji,lP,pE];show([c]==[47])=false;simpa using hc
theorem DK (h:Nm s):eO (if s=[] then tE else bw "/" s) "/"=false:=by
 split
 .decide+kernel
 .rename_i d;cases s with
  |nil=>exact absurd rfl d
  |cons m s=>
   have u:=gr (h m (ag ..));unfold eO;rw[lX]
   right
   rw[qk,kg];show(((cd (bw "/" (m::s))).drop 0).take 1==cd "/")=false;rw[jF,aq,pE];cases e:cd m with
   |nil=>exact absurd (kZ (y:=tE) (e.trans (by rfl'))) u.e
   |cons c q=>
    have hc:c≠47:=λ z=>u.f (by rw[e,z];simp);have t:∃z,tJ [47] ((c::q)::s.map cd)=c::z:=by
     cases s with
     |nil=>exact⟨q,rfl⟩
     |cons y r=>exact⟨_,by rw[aq,fi (by simp)];rfl⟩
    obtain⟨z,t⟩:=t;show(((tJ [47] ((c::q)::s.map cd)).drop 0).take 1==[47])=false;rw[t];simpa using hc
def nF (n s:fF):List Str:=if s=[] then n++[tE] else n++s
theorem DL (t:o≠[]) (hn:n≠[]) (d:Nm n) (ns:Nm s):mu (ar o) (ar n) (ar (o++s))=ar (nF n s):=by
 unfold mu oQ;rw[E' t,if_neg,HU d hn,if_neg (by simp)]
 .apply kZ;unfold nF;rw[fS,fS,gi]
  split
  .rename_i h;rw[gi,av,qx (by simpa using hn) (by simp)];have e:cd tE=[]:=by rfl'
   rw[aq,aX,e];simp[Vx,Vy,pE]
  .rename_i h;rw[gi,av,qx (by simpa using hn) (by simpa using h),jF,pE];show 47::tJ [47] (n.map cd)++([47]++tJ [47] (s.map cd))=_;simp
 .rw[DK ns];rintro(q|q)
  .cases q
  .rw[oS,gi] at q;simp at q
theorem DM (d:Nm n) (ns:Nm s):eV (nF n s)=n++s:=by
 unfold nF
 split
 .rename_i h;rw[DD,yG d,h,bf,gS,pF (.inl rfl),ax]
 .exact yG λ y hy=>(aQ.mp hy).elim (d y) (ns y)
theorem yL (h:x∈nF n s):x∈n \/ x∈s \/ x=tE:=by
 unfold nF at h
 split at h
 .rcases aQ.mp h with q|q
  .exact .inl q
  .exact .inr (.inr (aw.mp q))
 .rcases aQ.mp h with q|q
  .exact .inl q
  .exact .inr (.inl q)
theorem wV (hn:n≠[]) (t:Nm n):DB (nF n s):=by
 cases n with
 |nil=>exact absurd rfl hn
 |cons m n=>
  have d:=gr (t m (ag ..));unfold nF
  split<;>exact .one d.e d.f
theorem wW (d:Nm n) (ns:Nm s):HQ (nF n s):=λ x t=>by
 rcases yL t with q|q|q
 .exact(gr (d x q)).f
 .exact(gr (ns x q)).f
 .rw[q];exact(vy (by simp)).1
theorem HV (d:Nm n) (ns:Nm s) (hl:n.length+s.length <= 39):Wn (nF n s):=⟨by unfold nF;split<;>simp<;>(first|exact(lz 722454083271405867026) hl|exact(lz 184948245317548637687826) hl),λ x t=>by
 rcases yL t with q|q|q
 .exact(gr (d x q)).l
 .exact(gr (ns x q)).l
 .rw[q];exact(vy (by simp)).2.1⟩
theorem Fa (t:o≠[]) (hn:n≠[]) (d:Nm n) (ns:Nm s):mW (mu (ar o) (ar n) (ar (o++s)))=ar (n++s):=by
 rw[DL t hn d ns,AI (wV hn d).nil (wW d ns),DM d ns]
theorem Fb (t:o≠[]) (hn:n≠[]) (d:Nm n) (ns:Nm s) (hl:n.length+s.length <= 39):yv (mu (ar o) (ar n) (ar (o++s))):=by
 rw[DL t hn d ns];exact Pj (wV hn d) (wW d ns) (HV d ns hl)
def rf (rows:List fF) (k:Str) (ns:List fF):List fF:=if k="md" then rows++[ns.getD 0 []] else if k="mv" then rows.map (ec (ns.getD 0 []) (ns.getD 1 [])) else rows.filter λ r=>decide (r.take (ns.getD 0 []).length≠ns.getD 0 [])
structure gX (rows:List fF) (k:Str) (ns rows':List fF):Prop where
 d:B7 rows k ns rows'
 g:RG rows
 r1:∀r∈rows,iR r
 r2:∀r∈rows',iR r
 r3:∀r∈ns,iR r
 l1:rows.length <= 12
 l2:rows'.length <= 12
theorem AN {t:Str} {r o n:fF} (hr:Nm r) (u:Nm o) (d:o≠[]) (hn:t="mv"->Nm n /\ n≠[]):fW t (ar o) (ar n) (ar r)=if r.take o.length=o then(if t="mv" then some (ar (ec o n r)) else none) else some (ar r):=by
 unfold fW;by_cases h:r.take o.length=o
 .rw[if_neg (by rw[(sf hr u).mpr h];simp),if_pos h]
  split
  .rename_i e;obtain⟨s,rfl⟩:=gJ.mp h;rw[qu,Fa d (hn e).2 (hn e).1 λ y hy=>hr y (aS _ hy)]
  .rfl
 .rw[if_pos λ q=>h ((sf hr u).mp q),if_neg h]
theorem nG {f:Str->Option Str} {p:fF->Bool} {g:fF->fF}:∀{rows:List fF},(∀r∈rows,f (ar r)=if p r=true then some (ar (g r)) else none)->(rows.map ar).filterMap f=((rows.filter p).map g).map ar
 |[],_=>rfl
 |r::rows,h=>by
  have d:=nG (rows:=rows) (p:=p) (g:=g) λ x t=>h x (ao _ t);rw[aq,fC,h r (ag ..),dc,d];by_cases z:p r=true
  .rw[if_pos z,if_pos z];rfl
  .rw[if_neg z,if_neg z]
variable{rows rows' ns:List fF} {k:Str}
theorem gX.done (h:gX rows k ns rows'):mX (rows.map ar) (k::ns.map ar)=(rf rows k ns).map ar:=by
 obtain⟨d,g,r1,r2,r3,l1,l2⟩:=h;cases d with
 |@md new h=>
  show oR _ "md" (ar new) _=_;unfold oR rf;rw[if_pos rfl,if_pos rfl,av];rfl
 |@rm old h=>
  show oR _ "rm" (ar old) _=_;unfold oR rf;have t:=r3 old (by simp);rw[if_neg (by rfl'),if_neg (by rfl'),if_neg (by rfl')];have:=nG (rows:=rows) (f:=fW "rm" (ar old) "") (p:=λ r=>decide (r.take old.length≠old)) (g:=id) λ r hr=>by
   have e:fW "rm" (ar old) (ar []) (ar r)=fW "rm" (ar old) "" (ar r):=by
    unfold fW;rw[if_neg (c:=("rm":Str)="mv") (by rfl'),if_neg (c:=("rm":Str)="mv") (by rfl')]
   rw[<-e,AN (r1 r hr).nm t.nm t.ne (λ z=>absurd z (by rfl')),if_neg (c:=("rm":Str)="mv") (by rfl')];by_cases z:r.take old.length=old
   .simp[z]
   .simp[z]
  rw[jY] at this;exact this
 |@mv old new h h2 h3=>
  show oR _ "mv" (ar old) (ar new)=_;unfold oR rf;have t:=r3 old (by simp);have hn:=r3 new (by simp);rw[if_neg (by rfl'),if_neg (by rfl'),if_pos rfl];have:=nG (rows:=rows) (f:=fW "mv" (ar old) (ar new)) (p:=λ r=>true) (g:=ec old new) λ r hr=>by
   rw[AN (r1 r hr).nm t.nm t.ne (λ _=>⟨hn.nm,hn.ne⟩),if_pos rfl];by_cases z:r.take old.length=old
   .simp[z]
   .simp[z,vx z]
  rw[nc.mpr λ _ _=>rfl] at this;exact this
theorem gX.raw (h:gX rows k ns rows'):(rf rows k ns).Nodup /\ ie (rf rows k ns)=rows':=by
 obtain⟨d,g,r1,r2,r3,l1,l2⟩:=h;cases d with
 |@md new h=>
  refine⟨?_,rfl⟩;show(rows++[new]).Nodup;rw[cP];exact⟨g.nd,by simp,λ a ha b hb e=>h.out (by rw[<-aw.mp hb,<-e];exact ha)⟩
 |@rm old h=>
  have e:rf rows "rm" [old]=rows.filter λ r=>decide (r.take old.length≠old):=by
   unfold rf;rw[if_neg (by rfl'),if_neg (by rfl')];rfl
  rw[e];have sr:SL (rows.filter λ r=>decide (r.take old.length≠old)):=g.srt.filter _;exact⟨xZ sr,v8 (rW (xZ sr)) sr (fm _)⟩
 |@mv old new h h2 h3=>
  have e:rf rows "mv" [old,new]=rows.map (ec old new):=by
   unfold rf;rw[if_neg (by rfl'),if_pos rfl];rfl
  rw[e];exact⟨yA g h2,rfl⟩
theorem Fc (x:Str) (a b:List Str):lexLt (x::a) (x::b)=lexLt a b:=by
 rw[xj,if_pos rfl]
theorem AO (x:Str) (a:List Str):∀l:List (List Str),By (x::a) (l.map (x::·))=(By a l).map (x::·)
 |[]=>rfl
 |b::l=>by
  rw[aq];rw[Uo,Uo];rw[Fc]
  split
  .rfl
  .rw[aq,AO x a l]
theorem yM (x:Str):∀l:List (List Str),ie (l.map (x::·))=(ie l).map (x::·)
 |[]=>rfl
 |a::l=>by
  show By (x::a) (ie (l.map (x::·)))=_;rw[yM x l,AO];rfl
theorem yN {L:List fF} (h:∀r∈L,iR r):rowsOf (L.map ar)=L.map (tE::·):=by
 unfold rowsOf;rw[bH];exact dQ λ r hr=>qv (h r hr).ne λ x d=>(gr ((h r hr).nm x d)).f
theorem gX.rawOk (h:gX rows k ns rows'):∀r∈rf rows k ns,iR r:=λ r hr=>h.r2 r (by rw[<-h.raw.2];exact(fm _).mem_iff.mpr hr)
theorem gX.shelf (h:gX rows k ns rows'):lm (rows.map ar) (k::ns.map ar)=rows'.map ar:=by
 unfold lm;rw[h.done,yN h.rawOk,yM,h.raw.2,bH];exact dQ λ r hr=>(AH r (h.r2 r hr).ne).symm
theorem gX.step (h:gX rows k ns rows'):EX (rows.map ar) (k::ns.map ar):=by
 injections rows rows' ns k h;have hr:=h.raw;have v:=h.rawOk;have H:(rf rows k ns).length <= 12:=by rw[<-(fm _).length_eq,hr.2];exact h.l2
 refine⟨?_,?_,?_,?_⟩
 .have l1:=h.l1;have V:k.length <= 2:=by cases h.d<;>rfl'
  have M:∀r∈ns,(ar r).length <= 201:=λ r hr=>(mF (h.r3 r hr)).1;refine⟨by rw[ah];exact Iu l1,?_,?_,?_,?_⟩
  .cases h.d<;>simp
  .intros e;cases h.d with
   |md h=>exact absurd e (by show¬(("md":Str)="mv");rfl')
   |rm h=>exact absurd e (by show¬(("rm":Str)="mv");rfl')
   |mv=>simp
  .intros x u;rcases ap.mp u with rfl|u
   .exact(lz 184665445404512273) V
   .have⟨r,hr,rfl⟩:=az.mp u;have:=M r hr;exact LQ this
  .intros x u;have⟨r,hr,rfl⟩:=az.mp u;have t:=h.r1 r hr;have r3:=h.r3;refine⟨by have:=(mF t).1;exact LQ this,?_,?_⟩
   .cases h.d with
    |@md new h=>exact Rb t (r3 new (by simp))
    |@rm old h=>exact Rb t (r3 old (by simp))
    |@mv old new h h2 h3=>exact Rb t (r3 old (by simp))
   .intros e c;cases h.d with
    |md h=>exact absurd e (by show¬(("md":Str)="mv");rfl')
    |rm h=>exact absurd e (by show¬(("rm":Str)="mv");rfl')
    |@mv old new h h2 h3=>
     have v:=r3 old (by simp);have hn:=r3 new (by simp);have c:ni (ar r) (ar old)=ar old:=c;obtain⟨s,rfl⟩:=gJ.mp ((sf t.nm v.nm).mp c);have h1:=t.len;rw[aF] at h1;exact Fb v.ne hn.ne hn.nm (λ y hy=>t.nm y (aS _ hy)) (by have:=hn.len;exact(lz 3890402554368395882103574563) h1 this)
 .rw[h.done,yN v,uY,dU];exact hr.1.imp λ{a b} q e=>q (List.cons.inj e).2
 .rw[h.done,ah];exact(lz 3536098228703505) H
 .rw[h.done];intros x u;have⟨r,hr,rfl⟩:=az.mp u;have⟨a,b,c⟩:=mF (v r hr);exact⟨LQ a,Qf b,B8 ⟨(lz 61081180239302673) b,c⟩⟩
section
variable{a b:List Str}
abbrev tw (l o:List Str) (i:Nat):List Str:=(l.drop i).takeWhile λ x=>decide (x∉o)
theorem AP (l o:List Str) (i:Nat):l.drop i=tw l o i++l.drop (aW l o i):=by
 have h:(l.drop i)=tw l o i++(l.drop i).dropWhile λ x=>decide (x∉o):=(iA).symm;have h2:l.drop (aW l o i)=(l.drop i).drop (tw l o i).length:=by rw[jO];rfl
 rw[h2]
 conv=>rhs;rhs;rw[h]
 rw[lP];exact h
theorem DN {l o:List Str} {i:Nat} (hi:i <= l.length):yw i (aW l o i) l=tw l o i:=by
 unfold yw;rw[xN gf (ma hi),AP l o i];have e:aW l o i-i=(tw l o i).length:=by show i+(tw l o i).length-i=_;exact ai ((lz 9430545895264275) (dE (lz 276828162))) ((lz 704821583745043) dX)
 rw[e,lO]
theorem wX {l o:List Str} {i r:Nat} (h:∀s,s<r->∀x,l[aW l o i+s]?=some x->x∈o):(l.drop i).filter (λ x=>decide (x∉o))=tw l o i++(l.drop (aW l o i+r)).filter λ x=>decide (x∉o):=by
 rw[AP l o i,vc,nc.mpr λ x d=>ET (f:=λ x=>decide (x∉o)) d]
 congr 1
 have e:l.drop (aW l o i)=(l.drop (aW l o i)).take r++l.drop (aW l o i+r):=by rw[<-jO,gT]
 rw[e,vc,List.filter_eq_nil_iff.mpr,be];intro x d;obtain⟨s,hs⟩:=j8 d;rw[List.getElem?_take] at hs
 split at hs
 .rename_i t;rw[lc] at hs;simpa using h s t x hs
 .cases hs
theorem DO (l:List Str) (x y:List gL):gp l (x++y)=gp l x++gp l y:=by unfold gp;rw[kH]
theorem DP (l:List Str) (x y:List gL):gq l (x++y)=gq l x++gq l y:=by unfold gq;rw[kH]
theorem vA {l:List Str} {i:Nat} (h:i <= l.length):yw i i l=[]:=by unfold yw;rw[xN (aR _) h,nr,nO]
theorem HW:¬(("replace":Str)="equal") /\ ¬(("delete":Str)="equal") /\ ¬(("insert":Str)="equal"):=by rfl'
theorem Kh {l:List Str} {i d j t:Nat} (h:i <= d) (hl:d <= l.length):gp l (cT i d j t)=yw i d l:=by
 unfold cT
 split
 .simp[gp,HW.1]
 .split
  .simp[gp,HW.2.1]
  .have e:d=i:=ai (tG ‹_›) h;rw[e,vA (aL h hl)]
   split
   .simp[gp,HW.2.2,vA (show i <= l.length from aL h hl)]
   .rfl
theorem Ki {l:List Str} {i t j d:Nat} (h:j <= d) (hl:d <= l.length):gq l (cT i t j d)=yw j d l:=by
 unfold cT
 split
 .simp[gq,HW.1]
 .split
  .have e:d=j:=by exact(rM ‹_›).elim (λ q=>ai ((lz 4526758379520036) ‹_› q) h) λ q=>ai (tG q) h
   simp[gq,HW.2.1,e,vA (show j <= l.length from aL h hl)]
  .split
   .simp[gq,HW.2.2]
   .have e:d=j:=ai (tG ‹_›) h;rw[e,vA (aL h hl)];rfl
theorem DQ (l:List Str) (i t j d:Nat):gp l (dS i t j d)=[] /\ gq l (dS i t j d)=[]:=by
 unfold dS
 split<;>simp[gp,gq]
theorem HX:∀(z i j:Nat),JU a b z i j->gp a (dP a b z i j)=(a.drop i).filter (λ x=>decide (x∉b)) /\ gq b (dP a b z i j)=(b.drop j).filter λ x=>decide (x∉a):=by
 intro z
 induction z with
 |zero=>
  intro i j h;exact absurd h.z (mV _)
 |succ z u=>
  intro i j h;have hi:=h.hi;have hj:=h.hj;rw[QB];by_cases d:i<a.length \/ j<b.length
  .rw[if_pos d];have H:=u _ _ (pD h d);have t:=BX (a:=a) (b:=b) _ (aW a b i) (aW b a j) (aR _);unfold mq;rw[DO,DO,DP,DP,H.1,H.2,(DQ ..).1,(DQ ..).2,Kh gf (ma hi),Ki gf (ma hj),DN hi,DN hj,ax,ax];refine⟨(wX λ s hs x v=>?_).symm,(wX λ s hs x v=>?_).symm⟩
   .obtain⟨y,h1,h2⟩:=t s hs;rw[v] at h1;cases h1;exact bD h2
   .obtain⟨y,h1,h2⟩:=t s hs;rw[v] at h2;cases h2;exact bD h1
  .rw[if_neg d,bN (by exact tG (not_or.1 d).1),bN (by exact tG (not_or.1 d).2)];exact⟨rfl,rfl⟩
theorem Kj (hs:lQ a b 0 0):gp a (dm a b)=a.filter (λ x=>decide (x∉b)) /\ gq b (dm a b)=b.filter λ x=>decide (x∉a):=HX _ _ _ (zK hs)
theorem HY (hs:lQ a b 0 0):(dm a b).length <= 2*(a.length+b.length+1):=by
 have key:∀(z i j:Nat),(dP a b z i j).length <= 2*z:=by
  intro z
  induction z with
  |zero=>intro i j;simp[WU]
  |succ z d=>
   intro i j;rw[QB]
   split
   .unfold mq;have h1:=F7 i (aW a b i) j (aW b a j);have h2:=F8 (aW a b i) (zB a b i j) (aW b a j) (BA a b i j);have h3:=d (zB a b i j) (BA a b i j);rw[aF,aF];exact(lz 1065636179969057669207684265329845342260) h1 h2 h3
   .simp
 exact key _ _ _
end
def Gn (p q:Str):Prop:=lexLt (fO p) (fO q)=true
theorem ny {p q:Str} (h:Gn p q):¬Gn q p:=λ z=>by unfold Gn at*;rw[rV h] at z;cases z
theorem wY:∀{l l':List Str},l.Pairwise Gn->l'.Pairwise Gn->(∀t,t∈l↔t∈l')->l=l'
 |[],[],_,_,_=>rfl
 |[],y::l',_,_,h=>nomatch(h y).mpr (ag ..)
 |x::l,[],_,_,h=>nomatch(h x).mp (ag ..)
 |x::l,y::l',h1,h2,h=>by
  rw[eY] at h1 h2;have u:x=y:=by
   rcases ap.mp ((h x).mp (ag ..)) with q|q
   .exact q
   .rcases ap.mp ((h y).mpr (ag ..)) with q2|q2
    .exact q2.symm
    .exact absurd (h1.1 y q2) (ny (h2.1 x q))
  subst u;rw[wY h1.2 h2.2 λ t=>⟨λ d=>?_,λ d=>?_⟩]
  .rcases ap.mp ((h t).mp (ao _ d)) with q|q
   .subst q;exact absurd (h1.1 t d) (ny (h1.1 t d))
   .exact q
  .rcases ap.mp ((h t).mpr (ao _ d)) with q|q
   .subst q;exact absurd (h2.1 t d) (ny (h2.1 t d))
   .exact q
section
variable{A B:List fF}
theorem vB {A:List fF} (h:SL A) (nm:∀r∈A,Nm r):(A.map ar).Pairwise Gn:=by
 rw[dU];refine h.imp_of_mem λ{r s} hr hs q=>?_;unfold Gn;rw[mi (nm r hr),mi (nm s hs)];exact q
theorem nj {l:List Str} (h:l.Pairwise Gn):l.Nodup:=h.imp λ{p q} z e=>absurd z (by subst e;exact ny z)
theorem Nf {l l':List Str} (h:l.Pairwise Gn) (h':l'.Pairwise Gn):lQ l l' 0 0:=by
 unfold lQ;rw[lL,lL];refine wY (h.filter _) (h'.filter _) λ t=>?_;rw[hY,hY,decide_eq_true_iff,decide_eq_true_iff];exact And.comm
theorem Ng {l l':List Str} (h:l.Pairwise Gn) (h':l'.Pairwise Gn):JQ l l':=by
 rintro p q H u ⟨x,h1,h2⟩ ⟨y,h3,h4⟩ t;obtain⟨i1,e1⟩:=au.mp h1;obtain⟨i2,e2⟩:=au.mp h2;obtain⟨V,e3⟩:=au.mp h3;obtain⟨M,e4⟩:=au.mp h4;have d:=gZ.mp h p H i1 V t;rw[e1,e3] at d;rcases oK q u with z|z|z
 .exact z
 .exfalso;subst z;rw[h2] at h4;cases h4;exact ny d d
 .exfalso;have v:=gZ.mp h' u q M i2 z;rw[e2,e4] at v;exact ny d v
theorem HZ {A:List fF} {r:fF} (hr:Nm r) (nm:∀r∈A,Nm r):ar r∈A.map ar↔r∈A:=by
 constructor
 .intro h;obtain⟨s,hs,e⟩:=az.mp h;rw[<-DH (nm s hs) hr e];exact hs
 .exact aZ
theorem vC (d:∀r∈A,Nm r) (nb:∀r∈B,Nm r):(A.map ar).filter (λ x=>decide (x∉B.map ar))=(A.filter λ r=>decide (r∉B)).map ar:=by
 rw[List.filter_map]
 congr 1
 refine List.filter_congr λ r hr=>?_;show decide (ar r∉B.map ar)=decide (r∉B);rw[decide_eq_decide,not_congr (HZ (d r hr) nb)]
end
variable{rows rows' ns:List fF} {k:Str}
structure Kk (rows rows':List fF):Prop where
 s1:(rows.map ar).Pairwise Gn
 s2:(rows'.map ar).Pairwise Gn
 n1:∀r∈rows,Nm r
 n2:∀r∈rows',Nm r
theorem gX.pair (h:gX rows k ns rows'):Kk rows rows':=
 ⟨vB h.g.srt h.g.nm,vB (h.d.rg h.g).1.srt (h.d.rg h.g).1.nm,h.g.nm,(h.d.rg h.g).1.nm⟩
theorem Kk.same (h:Kk rows rows'):lQ (rows.map ar) (rows'.map ar) 0 0:=Nf h.s1 h.s2
def lr (rows rows':List fF):List fF:=rows.filter λ r=>decide (r∉rows')
theorem Kk.told (h:Kk rows rows'):gp (rows.map ar) (dm (rows.map ar) (rows'.map ar))=(lr rows rows').map ar /\ gq (rows'.map ar) (dm (rows.map ar) (rows'.map ar))=(lr rows' rows).map ar:=by
 have t:=Kj h.same;rw[vC h.n1 h.n2,vC h.n2 h.n1] at t;exact t
theorem ii {r:fF}:r∈lr rows rows'↔r∈rows /\ r∉rows':=by unfold lr;rw[hY,decide_eq_true_iff]
inductive Go (rows rows':List fF):Str->List fF->Prop
 |md {new:fF} (h1:lr rows rows'=[]) (h2:new∈lr rows' rows) (h3:∀v∈lr rows' rows,∃s,v=new++s):Go rows rows' "md" [new]
 |rm {old:fF} (h1:old∈lr rows rows') (h2:∀v∈lr rows rows',∃s,v=old++s) (h3:lr rows' rows=[]):Go rows rows' "rm" [old]
 |mv {old new:fF} (h1:old∈lr rows rows') (h2:∀v∈lr rows rows',∃s,v=old++s) (h3:new∈lr rows' rows) (h4:∀v∈lr rows' rows,∃s,v=new++s):Go rows rows' "mv" [old,new]
theorem Gp {l:List fF} (h:∀r,r∉l):l=[]:=by
 cases l with
 |nil=>rfl
 |cons r l=>exact absurd (ag ..) (h r)
theorem gX.moves (h:gX rows k ns rows'):Go rows rows' k ns:=by
 injections rows rows' ns k h;obtain⟨d,g,r1,r2,r3,l1,l2⟩:=h;cases d with
 |@md new h=>
  have u:∀r,r∈ie (rows++[new])↔r∈rows \/ r=new:=λ r=>by rw[(fm _).mem_iff,aQ,aw]
  refine .md (Gp λ r hr=>?_) (ii.mpr ⟨(u _).mpr (.inr rfl),h.out⟩) λ v t=>?_
  .have:=ii.mp hr;exact this.2 ((u r).mpr (.inl this.1))
  .have t:=ii.mp t;exact⟨[],by rw[ax];exact((u v).mp t.1).resolve_left t.2⟩
 |@rm old h=>
  have u:∀r,r∈(rows.filter λ r=>decide (r.take old.length≠old))↔r∈rows /\ r.take old.length≠old:=λ r=>by rw[hY,decide_eq_true_iff]
  refine .rm (ii.mpr ⟨h,λ z=>((u _).mp z).2 (by rw[bF])⟩) (λ v t=>?_) (Gp λ r hr=>?_)
  .have t:=ii.mp t;by_cases z:v.take old.length=old
   .exact gJ.mp z
   .exact absurd ((u v).mpr ⟨t.1,z⟩) t.2
  .have:=ii.mp hr;exact this.2 ((u r).mp this.1).1
 |@mv old new h h2 h3=>
  have u:∀r,r∈ie (rows.map (ec old new))↔(r∈rows /\ r.take old.length≠old) \/ ∃s,old++s∈rows /\ r=new++s:=λ r=>by
   rw[(fm _).mem_iff,az];constructor
   .rintro⟨a,ha,rfl⟩;by_cases q:a.take old.length=old
    .obtain⟨s,rfl⟩:=gJ.mp q;exact .inr ⟨s,ha,qu ..⟩
    .rw[vx q];exact .inl ⟨ha,q⟩
   .rintro(⟨ha,q⟩|⟨s,hs,rfl⟩)
    .exact⟨r,ha,vx q⟩
    .exact⟨old++s,hs,qu ..⟩
  refine .mv (ii.mpr ⟨h,λ z=>?_⟩) (λ v t=>?_) (ii.mpr ⟨(u _).mpr (.inr ⟨[],by rw[ax];exact h,by rw[ax]⟩),h2.out⟩) (λ v t=>?_)
  .rcases(u _).mp z with⟨_,q⟩|⟨s,_,e⟩
   .exact q (by rw[bF])
   .exact E3 g h2 s (e▸h)
  .have t:=ii.mp t;by_cases z:v.take old.length=old
   .exact gJ.mp z
   .exact absurd ((u v).mpr (.inl ⟨t.1,z⟩)) t.2
  .have t:=ii.mp t;rcases(u _).mp t.1 with⟨q,_⟩|⟨s,_,e⟩
   .exact absurd q t.2
   .exact⟨s,e⟩
theorem gX.toldBack (h:gX rows k ns rows'):La.toldBack (rows.map ar) (rows'.map ar) (dm (rows.map ar) (rows'.map ar))=k::ns.map ar:=by
 injections rows rows' ns k h;have t:=h.pair.told;have n1:∀r∈lr rows rows',Nm r:=λ r hr=>h.pair.n1 r (ii.mp hr).1;have n2:∀r∈lr rows' rows,Nm r:=λ r hr=>h.pair.n2 r (ii.mp hr).1;have ne:∀{l:List fF} {r:fF},r∈l->¬l.map ar=[]:=λ hr e=>by rw[mY.mp e] at hr;cases hr
 unfold La.toldBack;rw[t.1,t.2];cases h.moves with
 |@md new h1 h2 h3=>rw[h1,aX,if_pos rfl,oE n2 h2 h3];rfl
 |@rm old h1 h2 h3=>rw[if_neg (ne h1),h3,aX,if_pos rfl,oE n1 h1 h2];rfl
 |@mv old new h1 h2 h3 h4=>rw[if_neg (ne h1),if_neg (ne h3),oE n1 h1 h2,oE n2 h3 h4];rfl
theorem Rc {r:fF} (h:iR r):okS (ar r):=AJ (Gj λ x d=>(gr (h.nm x d)).c)
theorem tc {l:List fF} (h:∀r∈l,iR r):∀x∈l.map ar,okS x:=λ x d=>by
 obtain⟨r,hr,rfl⟩:=az.mp d;exact Rc (h r hr)
theorem gX.toldOk (h:gX rows k ns rows'):J8 (rows.map ar) (rows'.map ar) (dm (rows.map ar) (rows'.map ar)):=by
 injections rows rows' ns k h;have t:=h.pair.told;have l1:=h.l1;have l2:=h.l2;have r1:∀r∈lr rows rows',iR r:=λ r hr=>h.r1 r (ii.mp hr).1;have r2:∀r∈lr rows' rows,iR r:=λ r hr=>h.r2 r (ii.mp hr).1;have g1:(lr rows rows').length <= rows.length:=jB ..;have g2:(lr rows' rows).length <= rows'.length:=jB ..;have cl:=HY h.pair.same;rw[ah,ah] at cl;refine⟨by rw[ah];exact Iu l1,by rw[ah];exact Iu l2,(lz 33316537721703537752475427264637571123) l1 l2 cl,?_,?_,?_,?_,?_⟩
 .rw[t.1];exact TQ r1 (OQ l1 g1)
 .rw[t.2];exact TQ r2 (OQ l2 g2)
 .rw[t.1,t.2];intros e d;rw[mY] at e d;cases h.moves with
  |md h1 h2 h3=>rw[d] at h2;cases h2
  |rm h1 h2 h3=>rw[e] at h1;cases h1
  |mv h1 h2 h3 h4=>rw[e] at h1;cases h1
 .rw[t.1];exact tc r1
 .rw[t.2];exact tc r2
theorem gX.chOk (h:gX rows k ns rows'):TH (rows.map ar) (rows'.map ar):=by
 have l1:=h.l1;have l2:=h.l2;exact⟨by rw[ah];exact Iu l1,by rw[ah];exact Iu l2,h.pair.same,tc h.r1,tc h.r2⟩
def Kw (w:aB):jK:=Up (Tw w) [cStatics,1070,1069,935,934,458,457,431,430,432,265,264,158,157,994,1002,1001,1031,1038,1060,1067,705,712,719,881,428,183,190,197,204,211,219,226,233,159,105,114,112]
theorem fq (w:aB):yc (Kw w) (Tw w):=Ja
theorem iw:yc (Kw w) (Tw w):=Ja
theorem ki (w:aB):oz (Kw w) 1070:=⟨by symm,by symm,by symm,by symm,by symm⟩
theorem yO (w:aB):oz (Kw w) 935:=⟨by symm,by symm,by symm,by symm,by symm⟩
theorem jy (w:aB):oz (Kw w) 265:=⟨by symm,by symm,by symm,by symm,by symm⟩
theorem H0 (w:aB):makesIn (Kw w) 1070=true:=by symm
theorem Kl (w:aB):makesIn (Kw w) 265=true:=by symm
theorem Km (w:aB):rY (Kw w) 935=true:=by symm
theorem Kn (w:aB):readsIn (Kw w) 935 (.type "type")=true:=by symm
theorem Rf (w:aB):findCls (Kw w) (.ref 935) (.type "type") "__new__"=some (.get (.builtin "staticmethod.__get__") (.ref 432) .none (.ref 935)):=by symm
theorem TR (w:aB):recIn (Kw w) 432 "staticmethod"=some [.ref 428]:=by symm
theorem TS (w:aB) (i:Int) (x:Str) (h1:-1099511627776 <= i) (h2:i <= 1099511627776):Fn pw w (Tw w) 2 (.ref 401) [.int i,.str x] [] (Is (.int i) []):=by
 refine dF ["n","what"] [("n",.int i),("what",.str x)] (Tm w) (ff w) ?_ rfl (by rfl') (by rfl') ?_ ?_
 .exact pn λ v t=>rfl
 .intro p d;simp only[ap,aK,or_false] at d;rcases d with rfl|rfl<;>rfl
 .intro A L B ok
  conv=>arg 4;whnf
  refine' br ?t1 ?k1
  case t1=>exact ce (eN.miss (Tt.cast (by ext tt) (by rfl')))
  case k1=>
   ext st;ext st;refine' br ?t2 ?k2
   case t2=>exact wH (rL.skip (Tt.cast (by ext tt) (decide_eq_false (by omega))) (rL.last (Tt.cast (by ext tt) (decide_eq_false (by omega)))))
   case k2=>
    ext st;ext ret;exact⟨[],[],.nil,rfl,rfl⟩
def pG (t:Str) (p:Nat):Gm:=[("_StringIO__newline",.str "\n"),("_StringIO__buf",.str t),("_StringIO__pos",.int p)]
theorem Nh (w:aB) (a da:aM) (t:Str) (p:Nat):Fn pw w (Tw w) 2 (.ref 719) [.inst 935 a da] [(da,cy w.params (pG t p))] (Is .none [(da,cy w.params (pG t p))]):=by
 refine dF ["self"] [("self",.inst 935 a da)] (Pe w) (ff w) ?_ rfl (by rfl') (by rfl') ?_ ?_
 .exact ku λ v=>rfl
 .intro p d;simp only[ap,aK,or_false] at d;rcases d with rfl<;>rfl
 .intro A L B ok
  conv=>arg 4;whnf
  unfold pG;refine' br ?t1 ?k1;ext t1 tt
  case k1=>
   ext st;exact aY ⟨_,[],.cons .head .nil,rfl,rfl⟩
theorem TU (w:aB):Tw w 874=some ⟨.type "tuple",aH,.seq #[.int (-1) 1505] 0,#[]⟩:=by show(Mine.hF pw w.params).get? 874=_;symm
theorem Ko (w:aB) (a da:aM) (t:Str) (p:Nat) (hp:p <= t.length) (ht:t.length <= 1000000):vn pw w (Tw w) 4 (.ref 881) (λ vs=>⟨vs,[]⟩) [.inst 935 a da,.int 1] [(da,cy w.params (pG t p))] (Is (.str (ch t p)) [(da,cy w.params (pG t (min (p+1) t.length)))]):=by
 injections w a da t p hp ht;refine lj ["self","size"] [("self",.inst 935 a da),("size",.int 1)] (JZ w) (ff w) (ds':=[.inst 935 a da,.int 1]) ?_ rfl (by rfl') (by rfl') ?_ ?_
 .intro M A E s K vs Q hT kp r kk;obtain⟨v,H,rfl⟩:∃v H,vs=[v,H]:=pn (P:=λ vs=>∃v H,vs=[v,H]) (λ v H=>⟨v,H,rfl⟩) vs (cB.length r);show wpAny M A (seqItems? (.ref 874)>>=_) Q E s;refine ae (bI (kp _ _ (hT _ _ (TU w))) rfl ?_);exact cz (a:=[(("self":Str),v),(("size":Str),H)]) (by symm) (kk [v,H] s.heap K s.toks (Aft.same kp gx.nil) r)
 .intro p hp;simp only[ap,aK,or_false] at hp;rcases hp with rfl|rfl<;>rfl
 .intros A L B ok
  conv=>arg 4;whnf
  have l1:bA " "=1:=by rfl'
  unfold pG;refine' br ?t1 ?k1;ext t1 tt
  case k1=>
   have ζ:Fn pw w (Tw w) 3 (.ref 401) [.int 1,.str "StringIO.read of a size that is no exact int"] [] (Is (.int 1) []):=(TS w 1 _ (by decide) (by decide)).le (by decide);have ε:Fn pw w (Tw w) 3 (.ref 719) [.inst 935 a da] [(da,cy w.params [("_StringIO__newline",.str "\n"),("_StringIO__buf",.str t),("_StringIO__pos",.int p)])] (Is .none [(da,cy w.params [("_StringIO__newline",.str "\n"),("_StringIO__buf",.str t),("_StringIO__pos",.int p)])]):=(Nh w a da t p).le (by decide);ext st;ext st;refine' pA (kf (fq w) ok (yO w) (f:=719) (ds:=[]) ?c1 ?c2 ?c3 ?c4 ?c5 (Pe w).kp ?c6 ?c7 ε) ?c8;ext c1 ev c2 take
   case c3=>symm
   case c4=>symm
   case c5=>symm
   ext c6 evl c7 takes
   case c8=>
    intros d W' h_;have⟨Wo,⟨rfl,rfl⟩,rfl⟩:=h_;refine⟨rfl,?_⟩;dsimp only[bh,be];ext st;ext st;refine' dY (b:=decide ((p:Int) >= (t.length:Int))) ?d1 (λ u=>?d2) (λ u=>?d3);ext d1 tt
    case d2=>
     have u:=of_decide_eq_true u;have e1:ch t p="":=BN ((lz 69089628178) u);have e2:min (p+1) t.length=p:=by exact Bc.elim (λ q=>ai ((lz 580611229224995) u (cD _ _)) (OR q)) λ q=>ai ((lz 582810252480547) u q) (PO hp q)
     rw[e1,e2];ext ret;exact⟨_,[],.cons .head .nil,rfl,rfl⟩
    case d3=>
     have u:=of_decide_eq_false u;have δ:p<t.length:=(lz 69155754258) u;have e2:min (p+1) t.length=p+1:=by exact Bc.elim (λ q=>q) λ q=>ai ((bO _ _)) ((lz 2391694672827781155) u q)
     ext st;refine' sR (b:=decide ((p:Int)+1<(t.length:Int))) [("self",.inst 935 a da),("start",.int p),("stop",.int ((p:Int)+1))] [(da,cy w.params [("_StringIO__newline",.str "\n"),("_StringIO__buf",.str t),("_StringIO__pos",.int p)])] ?f1 (λ b2=>?f2) (λ b2=>?f3) ?f4
     case f1=>exact ce (eN.step (Tt.cast (by ext tt) (by decide)) (eN.last (by ext tt)))
     case f2=>
      ext st;exact aY ⟨by ext sub,by ext takes⟩
     case f3=>
      have b2:=of_decide_eq_false b2;have e3:(t.length:Int)=(p:Int)+1:=eS ((lz 1265654094924682770) b2) ((lz 283262104114706) u);rw[e3];exact aY ⟨by ext sub,by ext takes⟩
     case f4=>
      ext st;have V:(sP (some (p:Int)) (some ((p:Int)+1)) t).length+(" ":Str).length <= aO:=by have:=FP (some (p:Int)) (some ((p:Int)+1)) t;rw[l1,ay];exact(lz 5279691917522042363850526754) ht this
      have γ:(sP (some (p:Int)) (some ((p:Int)+1)) t++" ").length <= aO:=by rw[cF];exact V
      have β:t.length <= aO:=by rw[ay];exact Qc ht
      refine' ly (Ev.cast (tH (x:=sP (some (p:Int)) (some ((p:Int)+1)) t++" ") (kB ?g1 ?g2 (iV V)) xL (xM (i:=-1) ?g3) γ) ?g4) ?g5
      case g1=>
       with_reducible refine' tH ?i1 ?i2 ?i3 β
       ext i1 ev i2 evo i3 evo
      ext g2 ev g3 ev
      case g4=>rw[QL δ]
      case g5=>
       rw[e2];exact⟨_,[],.cons .head .nil,rfl,rfl⟩
theorem Ni (w:aB) (a da:aM) (t:Str):Fn pw w (Tw w) 2 (.ref 712) [.inst 935 a da,.str t] [(da,cy w.params (pG "" 0))] (Is (.str t) [(da,cy w.params (pG "" 0))]):=by
 refine dF ["self","s"] [("self",.inst 935 a da),("s",.str t)] (Pd w) (ff w) ?_ rfl (by rfl') (by rfl') ?_ ?_
 .exact pn λ v u=>rfl
 .intro p d;simp only[ap,aK,or_false] at d;rcases d with rfl|rfl<;>rfl
 .intro A L B ok
  conv=>arg 4;whnf
  unfold pG;ext st;refine' br ?t1 ?k1;ext t1 tt
  case k1=>
   ext st;refine' br ?t2 ?k2
   case t2=>exact wH (rL.skip (Tt.cast (by ext tt) (by rfl')) (rL.last (Tt.cast (by ext tt) (by rfl'))))
   case k2=>
    ext st;ext ret;exact⟨_,[],.cons .head .nil,rfl,rfl⟩
theorem TV (w:aB):∃t1 t2,Tw w 698=some ⟨.type "tuple",aH,.seq #[.str "" t1,.str "\n" t2] 0,#[]⟩:=⟨1312,1313,by show(Mine.hF pw w.params).get? 698=_;symm⟩
theorem Rg (w:aB) (a da:aM) (t:Str):vn pw w (Tw w) 4 (.ref 705) (MA λ vs=>⟨vs,[]⟩) [.inst 935 a da,.str t] [(da,cy w.params [])] (λ d Wo=>d=.none /\ Wo=[(da,cy w.params (pG t 0))]):=by
 injections w a da t;refine lj ["self","initial_value","newline"] [("self",.inst 935 a da),("initial_value",.str t),("newline",.str "\n")] (Tp w) (ff w) (ds':=[.inst 935 a da,.str t,.str "\n"]) ?_ rfl (by rfl') (by rfl') ?_ ?_
 .intro M A E s K vs Q hT kp r kk;obtain⟨v,u,rfl⟩:∃v u,vs=[v,u]:=pn (P:=λ vs=>∃v u,vs=[v,u]) (λ v u=>⟨v,u,rfl⟩) vs (cB.length r);obtain⟨t1,t2,H⟩:=TV w;show wpAny M A (seqItems? (.ref 698)>>=_) Q E s;refine ae (bI (kp _ _ (hT _ _ H)) rfl ?_);exact cz (a:=[(("self":Str),v),(("initial_value":Str),u),(("newline":Str),.str "\n" t2)]) (by symm) (kk [v,u,.str "\n" t2] s.heap K s.toks (Aft.same kp gx.nil) (.cons r.hd.1 (.cons r.hd.2.hd.1 (.cons ⟨_,rfl⟩ .nil))))
 .intro p hp;simp only[ap,aK,or_false] at hp;rcases hp with rfl|rfl|rfl<;>rfl
 .intros A L B ok
  conv=>arg 4;whnf
  have V:Fn pw w (Tw w) 3 (.ref 712) [.inst 935 a da,.str t] [(da,cy w.params [("_StringIO__newline",.str "\n"),("_StringIO__buf",.str ""),("_StringIO__pos",.int 0)])] (Is (.str t) [(da,cy w.params [("_StringIO__newline",.str "\n"),("_StringIO__buf",.str ""),("_StringIO__pos",.int 0)])]):=(Ni w a da t).le (by decide);refine' br ?t1 ?k1
  case t1=>exact ce (eN.step (Tt.cast (by ext tt) rfl) (eN.last (Tt.cast (by ext tt) (by rfl'))))
  case k1=>
   ext st;refine' br ?t2 ?k2
   case t2=>exact ce (eN.step (Tt.cast (by ext tt) rfl) (eN.step (Tt.cast (by ext tt) (by rfl')) (eN.miss (Tt.cast (by ext tt) (by rfl')))))
   case k2=>
    ext st;refine' br ?t3 ?k3
    case t3=>exact ce (eN.step (Tt.cast (by ext tt) rfl) (eN.last (Tt.cast (by ext tt) (by rfl'))))
    case k3=>
     ext st;ext st;ext st;ext st;refine' fG ?t4 ?k4;ext t4 tt
     case k4=>
      refine' yf (fq w) ok (yO w) (d:=.str t) ?e1 ?e2 ?e3 ?e4 ?e5 ?e6;ext e2 ev
      case e1=>
       refine' Jj (fq w) ok (yO w) (f:=712) (ds:=[.str t]) ?c1 ?c2 ?c3 ?c4 ?c5 (Pd w).kp ?c6 ?c7 V;ext c1 ev c2 take
       case c3=>symm
       case c4=>symm
       case c5=>symm
       ext c6 evl c7 takes
      ext e3 take e4 put
      case e5=>symm
      exact aY (aY ⟨_,[],.cons .head .nil,rfl,rfl⟩)
section
open PySem.Builtin PySem.Builtin.ObjectAttr
def TW (o:Obj):tf:=match o.data with
 |.cls cd=>cd
 |_=>default
theorem Pk (w:aB):Tw w 935=some ⟨.type "type",aH,.cls (TW (Mine.ob 935 pw w.params)),(Mine.ob 935 pw w.params).slots⟩:=by show(Mine.hF pw w.params).get? 935=_;symm
theorem TX (w:aB):Tw w 688=some (Mine.ob 688 pw w.params):=by show(Mine.hF pw w.params).get? 688=_;symm
theorem Nj (w:aB):mE (Kw w) (isType (.ref 935))=some true:=by symm
theorem Nk (w:aB):mE (Kw w) (fT "object.__new__" ⟨[.ref 935],[]⟩)=some ():=by symm
theorem Nl (w:aB):mE (Kw w) (kU (.ref 935))=some (.type "object"):=by symm
theorem Nn (w:aB):mE (Kw w) (j7 (.type "object"))=some (some "object.__new__"):=by symm
theorem Rh (w:aB):findCls (Kw w) (.type "object") (.type "type") "__new__"=some (.val (.builtin "object.__new__")):=by symm
theorem TY (w:aB) (t:Str):vn pw w (Tw w) 2 (.ref 428) (MA λ vs=>⟨vs,[]⟩) [.val (.ref 935),.str t] [] (λ d W=>∃a da,d=.inst 935 a da /\ W=[(da,cy w.params [])]):=by
 injections w t;refine Av [("cls",.val (.ref 935))] (To w) (ff w) ?_ (by rfl') ?_
 .intro M A E s K vs Q hT kp r kk;obtain⟨v,u,rfl⟩:∃v u,vs=[v,u]:=pn (P:=λ vs=>∃v u,vs=[v,u]) (λ v u=>⟨v,u,rfl⟩) vs (cB.length r);show wpAny M A (newTuple [u]>>=_) Q E s;refine ae (nQ ?_);show wpAny M A (alloc emptyDict>>=_) Q E _;refine ae (mK ?_);have A2:Aft K s.heap [] K ((s.heap.push {cls:=.type "tuple",data:=.seq [u].toArray}).push emptyDict) []:=Aft.grow kp gx.nil λ _ _ e=>aA _ (aA _ e);refine cz (a:=[(("cls":Str),v),(("args":Str),.ref s.heap.objs.size),(("kwargs":Str),.ref (s.heap.push {cls:=.type "tuple",data:=.seq [u].toArray}).objs.size)]) (by symm) (kk _ _ K s.toks A2 ?_ ?_)
  .intro p V;simp only[aw] at V;subst V;obtain⟨x,y,e,r1,_⟩:=r;cases e;exact⟨v,rfl,r1⟩
  .intro x H;simp only[ap,aK,or_false] at H;rcases H with rfl|rfl|rfl<;>rfl
 .intros A L B ok
  conv=>arg 4;whnf
  refine' br ?t1 ?k1
  case t1=>exact ce (eN.step (Tt.cast (cp (by ext ev) (by ext ev) (BO ok (Pk w) (TX w) rfl (by decide))) rfl) (eN.last (cp (by ext ev) (by ext ev) zG)))
  case k1=>
   ext st;refine' Bf (Hs (fq w) ok ?c1 ?c2 (Rh w) (Pk w) rfl rfl (Nj w) (Nk w) (Nl w) (Nn w)) ?c3;ext c1 ev c2 ev
   case c3=>
    intros d W' h_;have⟨a,da,rfl,rfl⟩:=h_;exact⟨_,[],.cons .head .nil,a,da,rfl,rfl⟩
theorem Ri (w:aB) (t:Str):vn pw w (Tw w) 5 (.ref 935) (λ vs=>⟨vs,[]⟩) [.str t] [] (λ d Wo=>∃a da,d=.inst 935 a da /\ Wo=[(da,cy w.params (pG t 0))]):=
 Jh (fq w) (Km w) (fI:=705) (fN:=428) (sm:=432) (by symm) (by symm) (Kn w) (Rf w) (TR w) ((TY w t).le (by decide)).a (λ a da=>Rg w a da t)
end
section
open PySem.Builtin PySem.Builtin.ObjectAttr
theorem TZ (w:aB):Gl w "deque" (.type "collections.deque"):=⟨by symm⟩
theorem T0 (w:aB):Tw w 987=some ⟨.type "tuple",aH,.seq #[.none,.none,.bool false,.bool false] 0,#[]⟩:=by show(Mine.hF pw w.params).get? 987=_;symm
abbrev Gq:Str:="abcdfeghijklmnopqrstuvwxyzABCDEFGHIJKLMNOPQRSTUVWXYZ0123456789_"
abbrev Gr:Str:="ßàáâãäåæçèéêëìíîïðñòóôõöøùúûüýþÿÀÁÂÃÄÅÆÇÈÉÊËÌÍÎÏÐÑÒÓÔÕÖØÙÚÛÜÝÞ"
def lF (sa sda q1 q2:aM) (cm:Str) (wsp:Bool) (st:D) (tok:Str):Gm:=[("instream",.inst 935 sa sda),("infile",.none),("posix",.bool true),("eof",.none),("commenters",.str cm),("wordchars",.str (Gq++Gr)),("whitespace",.str " \t\r\n"),("whitespace_split",.bool wsp),("quotes",.str "'\""),("escape",.str "\\"),("escapedquotes",.str "\""),("state",st),("pushback",.val (.ref q1)),("lineno",.int 1),("debug",.int 0),("token",.str tok),("filestack",.val (.ref q2)),("source",.none),("_punctuation_chars",.str "")]
section
variable{sa sda q1 q2:aM} {cm:Str} {wsp:Bool} {st:D} {tok:Str}
theorem Pl:C' (lF sa sda q1 q2 cm wsp st tok) "instream" (.inst 935 sa sda):=by unfold lF;ext fld
theorem T3:C' (lF sa sda q1 q2 cm wsp st tok) "posix" (.bool true):=by unfold lF;ext fld
theorem Lb:C' (lF sa sda q1 q2 cm wsp st tok) "commenters" (.str cm):=by unfold lF;ext fld
theorem No:C' (lF sa sda q1 q2 cm wsp st tok) "wordchars" (.str (Gq++Gr)):=by unfold lF;ext fld
theorem Lc:C' (lF sa sda q1 q2 cm wsp st tok) "whitespace" (.str " \t\r\n"):=by unfold lF;ext fld
theorem Ec:C' (lF sa sda q1 q2 cm wsp st tok) "whitespace_split" (.bool wsp):=by unfold lF;ext fld
theorem RV:C' (lF sa sda q1 q2 cm wsp st tok) "quotes" (.str "'\""):=by unfold lF;ext fld
theorem RW:C' (lF sa sda q1 q2 cm wsp st tok) "escape" (.str "\\"):=by unfold lF;ext fld
theorem T4:C' (lF sa sda q1 q2 cm wsp st tok) "state" (st):=by unfold lF;ext fld
theorem T5:C' (lF sa sda q1 q2 cm wsp st tok) "debug" (.int 0):=by unfold lF;ext fld
theorem T6:C' (lF sa sda q1 q2 cm wsp st tok) "token" (.str tok):=by unfold lF;ext fld
theorem T7:Fw (lF sa sda q1 q2 cm wsp st tok) "state" d (lF sa sda q1 q2 cm wsp d tok):=by unfold lF;ext put
theorem T8:Fw (lF sa sda q1 q2 cm wsp st tok) "token" (.str t') (lF sa sda q1 q2 cm wsp st t'):=by unfold lF;ext put
end
theorem Np (w:aB) (a da:aM) (t:Str):vn pw w (Tw w) 7 (.ref 994) (MA (QJ "posix")) [.inst 1070 a da,.str t,.bool true] [(da,cy w.params [])] (λ d Wo=>d=.none /\ ∃sa sda q1 q2,Wo=[(da,cy w.params (lF sa sda q1 q2 "#" false (.str " ") "")),(q1,.raw CA),(q2,.raw CA),(sda,cy w.params (pG t 0))]):=by
 injections w a da t;refine lj ["self","instream","infile","posix","punctuation_chars"] [("self",.inst 1070 a da),("instream",.str t),("infile",.none),("posix",.bool true),("punctuation_chars",.bool false)] (Tr w) (ff w) (ds':=[.inst 1070 a da,.str t,.none,.bool true,.bool false]) ?_ rfl (by rfl') (by rfl') ?_ ?_
 .intro M A E s K vs Q hT kp r kk;obtain⟨v,H,u,rfl⟩:∃v H u,vs=[v,H,u]:=Fx (P:=λ vs=>∃v H u,vs=[v,H,u]) (λ v H u=>⟨v,H,u,rfl⟩) vs (cB.length r);show wpAny M A (seqItems? (.ref 987)>>=_) Q E s;refine ae (bI (kp _ _ (hT _ _ (T0 w))) rfl ?_);exact cz (a:=[(("self":Str),v),(("instream":Str),H),(("infile":Str),.none),(("posix":Str),u),(("punctuation_chars":Str),.bool false)]) (by symm) (kk [v,H,.none,u,.bool false] s.heap K s.toks (Aft.same kp gx.nil) (.cons r.hd.1 (.cons r.hd.2.hd.1 (.cons rfl (.cons r.hd.2.hd.2.hd.1 (.cons rfl .nil))))))
 .intro p hp;simp only[ap,aK,or_false] at hp;rcases hp with rfl|rfl|rfl|rfl|rfl<;>rfl
 .intros A L B ok
  conv=>arg 4;whnf
  refine' fG ?t1 ?k1;ext t1 tt
  case k1=>
   refine' eU (my ok (BM (fq w) (C:=935) ?c1) ?c2 ?c3 .nil (((Ri w t).le (by decide)).a.fn)) ?c4
   case c1=>symm
   ext c2 ev c3 evl
   case c4=>
    intros d W' V;have⟨Wo,⟨sa,sda,rfl,rfl⟩,rfl⟩:=V;ext bind;dsimp only[bh,be];ext st;refine' fG ?t2 ?k2;ext t2 tt
    case k2=>
     ext st;ext st;ext st;ext st;refine' fG ?t3 ?k3;ext t3 tt
     case k3=>
      ext st;ext st;ext st;ext st;refine' fG ?t4 ?k4;ext t4 tt
      case k4=>
       have β:Gq.length+Gr.length <= aO:=by rw[ay];rfl'
       refine' ux (fq w) ok (ki w) (x:=.str Gq) (b:=.str Gr) (d:=.str (Gq++Gr)) ?f1 ?f2 ?f3 ?f4 (rQ β) ?f5 ?f6 ?f7;ext f1 ev f2 take f3 fld
       case f4=>exact Iv
       ext f5 put
       case f6=>symm
       ext st;ext st;ext st;ext st;ext st;ext st;ext st;refine' BG (my ok kP ?g1 bW .nil FU) ?g2;ext g1 ev
       case g2=>
        intros d W' V;have⟨Wo,⟨q1,rfl,rfl⟩,rfl⟩:=V;dsimp only[bh,be];refine' ⟨_,_,iE (fq w) ok (ki w) ?h1 ?h2 ?h3 ?h4,?h5⟩;ext h1 ev h2 take h3 put
        case h4=>symm
        ext st;ext st;ext st;refine' BG (my ok kP ?i1 bW .nil FU) ?i2;ext i1 ev
        case i2=>
         intros d W' V;have⟨Wo,⟨q2,rfl,rfl⟩,rfl⟩:=V;dsimp only[bh,be];refine' ⟨_,_,iE (fq w) ok (ki w) ?j1 ?j2 ?j3 ?j4,?j5⟩;ext j1 ev j2 take j3 put
         case j4=>symm
         ext st;refine' fG ?l1 ?l2
         case l1=>
          refine Tt.cast (b:=true) (oL (b:=false) ?_) rfl
          with_reducible refine' lw ?z1 ?z2
          ext z1 ev z2 tv
         case l2=>
          ext st;ext st;ext st;refine' br ?m1 ?m2
          case m1=>exact Tt.cast (by ext tt) (by rfl')
          case m2=>
           refine aV (aY ⟨_,[],?_,rfl,sa,sda,q1,q2,rfl⟩);unfold lF;ext takes
end
section
open PySem.Builtin PySem.Builtin.ObjectAttr
theorem vD (w:aB) (a da sa sda q1 q2:aM) (cm:Str) (wsp:Bool) (st:D) (tok:Str):vn pw w (Tw w) 1 (.ref 1001) (λ vs=>⟨vs,[]⟩) [.inst 1070 a da] [(da,cy w.params (lF sa sda q1 q2 cm wsp st tok))] (Is (.str "") [(da,cy w.params (lF sa sda q1 q2 cm wsp st tok))]):=by
 refine lj ["self"] [("self",.inst 1070 a da)] (QX w) (ff w) (ds':=[.inst 1070 a da]) ?_ rfl (by rfl') (by rfl') ?_ ?_
 .exact FH (ku λ v=>rfl)
 .intro p d;simp only[ap,aK,or_false] at d;rcases d with rfl<;>rfl
 .intro A L B ok
  conv=>arg 4;whnf
  unfold lF;ext ret;exact⟨_,[],.cons .head .nil,rfl,rfl⟩
theorem vE (w:aB):recIn (Kw w) 1002 "property"=some [.ref 1001,.none,.none,.none,.str (Mine.y "punctuation_chars") 1681,.bool false]:=by symm
abbrev cI (w:aB) (da sa sda q1 q2:aM) (st:D) (tok:Str) (t:Str) (p:Nat):Om:=[(da,cy w.params (lF sa sda q1 q2 "" true st tok)),(q1,.raw CA),(q2,.raw CA),(sda,cy w.params (pG t p))]
theorem Cd:eM c G W (.str y) (.str x) (.bool (!eR x y)) (bq .NotIn):=λ s K a b Q E S r1 r2 h=>by
 obtain⟨t,rfl⟩:=r1;obtain⟨u,rfl⟩:=r2;exact PySem.SB.notContains (h _ s.heap K _ FM.Le.rfl S (by ext rd))
theorem Rj (h:c∈(Gq++Gr).cps.toList):isQ c=false:=by
 have:∀c∈(Gq++Gr).cps.toList,isQ c=false:=by rfl'
 exact this c h
theorem yP (h:rZ x c=true):c≠9 /\ c≠10 /\ c≠13 /\ c≠92 /\ (zI x.1=true \/ c≠32):=by
 simp only[rZ,bB,bne_iff_ne,Bool.or_eq_true] at h;exact⟨h.1.1.1.1,h.1.1.1.2,h.1.1.2,h.1.2,h.2⟩
theorem Rl:decide (c∈[39,34])=isQ c:=by
 unfold isQ;rw[cQ];simp
theorem Po (v:c≠9) (u:c≠10) (t:c≠13) (d:c≠32):eR " \t\r\n" (s1 c)=false:=by
 rw[ll,show(" \t\r\n":Str).cps.toList=[32,9,13,10] by rfl'];exact decide_eq_false (by simp[v,u,t,d])
theorem Gs (d:c≠92):eR "\\" (s1 c)=false:=by
 rw[ll,show("\\":Str).cps.toList=[92] by rfl'];exact decide_eq_false (by simp[d])
theorem Pp:eR "" (s1 c)=false:=by
 rw[ll,show("":Str).cps.toList=[] by rfl'];exact decide_eq_false aK
theorem Kq:eR "'\"" (s1 c)=isQ c:=by rw[ll,show("'\"":Str).cps.toList=[39,34] by rfl',Rl]
theorem Kr (h:zI x=true):x="'" \/ x="\"":=by
 unfold zI at h;rcases tB.mp h with h|h
 .exact .inl (eq_of_beq h)
 .exact .inr (eq_of_beq h)
theorem Rm (h:zI x=true):eR "'\"" x=true:=by
 rcases Kr h with rfl|rfl
 .exact Kq (c:=39)
 .exact Kq (c:=34)
theorem Rn (h:zI x=true):decide (x=" ")=false:=by rcases Kr h with rfl|rfl<;>rfl'
theorem Ro (h:zI x=true):x≠"a":=λ e=>by subst e;exact absurd h (by rfl')
section
variable{cs:List Nat} {i c:Nat} {sx tk:Str} {q:Bool} {y:LX}
theorem uB (d:((sx,tk,q):LX)=gA (cs.take i)) (hc:cs[i]?=some c) (h:cK (sx,tk,q) c=y):y=gA (cs.take (i+1)):=by rw[wP hc,<-d,h]
theorem Gu (d:((sx,tk,q):LX)=gA (cs.take i)):tk.length <= i:=by
 have h:=wQ (cs.take i) (" ","",false);rw[show List.foldl cK (" ","",false) (cs.take i)=gA (cs.take i) from rfl,<-d] at h;exact aL h (aL (iX (kj _)) (List.length_take_le ..))
theorem DR (d:((sx,tk,q):LX)=gA (cs.take i)) (hi:i <= 1000000):tk.length+(s1 c).length <= aO:=aL (Nat.add_le_add_right (aL (Gu d) hi) 1) (by rfl')
theorem Rp (h:zI sx=true) (b:s1 c=sx):cK (sx,tk,q) c=(("a":Str),tk,true):=(if_pos h).trans (if_pos b)
theorem T9 (h:zI sx=true) (b:s1 c≠sx):cK (sx,tk,q) c=(sx,tk++s1 c,true):=(if_pos h).trans (if_neg b)
theorem Ua (h:zI sx=false) (b:isQ c=true):cK (sx,tk,q) c=(s1 c,tk,q):=(if_neg (ne_true_of_eq_false h)).trans (if_pos b)
theorem Rq (h:zI sx=false) (b:isQ c=false):cK (sx,tk,q) c=(("a":Str),tk++s1 c,q):=(if_neg (ne_true_of_eq_false h)).trans (if_neg (ne_true_of_eq_false b))
end
theorem Ce:(s1 c).length<2^62:=by rw[show(s1 c).length=1 from rfl];decide
theorem Nq (w:aB) (a da sa sda q1 q2:aM) (t:Str) (p:Nat) (cs:List Nat) (rest:List Nat) (wd:Str) (ht:t.length <= 1000000) (μ:t.cps.toList.drop p=cs++rest) (hr:rest=[] \/ ∃r,rest=32::r) (LW:Jk cs wd):
  Fn pw w (Tw w) 7 (.ref 1038) [.inst 1070 a da] (cI w da sa sda q1 q2 (.str " ") "" t p) (Is (.str wd) (cI w da sa sda q1 q2 (if rest=[] then .none else .str " ") "" t (if rest=[] then p+cs.length else p+cs.length+1))):=by
 injections w a da sa sda q1 q2 t p cs rest wd ht μ hr LW;refine dF ["self"] [("self",.inst 1070 a da)] (BZ w) (ff w) ?_ rfl (by rfl') (by rfl') ?_ ?_
 .exact ku λ v=>rfl
 .intro p hp;simp only[ap,aK,or_false] at hp;rcases hp with rfl<;>rfl
 .intros A L B ok
  conv=>arg 4;whnf
  ext st;ext st;have ζ:t.length=t.cps.toList.length:=by simp[bA]
  have η:p+(cs++rest).length=t.length \/ (cs++rest=[] /\ t.length <= p):=by
   have:=congrArg iT μ;rw[eo] at this;by_cases z:p <= t.length
   .left;exact ai ((lz 24367746701246096373977141) ζ this (dE (Sm ζ z))) ((lz 80398588126724810969452597) ζ this dX)
   .right;constructor
    .exact List.eq_nil_of_length_eq_zero (ai ((lz 648836110311559202) this (WN ((lz 585009226387491) ζ z))) GC)
    .exact(lz 69055090706) z
  refine Ax (σ:=Nat×LX) (β:=Bool) (λ st=>cs.length-st.1) (λ st=>st.1 <= cs.length /\ st.2=gA (cs.take st.1)) (λ st=>[("self",.inst 1070 a da),("quoted",.bool st.2.2.2),("escapedstate",.str " ")])
   (λ st=>cI w da sa sda q1 q2 (.str st.2.1) st.2.2.1 t (p+st.1)) (λ _=>True) (λ _=>[("self",.inst 1070 a da),("quoted",.bool (gA cs).2.2),("escapedstate",.str " ")]) (λ _=>cI w da sa sda q1 q2 (if rest=[] then .none else .str " ") wd t (if rest=[] then p+cs.length else p+cs.length+1)) (0,gA (cs.take 0)) ⟨aU _,rfl⟩ ?_ ?_ ?_ ?_
  .show Sub [("self",.inst 1070 a da),("quoted",.bool false),("escapedstate",.str " ")] _;ext sub
  .show cv _ (cI w da sa sda q1 q2 (.str " ") "" t p) [];unfold cI;ext takes
  .refine Fu ?_;intros i sx tk q h_;have⟨hi,H⟩:=h_;dsimp only at hi H⊢;refine⟨by ext tt,?_⟩;unfold cI pG;refine MD (i,"","",false) rfl ?_;intros Rz hz;have θ:=LW.ok i;have υ:(cs++rest).length=cs.length+rest.length:=aF;have ο:cs≠[]:=λ e=>by have:=LW.st;rw[e] at this;exact absurd this (by rfl')
   have ε:0<cs.length:=kI.mpr ο;have u:p+(cs.length+rest.length)=t.length:=by
    rcases η with z|⟨z,_⟩
    .rw[υ] at z;exact z
    .rw[fA] at z;exact absurd z.1 ο
   have δ:p+i <= t.length:=(lz 316844163598008338354213) hi u;have M:∀j c,(cs++rest)[j]?=some c->ch t (p+j)=s1 c:=λ j c e=>SV (by rw[<-μ,lc] at e;exact e);obtain⟨X,m,hX,hm⟩:∃X m,X=ch t (p+i) /\ m=min (p+i+1) t.length:=⟨_,_,rfl,rfl⟩;have ν:Fn pw w (Tw w) 6 (.ref 881) [.inst 935 sa sda,.int 1] [(sda,cy w.params [("_StringIO__newline",.str "\n"),("_StringIO__buf",.str t),("_StringIO__pos",.int ((p+i:Nat):Int))])] (Is (.str X) [(sda,cy w.params (pG t m))]):=hX▸hm▸((Ko w sa sda t (p+i) δ ht).a.fn).le (by decide);refine' br ?b1 ?b2
   case b1=>
    refine' ce (eN.miss (Tt.cast (lw (xF (Wi:=[]) (fq w) ok (ki w) (p:=1002) ?c1 ?c2 ?c3 ?c4 ?c5 (vE w) (n':=1) (by decide) (vD w a da sa sda q1 q2 "" true _ _)) ?c7) ?c8));ext c1 ev c2 take
    case c3=>symm
    case c4=>symm
    case c5=>symm
    ext c7 tv
    case c8=>decide
   case b2=>
    refine' eU (kf (fq w) ok (yO w) (f:=881) (ds:=[.int 1]) ?d1 ?d2 ?d3 ?d4 ?d5 (JZ w).kp ?d6 ?d7 ν) ?d8;ext d1 ev d2 take
    case d3=>symm
    case d4=>symm
    case d5=>symm
    ext d6 evl d7 takes
    case d8=>
     intros d W' h_;have⟨Wo,⟨rfl,rfl⟩,rfl⟩:=h_;unfold pG;dsimp only[bh,be];ext bind;refine aV ?_;have τ:X≠"\n":=by
      rw[hX];show ch t (p+i)≠s1 10;by_cases z:i<cs.length
      .have hc:cs[i]?=some cs[i]:=am z;rw[M i cs[i] (by rw[fJ z];exact hc)];have:=θ _ hc;simp only[rZ,bB,bne_iff_ne] at this;exact Jl this.1.1.1.2
      .have ι:i=cs.length:=ai hi (tG z);rcases hr with rfl|⟨r,rfl⟩
       .rw[BN (by simp only[bp] at u;exact(lz 3669724366716951857401892) z u)];rfl'
       .rw[M i 32 (by rw[ι,fy (aR _)];simp)];exact Jl (by decide)
     have χ:X.length<2^62:=by
      rw[hX];have:(ch t (p+i)).length <= 1:=by unfold ch bA;simp only[aN,bL];exact(bO _ _)
      exact(lz 439874424410385) this
     refine' br ?e1 ?e2
     case e1=>exact Tt.cast (by ext tt) (decide_eq_false τ)
     case e2=>
      refine aV ?_;refine' br ?f1 ?f2
      case f1=>exact Tt.cast (by ext tt) (by decide)
      case f2=>
       refine aV ?_;refine' br ?g1 ?g2;ext g1 tt
       case g2=>
        clear ν
        apply SK sx tk q X m;intros Gl kx;have κ:∀c,cs[i]?=some c->ch t (p+i)=s1 c /\ min (p+i+1) t.length=p+(i+1) /\ i+1 <= cs.length:=λ c hc=>by
         have z:=(au.mp hc).1;exact⟨M i c (by rw[fJ z];exact hc),by exact η.elim (λ q=>Bc.elim (λ r=>ai ((lz 118677704777350802051091) r) ((lz 118677704793322285436947) r)) λ r=>ai ((lz 118677704742166429962259) (bO _ _)) ((lz 67279953410612908928237721620534) u z r)) λ q=>ai ((lz 3882568118730014286234954039350) u z q.2) ((lz 3882568118730014290103771856950) u z q.2),z⟩
        rcases EG cs i hi with hs|hs|⟨h0,hs⟩
        .have hs:(((sx,tk,q):LX)).1="a":=by rw[H];exact hs
         dsimp only at hs;subst hs;have xa:eR "'\"" "a"=false:=Kq (c:=97);have xb:eR "\\" "a"=false:=Gs (c:=97) (by decide);have ι:∀G W,eM (Cw w A (cx (fb 1038) L 1038) B) G W (.str "a") (.tup [.str "a",.str "c"]) (.bool true) (bq .In):=λ G W=>
          D8 (congrArg (λ b=>eM (Cw w A (cx (fb 1038) L 1038) B) G W (.str "a") (.tup [.str "a",.str "c"]) (.bool b) (bq .In)) (by rfl')) (Ao (c:=Cw w A (cx (fb 1038) L 1038) B) (G:=G) (W:=W) ok encStr (by decide) (a:="a") (l:=["a","c"]) (by unfold iN;rfl') (by rfl'))
         refine kx _ _ _ _ _ ?_;refine' br ?h1 ?h2
         case h1=>exact Tt.cast (by ext tt) (by rfl')
         case h2=>
          refine' br ?i1 ?i2
          case i1=>exact Tt.cast (by ext tt) xa
          case i2=>
           refine' br ?j1 ?j2
           case j1=>exact Tt.cast (by ext tt) xb
           case j2=>
            refine' fG ?k1 ?k2
            case k1=>exact cp (by ext ev) (by ext ev) (ι _ _)
            case k2=>
             apply SJ tk q X m;intros Gl kx;by_cases z:i<cs.length
             .have hc:cs[i]?=some cs[i]:=am z;generalize cs[i]=c at hc;have⟨f1,f2,f3⟩:=κ c hc;have V:=yP (θ c hc);rw[<-H] at V;have x1:=Po V.1 V.2.1 V.2.2.1 (V.2.2.2.2.resolve_left (show¬(zI "a"=true) by rfl'));have x2:=Gs V.2.2.2.1;have x3:=Pp (c:=c);have x4:=Kq (c:=c);have x5:eR (Gq++Gr) (s1 c)=decide (c∈(Gq++Gr).cps.toList):=ll _ _;have x6:(!decide ((s1 c).length≠0))=false:=rfl;have hl:(s1 c).length<2^62:=Ce;have γ:tk.length+(s1 c).length <= aO:=DR H (OS ht u z);rw[hX,hm,f1,f2];refine kx _ _ _ _ ?_;refine' br ?l1 ?l2
              case l1=>exact Tt.cast (by ext tt) x6
              case l2=>
               refine' br ?m1 ?m2
               case m1=>exact Tt.cast (by ext tt) x1
               case m2=>
                refine' br ?n1 ?n2
                case n1=>exact Tt.cast (by ext tt) x3
                case n2=>
                 refine' br ?o1 ?o2
                 case o1=>exact Tt.cast (by ext tt) (by rfl')
                 case o2=>
                  refine' dY (b:=isQ c) ?p1 (λ b=>?p2) (λ b=>?p3)
                  case p1=>exact ce (eN.step (by ext tt) (eN.last (Tt.cast (by ext tt) x4)))
                  case p2=>
                   ext st
                   repeat refine aV ?_
                   refine aY (hz _ ⟨(i+1,s1 c,tk,q),by dsimp only;exact KP dX (dE (zu z)),⟨f3,uB H hc (Ua (sx:="a") (by rfl') b)⟩,?_,?_⟩)
                   .dsimp only;ext sub
                   .dsimp only;ext takes
                  case p3=>
                   refine' br ?q1 ?q2
                   case q1=>exact ce (eN.step (by ext tt) (eN.last (Tt.cast (by ext tt) x2)))
                   case q2=>
                    refine' fG ?r1 ?r2
                    case r1=>
                     refine' Tt.cast (wH (rL.cons (a:=decide (c∈(Gq++Gr).cps.toList)) (b:=isQ c||true) (Tt.cast ?aa x5) λ _=>rL.cons (a:=isQ c) (b:=true) (Tt.cast ?ab x4) λ _=>rL.last (ce (eN.step ?ac (eN.last (Tt.cast (cp ?c0 (xF (Wi:=[]) (fq w) ok (ki w) (p:=1002) ?c1 ?c2 ?c3 ?c4 ?c5 (vE w) (n':=1) (by decide) (vD w a da sa sda q1 q2 "" true _ _)) (Cd)) (by rw[x3];rfl))))))) (by simp);ext aa tt ab tt ac tt c0 ev c1 ev c2 take
                     case c3=>symm
                     case c4=>symm
                     case c5=>symm
                    case r2=>
                     refine' ux (fq w) ok (ki w) (x:=.str tk) (b:=.str (s1 c)) (d:=.str (tk++s1 c)) ?s1 ?s2 ?s3 ?s4 (rQ γ) ?s5 ?s6 ?_;ext s1 ev s2 take s3 fld s4 ev s5 put
                     case s6=>symm
                     repeat refine aV ?_
                     refine aY (hz _ ⟨(i+1,"a",tk++s1 c,q),by dsimp only;exact KP dX (dE (zu z)),⟨f3,uB H hc (Rq (sx:="a") (by rfl') b)⟩,?_,?_⟩)
                     .dsimp only;ext sub
                     .dsimp only;ext takes
             .have ξ:i=cs.length:=ai hi (tG z);subst ξ;rw[bF] at H;have γ:tk=wd:=by rw[<-LW.tok,<-H]
              subst γ;have hq:q=(gA cs).2.2:=by rw[<-H]
              have φ:tk.length<2^62:=by have:=Gu (cs:=cs) (i:=cs.length) (by rw[bF,<-H]);exact(lz 711152634792337472617539477639476) ht δ this
              rcases hr with rfl|⟨r,rfl⟩
              .have f1:ch t (p+cs.length)="":=BN (by simp only[bp] at u;exact(lz 37548770771175870483) u);have f2:min (p+cs.length+1) t.length=p+cs.length:=by simp only[bp] at u;exact η.elim (λ q=>Bc.elim (λ r=>ai ((lz 2649285145660642140819492) u (cD _ _)) ((lz 28974049021815951379) r)) λ r=>ai ((lz 2649875441471000846471204) u r) ((lz 647014434406421499940) δ r)) λ q=>ai ((lz 349389034343777244027224116) ε δ q.2) ((lz 349389034343777244808740916) ε δ q.2)
               rw[hX,hm,f1,f2];refine kx _ _ _ _ ?_;refine' fG ?l1 ?l2
               case l1=>exact Tt.cast (by ext tt) (by rfl')
               case l2=>
                ext st;refine rP (hz _ ?_);refine⟨true,trivial,?_,?_⟩
                .rw[<-hq];ext sub
                .rw[if_pos rfl,if_pos rfl];ext takes
              .have f1:ch t (p+cs.length)=s1 32:=M cs.length 32 (by rw[fy (aR _)];simp);have f2:min (p+cs.length+1) t.length=p+cs.length+1:=by simp only[aE] at u;exact η.elim (λ q=>Bc.elim (λ r=>r) λ r=>ai ((bO _ _)) ((lz 4125804595147908434475270803493) u r)) λ q=>ai ((lz 1583713382175181706610048223618007093) ε u q.2) ((lz 1583713382175181706610051010666168373) ε u q.2)
               have x6:(!decide ((s1 32).length≠0))=false:=rfl;have x1:eR " \t\r\n" (s1 32)=true:=by rfl'
               have hl:(s1 32).length<2^62:=Ce;rw[hX,hm,f1,f2];refine kx _ _ _ _ ?_;refine' br ?l1 ?l2
               case l1=>exact Tt.cast (by ext tt) x6
               case l2=>
                refine' fG ?m1 ?m2
                case m1=>exact Tt.cast (by ext tt) x1
                case m2=>
                 refine' br ?y1 ?y2
                 case y1=>exact Tt.cast (by ext tt) (by decide)
                 case y2=>
                 refine aV ?_;ext st;refine' fG ?n1 ?n2
                 case n1=>exact wH (rL.hit (Tt.cast (by ext tt) (decide_eq_true LW.ne)))
                 case n2=>
                  refine rP (hz _ ?_);refine⟨true,trivial,?_,?_⟩
                  .rw[<-hq];ext sub
                  .rw[if_neg (by simp),if_neg (by simp)];ext takes
        .have hQ:zI sx=true:=by rw[<-H] at hs;exact hs
         have z:i<cs.length:=Nat.lt_of_le_of_ne hi λ e=>by
          subst e;rw[bF] at H;exact Ro hQ ((congrArg Prod.fst H).trans LW.st)
         have hc:cs[i]?=some cs[i]:=am z;generalize cs[i]=c at hc;have⟨f1,f2,f3⟩:=κ c hc;have x2:=Gs (yP (θ c hc)).2.2.2.1;have x4:=Rm hQ;have x6:(!decide ((s1 c).length≠0))=false:=rfl;have hl:(s1 c).length<2^62:=Ce;have γ:tk.length+(s1 c).length <= aO:=DR H (OS ht u z);rw[hX,hm,f1,f2];refine kx _ _ _ _ _ ?_;refine' br ?h1 ?h2
         case h1=>exact Tt.cast (by ext tt) (Rn hQ)
         case h2=>
          refine' fG ?i1 ?i2
          case i1=>exact Tt.cast (by ext tt) x4
          case i2=>
           ext st;refine' br ?j1 ?j2
           case j1=>exact Tt.cast (by ext tt) x6
           case j2=>
            refine aV ?_;refine' dY (b:=decide (s1 c=sx)) ?l1 (λ b=>?l2) (λ b=>?l3);ext l1 tt
            case l2=>
             have b:=of_decide_eq_true b;refine' br ?m1 ?m2
             case m1=>exact oL (b:=true) (by ext tt)
             case m2=>
              ext st
              repeat refine aV ?_
              refine aY (hz _ ⟨(i+1,"a",tk,true),by dsimp only;exact KP dX (dE (zu z)),⟨f3,uB H hc (Rp hQ b)⟩,?_,?_⟩)
              .dsimp only;ext sub
              .dsimp only;ext takes
            case l3=>
             have b:=of_decide_eq_false b;refine' br ?m1 ?m2
             case m1=>exact ce (eN.step (by ext tt) (eN.miss (Tt.cast (by ext tt) x2)))
             case m2=>
              refine' ux (fq w) ok (ki w) (x:=.str tk) (b:=.str (s1 c)) (d:=.str (tk++s1 c)) ?n1 ?n2 ?n3 ?n4 (rQ γ) ?n5 ?n6 ?_;ext n1 ev n2 take n3 fld n4 ev n5 put
              case n6=>symm
              repeat refine aV ?_
              refine aY (hz _ ⟨(i+1,sx,tk++s1 c,true),by dsimp only;exact KP dX (dE (zu z)),⟨f3,uB H hc (T9 hQ b)⟩,?_,?_⟩)
              .dsimp only;ext sub
              .dsimp only;ext takes
        .subst h0;cases H.trans hs;have hc:cs[0]?=some cs[0]:=am ε;generalize cs[0]=c at hc;have⟨f1,f2,f3⟩:=κ c hc;have V:=yP (θ c hc);rw[hs] at V;have x1:=Po V.1 V.2.1 V.2.2.1 (V.2.2.2.2.resolve_left (by rfl'));have x2:=Gs V.2.2.2.1;have x3:=Pp (c:=c);have x4:=Kq (c:=c);have x5:eR (Gq++Gr) (s1 c)=decide (c∈(Gq++Gr).cps.toList):=ll _ _;have x6:(!decide ((s1 c).length≠0))=false:=rfl;have hl:(s1 c).length<2^62:=Ce;rw[hX,hm,f1,f2];refine kx _ _ _ _ _ ?_;refine' fG ?h1 ?h2
         case h1=>exact Tt.cast (by ext tt) (by rfl')
         case h2=>
          refine' br ?i1 ?i2
          case i1=>exact Tt.cast (by ext tt) x6
          case i2=>
           refine' br ?j1 ?j2
           case j1=>exact Tt.cast (by ext tt) x1
           case j2=>
            refine' br ?l1 ?l2
            case l1=>exact Tt.cast (by ext tt) x3
            case l2=>
             refine' br ?m1 ?m2
             case m1=>exact ce (eN.step (by ext tt) (eN.last (Tt.cast (by ext tt) x2)))
             case m2=>
              refine' dY (b:=decide (c∈(Gq++Gr).cps.toList)) ?n1 (λ b=>?n2) (λ b=>?n3)
              case n1=>exact Tt.cast (by ext tt) x5
              case n2=>
               have b:=Rj (of_decide_eq_true b);ext st;ext st
               repeat refine aV ?_
               refine aY (hz _ ⟨(0+1,"a",s1 c,false),by dsimp only;exact Lw dX (dE f3),⟨f3,uB hs.symm hc (Rq (sx:=" ") (by rfl') b)⟩,?_,?_⟩)
               .dsimp only;ext sub
               .dsimp only;ext takes
              case n3=>
               refine' br ?o1 ?o2
               case o1=>
                refine' Tt.cast (cp ?c0 (xF (Wi:=[]) (fq w) ok (ki w) (p:=1002) ?c1 ?c2 ?c3 ?c4 ?c5 (vE w) (n':=1) (by decide) (vD w a da sa sda q1 q2 "" true _ _)) Hn) x3;ext c0 ev c1 ev c2 take
                case c3=>symm
                case c4=>symm
                case c5=>symm
               case o2=>
                refine' dY (b:=isQ c) ?p1 (λ b=>?p2) (λ b=>?p3)
                case p1=>exact Tt.cast (by ext tt) x4
                case p2=>
                 refine' br ?q1 ?q2
                 case q1=>exact oL (b:=true) (by ext tt)
                 case q2=>
                  refine aV ?_;ext st
                  repeat refine aV ?_
                  refine aY (hz _ ⟨(0+1,s1 c,"",false),by dsimp only;exact Lw dX (dE f3),⟨f3,uB hs.symm hc (Ua (sx:=" ") (by rfl') b)⟩,?_,?_⟩)
                  .dsimp only;ext sub
                  .dsimp only;ext takes
                case p3=>
                 refine' fG ?q1 ?q2;ext q1 tt
                 case q2=>
                  ext st;ext st
                  repeat refine aV ?_
                  refine aY (hz _ ⟨(0+1,"a",s1 c,false),by dsimp only;exact Lw dX (dE f3),⟨f3,uB hs.symm hc (Rq (sx:=" ") (by rfl') b)⟩,?_,?_⟩)
                  .dsimp only;ext sub
                  .dsimp only;ext takes
  .rintro b -;have ρ:wd≠"":=λ e=>LW.ne (by rw[e];rfl);unfold cI pG;ext st;ext st;refine' br ?d1 ?d2
   case d1=>
    cases(gA cs).2.2 with
    |true=>exact ce (eN.step (by ext tt) (eN.miss (oL (b:=true) (by ext tt))))
    |false=>exact ce (eN.step (by ext tt) (eN.step (oL (b:=false) (by ext tt)) (eN.last (Tt.cast (by ext tt) (decide_eq_false ρ)))))
   case d2=>
    ext st;refine' br ?d3 ?d4
    case d3=>exact Tt.cast (by ext tt) (by decide)
    case d4=>
     ext st;refine' ly ?e1 ⟨cI w da sa sda q1 q2 (if rest=[] then .none else .str " ") "" t (if rest=[] then p+cs.length else p+cs.length+1),[],?e2,rfl,rfl⟩;ext e1 ev
     case e2=>
      unfold cI pG;ext takes
end
section
open PySem.Builtin PySem.Builtin.ObjectAttr
theorem Rr (w:aB) (a da sa sda q1 q2:aM) (t:Str) (M:t.length <= 1000000):
  Fn pw w (Tw w) 7 (.ref 1038) [.inst 1070 a da] (cI w da sa sda q1 q2 .none "" t t.length) (Is .none (cI w da sa sda q1 q2 .none "" t t.length)):=by
 injections w a da sa sda q1 q2 t M;refine dF ["self"] [("self",.inst 1070 a da)] (BZ w) (ff w) ?_ rfl (by rfl') (by rfl') ?_ ?_
 .exact ku λ v=>rfl
 .intro p V;simp only[ap,aK,or_false] at V;rcases V with rfl<;>rfl
 .intros A L B ok
  conv=>arg 4;whnf
  ext st;ext st;refine Ax (σ:=Unit) (β:=Unit) (λ st=>0) (λ st=>True) (λ st=>[("self",.inst 1070 a da),("quoted",.bool false),("escapedstate",.str " ")])
   (λ st=>cI w da sa sda q1 q2 .none "" t t.length) (λ _=>True) (λ _=>[("self",.inst 1070 a da),("quoted",.bool false),("escapedstate",.str " ")]) (λ _=>cI w da sa sda q1 q2 .none "" t t.length) () trivial ?_ ?_ ?_ ?_
  .ext sub
  .unfold cI;ext takes
  .rintro⟨⟩ -;refine⟨by ext tt,?_⟩;have e1:ch t t.length="":=BN (aR _);have e2:min (t.length+1) t.length=t.length:=by exact Bc.elim (λ q=>ai ((cD _ _)) (OR q)) λ q=>q
   have u:Fn pw w (Tw w) 6 (.ref 881) [.inst 935 sa sda,.int 1] [(sda,cy w.params [("_StringIO__newline",.str "\n"),("_StringIO__buf",.str t),("_StringIO__pos",.int (t.length:Int))])] (Is (.str (ch t t.length)) [(sda,cy w.params (pG t (min (t.length+1) t.length)))]):=((Ko w sa sda t t.length (aR _) M).a.fn).le (by decide);rw[e1,e2] at u;have H:vn pw w (Tw w) 1 (.ref 1001) (λ vs=>⟨vs,[]⟩) [.inst 1070 a da] [(da,cy w.params (lF sa sda q1 q2 "" true .none ""))] (Is (.str "") [(da,cy w.params (lF sa sda q1 q2 "" true .none ""))]):=vD w a da sa sda q1 q2 "" true .none "";unfold lF at H;unfold pG at u;unfold cI lF pG;refine' br ?b1 ?b2
   case b1=>
    refine' ce (eN.miss (Tt.cast (lw (xF (Wi:=[]) (fq w) ok (ki w) (p:=1002) ?c1 ?c2 ?c3 ?c4 ?c5 (vE w) (n':=1) (by decide) H) ?c7) ?c8));ext c1 ev c2 take
    case c3=>symm
    case c4=>symm
    case c5=>symm
    ext c7 tv
    case c8=>decide
   case b2=>
    refine' eU (kf (fq w) ok (yO w) (f:=881) (ds:=[.int 1]) ?d1 ?d2 ?d3 ?d4 ?d5 (JZ w).kp ?d6 ?d7 u) ?d8;ext d1 ev d2 take
    case d3=>symm
    case d4=>symm
    case d5=>symm
    ext d6 evl d7 takes
    case d8=>
     intros d W' h_;have⟨Wo,⟨rfl,rfl⟩,rfl⟩:=h_;dsimp only[bh,be];ext bind;refine aV ?_;refine' br ?e1 ?e2
     case e1=>exact Tt.cast (by ext tt) (by rfl')
     case e2=>
      refine aV ?_;refine' br ?f1 ?f2
      case f1=>exact Tt.cast (by ext tt) (by decide)
      case f2=>
       refine aV ?_;refine' fG ?g1 ?g2;ext g1 tt
       case g2=>
        ext st;refine rP ?_;refine⟨(),trivial,?_,?_⟩
        .ext sub
        .dsimp only;ext takes
  .rintro⟨⟩ -;unfold cI lF pG;ext st;ext st;refine' fG ?d1 ?d2
   case d1=>exact ce (eN.step (by ext tt) (eN.step (oL (b:=false) (by ext tt)) (eN.last (Tt.cast (by ext tt) (by rfl')))))
   case d2=>
    ext st;refine aV ?_;refine' br ?d3 ?d4
    case d3=>exact Tt.cast (by ext tt) (by decide)
    case d4=>
     refine aV ?_;refine' ly ?e1 ⟨cI w da sa sda q1 q2 .none "" t t.length,[],?e2,rfl,rfl⟩;ext e1 ev
     case e2=>
      unfold cI lF pG;ext takes
theorem Nr (w:aB) (a da sa sda q1 q2:aM) (t:Str) (u:D) (p H:Nat) (M:Str) (st:D) (h:Fn pw w (Tw w) 7 (.ref 1038) [.inst 1070 a da] (cI w da sa sda q1 q2 st "" t p) (Is (.str M) (cI w da sa sda q1 q2 u "" t H))):
  Fn pw w (Tw w) 8 (.ref 1031) [.inst 1070 a da] (cI w da sa sda q1 q2 st "" t p) (Is (.str M) (cI w da sa sda q1 q2 u "" t H)):=by
 injections w a da sa sda q1 q2 t u p H M st h;refine dF ["self"] [("self",.inst 1070 a da)] (BY w) (ff w) ?_ rfl (by rfl') (by rfl') ?_ ?_
 .exact ku λ v=>rfl
 .intro p V;simp only[ap,aK,or_false] at V;rcases V with rfl<;>rfl
 .intros A L B ok
  conv=>arg 4;whnf
  have h:=h;unfold cI lF pG at h;unfold cI lF pG;ext st;refine' br ?b1 ?b2;ext b1 tt
  case b2=>
   refine aV ?_;refine' eU (kf (fq w) ok (ki w) (f:=1038) (ds:=[]) ?d1 ?d2 ?d3 ?d4 ?d5 (BZ w).kp ?d6 ?d7 h) ?d8;ext d1 ev d2 take
   case d3=>symm
   case d4=>symm
   case d5=>symm
   ext d6 evl d7 takes
   case d8=>
    intros d W' h_;have⟨Wo,⟨rfl,rfl⟩,rfl⟩:=h_;dsimp only[bh,be];ext bind;refine' br ?e1 ?e2;ext e1 tt
    case e2=>
     refine aV ?_;refine' kc (σ:=Unit) (λ _=>0) (λ _=>True) (λ _=>[("self",.inst 1070 a da),("raw",.str M)]) (λ _=>cI w da sa sda q1 q2 u "" t H) () trivial ?f1 ?f2 ?f3;ext f1 sub
     case f2=>unfold cI lF pG;ext takes
     case f3=>
      rintro⟨⟩ -;refine .inr ⟨?_,?_⟩
      .unfold cI lF pG;ext tt
      .unfold cI lF pG;refine' br ?g1 ?g2
       case g1=>exact Tt.cast (by ext tt) (by decide)
       case g2=>
        refine aV ?_;refine' ly ?i1 ⟨cI w da sa sda q1 q2 u "" t H,[],?i2,rfl,rfl⟩;ext i1 ev
        case i2=>
         unfold cI lF pG;ext takes
theorem Rs (w:aB) (a da sa sda q1 q2:aM) (t:Str) (u:t.length <= 1000000):
  Fn pw w (Tw w) 8 (.ref 1031) [.inst 1070 a da] (cI w da sa sda q1 q2 .none "" t t.length) (Is .none (cI w da sa sda q1 q2 .none "" t t.length)):=by
 injections w a da sa sda q1 q2 t u;refine dF ["self"] [("self",.inst 1070 a da)] (BY w) (ff w) ?_ rfl (by rfl') (by rfl') ?_ ?_
 .exact ku λ v=>rfl
 .intro p H;simp only[ap,aK,or_false] at H;rcases H with rfl<;>rfl
 .intros A L B ok
  conv=>arg 4;whnf
  have h:=Rr w a da sa sda q1 q2 t u;unfold cI lF pG at h;unfold cI lF pG;ext st;refine' br ?b1 ?b2;ext b1 tt
  case b2=>
   refine aV ?_;refine' eU (kf (fq w) ok (ki w) (f:=1038) (ds:=[]) ?d1 ?d2 ?d3 ?d4 ?d5 (BZ w).kp ?d6 ?d7 h) ?d8;ext d1 ev d2 take
   case d3=>symm
   case d4=>symm
   case d5=>symm
   ext d6 evl d7 takes
   case d8=>
    intros d W' M;have⟨Wo,⟨rfl,rfl⟩,rfl⟩:=M;dsimp only[bh,be];ext bind;refine' br ?e1 ?e2;ext e1 tt
    case e2=>
     refine aV ?_;refine' kc (σ:=Unit) (λ _=>0) (λ _=>True) (λ _=>[("self",.inst 1070 a da),("raw",.none)]) (λ _=>cI w da sa sda q1 q2 .none "" t t.length) () trivial ?f1 ?f2 ?f3;ext f1 sub
     case f2=>unfold cI lF pG;ext takes
     case f3=>
      rintro⟨⟩ -;refine .inl ⟨?_,?_⟩
      .unfold cI lF pG;ext tt
      .unfold cI lF pG;refine' fG ?g1 ?g2
       case g1=>exact oL (b:=false) (by ext tt)
       case g2=>
        refine' ly ?i1 ⟨cI w da sa sda q1 q2 .none "" t t.length,[],?i2,rfl,rfl⟩;ext i1 ev
        case i2=>
         unfold cI lF pG;ext takes
theorem Nt (w:aB) (a da:aM) (Wi:Om):Fn pw w (Tw w) 2 (.ref 1060) [.inst 1070 a da] Wi (Is (.inst 1070 a da) Wi):=by
 refine dF ["self"] [("self",.inst 1070 a da)] (QY w) (ff w) ?_ rfl (by rfl') (by rfl') ?_ ?_
 .exact ku λ v=>rfl
 .intro p d;simp only[ap,aK,or_false] at d;rcases d with rfl<;>rfl
 .intro A L B ok
  conv=>arg 4;whnf
  ext ret;exact⟨Wi,[],by have:=cv.chunk (W:=Wi++[]) (X:=Wi) (Wi:=[]) vg.head cv.nil;simpa using this,rfl,rfl⟩
end
section
open PySem.Builtin PySem.Builtin.ObjectAttr
theorem Kt (w:aB) (a da sa sda q1 q2:aM) (t:Str) (u:D) (p H:Nat) (M:Str) (st:D) (h:Fn pw w (Tw w) 8 (.ref 1031) [.inst 1070 a da] (cI w da sa sda q1 q2 st "" t p) (Is (.str M) (cI w da sa sda q1 q2 u "" t H))):
  Fn pw w (Tw w) 9 (.ref 1067) [.inst 1070 a da] (cI w da sa sda q1 q2 st "" t p) (Is (.str M) (cI w da sa sda q1 q2 u "" t H)):=by
 injections w a da sa sda q1 q2 t u p H M st h;refine dF ["self"] [("self",.inst 1070 a da)] (B0 w) (ff w) ?_ rfl (by rfl') (by rfl') ?_ ?_
 .exact ku λ v=>rfl
 .intro p V;simp only[ap,aK,or_false] at V;rcases V with rfl<;>rfl
 .intros A L B ok
  conv=>arg 4;whnf
  have h:=h;unfold cI lF pG at h;unfold cI lF pG;refine' eU (kf (fq w) ok (ki w) (f:=1031) (ds:=[]) ?d1 ?d2 ?d3 ?d4 ?d5 (BY w).kp ?d6 ?d7 h) ?d8;ext d1 ev d2 take
  case d3=>symm
  case d4=>symm
  case d5=>symm
  ext d6 evl d7 takes
  case d8=>
   rintro d W' ⟨Wo,⟨rfl,rfl⟩,rfl⟩;dsimp only[bh,be];ext bind;refine' br ?e1 ?e2;ext e1 tt
   case e2=>
    refine aV ?_;refine' ly ?i1 ⟨cI w da sa sda q1 q2 u "" t H,[],?i2,rfl,rfl⟩;ext i1 ev
    case i2=>
     unfold cI lF pG;ext takes
theorem Nu (w:aB):Bt w "StopIteration" (.type "StopIteration"):=⟨by symm,by symm⟩
theorem Rt {w:aB} {A:bU} {env:Env} {B:Bs} {n:Nat} {x:Str} {v:aj} {pos:Pos} {G:Gm} {W:Om} (g:Bt w x v) (ok:Ok (Cw w A env B) n) {s:ak} {K:FM} {E:aj->ak->Prop} (S:(Cw w A env B).S s K G W) (M:env.globals=iS:=by symm) (hb:env.builtins=qD:=by symm) (H:env.scope.kind=.function:=by symm)
  (hl:env.kindOf x=some .globalImplicit:=by symm) (hd:(x==("__debug__":Str))=false:=by symm):wpAny (model pw w) A (eval (.Name x pos) env) (λ u t=>u=v /\ t=s) E s:=by
 refine qE ?_ hd;rw[uf H hl];have d:=S.inT ok;have hF:=M3 w;show wpAny _ _ (nsGet env.globals x>>=_) _ E s;rw[M];refine ae (oH (hF.g s.heap d) ?_);rw[g.n];show wpAny _ _ (nsGet env.builtins x>>=_) _ E s;rw[hb];refine ae (oH (hF.b s.heap d) ?_);rw[g.h];exact af ⟨rfl,rfl⟩
theorem Nv (w:aB) (a da sa sda q1 q2:aM) (t:Str) (ht:t.length <= 1000000) (A:bU) (hA:A.handled=none) (hd:A.depth+9 <= 990) (hu:A.units+27 <= 9000) (fr:Ea) (V:fr.Ok) (β:A.frames=some fr.envs) (s:ak) (K:FM) (Q:aj->ak->Prop) (E:aj->ak->Prop)
  (hT:FM.Le (Tw w) K) (u:FM.In K s.heap) (hO:gx K s.heap (fr.om++cI w da sa sda q1 q2 .none "" t t.length)) (hi:K a=some (iO 1070 da))
  (hE:∀h' K' t' e,Aft K s.heap (fr.om++cI w da sa sda q1 q2 .none "" t t.length) K' h' (fr.om++cI w da sa sda q1 q2 .none "" t t.length)->(∃ob,h'.get? e=some ob /\ ob.cls=.type "StopIteration")->E (.ref e) {s with heap:=h',toks:=t'}):
  wpAny (model pw w) A (call (.ref 1067) [.ref a]) Q E s:=by
 injections w a da sa sda q1 q2 t ht A hA hd hu fr V β s K Q E hT u hO hi hE;obtain⟨cl,dd,sl,ι⟩:=(B0 w).at_;obtain⟨cc,co,κ,ct,θ,hc2,hc3,hc4⟩:=(B0 w).code;have η:s.heap.CodeRec (fb 1067).code (fb 1067).qualname:=⟨cc,co,κ,ct,θ,u _ _ (hT _ _ hc2),hc3,hc4⟩;have H:s.heap.NoLimit:=ff w _ λ b o e=>u _ _ (hT _ _ e);refine dR (wt (binds:=[("self",.ref a)]) (by have:jS=1000:=rfl;exact(lz 4676223756278772214534417) hd) (u _ _ (hT _ _ ι)) rfl H η (B0 w).body (zP rfl) (by rfl') (λ x hx=>by simp only[aw] at hx;subst hx;rfl) ?_ (by symm) (by symm) (by symm));intro h₀ ns keep;have hL:s.heap.get? s.heap.objs.size=none:=kX;have S:=pu (L:=s.heap.objs.size) (G₀:=[("self",.inst 1070 a da)]) u hO hL keep ns (λ p hp=>by
  simp only[aw] at hp;subst hp;exact⟨.ref a,by simp[xc],by simp only[j9];exact⟨trivial,hi⟩⟩)
 have ok:Ok (Cw w (A.deeper (cx (fb 1067) s.heap.objs.size 1067)) (cx (fb 1067) s.heap.objs.size 1067) ⟨K,rt s.heap (fr.om++cI w da sa sda q1 q2 .none "" t t.length)⟩) 8:=⟨hT,hA,by show A.depth+1+8 <= 990;exact(lz 78454016023420272631393968197649) hd,by show A.units+3+3*8 <= 9000;exact(lz 747714796436681996655668671658834006033) hu⟩;have M:=Rs w a da sa sda q1 q2 t ht
 conv=>arg 3;arg 1;whnf
 have S0:=S;unfold cI lF pG at S M;refine' iI (oG ?aa ?ab)
 case ab=>symm
 case aa=>
  refine' (kf (c:=Cw w (A.deeper (cx (fb 1067) s.heap.objs.size 1067)) (cx (fb 1067) s.heap.objs.size 1067) ⟨K,rt s.heap (fr.om++cI w da sa sda q1 q2 .none "" t t.length)⟩) (fq w) ok (ki w) (f:=1031) (ds:=[]) ?d1 ?d2 ?d3 ?d4 ?d5 (BY w).kp ?d6 ?d7 M:rq _ _ _ _ _) _ K _ _ S ?d8;ext d1 ev d2 take
  case d3=>symm
  case d4=>symm
  case d5=>symm
  ext d6 evl d7 takes
  case d8=>
   rintro v h1 K1 t1 d W' k1 S1 r1 ⟨Wo,⟨rfl,rfl⟩,rfl⟩;dsimp only[bh,be] at S1;obtain⟨m1,ε,ζ⟩:=S1.ns;refine gV (by symm) ε (λ h2 δ γ=>?_) (by symm);have S2:=S1.store (G':=[("self",.inst 1070 a da),("token",.none)]) (Fw.mem (.there (by symm) .new)) m1 ζ δ γ r1;refine iI (wpAny_If ?_);refine' (Tt.cast (b:=true) (c:=Cw w (A.deeper (cx (fb 1067) s.heap.objs.size 1067)) (cx (fb 1067) s.heap.objs.size 1067) ⟨K,rt s.heap (fr.om++cI w da sa sda q1 q2 .none "" t t.length)⟩) ?tt rfl:Tt _ _ _ _ _) _ K1 _ _ S2 ?kk;ext tt tt
   case kk=>
    intro h3 K3 t3 k3 S3;rw[if_pos rfl];refine iI (owsi_raiseC hA (Rt (Nu w) ok S3) λ h4 e hm=>?_);have AF:=nv u hL (S3.perm (W':=fr.om++cI w da sa sda q1 q2 .none "" t t.length) (by
     rw[ax];exact fP (l₁:=cI w da sa sda q1 q2 .none "" t t.length) (l₂:=fr.om)))
    refine Ht AF.kp AF.own rfl (by rw[show(cx (fb 1067) s.heap.objs.size 1067).scope.kind=.function from by symm];decide) V ?_ hm λ h5 A5 he=>?_
    .exact sG β
    .exact hE h5 K3 t3 e (AF.trans A5) he
end
section
open PySem.Builtin PySem.Builtin.ObjectAttr
def mG:List (List Nat)->List Nat
 |[]=>[]
 |[c]=>c
 |c::r=>c++32::mG r
theorem WY:mG [c]=c:=rfl
theorem V6:mG (c::d::r)=c++32::mG (d::r):=rfl
def pH (d:List (List Nat)) (i:Nat):Nat:=((d.take i).map λ c=>c.length+1).sum
theorem uC:mG (c::r)=c++(if r=[] then[] else 32::mG r):=by
 cases r with
 |nil=>simp[WY]
 |cons d r=>simp[V6]
theorem yQ:∀(d:List (List Nat)) (i:Nat),i<d.length->(mG d).drop (pH d i)=mG (d.drop i)
 |[],i,h=>by simp at h
 |c::r,0,_=>by simp[pH]
 |c::r,i+1,h=>by
  have h':i<r.length:=by simpa using h
  have hr:r≠[]:=λ e=>by rw[e] at h';simp at h'
  have t:=yQ r i h';rw[uC,if_neg hr];have u:pH (c::r) (i+1)=c.length+1+pH r i:=by simp[pH]
  rw[u,kF,<-t,Nat.add_assoc,<-jO,lP,Nat.add_comm 1,kF]
theorem AQ:∀(d:List (List Nat)),d≠[]->(mG d).length+1=pH d d.length
 |[],h=>absurd rfl h
 |c::r,_=>by
  have t:pH (c::r) (c::r).length=c.length+1+pH r r.length:=by simp[pH]
  rw[uC,t];by_cases hr:r=[]
  .subst hr;simp[pH]
  .rw[if_neg hr,aF,aE,<-AQ r hr];exact ai (lz 30336944067487522003357698) (lz 30341647987226249487978498)
abbrev stC (d:List (List Nat)) (i:Nat):D:=if i<d.length then .str " " else .none
abbrev Cg (d:List (List Nat)) (t:Str) (i:Nat):Nat:=if i<d.length then pH d i else t.length
theorem Ku (w:aB) (a da sa sda q1 q2:aM) (t:Str) (d:List (List Nat)) (v:List Str) (ht:t.length <= 1000000) (M:t.cps.toList=mG d) (hl:d.length=v.length) (hw:∀(i:Nat) (c:List Nat) (x:Str),d[i]?=some c->v[i]?=some x->Jk c x) (i:Nat) (x:Str) (hx:v[i]?=some x):
  Fn pw w (Tw w) 9 (.ref 1067) [.inst 1070 a da] (cI w da sa sda q1 q2 (stC d i) "" t (Cg d t i)) (Is (.str x) (cI w da sa sda q1 q2 (stC d (i+1)) "" t (Cg d t (i+1)))):=by
 have hi:i<v.length:=(au.mp hx).1;have u:i<d.length:=It hl hi;have hc:d[i]?=some d[i]:=am u;have hd:t.cps.toList.drop (pH d i)=d[i]++(if d.drop (i+1)=[] then[] else 32::mG (d.drop (i+1))):=by
  rw[M,yQ d i u,aJ u,uC]
 have H:t.length=(mG d).length:=by rw[<-M];simp[bA]
 have β:d≠[]:=λ e=>by rw[e] at u;simp at u
 have V:=AQ d β;have h:=Nq w a da sa sda q1 q2 t (pH d i) d[i] _ x ht hd (by
  by_cases z:d.drop (i+1)=[]
  .exact .inl (if_pos z)
  .exact .inr ⟨mG (d.drop (i+1)),if_neg z⟩) (hw i _ x hc hx)
 have h2:=Kt w a da sa sda q1 q2 t _ _ _ x _ (Nr w a da sa sda q1 q2 t _ _ _ x _ h);have e1:stC d i=.str " ":=if_pos u;have e2:Cg d t i=pH d i:=if_pos u;rw[e1,e2];have ho:pH d (i+1)=pH d i+d[i].length+1:=by
  unfold pH;rw[bY,hc,cr,av,List.sum_append];simp only[aq,aX,ui,List.sum_nil];exact ai (lz 7397757023161091100674) (lz 2685264531323961741314)
 by_cases z:i+1<d.length
 .have hz:d.drop (i+1)≠[]:=λ e=>by have:=im.mp e;exact(lz 30261238095981277306490658) z this
  rw[if_neg hz,if_neg (by simp),if_neg (by simp)] at h2;rw[show stC d (i+1)=.str " " from if_pos z,show Cg d t (i+1)=pH d (i+1) from if_pos z,ho];exact h2
 .have hz:d.drop (i+1)=[]:=im.mpr (OT z);rw[if_pos hz,if_pos rfl,if_pos rfl] at h2;rw[show stC d (i+1)=.none from if_neg z,show Cg d t (i+1)=t.length from if_neg z];have:i+1=d.length:=ai (zu u) (OT z);rw[this] at ho;have e3:t.length=pH d i+d[i].length:=ai ((lz 512410656996658584915445857390645) H V ho) ((lz 512410657072216448922838390804533) H V ho);rw[e3];exact h2
theorem nH {K:FM} {h:dM} {P:dg} {C a da:aM} {fs:Gm} {X Y:Om} (kp:FM.In K h) (ha:K a=some (iO C da)) (o:gx K h (X++(da,cy P fs)::Y)):∃d,uU h a (iO C da) C (some d):=by
 obtain⟨ob,h1,⟨es,n',rfl,h2⟩,h3⟩:=o.at_ (da,cy P fs) (by simp);exact⟨_,kp _ _ ha,rfl,rfl,h1⟩
theorem Kv {prog:aG} {w:aB} {A:bU} {E:aj->ak->Prop} {s:ak} {K:jK} {x C f:aM} {H:Obj} {M:Option Obj} {Q:aj->ak->Prop} (X:K.In s.heap) (I:uU s.heap x H C M) (hs:fx K (.ref C) "__iter__"=some (some (.ref f))) (hf:typeIn K (.ref f)=some (.type "function"))
  (h:wpAny (model prog w) A (call (.ref f) [.ref x]) (λ v t=>wpAny (model prog w) A (eK v "__next__") (λ r u=>∃g,r=some g /\ Q v u) E t) E s):wpAny (model prog w) A (pyIter (.ref x)) Q E s:=by
 have fin:wpAny (model prog w) A (call (.ref f) [.ref x]>>=λ v=>pure (some v)) (λ r t=>∃v,r=some v /\ wpAny (model prog w) A (eK v "__next__") (λ r u=>∃g,r=some g /\ Q v u) E t) E s:=
  ae (bX h (λ v t h'=>af ⟨v,rfl,h'⟩) λ _ _ z=>z)
 have one:∀d:Sem aj,wpAny (model prog w) A (callSpecialIfBoundUnlessNone? (.ref x) "__iter__" d) (λ r t=>∃v,r=some v /\ wpAny (model prog w) A (eK v "__next__") (λ r u=>∃g,r=some g /\ Q v u) E t) E s:=by
  intro d;simp only[callSpecialIfBoundUnlessNone?,bindSpecialIfBound?];refine aD (ae (ae (ae (I.type.here ((dK X hs).here ?_)))));refine ae (cZ (wx ?_));have fin2:wpAny (model prog w) A (if(iK f==bx)=true then(d>>=λ v=>pure (some v)) else(call (.ref f) [.ref x]>>=λ v=>pure (some v))) (λ r t=>∃v,r=some v /\ wpAny (model prog w) A (eK v "__next__") (λ r u=>∃g,r=some g /\ Q v u) E t) E s:=by
   rw[if_neg (show¬((iK f==bx)=true) from aT)];exact fin
  split
  .exact ae ((Cy X _ hf).here (af (by exact fin2)))
  .exact ed (ae ((Cy X _ hf).here (af (by exact fin2))))
 unfold pyIter;refine ae (ae (I.type.here ((dK X hs).here ?_)));show wpAny (model prog w) A (callSpecialIfBoundUnlessNone? (.ref x) "__iter__" _>>=_) Q E s;refine ae (bX (one _) (λ r t hr=>?_) λ _ _ z=>z);obtain⟨v,rfl,V⟩:=hr;refine ae (bX V (λ r u hr=>?_) λ _ _ z=>z);obtain⟨g,rfl,hq⟩:=hr;exact af hq
theorem Kx (w:aB) (a da sa sda q1 q2:aM) (t:Str) (u:List (List Nat)) (H:List Str) (ht:t.length <= 1000000) (γ:t.cps.toList=mG u) (hl:u.length=H.length) (hw:∀(i:Nat) (c:List Nat) (x:Str),u[i]?=some c->H[i]?=some x->Jk c x)
  (A:bU) (hA:A.handled=none) (hd:A.depth+9 <= 990) (hu:A.units+27 <= 9000) (fr:Ea) (δ:fr.Ok) (ε:A.frames=some fr.envs) (K₀:FM) (M:FM.Le (Tw w) K₀) (hi:K₀ a=some (iO 1070 da)):
  Di pw w A K₀ (λ i=>fr.om++cI w da sa sda q1 q2 (stC u i) "" t (Cg u t i)) (fr.om++cI w da sa sda q1 q2 .none "" t t.length) (H.map .str) a where
 item i d β s K Q E k0 kp o k:=by
  rw[a9,cN] at β;obtain⟨x,hx,rfl⟩:=β;have hf:=Ku w a da sa sda q1 q2 t u H ht γ hl hw i x hx;obtain⟨od,I⟩:=nH kp (k0 _ _ hi) o;have X:=fq w _ λ b ob e=>kp _ _ (k0 _ _ (M _ _ e));unfold pyNext;refine ae (gH (special_fn (name:="__next__") (args:=[]) X I (f:=1067) (by symm) (by symm) ?_));have o2:=(o.perm fP);refine hf A hA hd hu s K [.ref a] _ _ (M.trans k0) kp (cB.cons (by simp only[j9];exact⟨trivial,k0 _ _ hi⟩) cB.nil) o2.left λ v h' K' t' d Wo V rd p=>?_;obtain⟨rfl,rfl⟩:=p;have A2:=V.frame (Wr:=fr.om) o2;refine af (k v h' K' t' ?_ rd);exact((Aft.same kp o).perm fP).trans (A2.perm fP)
 done s K Q E k0 kp o k:=by
  rw[ah,<-hl] at o k;have e1:stC u u.length=.none:=if_neg (cU _);have e2:Cg u t u.length=t.length:=if_neg (cU _);rw[e1,e2] at o k;obtain⟨od,I⟩:=nH kp (k0 _ _ hi) o;have X:=fq w _ λ b ob e=>kp _ _ (k0 _ _ (M _ _ e));unfold pyNext;refine ae (gH (special_fn (name:="__next__") (args:=[]) X I (f:=1067) (by symm) (by symm) ?_));refine Nv w a da sa sda q1 q2 t ht A hA hd hu fr δ ε s K _ _ (M.trans k0) kp o (k0 _ _ hi) λ h' K' t' e V he=>?_;obtain⟨ob,h1,h2⟩:=he;refine ae (ey (T:="StopIteration") (b:=true) ⟨ob,h1,h2⟩ nS ?_);exact af (k h' K' t' V)
 self s K Q E k0 kp o k:=by
  obtain⟨od,I⟩:=nH kp (k0 _ _ hi) o;have X:=fq w _ λ b ob e=>kp _ _ (k0 _ _ (M _ _ e));refine Kv (f:=1060) X I (by symm) (by symm) ?_;refine Nt w a da _ A hA ((lz 19153812505717839996287193105) hd) ((lz 713076397358591076522512525824017) hu) s K [.ref a] _ _ (M.trans k0) kp (cB.cons (by simp only[j9];exact⟨trivial,k0 _ _ hi⟩) cB.nil) o λ v h' K' t' d Wo V rd p=>?_;obtain⟨rfl,rfl⟩:=p;simp only[j9] at rd;obtain⟨rfl,rd⟩:=rd;obtain⟨ζ,I'⟩:=nH V.kp rd V.own;have X':=fq w _ λ b ob e=>V.kp _ _ (V.le _ _ (k0 _ _ (M _ _ e)));exact ae (zl (s:={s with heap:=h',toks:=t'}) I'.type (zl (s:={s with heap:=h',toks:=t'}) (dK X' (show fx (Kw w) (.ref 1070) "__next__"=some (some (.ref 1067)) by symm)) ⟨_,rfl,k h' K' t' V⟩))
 ty s K Q E k0 kp o k:=by
  obtain⟨od,I⟩:=nH kp (k0 _ _ hi) o;exact I.type.here (k _ rfl rfl)
 len s K Q E k0 kp o k:=by
  obtain⟨od,I⟩:=nH kp (k0 _ _ hi) o;have X:=fq w _ λ b ob e=>kp _ _ (k0 _ _ (M _ _ e));exact ae (I.type.here ((dK X (show fx (Kw w) (.ref 1070) "__len__"=some none by symm)).here k))
 hint s K Q E k0 kp o k:=by
  obtain⟨od,I⟩:=nH kp (k0 _ _ hi) o;have X:=fq w _ λ b ob e=>kp _ _ (k0 _ _ (M _ _ e));exact ae (I.type.here ((dK X (show fx (Kw w) (.ref 1070) "__length_hint__"=some none by symm)).here k))
end
section
open PySem.Builtin PySem.Builtin.ObjectAttr
theorem Nw (w:aB) (t:Str):vn pw w (Tw w) 8 (.ref 1070) (QJ "posix") [.str t,.bool true] [] (λ d Wo=>∃a da,d=.inst 1070 a da /\ ∃sa sda q1 q2,Wo=[(da,cy w.params (lF sa sda q1 q2 "#" false (.str " ") "")),(q1,.raw CA),(q2,.raw CA),(sda,cy w.params (pG t 0))]):=
 FV (fq w) (H0 w) (fI:=994) (by symm) (by symm) λ a da=>Np w a da t
theorem Ru (w:aB):Tw w 1075=some ⟨.type "tuple",aH,.seq #[.bool false,.bool true] 0,#[]⟩:=by show(Mine.hF pw w.params).get? 1075=_;symm
theorem Ky (w:aB) (t:Str) (V:List (List Nat)) (H:List Str) (ht:t.length <= 1000000) (γ:t.cps.toList=mG V) (hl:V.length=H.length) (h0:0<V.length) (hw:∀(i:Nat) (c:List Nat) (x:Str),V[i]?=some c->H[i]?=some x->Jk c x) (β:H.length <= 1000000) (fr:Ea) (δ:fr.Ok):
  O5 pw w (Tw w) 13 fr (.ref 1082) (λ vs=>⟨vs,[]⟩) [.str t] [] (λ d Wo=>∃l,d=.val (.ref l) /\ Wo=[(l,.list (H.map .str))]):=by
 injections w t V H ht γ hl h0 hw β fr δ;refine Ay [("s",.str t),("comments",.bool false),("posix",.bool true)] (J0 w) (ff w) ?_ (by rfl') ?_
 .refine Bd.g (ps:=["s","comments","posix"]) (ds':=[.str t,.bool false,.bool true]) ?_ rfl (by rfl') ?_
  .intro M A E s K vs Q hT kp r kk;obtain⟨v,rfl⟩:∃v,vs=[v]:=ku (P:=λ vs=>∃v,vs=[v]) (λ v=>⟨v,rfl⟩) vs (cB.length r);show wpAny M A (seqItems? (.ref 1075)>>=_) Q E s;refine ae (bI (kp _ _ (hT _ _ (Ru w))) rfl ?_);exact cz (a:=[(("s":Str),v),(("comments":Str),.bool false),(("posix":Str),.bool true)]) (by symm) (kk [v,.bool false,.bool true] s.heap K s.toks (Aft.same kp gx.nil) (.cons r.hd.1 (.cons rfl (.cons rfl .nil))))
  .intro p hp;simp only[ap,aK,or_false] at hp;rcases hp with rfl|rfl|rfl<;>rfl
 .intros A L B ok ε
  conv=>arg 4;whnf
  ext st;refine' br ?t1 ?k1;ext t1 tt
  case k1=>
   refine aV ?_;refine' eU (Hr ok (BM (fq w) (C:=1070) ?c1) ?c2 ?c3 ?c4 .nil (((Nw w t).le (by decide)).a)) ?c5
   case c1=>symm
   ext c2 ev c3 ev c4 ev
   case c5=>
    intros d W' h_;have⟨Wo,ι,rfl⟩:=h_;have⟨a,da,rfl,θ⟩:=ι;have⟨sa,sda,q1,q2,rfl⟩:=θ;unfold lF;dsimp only[bh,be];ext bind;ext st;refine' fG ?d1 ?d2
    case d1=>exact oL (b:=false) (by ext tt)
    case d2=>
     ext st;refine aV ?_;refine' Bf (Jn (Wi:=[]) (Wr:=[]) (it:=a) (Pn:=λ i=>cI w da sa sda q1 q2 (stC V i) "" t (Cg V t i)) (PF:=cI w da sa sda q1 q2 .none "" t t.length) (dsl:=H.map .str) (fr:=fr) ok ε ?e1 ?e2 ?e3 ?e4 ?e5 ?e6 ?e7) ?e8;ext e1 ev e2 ev
     case e3=>intros K v r;simp only[j9] at r;exact r.1
     case e4=>rw[ah,ay];exact Qc β
     case e5=>
      have e1:stC V 0=.str " ":=if_pos h0;have e2:Cg V t 0=0:=(if_pos h0).trans (by simp[pH]);rw[e1,e2];unfold cI lF pG;ext takes
     case e6=>
      intros dt K η hT hr;have⟨v,hr⟩:=hr;simp only[j9] at hr;have hd:=ok.d;have hu:=ok.u;have ζ:Ea.Ok ((cx (fb 1082) L 1082,L,dt)::fr):=λ x hx=>by
       rcases ap.mp hx with rfl|hx
       .exact⟨by show(cx (fb 1082) L 1082).scope.kind≠.module;rw[show(cx (fb 1082) L 1082).scope.kind=.function from by symm];decide,rfl,η⟩
       .exact δ x hx
      have:=Kx w a da sa sda q1 q2 t V H ht γ hl hw A.in1.in1 ok.h (by show A.depth+9 <= 990;have:A.depth+12 <= 990:=hd;exact(lz 19153826672817288607101882385) hd) (by show A.units+1+1+27 <= 9000;have:A.units+36 <= 9000:=hu;exact(lz 3062639852935321185115067752026719786635281) hu) ((cx (fb 1082) L 1082,L,dt)::fr) ζ ε K hT hr.2;exact this
     case e7=>
      intros K h v kp r;simp only[j9] at r;exact⟨_,kp _ _ r.2⟩
     case e8=>
      intros d W' h_;have⟨l,rfl,rfl⟩:=h_;refine⟨fr.om++[(l,.list (H.map .str))],cI w da sa sda q1 q2 .none "" t t.length,?_,⟨[(l,.list (H.map .str))],rfl,l,rfl,rfl⟩⟩;have h1:cv ((l,Ob.list (H.map .str))::(fr.om++cI w da sa sda q1 q2 .none "" t t.length)) (fr.om++[(l,.list (H.map .str))]) (cI w da sa sda q1 q2 .none "" t t.length):=.chunk (.tail .head) (.cons .head .nil);simpa using h1
end
abbrev lx (a b:Str) (c:Bool):LX:=(a,b,c)
def DT:LX->List Nat->Prop
 |_,[]=>True
 |x,c::cs=>rZ x c=true /\ DT (cK x c) cs
theorem Ch:∀{cs:List Nat} {x:LX},DT x cs->∀i c,cs[i]?=some c->rZ ((cs.take i).foldl cK x) c=true
 |[],_,_,i,c,h=>by simp at h
 |d::cs,x,h,0,c,hc=>by
  have:d=c:=by simpa using hc
  subst this;exact h.1
 |d::cs,x,h,i+1,c,hc=>by
  rw[fD,bf];exact Ch h.2 i c (by simpa using hc)
theorem vF:∀{cs ds:List Nat} {x:LX},DT x cs->DT (cs.foldl cK x) ds->DT x (cs++ds)
 |[],_,_,_,h=>h
 |c::cs,ds,x,h,h2=>⟨h.1,vF h.2 h2⟩
theorem Fd (h:E6 c=true):(c !=9&&c !=10&&c !=13&&c !=92)=true:=by
 unfold E6 at h;simp only[bB] at h⊢;exact⟨⟨⟨h.1.1.1.2,h.1.1.2⟩,h.1.2⟩,h.2⟩
theorem pI (h:E6 c=true) (h2:(c !=32)=true):rZ x c=true:=by
 unfold rZ;rw[Fd h,h2];simp
theorem Ci (x:Str) (c:Nat):cd (x++s1 c)=cd x++[c]:=by rw[fS];rfl
theorem Kz:zI "a"=false:=by rfl'
theorem KA:zI " "=false:=by rfl'
theorem DU:zI "'"=true:=by rfl'
theorem Pq:zI "\""=true:=by rfl'
theorem Fe:∀c,E6 c=true->ou c=true->isQ c=false /\ (c !=32)=true:=by
 have key:∀c,c<128->E6 c=true->ou c=true->isQ c=false /\ (c !=32)=true:=by rfl'
 intro c h;have:c<128:=by
  unfold E6 at h;simp only[bB,decide_eq_true_iff] at h;exact h.1.1.1.1
 exact key c this h
theorem H1:∀(cs:List Nat),(∀c∈cs,E6 c=true /\ ou c=true)->∀(st tok:Str) (b:Bool),zI st=false->DT (lx st tok b) cs /\ (∃t,cs.foldl cK (lx st tok b)=(lx (if cs=[] then st else"a") t b) /\ cd t=cd tok++cs):=by
 intro cs
 induction cs with
 |nil=>
  intro _ st tok b _;exact⟨trivial,tok,rfl,by simp⟩
 |cons c cs v=>
  intro h st tok b hs;obtain⟨h1,h2⟩:=h c (ag ..);obtain⟨p1,p2⟩:=Fe c h1 h2;have e:cK (lx st tok b) c=(lx "a" (tok++s1 c) b):=by
   unfold cK;rw[if_neg (by simp[hs]),if_neg (by simp[p1])]
  obtain⟨q1,t,q2,u⟩:=v (λ d hd=>h d (ao _ hd)) "a" (tok++s1 c) b Kz;refine⟨⟨?_,by rw[e];exact q1⟩,t,?_,?_⟩
  .unfold rZ;rw[Fd h1,p2];simp
  .rw[bf,e,q2,if_neg (ks _ _)]
   split<;>rfl
  .rw[u,Ci];simp
abbrev qz:List Nat:=[39,34,39,34,39]
def lS (cs:List Nat):List Nat:=cs.flatMap λ c=>if c=39 then qz else[c]
theorem yR (h:39∉cs):lS cs=cs:=by
 induction cs with
 |nil=>rfl
 |cons c cs d=>
  have hc:c≠39:=λ e=>h (by rw[e];exact ag ..);unfold lS at*;rw[bR,if_neg hc,d λ z=>h (ao _ z)];rfl
theorem AR (x y:List Nat):lS (x++y)=lS x++lS y:=by unfold lS;rw[kH]
theorem Pr:∀l:List (List Nat),(∀p∈l,39∉p)->tJ qz l=lS (tJ [39] l)
 |[],_=>rfl
 |[x],h=>(yR (h x (ag ..))).symm
 |x::y::r,h=>by
  rw[fi (s:=qz) (by simp),fi (s:=[39]) (by simp),AR,AR,yR (h x (ag ..)),Pr (y::r) λ p d=>h p (ao _ d)];rfl
theorem Ff:("'":Str)=⟨#[39]⟩:=by rfl'
theorem yS (x:Str):cd (Txt.replace x "'" "'\"'\"'")=lS (cd x):=by
 rw[Ff,StrLaws.replace_one];have e:∀(z:Str) l,D9 z l=bw z l:=λ z l=>(jz ..).symm;have h1:=congrArg cd (uZ x ⟨#[39]⟩);rw[e,jF] at h1;rw[e,jF,<-h1];exact Pr _ λ p d=>by
  obtain⟨y,hy,rfl⟩:=az.mp d;exact va x 39 y hy
theorem Fg:∀(cs:List Nat),(∀c∈cs,E6 c=true)->∀(tok:Str) (b:Bool),DT (lx "'" tok b) (lS cs) /\ ∃t b',(lS cs).foldl cK (lx "'" tok b)=(lx "'" t b') /\ cd t=cd tok++cs:=by
 intro cs
 induction cs with
 |nil=>
  intro _ tok b;exact⟨trivial,tok,b,rfl,by simp⟩
 |cons c cs ih=>
  intro h tok b;have h1:=h c (ag ..);have hr:=ih λ d hd=>h d (ao _ hd);have e:lS (c::cs)=(if c=39 then qz else[c])++lS cs:=by unfold lS;rw[bR]
  rw[e,cq];by_cases hc:c=39
  .subst hc;rw[if_pos rfl];have u:cK (lx "'" tok b) 39=(lx "a" tok true):=by
    unfold cK;rw[if_pos DU,if_pos (show s1 39="'" from by rfl')]
   have e2:cK (lx "a" tok true) 34=(lx "\"" tok true):=by
    unfold cK;rw[if_neg (by simp[Kz]),if_pos (by decide)]
    rfl
   have V:cK (lx "\"" tok true) 39=(lx "\"" (tok++s1 39) true):=by
    unfold cK;rw[if_pos Pq,if_neg (show¬s1 39="\"" from by rfl')]
   have M:cK (lx "\"" (tok++s1 39) true) 34=(lx "a" (tok++s1 39) true):=by
    unfold cK;rw[if_pos Pq,if_pos (show s1 34="\"" from by rfl')]
   have e5:cK (lx "a" (tok++s1 39) true) 39=(lx "'" (tok++s1 39) true):=by
    unfold cK;rw[if_neg (by simp[Kz]),if_pos (by decide)]
    rfl
   have H:qz.foldl cK (lx "'" tok b)=(lx "'" (tok++s1 39) true):=by
    rw[bf,u,bf,e2,bf,V,bf,M,bf,e5,gS]
   obtain⟨q1,t,b',q2,v⟩:=hr (tok++s1 39) true;refine⟨vF ⟨pI (by decide) (by decide),?_⟩ (by rw[H];exact q1),t,b',by rw[H];exact q2,by rw[v,Ci];simp⟩;rw[u];refine⟨pI (by decide) (by decide),?_⟩;rw[e2];refine⟨pI (by decide) (by decide),?_⟩;rw[V];refine⟨pI (by decide) (by decide),?_⟩;rw[M];exact⟨pI (by decide) (by decide),trivial⟩
  .rw[if_neg hc];have u:cK (lx "'" tok b) c=(lx "'" (tok++s1 c) true):=by
    unfold cK;rw[if_pos DU,if_neg (show¬s1 c="'" from by rw[Ff];exact Jl hc)]
   obtain⟨q1,t,b',q2,v⟩:=hr (tok++s1 c) true;refine⟨⟨?_,by rw[u];exact q1⟩,t,b',by rw[bf,gS,u];exact q2,by rw[v,Ci];simp⟩;unfold rZ;rw[Fd h1];simp[DU]
theorem Fh (h:Ck x) (d:x.length≠0):Jk (cd (iG x)) x:=by
 injections x h d;have t:cd ""=[]:=by rfl'
 unfold iG;rw[if_neg d];by_cases z:jE x.cps=true
 .rw[if_pos z];have hs:∀c∈cd x,E6 c=true /\ ou c=true:=λ c hc=>⟨h c hc,qf.mp z c hc⟩;obtain⟨q1,tok,q2,u⟩:=H1 (cd x) hs " " "" false KA;have M:cd x≠[]:=λ e=>d (by rw[oS,e];rfl);rw[if_neg M] at q2;refine⟨λ i c hc=>Ch q1 i c hc,?_,?_,d⟩
  .unfold gA;rw[q2]
  .unfold gA;rw[q2];exact kZ (by rw[u,t];rfl)
 .rw[if_neg z];have e:cd ("'"++Txt.replace x "'" "'\"'\"'"++"'")=[39]++lS (cd x)++[39]:=by
   rw[fS,fS,yS,Ff]
  rw[e];have v:cK (lx " " "" false) 39=(lx "'" "" false):=by
   unfold cK;rw[if_neg (by simp[KA]),if_pos (by decide)]
   rfl
  obtain⟨q1,tok,b,q2,u⟩:=Fg (cd x) h "" false;have V:cK (lx "'" tok b) 39=(lx "a" tok true):=by
   unfold cK;rw[if_pos DU,if_pos (show s1 39="'" from by rfl')]
  have H:([39]++lS (cd x)++[39]).foldl cK (lx " " "" false)=(lx "a" tok true):=by
   rw[cq,cq,show[39].foldl cK (lx " " "" false)=_ from v,q2];exact V
  refine⟨λ i c hc=>Ch (x:=(lx " " "" false)) (vF (vF (show DT _ [39] from⟨pI (by decide) (by decide),trivial⟩) ?_) ?_) i c hc,?_,?_,d⟩
  .rw[bf,gS,v];exact q1
  .rw[cq,show[39].foldl cK (lx " " "" false)=_ from v,q2];refine⟨?_,trivial⟩;unfold rZ;simp[DU]
  .unfold gA;rw[H]
  .unfold gA;rw[H];exact kZ (by rw[u,t];rfl)
theorem AT:∀l:List (List Nat),mG l=tJ [32] l
 |[]=>rfl
 |[c]=>rfl
 |c::d::r=>by rw[fi (by simp),<-AT (d::r)];simp[V6]
theorem H2 (d:List Str):cd (bw " " (d.map iG))=mG (d.map λ x=>cd (iG x)):=by
 have:cd " "=[32]:=by rfl'
 rw[jF,AT,bH,this];rfl
theorem H3 (cs:List Nat):(lS cs).length <= 5*cs.length:=by
 induction cs with
 |nil=>simp[lS]
 |cons c cs d=>
  unfold lS at*;rw[bR,aF,aE];have:(if c=39 then qz else[c]).length <= 5:=by split<;>simp
  exact(lz 7061521063778922102254798901283) d this
theorem wZ (x:Str):(Txt.replace x "'" "'\"'\"'").length <= 5*x.length:=by rw[oS,yS,oS x];exact H3 _
theorem Fi (x:Str):(iG x).length <= 5*x.length+2:=by
 have h1:bA "'"=1:=by rfl'
 have h2:bA "''"=2:=by rfl'
 unfold iG
 split
 .rw[h2];exact lz 721630609870849
 .split
  .exact lz 45101912952833
  .rw[cF,cF,h1];have:=wZ x;exact(lz 104509295569746647586485833746) this
structure Cj (x:Str):Prop where
 c:Ck x
 l:x.length <= 201
 z:x.length≠0
 p:lR x=true \/ yv x
structure DI (n:Nat) (st:DS):Prop where
 g:RG st.rows
 ln:st.rows.length <= 3+n
 bl:st.books.length=st.deeds.length+1
 dl:st.deeds.length <= n
 b0:st.books[0]?=some lC
 last:st.books[st.deeds.length]?=some st.rows
 deed:∀i c,st.deeds[i]?=some c->∃a b k ns,st.books[i]?=some a /\ st.books[i+1]?=some b /\ c=k::ns.map ar /\ gX a k ns b
 words:∀x∈st.words,Cj x
 wl:st.words.length <= 3*n
 first:∀x,st.words[0]?=some x->lR x=true
 cmds:gN st.words=st.deeds
theorem WZ:RG lC:=by
 refine⟨?_,?_,?_,?_⟩
 .unfold SL;rfl'
 .decide+kernel
 .decide+kernel
 .have key:∀r∈lC,∀k,k<3->r.take (k+1)∈lC:=by rfl'
  intro p s h d;have hl:∀r∈lC,r.length <= 2:=by rfl'
  have h1:=hl _ h;rw[aF] at h1;have h2:0<p.length:=kI.mpr d;have:=key _ h (p.length-1) ((lz 38057968272367816995) h1 (bG _ _));rw[show p.length-1+1=p.length from ai (Oz (dE (zw h2))) dX,lO] at this;exact this
theorem W0:DI 0 ⟨lC,[lC],[],[]⟩:=
 ⟨WZ,(by decide),rfl,aR _,rfl,rfl,(λ i c h=>nomatch h),(λ x h=>nomatch h),aR _,(λ x h=>nomatch h),rfl⟩
theorem td (g:RG rows) (h:rows.length <= 12):∀r∈rows,iR r:=λ r hr=>⟨g.nm r hr,g.ne r hr,by have:=g.deep hr;exact aL this h⟩
theorem Gv (g:RG rows) (h:rows.length <= 11) (n:rc rows new):iR new:=⟨n.nm g,n.ne,by
 obtain⟨p,m,rfl,_,d⟩:=n.par;rw[aF];rcases d with rfl|d
 .simp
 .have:=g.deep d;simp;exact aL this h⟩
theorem Rv (g:RG rows) (h:rows.length <= 11) (d:B7 rows k ns rows'):gX rows k ns rows':=by
 have t:=d.rg g;refine⟨d,g,td g (LR h),td t.1 (OU h t.2),?_,LR h,OU h t.2⟩;cases d with
 |@md new n=>intro r hr;rw[aw.mp hr];exact Gv g h n
 |@rm old o=>intro r hr;rw[aw.mp hr];exact td g (LR h) old o
 |@mv old new o n _=>
  intro r hr;rcases ap.mp hr with rfl|hr
  .exact td g (LR h) r o
  .rw[aw.mp hr];exact Gv g h n
theorem yT:∀(ps:List Str) (cs:List (List Str)) (c:List Str),(∀p∈ps,lR p=false)->ps.foldl mr (cs++[c])=cs++[c++ps.map mW]
 |[],cs,c,_=>by simp
 |p::ps,cs,c,h=>by
  have e:mr (cs++[c]) p=cs++[c++[mW p]]:=by
   unfold mr;rw[if_neg (by rw[h p (ag ..)];simp)];simp
  rw[bf,e,yT ps cs _ λ q d=>h q (ao _ d)];simp
theorem KC (d:List Str) (k:Str) (ps:List Str) (t:lR k=true) (h:∀p∈ps,lR p=false):gN (d++k::ps)=gN d++[k::ps.map mW]:=by
 unfold gN;rw[cq,bf];have e:∀cs,mr cs k=cs++[[k]]:=λ cs=>by unfold mr;rw[if_pos t]
 rw[e,yT ps _ _ h];rfl
theorem Gw (d:B7 rows k ns rows'):lR k=true /\ Cj k /\ ns.length <= 2:=by
 have w:∀k∈([("md":Str),"rm","mv"]),lR k=true /\ (∀c∈cd k,E6 c=true) /\ k.length <= 201 /\ k.length≠0:=by rfl'
 have f:∀{k:Str},k∈([("md":Str),"rm","mv"])->lR k=true /\ Cj k:=λ h=>⟨(w _ h).1,(w _ h).2.1,(w _ h).2.2.1,(w _ h).2.2.2,.inl (w _ h).1⟩;cases d with
 |md=>exact⟨(f (by simp)).1,(f (by simp)).2,by simp⟩
 |rm=>exact⟨(f (by simp)).1,(f (by simp)).2,by simp⟩
 |mv=>exact⟨(f (by simp)).1,(f (by simp)).2,by simp⟩
theorem Cm (h:iR r) (d:Int):Cj (fp r d):=⟨E8 h d,DF h d,by rw[mh h.ne,oS,gi];simp,.inr (B9 h d)⟩
theorem Nx {n:Nat} {st:DS} (x:Int) (h:DI n st) (hn:n <= 8):DI (n+1) (dp st x):=by
 injections n st x h hn;unfold dp;cases e:fV st.rows x with
 |none=>
  exact⟨h.g,by have:=h.ln;show st.rows.length <= _;exact(lz 5783058798299406405650) this,h.bl,vV h.dl,h.b0,h.last,h.deed,h.words,by have:=h.wl;show st.words.length <= _;exact(lz 5638943610223419461650) this,h.first,h.cmds⟩
 |some t=>
  obtain⟨k,ns,rows'⟩:=t;have d:=Nd e;have hl:=h.ln;have D:=Rv h.g ((lz 1060764496069546545186) hn hl) d;have R:=d.rg h.g;obtain⟨hk,hw,M⟩:=Gw d;have u:=h.bl;have V:=h.dl;dsimp only;have v:∀{i a},st.books[i]?=some a->(st.books++[rows'])[i]?=some a:=λ{i a} q=>by
   rw[fJ (au.mp q).1];exact q
  have b2:(st.books++[rows'])[st.deeds.length+1]?=some rows':=by rw[fy (by exact OV u),u,nr];rfl
  refine⟨R.1,by show rows'.length <= _;exact(lz 1983219843270285281450568847395) hl R.2,by show(st.books++[rows']).length=(st.deeds++[_]).length+1;simp;exact u,by show(st.deeds++[_]).length <= _;simp;exact V,v h.b0,?_,?_,?_,?_,?_,?_⟩
  .show(st.books++[rows'])[(st.deeds++[k::ns.map ar]).length]?=some rows';rw[aF];exact b2
  .intro i c hc;have hc:(st.deeds++[k::ns.map ar])[i]?=some c:=hc;by_cases z:i<st.deeds.length
   .rw[fJ z] at hc;obtain⟨a,b,k',H,q1,q2,q3,q4⟩:=h.deed i c hc;exact⟨a,b,k',H,v q1,v q2,q3,q4⟩
   .have hi:i=st.deeds.length:=by
     have:=(au.mp hc).1;rw[aF] at this;simp at this;exact ai (PR this) (tG z)
    subst hi;rw[fy (aR _),nr] at hc;have hc:k::ns.map ar=c:=by simpa using hc
    exact⟨st.rows,rows',k,ns,v h.last,b2,hc.symm,D⟩
  .intro y hy;have hy:y∈st.words++k::ns.map (λ n=>fp n (gz st.rows x)):=hy;rcases aQ.mp hy with hy|hy
   .exact h.words y hy
   .rcases ap.mp hy with rfl|hy
    .exact hw
    .obtain⟨r,hr,rfl⟩:=az.mp hy;exact Cm (D.r3 r hr) _
  .show(st.words++k::ns.map (λ n=>fp n (gz st.rows x))).length <= _;have:=h.wl;simp only[aF,aE,ah];exact(lz 11392460173744479011848050175381539) M this
  .intro y hy;have hy:(st.words++k::ns.map (λ n=>fp n (gz st.rows x)))[0]?=some y:=hy;cases q:st.words with
   |nil=>
    rw[q] at hy;have hy:k=y:=by simpa using hy
    rw[<-hy];exact hk
   |cons z r=>
    rw[q] at hy;exact h.first y (by rw[q];simpa using hy)
  .show gN (st.words++k::ns.map (λ n=>fp n (gz st.rows x)))=st.deeds++[k::ns.map ar];rw[KC _ _ _ hk,h.cmds,bH]
   .refine congrArg (λ l=>st.deeds++[k::l]) ?_;exact dQ λ r hr=>Ca (D.r3 r hr) _
   .intro p hp;obtain⟨r,hr,rfl⟩:=az.mp hp;exact yH (D.r3 r hr) _
theorem KD:∀(xs:List Int),xs.length <= 8->DI xs.length (drawn xs):=by
 have key:∀(xs:List Int) (n:Nat) (st:DS),DI n st->n+xs.length <= 8->DI (n+xs.length) (xs.foldl dp st):=by
  intro xs
  induction xs with
  |nil=>intro n st h _;exact h
  |cons x xs d=>
   intro n st h hl;rw[aE] at hl;have:=d (n+1) (dp st x) (Nx x h ((lz 158063258888481804306) hl)) ((lz 165741339752248767557406738) hl);rw[bf,aE,show n+(xs.length+1)=n+1+xs.length from ai Ba Lu];exact this
 intro xs hl;have:=key xs 0 _ W0 ((lz 617011329556287505) hl)
 rwa [kj] at this
theorem Ub {n:Nat} {st:DS} (h:DI n st) (hn:n <= 8) (x:Int):CX st.rows x:=by
 have hl:=h.ln;have hr:=td h.g (Qg hn hl);refine⟨(lz 271555710993767703056418) hn hl,h.g.nd,h.g.ne,λ r d=>⟨by have:=(hr r d).len;exact(lz 56577594033704977) this,λ y hy=>by have:=(gr ((hr r d).nm y hy)).l;exact ON this⟩,λ r d y hy=>AJ (gr ((hr r d).nm y hy)).c,λ _ t _=>?_⟩;exact yA h.g ⟨t,_,_,rfl,Dz st.rows x,wj st.rows (mc st.rows x).toNat⟩
theorem Fj (xs:List Int):(drawn (569::xs)).words≠[]:=by
 have h0:(dp ⟨lC,[lC],[],[]⟩ 569).words≠[]:=by rfl'
 have key:∀(xs:List Int) (st:DS),st.words≠[]->(xs.foldl dp st).words≠[]:=by
  intro xs
  induction xs with
  |nil=>intro st h;exact h
  |cons x xs d=>
   intro st h;rw[bf];refine d _ ?_;unfold dp;cases fV st.rows x with
   |none=>exact h
   |some t=>exact λ e=>h (fA.mp e).1
 exact key xs _ h0
theorem yU {n:Nat} {st:DS} (h:DI n st):∀i a,st.books[i]?=some a->eF (lC.map ar) st.deeds i=a.map ar
 |0,a,ha=>by
  rw[h.b0] at ha;cases ha;rfl
 |i+1,a,ha=>by
  have hi:i<st.deeds.length:=by have:=(au.mp ha).1;have:=h.bl;exact(lz 118798266129984826380579) ‹_› this
  have hc:st.deeds[i]?=some st.deeds[i]:=am hi;obtain⟨u,b,k,ns,q1,q2,t,d⟩:=h.deed i _ hc;rw[ha] at q2;cases q2;rw[wS hc,yU h i u q1,t,d.shelf]
theorem DV {n:Nat} {st:DS} (h:DI n st) (i:Nat) (c:List Str) (hc:st.deeds[i]?=some c):EX (eF (lC.map ar) st.deeds i) c:=by
 obtain⟨a,b,k,ns,q1,q2,t,d⟩:=h.deed i c hc;rw[yU h i a q1,t];exact d.step
theorem H4 {n:Nat} {st:DS} (h:DI n st):B5 (lC.map ar) st.deeds=st.books.map λ b=>b.map ar:=by
 unfold B5;rw[<-h.bl];apply List.ext_getElem?;intro i;by_cases hi:i<st.books.length
 .rw[a9,tC hi,a9,am hi,js,js,yU h i _ (am hi)]
 .rw[eL (by simp;exact tG hi),eL (by simp;exact tG hi)]
theorem Ny {n:Nat} {st:DS} (h:DI n st) (hn:n <= 8):Gd st.words:=
 ⟨by have:=h.wl;exact(lz 3754595565576815011500066) hn this,λ x d=>⟨AJ (h.words x d).c,(h.words x d).p⟩,h.first⟩
def gC (c:gL):y6:=.tuple [.str c.1,.int c.2.1,.int c.2.2.1,.int c.2.2.2.1,.int c.2.2.2.2]
theorem Nz:Enc dC gC 2 where
 py c:=Bi (nu Fz (nu xA (nu xA (nu xA (nu xA CH)))))
 eqv a b:=by
  obtain⟨a1,a2,a3,V,M⟩:=a;obtain⟨H,v,u,t,d⟩:=b;simp only[gC,iZ,kO,z9,um];rw[cQ];simp only[bB,decide_eq_true_iff,beq_iff_eq,Int.ofNat_inj]
 dep c:=by simp[gC,qU,fE]
theorem H5:∀c∈dm a b,c.1∈([("replace":Str),"delete","insert","equal"]):=by
 have v:∀(i t j d:Nat),∀c∈cT i t j d,c.1∈([("replace":Str),"delete","insert","equal"]):=by
  intro i t j d c hc;unfold cT at hc
  split at hc
  .rw[aw.mp hc];simp
  .split at hc
   .rw[aw.mp hc];simp
   .split at hc
    .rw[aw.mp hc];simp
    .cases hc
 have hr:∀(i t j d:Nat),∀c∈dS i t j d,c.1∈([("replace":Str),"delete","insert","equal"]):=by
  intro i t j d c hc;unfold dS at hc
  split at hc
  .rw[aw.mp hc];simp
  .cases hc
 have key:∀(z i j:Nat),∀c∈dP a b z i j,c.1∈([("replace":Str),"delete","insert","equal"]):=by
  intro z
  induction z with
  |zero=>intro i j c hc;cases hc
  |succ z u=>
   intro i j c hc;rw[QB] at hc
   split at hc
   .rcases aQ.mp hc with hc|hc
    .unfold mq at hc;rcases aQ.mp hc with hc|hc
     .exact v _ _ _ _ c hc
     .exact hr _ _ _ _ c hc
    .exact u _ _ c hc
   .cases hc
 exact key _ _ _
theorem AU (a b:List Str):(gI ((dm a b).map gC)).canLay0=true:=by
 simp only[iN];refine x9 λ c hc=>?_;have key:∀t∈([("replace":Str),"delete","insert","equal"]),∀n∈cd t,E6 n=true:=by rfl'
 have h:okS c.1:=AJ (key _ (H5 c hc));unfold okS at h;simp only[gC,iN,eH,z9] at h⊢;exact h
theorem AV {l:List (List Str)} (h:∀x∈l,∀y∈x,okS y):(gI (l.map λ x=>gI (x.map .str))).canLay0=true:=by
 simp only[iN];exact x9 λ x d=>SQ (h x d)
def eh (st:DS):List (List Str):=st.books.map λ b=>b.map ar
def Ps:D->List fF
 |.sq _ l=>l.map mA
 |_=>[]
def fL (d:D):Option D:=some (dL ((Ps d).map ar))
theorem AW (b:List fF):Ps (.lst (b.map dT))=b:=by
 show(b.map dT).map mA=b;rw[bH]
 conv=>rhs;rw[<-jY b]
 exact dQ λ r _=>eJ r
theorem Rw (bs:List (List fF)):(nE bs).filterMap fL=(bs.map λ b=>b.map ar).map dL:=by
 unfold nE
 induction bs with
 |nil=>rfl
 |cons b bs d=>
  rw[aq,fC,d];show _=dL (b.map ar)::_;unfold fL;rw[AW]
theorem Rx (b:List fF):(b.map dT).filterMap vv=(b.map ar).map D.str:=by
 rw[AG,bH];rfl
def fQ (d:D):Option D:=match d with
 |.str x=>some (.str (iG x))
 |_=>none
theorem Ry (d:List Str):(d.map D.str).filterMap fQ=(d.map iG).map D.str:=by
 induction d with
 |nil=>rfl
 |cons x d t=>rw[aq,fC,t];rfl
section
variable{n:Nat} {st:DS}
theorem Gx (h:DI n st) (hn:n <= 8) {i:Nat} {b:List fF} (hb:st.books[i]?=some b):(∀r∈b,iR r) /\ b.length <= 12:=by
 injections n st h hn i b hb;have hi:=(au.mp hb).1;have d:=h.bl;by_cases z:i<st.deeds.length
 .obtain⟨a,b',k,ns,q1,q2,u,t⟩:=h.deed i _ (am z);rw[hb] at q1;cases q1;exact⟨t.r1,t.l1⟩
 .have e:i=st.deeds.length:=ai ((lz 29003482935458795555) hi d) (tG z);have hl:=h.ln;rw[e,h.last] at hb;cases hb;exact⟨td h.g (Qg hn hl),Qg hn hl⟩
theorem KG (h:DI n st) (hn:n <= 8):∀x∈eh st,∀y∈x,okS y:=λ x d y hy=>by
 obtain⟨b,hb,rfl⟩:=az.mp d;obtain⟨i,hi⟩:=j8 hb;exact tc (Gx h hn hi).1 y hy
theorem DW (h:DI n st) (hn:n <= 8):∀x∈st.deeds,∀y∈x,okS y:=λ x u y hy=>by
 obtain⟨i,hi⟩:=j8 u;obtain⟨a,b,k,ns,q1,q2,rfl,t⟩:=h.deed i x hi;rcases ap.mp hy with rfl|hy
 .exact AJ (Gw t.d).2.1.c
 .exact tc t.r3 y hy
theorem NA {b:List fF} {r:fF} (h:∀r∈b,iR r) (hr:r∈b):Wn r:=E9 (h r hr).nm (by have:=(h r hr).len;exact OO this)
theorem NB (h:DI n st) (hn:n <= 8):Wd 24 1100 (st.words.map iG):=⟨by have:=h.wl;rw[ah];exact(lz 234662222848540643758114) hn this,λ y hy=>by
 obtain⟨x,d,rfl⟩:=az.mp hy;have h1:=(h.words x d).l;have h2:=Fi x;exact(lz 51998965418015900174350249168930) h1 h2⟩
theorem H6 (h:DI n st):(eh st).length=st.deeds.length+1:=by unfold eh;rw[ah,h.bl]
theorem yV {i:Nat} {b:List fF} (h:st.books[i]?=some b):(eh st)[i]?=some (b.map ar):=by unfold eh;rw[a9,h];rfl
end
section
open PySem.Builtin PySem.Builtin.ObjectAttr
theorem yW (w:aB):r8 (Kw w) 158:=⟨by symm,by symm,by symm⟩
theorem Uc (w:aB):Tw w 158=some ⟨.type "type",aH,.cls (TW (Mine.ob 158 pw w.params)),(Mine.ob 158 pw w.params).slots⟩:=by show(Mine.hF pw w.params).get? 158=_;symm
theorem Gy (w:aB):JD (Kw w) (Tw w) 158:=⟨⟨_,_,_,_,Uc w,rfl⟩,by symm,λ _=>by symm,by symm,⟨.type "tuple",by symm,by symm⟩,by symm⟩
theorem Ud (w:aB):findCls (Kw w) (.type "tuple") (.type "type") "__new__"=some (.val (.builtin "tuple.__new__")):=by symm
theorem Vz (w:aB) (i j k:Int):vn pw w (Tw w) 2 (.ref 105) (MA λ vs=>⟨vs,[]⟩) [.val (.ref 158),.int i,.int j,.int k] [] (Is (.rcd 158 [.int i,.int j,.int k]) []):=by
 refine lj ["_cls","a","b","size"] [("_cls",.val (.ref 158)),("a",.int i),("b",.int j),("size",.int k)] (Td w) (ff w) (ds':=[.val (.ref 158),.int i,.int j,.int k]) (FH ?_) rfl (by rfl') (by rfl') ?_ ?_
 .exact Iw λ v u t v4=>rfl
 .intro p d;simp only[ap,aK,or_false] at d;rcases d with rfl|rfl|rfl|rfl<;>rfl
 .intro A L B ok
  conv=>arg 4;whnf
  ext st;refine' ly (F0 (fq w) ok (Gy w) ?c1 ?c2 (Ud w) ?c9) ?c3;ext c1 ev c2 evl
  case c9=>exact gU rfl
  exact⟨_,[],.nil,rfl,rfl⟩
theorem Ue (w:aB) (i j k:Int):vn pw w (Tw w) 3 (.ref 158) (λ vs=>⟨vs,[]⟩) [.int i,.int j,.int k] [] (Is (.rcd 158 [.int i,.int j,.int k]) []):=
 JH (fq w) (fN:=105) (sm:=159) (obj:=.none) (sr:=[]) (by symm) (by symm) (by symm) (by symm) (by symm) (by symm) ((Vz w i j k).a)
theorem RA (w:aB):fx (Kw w) (.ref 158) "__len__"=some (some (.builtin "tuple.__len__")):=by symm
theorem W6 (w:aB) (i j k:Int):vn pw w (Tw w) 2 (.ref 112) (λ vs=>⟨vs,[]⟩) [.val (.ref 158),.tup [.int i,.int j,.int k]] [] (Is (.rcd 158 [.int i,.int j,.int k]) []):=by
 refine lj ["cls","iterable"] [("cls",.val (.ref 158)),("iterable",.tup [.int i,.int j,.int k])] (Te w) (ff w) (ds':=[.val (.ref 158),.tup [.int i,.int j,.int k]]) (FH ?_) rfl (by rfl') (by rfl') ?_ ?_
 .exact pn λ v u=>rfl
 .intro p t;simp only[ap,aK,or_false] at t;rcases t with rfl|rfl<;>rfl
 .intro A L B ok
  conv=>arg 4;whnf
  ext st;refine' jt (F0 (fq w) ok (Gy w) ?c1 ?c2 (Ud w) ?c9) ?c4 ?c3;ext c1 ev c2 evl
  case c9=>exact gU rfl
  ext c4 put;have d:Fn pw w (Tw w) 1 (.builtin "len") [.rcd 158 [.int i,.int j,.int k]] [] (Is (.int 3) []):=HI (fq w) (yW w) (RA w) (gU rfl);refine' br ?t1 ?k1
  case t1=>
   refine' Tt.cast (cp (ka ok iu ?hx ?he ?tk d) ?hb (GJ (i:=3) (j:=3))) rfl;ext hx ev he evl tk takes hb ev
  ext st;ext ret;exact⟨_,[],.nil,rfl,rfl⟩
end
section
open PySem.Builtin PySem.Builtin.ObjectAttr
theorem NC (w:aB):(Tw w 1).isSome=true:=by show((Mine.hF pw w.params).get? 1).isSome=_;symm
def mH (b:List Str):Gm:=b.zipIdx.map λ p=>(p.1,D.lst [.int (p.2:Int)])
theorem yX (b:List Str):(mH b).map (·.1)=b:=by
 unfold mH;rw[bH];show b.zipIdx.map (λ p=>p.1)=b;exact List.zipIdx_map_fst 0 b
theorem KH {b:List Str} {i:Nat} {x:Str} (h:b[i]?=some x):mH (b.take (i+1))=mH (b.take i)++[(x,D.lst [.int (i:Int)])]:=by
 unfold mH;obtain⟨hi,rfl⟩:=au.mp h;rw[List.take_succ_eq_append_getElem hi,List.zipIdx_append,av];simp;exact Bc.elim (λ q=>eS ((lz 69022520850) q) ((lz 69038315026) q)) λ q=>eS ((lz 68988966418) (bO _ _)) ((lz 5087509308511779) hi q)
theorem KI:(mH b).lookup x=(if x∈b then some (D.lst [.int ((b.idxOf x:Nat):Int)]) else none):=by
 unfold mH
 suffices h:∀k,((b.zipIdx k).map λ p=>(p.1,D.lst [.int (p.2:Int)])).lookup x=(if x∈b then some (D.lst [.int ((b.idxOf x+k:Nat):Int)]) else none) by
  simpa using h 0
 induction b with
 |nil=>intro k;rfl
 |cons y b d=>
  intro k;rw[List.zipIdx_cons,aq,gK];by_cases q:x=y
  .subst q;simp
  .have q1:(x==y)=false:=by simpa using q
   rw[q1];dsimp only;rw[d (k+1)];have q2:(y==x)=false:=by simpa using λ z=>q z.symm
   simp only[ap,q,false_or,List.idxOf_cons,q2,cond_false]
   split
   .congr 4;exact eS (lz 324009471406399952386) (lz 462900483397096707586)
   .rfl
abbrev UA (a b t d:D):Gm:=[("isjunk",.none),("a",a),("b",b),("autojunk",.bool true),("matching_blocks",t),("opcodes",d)]
theorem ND (w:aB) (x da:aM) (l:List D):Fn pw w (Tw w) 2 (.ref 197) [.inst 265 x da,.lst l] [(da,cy w.params [("isjunk",.none),("a",.none),("b",.none),("autojunk",.bool true)])] (Is .none [(da,cy w.params (UA (.lst l) .none .none .none))]):=by
 refine dF ["self","a"] [("self",.inst 265 x da),("a",.lst l)] (O8 w) (ff w) ?_ rfl (by rfl') (by rfl') ?_ ?_
 .exact pn λ v t=>rfl
 .intro p d;simp only[ap,aK,or_false] at d;rcases d with rfl|rfl<;>rfl
 .intro A L B ok
  conv=>arg 4;whnf
  unfold UA;ext st;refine' br ?t1 ?k1;ext t1 tt
  case k1=>
   ext st;ext st;refine' kY xz (.cons (iE (fq w) ok (jy w) ?c1 ?c2 ?c3 ?c4) (.one (iE (fq w) ok (jy w) ?d1 ?d2 ?d3 ?d4) rfl) rfl) ?k2;ext c1 ev c2 take c3 put
   case c4=>symm
   ext d1 ev d2 take d3 put
   case d4=>symm
   exact aY ⟨_,[],.cons .head .nil,rfl,rfl⟩
abbrev H7 (a b t d q s1 s2:D):Gm:=[("isjunk",.none),("a",a),("b",b),("autojunk",.bool true),("matching_blocks",t),("opcodes",d),("fullbcount",.none),("b2j",q),("bjunk",s1),("bpopular",s2)]
theorem RB (w:aB) (x da:aM) (M:D) (b:List Str) (nd:b.Nodup) (hb:b.length <= 100):Fn pw w (Tw w) 2 (.ref 211) [.inst 265 x da] [(da,cy w.params [("isjunk",.none),("a",M),("b",dL b),("autojunk",.bool true),("matching_blocks",.none),("opcodes",.none),("fullbcount",.none)])]
  (λ d W=>d=.none /\ ∃q s1 s2,W=[(da,cy w.params (H7 M (dL b) .none .none (.val (.ref q)) (.val (.ref s1)) (.val (.ref s2)))),(q,cy w.params (mH b)),(s1,.pred kD),(s2,.pred kD)]):=by
 injections w x da M b nd hb;refine dF ["self"] [("self",.inst 265 x da)] (O' w) (ff w) ?_ rfl (by rfl') (by rfl') ?_ ?_
 .exact ku λ v=>rfl
 .intro p hp;simp only[ap,aK,or_false] at hp;rcases hp with rfl<;>rfl
 .intros A L B ok
  conv=>arg 4;whnf
  unfold H7;ext st;refine' mC yi ?k2
  case k2=>
   intros d W' t;have⟨q,rfl,rfl⟩:=t;refine' ⟨_,_,.cons (iE (fq w) ok (jy w) ?c1 ?c2 ?c3 ?c4) (.one (kb ?d1).w rfl) rfl,?k3⟩;ext c1 ev c2 take c3 put
   case c4=>symm
   ext d1 put;refine' lA (CJ ok (ds:=b.map .str) ?j1 ?j2) (λ i=>[("self",.inst 265 x da),("b",dL b),("b2j",.val (.ref q))])
    (λ i=>[(da,cy w.params [("isjunk",.none),("a",M),("b",dL b),("autojunk",.bool true),("matching_blocks",.none),("opcodes",.none),("fullbcount",.none),("b2j",.val (.ref q))]),(q,cy w.params (mH (b.take i)))]) ?j3 ?j4 ?j5 ?j6
   ext j1 ev j2 evl j3 sub
   case j4=>
    show cv _ [_,(q,cy w.params [])] [];ext takes
   case j5=>
    intros i d hd P;have⟨d',H,rfl⟩:=vZ hd;rw[a9,cN] at H;have⟨y,hy,rfl⟩:=H;have⟨hi,e⟩:=au.mp hy;refine' ⟨_,?X7,?k5⟩;ext X7 as;have hk:=yX (b.take i);have u:y∉(mH (b.take i)).map (·.1):=by
     rw[hk];intros hm;have⟨j,hj,ej⟩:=mO.mp hm;rw[List.getElem_take] at ej;have β:j<i:=by rw[bL] at hj;exact jf hj (bO _ _)
     have:=(iL nd).mp (ej.trans e.symm);exact(lz 1158287194516426530) β this
    have V:((mH (b.take i)).map (·.1)).Nodup:=by rw[hk];exact nd.sublist (vJ _ _)
    have hz:(mH (b.take i)).length <= 1000:=by unfold mH;simp;exact(lz 80395711528289685278754) hb (cD _ _)
    refine' eU (Hu ok (NC w) ?e1 ?e2 ?e3 u V hz) ?e4;ext e1 ev e2 ev e3 take
    case e4=>
     intros d W' t;have⟨p1,rfl,rfl⟩:=t;ext bind;refine' fc ok ?f1 ?f2 ?f3 ?f4 ?f5;ext f1 ev f2 ev f3 take
     case f4=>exact aU _
     refine' BS (l:=p1) ?g1 ?g2 ?g3;ext g1 take g2 take;dsimp only[be];rw[<-KH hy];refine aY ⟨?_,?_⟩
     .ext sub
     .ext takes
   case j6=>
    have e:(xT (b.map D.str)).length=b.length:=by rw[v6,ah]
    rw[e,bF];refine' mC (my ok kP ?a1 bW .nil Jd) ?a2;ext a1 ev
    case a2=>
     intros d W' t;have⟨Wo,⟨z1,rfl,rfl⟩,rfl⟩:=t;dsimp only[bh,be];refine' ⟨_,_,.cons (iE (fq w) ok (jy w) ?X6 ?X5 ?X4 ?X3) (.one (kb ?X1).w rfl) rfl,?Y0⟩;ext X6 ev X5 take X4 put
     case X3=>symm
     ext X1 put;ext st;refine' br ?t1 ?k1;ext t1 tt;ext st;refine' mC (my ok kP ?a3 bW .nil Jd) ?a4;ext a3 ev
     case a4=>
      intros d W' t;have⟨Wo,⟨z2,rfl,rfl⟩,rfl⟩:=t;dsimp only[bh,be];refine' ⟨_,_,.cons (iE (fq w) ok (jy w) ?UC ?UD ?UE ?UF) (.one (kb ?X0).w rfl) rfl,?X8⟩;ext UC ev UD take UE put
      case UF=>symm
      ext X0 put;ext st;refine' br ?t2 ?X9
      case t2=>exact ce (eN.step (by ext tt) (eN.last (Tt.cast (by ext tt) (decide_eq_false (by simp only[ah];exact(lz 7217582455684471313) hb)))))
      refine aV (aY ⟨_,[],?_,rfl,q,z1,z2,rfl⟩);ext takes
end
section
open PySem.Builtin PySem.Builtin.ObjectAttr
abbrev VA (w:aB) (da:aM) (t:D) (b:List Str):D->Om->Prop:=λ d W=>d=.none /\ ∃q s1 s2,W=[(da,cy w.params (H7 t (dL b) .none .none (.val (.ref q)) (.val (.ref s1)) (.val (.ref s2)))),(q,cy w.params (mH b)),(s1,.pred kD),(s2,.pred kD)]
theorem NE (w:aB) (x da:aM) (l:List D) (b:List Str) (nd:b.Nodup) (hb:b.length <= 100):Fn pw w (Tw w) 3 (.ref 204) [.inst 265 x da,dL b] [(da,cy w.params (UA (.lst l) .none .none .none))] (VA w da (.lst l) b):=by
 injections w x da l b nd hb;refine dF ["self","b"] [("self",.inst 265 x da),("b",dL b)] (O9 w) (ff w) ?_ rfl (by rfl') (by rfl') ?_ ?_
 .exact pn λ v v2=>rfl
 .intro p H;simp only[ap,aK,or_false] at H;rcases H with rfl|rfl<;>rfl
 .intros A L B ok
  conv=>arg 4;whnf
  unfold UA;ext st;refine' br ?t1 ?k1;ext t1 tt
  case k1=>
   ext st;ext st;refine' kY xz (.cons (iE (fq w) ok (jy w) ?c1 ?c2 ?c3 ?c4) (.one (iE (fq w) ok (jy w) ?d1 ?d2 ?d3 ?d4) rfl) rfl) ?k2;ext c1 ev c2 take c3 put
   case c4=>symm
   ext d1 ev d2 take d3 put
   case d4=>symm
   ext st;refine' pA (kf (fq w) ok (jy w) (f:=211) (ds:=[]) ?e1 ?e2 ?e3 ?e4 ?e5 (O' w).kp ?e6 ?e7 (RB w x da (.lst l) b nd hb)) ?e8;ext e1 ev e2 take
   case e3=>symm
   case e4=>symm
   case e5=>symm
   ext e6 evl e7 takes;intros d W' h_;have⟨Wo,u,rfl⟩:=h_;have⟨rfl,t⟩:=u;have⟨q,V,M,rfl⟩:=t;exact⟨rfl,aY ⟨_,[],.cons .head (.cons .head (.cons .head (.cons .head .nil))),rfl,q,V,M,rfl⟩⟩
theorem NF (w:aB) (x da:aM) (a b:List Str) (nd:b.Nodup) (hb:b.length <= 100):Fn pw w (Tw w) 4 (.ref 190) [.inst 265 x da,dL a,dL b] [(da,cy w.params [("isjunk",.none),("a",.none),("b",.none),("autojunk",.bool true)])] (VA w da (dL a) b):=by
 injections w x da a b nd hb;refine dF ["self","a","b"] [("self",.inst 265 x da),("a",dL a),("b",dL b)] (O7 w) (ff w) ?_ rfl (by rfl') (by rfl') ?_ ?_
 .exact Fx λ v v2 v3=>rfl
 .intro p M;simp only[ap,aK,or_false] at M;rcases M with rfl|rfl|rfl<;>rfl
 .intros A L B ok
  conv=>arg 4;whnf
  ext st;refine' pA (kf (fq w) ok (jy w) (f:=197) (ds:=[dL a]) ?a1 ?a2 ?a3 ?a4 ?a5 (O8 w).kp ?a6 ?a7 ((ND w x da (a.map .str)).le (by decide))) ?a8;ext a1 ev a2 take
  case a3=>symm
  case a4=>symm
  case a5=>symm
  ext a6 evl a7 takes;intros d W' t;have⟨Wo,⟨rfl,rfl⟩,rfl⟩:=t;refine⟨rfl,?_⟩;dsimp only[bh,be];refine' pA (kf (fq w) ok (jy w) (f:=204) (ds:=[dL b]) ?e1 ?e2 ?e3 ?e4 ?e5 (O9 w).kp ?e6 ?e7 (NE w x da (a.map .str) b nd hb)) ?e8;ext e1 ev e2 take
  case e3=>symm
  case e4=>symm
  case e5=>symm
  ext e6 evl e7 takes;intros d W' t;have⟨Wo,H,rfl⟩:=t;have⟨rfl,u⟩:=H;have⟨q,z1,V,rfl⟩:=u;exact⟨rfl,aY ⟨_,[],.cons .head (.cons .head (.cons .head (.cons .head .nil))),rfl,q,z1,V,rfl⟩⟩
theorem Uf (w:aB):∃t1 t2,Tw w 176=some ⟨.type "tuple",aH,.seq #[.none,.str "" t1,.str "" t2,.bool true] 0,#[]⟩:=⟨541,542,by show(Mine.hF pw w.params).get? 176=_;symm⟩
theorem RC (w:aB) (x da:aM) (a b:List Str) (nd:b.Nodup) (hb:b.length <= 100):vn pw w (Tw w) 5 (.ref 183) (MA λ vs=>⟨vs,[]⟩) [.inst 265 x da,.none,dL a,dL b] [(da,cy w.params [])] (VA w da (dL a) b):=by
 injections w x da a b nd hb;refine lj ["self","isjunk","a","b","autojunk"] [("self",.inst 265 x da),("isjunk",.none),("a",dL a),("b",dL b),("autojunk",.bool true)] (Tf w) (ff w) (ds':=[.inst 265 x da,.none,dL a,dL b,.bool true]) ?_ rfl (by rfl') (by rfl') ?_ ?_
 .intro M A E s K vs Q hT kp r kk;obtain⟨v,u,t,v4,rfl⟩:∃v u t v4,vs=[v,u,t,v4]:=Iw (P:=λ vs=>∃v u t v4,vs=[v,u,t,v4]) (λ v u t v4=>⟨v,u,t,v4,rfl⟩) vs (cB.length r);obtain⟨t1,t2,H⟩:=Uf w;show wpAny M A (seqItems? (.ref 176)>>=_) Q E s;refine ae (bI (kp _ _ (hT _ _ H)) rfl ?_);exact cz (a:=[(("self":Str),v),(("isjunk":Str),u),(("a":Str),t),(("b":Str),v4),(("autojunk":Str),.bool true)]) (by symm) (kk [v,u,t,v4,.bool true] s.heap K s.toks (Aft.same kp gx.nil) (.cons r.hd.1 (.cons r.hd.2.hd.1 (.cons r.hd.2.hd.2.hd.1 (.cons r.hd.2.hd.2.hd.2.hd.1 (.cons rfl .nil))))))
 .intro p hp;simp only[ap,aK,or_false] at hp;rcases hp with rfl|rfl|rfl|rfl|rfl<;>rfl
 .intros A L B ok
  conv=>arg 4;whnf
  ext st;ext st;refine' kY xz (.cons (iE (fq w) ok (jy w) ?c1 ?c2 ?c3 ?c4) (.one (iE (fq w) ok (jy w) ?d1 ?d2 ?d3 ?d4) rfl) rfl) ?k2;ext c1 ev c2 take c3 put
  case c4=>symm
  ext d1 ev d2 take d3 put
  case d4=>symm
  ext st;refine' pA (kf (fq w) ok (jy w) (f:=190) (ds:=[dL a,dL b]) ?e1 ?e2 ?e3 ?e4 ?e5 (O7 w).kp ?e6 ?e7 (NF w x da a b nd hb)) ?e8;ext e1 ev e2 take
  case e3=>symm
  case e4=>symm
  case e5=>symm
  ext e6 evl e7 takes;intros d W' h_;have⟨Wo,β,rfl⟩:=h_;have⟨rfl,V⟩:=β;have⟨q,z1,z2,rfl⟩:=V;exact⟨rfl,aY ⟨_,[],.cons .head (.cons .head (.cons .head (.cons .head .nil))),rfl,q,z1,z2,rfl⟩⟩
abbrev V7 (w:aB) (a b:List Str):D->Om->Prop:=λ d W=>∃x da,d=.inst 265 x da /\ ∃q s1 s2,W=[(da,cy w.params (H7 (dL a) (dL b) .none .none (.val (.ref q)) (.val (.ref s1)) (.val (.ref s2)))),(q,cy w.params (mH b)),(s1,.pred kD),(s2,.pred kD)]
theorem RD (w:aB) (a b:List Str) (nd:b.Nodup) (hb:b.length <= 100):Fn pw w (Tw w) 6 (.ref 265) [.none,dL a,dL b] [] (V7 w a b):=
 (FV (P:=λ x da W=>∃q s1 s2,W=[(da,cy w.params (H7 (dL a) (dL b) .none .none (.val (.ref q)) (.val (.ref s1)) (.val (.ref s2)))),(q,cy w.params (mH b)),(s1,.pred kD),(s2,.pred kD)]) (fq w) (Kl w) (fI:=183) (by symm) (by symm) λ x da=>RC w x da a b nd hb).a.fn
end
section
open PySem.Builtin PySem.Builtin.ObjectAttr
theorem Ug (w:aB):∃t1 t2,Tw w 212=some ⟨.type "tuple",aH,.seq #[.int 0 t1,.none,.int 0 t2,.none] 0,#[]⟩:=⟨601,602,by show(Mine.hF pw w.params).get? 212=_;symm⟩
theorem H8 (p:Option (Nat×Nat)) (j:Nat):Dl (oD p) ((j:Int)-1) 0=(fK p j:Int):=by
 cases p with
 |none=>rfl
 |some q=>
  obtain⟨d,t⟩:=q;unfold oD Dl fK;dsimp only[js];by_cases e:d+1=j
  .rw[if_pos (by omega),if_pos e]
  .rw[if_neg (by omega),if_neg e];rfl
abbrev Ed (w:aB) (da:aM) (a b:List Str) (t d:D) (q s1 s2:aM):Om:=[(da,cy w.params (H7 (dL a) (dL b) t d (.val (.ref q)) (.val (.ref s1)) (.val (.ref s2)))),(q,cy w.params (mH b)),(s1,.pred kD),(s2,.pred kD)]
theorem Uh (w:aB) (x da:aM) (a b:List Str) (mb oc:D) (q s1 s2:aM) (nd:b.Nodup) (ha:a.length <= 100) (hb:b.length <= 100) (alo t blo bhi:Nat) (h1:alo <= t) (h2:t <= a.length) (h3:blo <= bhi) (h4:bhi <= b.length)
  (hE:QU a b alo t blo bhi (fN a b alo blo bhi (t-alo)).bi (fN a b alo blo bhi (t-alo)).bj (fN a b alo blo bhi (t-alo)).bk):
  vn pw w (Tw w) 4 (.ref 219) (λ vs=>⟨vs,[]⟩) [.inst 265 x da,.int alo,.int t,.int blo,.int bhi] (Ed w da a b mb oc q s1 s2)
   (Is (.rcd 158 [.int (fN a b alo blo bhi (t-alo)).bi,.int (fN a b alo blo bhi (t-alo)).bj,.int (fN a b alo blo bhi (t-alo)).bk]) (Ed w da a b mb oc q s1 s2)):=by
 injections w x da a b mb oc q s1 s2 nd ha hb alo t blo bhi h1 h2 h3 h4 hE;refine lj ["self","alo","ahi","blo","bhi"] [("self",.inst 265 x da),("alo",.int alo),("ahi",.int t),("blo",.int blo),("bhi",.int bhi)] (Pa w) (ff w) (ds':=[.inst 265 x da,.int alo,.int t,.int blo,.int bhi]) ?_ rfl (by rfl') (by rfl') ?_ ?_
 .intro M A E s K vs Q hT kp r kk;obtain⟨v,v2,v3,v4,v5,rfl⟩:∃v v2 v3 v4 v5,vs=[v,v2,v3,v4,v5]:=SE (P:=λ vs=>∃v v2 v3 v4 v5,vs=[v,v2,v3,v4,v5]) (λ v v2 v3 v4 v5=>⟨v,v2,v3,v4,v5,rfl⟩) vs (cB.length r);obtain⟨t1,t2,μ⟩:=Ug w;show wpAny M A (seqItems? (.ref 212)>>=_) Q E s;refine ae (bI (kp _ _ (hT _ _ μ)) rfl ?_);exact cz (a:=[(("self":Str),v),(("alo":Str),v2),(("ahi":Str),v3),(("blo":Str),v4),(("bhi":Str),v5)]) (by symm) (kk [v,v2,v3,v4,v5] s.heap K s.toks (Aft.same kp gx.nil) r)
 .intro p hp;simp only[ap,aK,or_false] at hp;rcases hp with rfl|rfl|rfl|rfl|rfl<;>rfl
 .intros A L B ok
  conv=>arg 4;whnf
  unfold Ed H7;ext st;refine' sM ok (HG (es:=[_,_,_]) (ds:=[dL a,dL b,.val (.ref q)]) ?a1 (Hx ?a2 ?a3)) ?a4;ext a1 evl a2 ev a3 take
  case a4=>
   intros d W' h_;have⟨d1,rfl,Z4⟩:=h_;have⟨m,rfl,rfl⟩:=Z4;dsimp only[bh,be];refine' ⟨_,?b1,?b2⟩;ext b1 as;refine' br ?t1 ?k1;ext t1 tt;ext st;refine' br ?t2 ?k2;ext t2 tt;ext st;refine' nh ok (ds:=[.int alo,.int blo,.int 0]) (xs:=["besti","bestj","bestsize"]) ?c1 (.cons ?c2 (.cons ?c3 (.cons ?c4 .nil))) ?c5;ext c1 ev c2 put c3 put c4 put;refine' eU yi ?d1
   case d1=>
    intros d W' h_;have⟨d0,rfl,rfl⟩:=h_;ext bind;refine' FY (pr:=pw) (w:=w) ?d2 ?d3;ext d2 take;ext st;refine' Bz (σ:=aM) (EN ok (a:=(alo:Int)) (b:=(t:Int)) ?e1 ?e2 (by omega) (by exact(lz 2615168914292517272584317900339) ha h1 h2) (by omega) (by exact(lz 20581302151441859917977122) ha h2)) (λ _ _=>True)
     (λ n V=>[("self",.inst 265 x da),("alo",.int alo),("ahi",.int t),("blo",.int blo),("bhi",.int bhi),("a",dL a),("b",dL b),("b2j",.val (.ref q)),("isbjunk",.val (.ref m)),("besti",.int (fN a b alo blo bhi n).bi),("bestj",.int (fN a b alo blo bhi n).bj),("bestsize",.int (fN a b alo blo bhi n).bk),("j2len",.val (.ref V)),("nothing",.lst [])])
     (λ n V=>[(V,FX pw w (oD (fN a b alo blo bhi n).prev)),(m,.raw (gM "set.__contains__" s1)),(da,cy w.params [("isjunk",.none),("a",dL a),("b",dL b),("autojunk",.bool true),("matching_blocks",mb),("opcodes",oc),("fullbcount",.none),("b2j",.val (.ref q)),("bjunk",.val (.ref s1)),("bpopular",.val (.ref s2))]),(q,cy w.params (mH b)),(s1,.pred kD),(s2,.pred kD)]) d0 trivial ?e3 ?e4 ?e5 ?e6
    ext e1 ev e2 evl;have z0:((0:Nat):Int)=0:=rfl
    case e3=>
     dsimp only[V0];rw[z0];ext sub
    case e4=>
     dsimp only[V0,oD,gv];ext takes
    case e5=>
     intros i d hd V zz P;have⟨hi,rfl⟩:=yj hd;have ei:((alo:Int)+(i:Int))=((alo+i:Nat):Int):=by push_cast;rfl
     rw[ei];have ο:alo+i<a.length:=by omega
     have h_:∃xa,a[alo+i]?=some xa:=⟨_,am ο⟩;have⟨xa,θ⟩:=h_;have ψ:a.getD (alo+i) ""=xa:=by rw[bu,θ];rfl
     have u:fN a b alo blo bhi (i+1)=ym blo bhi (alo+i) (wg b xa) (fN a b alo blo bhi i):=by
      show ym _ _ _ (wg b (a.getD (alo+i) "")) _=_;rw[ψ]
     have η:=λ j=>SX a b alo blo bhi i j;generalize hS:fN a b alo blo bhi i=S at η u⊢;refine' ⟨_,?f1,?f2⟩;ext f1 as;refine' eU (Hw ?g1 ?g2) ?g3;ext g1 ev g2 take;intros d W' h_;have⟨g,rfl,rfl⟩:=h_;ext bind;refine' eU yi ?g4;intros d W' h_;have⟨dn,rfl,rfl⟩:=h_;ext bind;refine' FY (pr:=pw) (w:=w) ?g5 ?g6;ext g5 take;have Z6:(a.map D.str)[((alo+i:Nat):Int).toNat]?=some (.str xa):=by rw[eI,a9,θ];rfl
     have β:=KI (b:=b) (x:=xa);by_cases hm:xa∈b
     .have γ:wg b xa=some (b.idxOf xa):=if_pos hm;rw[if_pos hm] at β;have φ:b.idxOf xa<b.length:=pi.mpr hm;generalize b.idxOf xa=j at γ β φ;rw[γ] at u;have υ:=(η j).1;have τ:=(η j).2;generalize κ:fN a b alo blo bhi (i+1)=S2 at u;refine' lA (eZ ok (FZ (d:=.lst [.int (j:Int)]) ok (NC w) ?h1 ?h2 ?h3 ?h4 ?h5 ?h6)) (λ l=>match l with|0=>[("self",.inst 265 x da),("alo",.int alo),("ahi",.int t),("blo",.int blo),("bhi",.int bhi),("a",dL a),("b",dL b),("b2j",.val (.ref q)),("isbjunk",.val (.ref m)),("besti",.int (S.bi:Nat)),("bestj",.int (S.bj:Nat)),("bestsize",.int (S.bk:Nat)),("j2len",.val (.ref V)),("nothing",.lst []),("i",.int ((alo+i:Nat):Int)),("j2lenget",.val (.ref g)),("newj2len",.val (.ref dn))]|_+1=>[("self",.inst 265 x da),("alo",.int alo),("ahi",.int t),("blo",.int blo),("bhi",.int bhi),("a",dL a),("b",dL b),("b2j",.val (.ref q)),("isbjunk",.val (.ref m)),("besti",.int (S2.bi:Nat)),("bestj",.int (S2.bj:Nat)),("bestsize",.int (S2.bk:Nat)),("j2len",.val (.ref V)),("nothing",.lst []),("i",.int ((alo+i:Nat):Int)),("j2lenget",.val (.ref g)),("newj2len",.val (.ref dn))]) (λ l=>match l with|0=>P (i+1)++[(dn,FX pw w aH),(g,.raw (gM "dict.get" V)),(V,FX pw w (oD S.prev)),(m,.raw (gM "set.__contains__" s1)),(da,cy w.params [("isjunk",.none),("a",dL a),("b",dL b),("autojunk",.bool true),("matching_blocks",mb),("opcodes",oc),("fullbcount",.none),("b2j",.val (.ref q)),("bjunk",.val (.ref s1)),("bpopular",.val (.ref s2))]),(q,cy w.params (mH b)),(s1,.pred kD),(s2,.pred kD)]|_+1=>P (i+1)++[(dn,FX pw w (oD S2.prev)),(g,.raw (gM "dict.get" V)),(V,FX pw w (oD S.prev)),(m,.raw (gM "set.__contains__" s1)),(da,cy w.params [("isjunk",.none),("a",dL a),("b",dL b),("autojunk",.bool true),("matching_blocks",mb),("opcodes",oc),("fullbcount",.none),("b2j",.val (.ref q)),("bjunk",.val (.ref s1)),("bpopular",.val (.ref s2))]),(q,cy w.params (mH b)),(s1,.pred kD),(s2,.pred kD)]) ?h7 ?h8 ?h9 ?Z5;ext h1 ev h2 ev h3 ev h4 take
      case h5=>rw[yX];exact nd
      case h6=>rw[β];rfl
      case h7=>
       dsimp only;ext sub
      case h8=>
       dsimp only;ext takes
      case h9=>
       intros l d hd P2;obtain⟨rfl,rfl⟩:l=0 /\ d=.int (j:Int):=by
        match l,hd with
        |0,hd=>exact⟨rfl,(jr hd).symm⟩
       dsimp only;refine' ⟨_,?i1,?i2⟩;ext i1 as;refine' dY (b:=decide ((j:Int)<blo)) ?i3 (λ hc=>?i4) (λ hc=>?i5);ext i3 tt
       case i4=>
        have hc:=of_decide_eq_true hc;have e2:S2=⟨none,S.bi,S.bj,S.bk⟩:=u.trans (if_pos (by exact(lz 69106405650) hc));refine rO ⟨?_,?_⟩
        .try dsimp only
         rw[e2];ext sub
        .try dsimp only
         rw[e2]
         try dsimp only[oD,gv]
         ext takes
       case i5=>
        have hc:=of_decide_eq_false hc;refine aV ?_;refine' dY (b:=decide ((j:Int) >= bhi)) ?j3 (λ hc2=>?j4) (λ hc2=>?j5);ext j3 tt
        case j4=>
         have hc2:=of_decide_eq_true hc2;have e2:S2=⟨none,S.bi,S.bj,S.bk⟩:=u.trans (by show(if j<blo then _ else _)=_;rw[if_neg (by exact(lz 69173515538) hc),if_pos (by exact(lz 69089628178) hc2)]);have heq:=κ.trans e2;refine rP ?_;refine xY ?_;ext st;refine' nD (p:=(g,_)) ?X6 ?Z2;ext X6 take;refine' nD (p:=(V,_)) ?X5 ?Z1;ext X5 take;refine aY ⟨dn,trivial,?_,?_⟩
         .try dsimp only
          rw[heq];ext sub
         .try dsimp only
          rw[heq]
          try dsimp only[oD,gv]
          ext takes
        case j5=>
         have hc2:=of_decide_eq_false hc2;have e2:S2=if S.bk<fK S.prev j+1 then⟨some (j,fK S.prev j+1),(alo+i)-fK S.prev j,j-fK S.prev j,fK S.prev j+1⟩ else⟨some (j,fK S.prev j+1),S.bi,S.bj,S.bk⟩:=u.trans (by show(if j<blo then _ else _)=_;rw[if_neg (by exact(lz 69173515538) hc),if_neg (by exact(lz 69156738066) hc2)]);refine aV ?_;have ω:=H8 S.prev j;refine' kY (d:=.int ((fK S.prev j+1:Nat):Int)) (Ev.op (a:=.int (fK S.prev j:Int)) (b:=.int 1) (MI ok (NC w) ?l1 ?l2 ?l3 ?l4 ω) ?l5 ?l6) (.cons (kb ?l7).w (.one (Jx ?l8 ?l9 ?Z3) rfl) rfl) ?l11;ext l1 ev l2 evl l3 take l4 take l5 ev
         case l6=>
          intros d' e';rw[e',show((fK S.prev j+1:Nat):Int)=(fK S.prev j:Int)+1 by push_cast;rfl];ext op
         ext l7 put l8 ev l9 ev Z3 take;generalize fK S.prev j=k at υ τ e2⊢;refine' dY (b:=decide (((k+1:Nat):Int)>(S.bk:Int))) ?m1 (λ hc3=>?m2) (λ hc3=>?m3);ext m1 tt
         case m2=>
          have hc3:=of_decide_eq_true hc3;rw[if_pos (by exact(lz 28935066243186037010) hc3)] at e2;have v1:((alo+i:Nat):Int)-((k+1:Nat):Int)+1=((alo+i-k:Nat):Int):=by omega
          have v2:(j:Int)-((k+1:Nat):Int)+1=((j-k:Nat):Int):=by omega
          refine' nh ok (ds:=[.int ((alo+i-k:Nat):Int),.int ((j-k:Nat):Int),.int ((k+1:Nat):Int)]) (xs:=["besti","bestj","bestsize"]) (fa (bg ?o1 (bg ?o2 (bg ?o3 bW)))) (.cons ?o4 (.cons ?o5 (.cons ?o6 .nil))) ?o7
          case o1=>rw[<-v1];ext ev
          case o2=>rw[<-v2];ext ev
          ext o3 ev o4 put o5 put o6 put;refine aV (aY ⟨?_,?_⟩)
          .try dsimp only
           rw[e2];ext sub
          .try dsimp only
           rw[e2]
           try dsimp only[oD,js]
           ext takes
         case m3=>
          have hc3:=of_decide_eq_false hc3;rw[if_neg (by exact(lz 28935066518063944978) hc3)] at e2;refine aV (aY ⟨?_,?_⟩)
          .try dsimp only
           rw[e2];ext sub
          .try dsimp only
           rw[e2]
           try dsimp only[oD,js]
           ext takes
      case Z5=>
       have heq:=κ;dsimp only[aE,bp];ext st;refine' nD (p:=(g,_)) ?X4 ?Z0;ext X4 take;refine' nD (p:=(V,_)) ?X3 ?Y9;ext X3 take;refine aY ⟨dn,trivial,?_,?_⟩
       .try dsimp only
        rw[heq];ext sub
       .try dsimp only
        rw[heq]
        try dsimp only[oD,gv]
        ext takes
     .have γ:wg b xa=none:=if_neg hm;rw[if_neg hm] at β;have heq:fN a b alo blo bhi (i+1)=⟨none,S.bi,S.bj,S.bk⟩:=u.trans (by rw[γ];rfl);refine' lA (eZ ok (FZ (d:=.lst []) ok (NC w) ?n1 ?n2 ?n3 ?n4 ?n5 ?n6)) (λ l=>[("self",.inst 265 x da),("alo",.int alo),("ahi",.int t),("blo",.int blo),("bhi",.int bhi),("a",dL a),("b",dL b),("b2j",.val (.ref q)),("isbjunk",.val (.ref m)),("besti",.int (S.bi:Nat)),("bestj",.int (S.bj:Nat)),("bestsize",.int (S.bk:Nat)),("j2len",.val (.ref V)),("nothing",.lst []),("i",.int ((alo+i:Nat):Int)),("j2lenget",.val (.ref g)),("newj2len",.val (.ref dn))]) (λ l=>P (i+1)++[(dn,FX pw w aH),(g,.raw (gM "dict.get" V)),(V,FX pw w (oD S.prev)),(m,.raw (gM "set.__contains__" s1)),(da,cy w.params [("isjunk",.none),("a",dL a),("b",dL b),("autojunk",.bool true),("matching_blocks",mb),("opcodes",oc),("fullbcount",.none),("b2j",.val (.ref q)),("bjunk",.val (.ref s1)),("bpopular",.val (.ref s2))]),(q,cy w.params (mH b)),(s1,.pred kD),(s2,.pred kD)]) ?n7 ?n8 ?n9 ?n10;ext n1 ev n2 ev n3 ev n4 take
      case n5=>rw[yX];exact nd
      case n6=>rw[β];rfl
      ext n7 sub n8 takes
      case n9=>exact λ l d hd=>nomatch hd
      ext st;refine' nD (p:=(g,_)) ?X1 ?Y8;ext X1 take;refine' nD (p:=(V,_)) ?X0 ?Y7;ext X0 take;refine aY ⟨dn,trivial,?_,?_⟩
      .try dsimp only
       rw[heq];ext sub
      .try dsimp only
       rw[heq]
       try dsimp only[oD,gv]
       ext takes
    case e6=>
     intros V _;have ι:(zJ (alo:Int) ((t:Int)-(alo:Int)).toNat).length=t-alo:=by unfold zJ;rw[ah,vI];omega
     rw[ι];generalize fN a b alo blo bhi (t-alo)=S at hE⊢;obtain⟨ia,ib,ja,jb,ρ,χ⟩:=hE;have H:∀(l:List Str) (k:Nat),k<l.length->∃x,l[k]?=some x /\ (l.map D.str)[((k:Nat):Int).toNat]?=some (.str x):=λ l k h=>⟨l[k],am h,by rw[eI,a9,am h];rfl⟩;have ε:blo<S.bj->(S.bj:Int)-1=((S.bj-1:Nat):Int):=λ h=>by omega
     have ξ:alo<S.bi->(S.bi:Int)-1=((S.bi-1:Nat):Int):=λ h=>by omega
     have δ:(S.bj:Int)+(S.bk:Int)=((S.bj+S.bk:Nat):Int):=by push_cast;rfl
     have ν:(S.bi:Int)+(S.bk:Int)=((S.bi+S.bk:Nat):Int):=by push_cast;rfl
     refine' sU ?Y6 ?Y5 ?Y4 ?Z';ext Y6 sub Y5 takes
     case Y4=>
      by_cases c1:alo<S.bi
      .by_cases c2:blo<S.bj
       .have⟨y,y1,y2⟩:=H b (S.bj-1) (by exact Qh h4 jb (dE (GA c2)));have⟨z,z1,z2⟩:=H a (S.bi-1) (by exact Qh h2 ja (dE (GA c1)));have ζ:z≠y:=λ e=>ρ z c1 c2 z1 (e▸y1);refine' ce (eN.step (Tt.cast (cp (by ext ev) (by ext ev) jv) (decide_eq_true (by exact GI c1))) (eN.step (Tt.cast (cp (by ext ev) (by ext ev) jv) (decide_eq_true (by exact GI c2))) (eN.step (oL (b:=false) (lw (xG ok (by ext ev) (bg (bS (l:=b.map .str) (k:=((S.bj-1:Nat):Int)) (d:=.str y) (by ext ev) ?q1 (by exact Bb) (by simp;exact LU hb h4 jb (bG _ _)) y2) bW) ?q2 ?q3) vh)) (eN.last (Tt.cast (cp (bS (l:=a.map .str) (k:=((S.bi-1:Nat):Int)) (d:=.str z) (by ext ev) ?q4 (by exact Bb) (by simp;exact LU ha h2 ja (bG _ _)) z2) (bS (l:=b.map .str) (k:=((S.bj-1:Nat):Int)) (d:=.str y) (by ext ev) ?q5 (by exact Bb) (by simp;exact LU hb h4 jb (bG _ _)) y2) sL) (decide_eq_false ζ))))))
        case q1=>(rw[<-ε c2];ext ev)
        ext q2 take q3 take
        case q4=>(rw[<-ξ c1];ext ev)
        case q5=>(rw[<-ε c2];ext ev)
       .exact ce (eN.step (Tt.cast (cp (by ext ev) (by ext ev) jv) (decide_eq_true (by exact GI c1))) (eN.miss (Tt.cast (cp (by ext ev) (by ext ev) jv) (decide_eq_false (by exact LV c2)))))
      .exact ce (eN.miss (Tt.cast (cp (by ext ev) (by ext ev) jv) (decide_eq_false (by exact LV c1))))
     refine' sU ?Y3 ?Y2 ?Y1 ?Z9;ext Y3 sub Y2 takes
     case Y1=>
      have t1:∀v:Bool,decide (S.bi+S.bk<t)=v->decide ((S.bi:Int)+(S.bk:Int)<(t:Int))=v:=λ v h=>h▸decide_eq_decide.mpr (by omega);have t2:∀v:Bool,decide (S.bj+S.bk<bhi)=v->decide ((S.bj:Int)+(S.bk:Int)<(bhi:Int))=v:=λ v h=>h▸decide_eq_decide.mpr (by omega);by_cases c1:S.bi+S.bk<t
      .by_cases c2:S.bj+S.bk<bhi
       .have⟨y,y1,y2⟩:=H b (S.bj+S.bk) (by exact jf c2 h4);have⟨z,z1,z2⟩:=H a (S.bi+S.bk) (by exact jf c1 h2);have ζ:z≠y:=λ e=>χ z c1 c2 z1 (e▸y1);refine' ce (eN.step (Tt.cast (cp (by ext ev) (by ext ev) ju) (t1 true (decide_eq_true c1))) (eN.step (Tt.cast (cp (by ext ev) (by ext ev) ju) (t2 true (decide_eq_true c2))) (eN.step (oL (b:=false) (lw (xG ok (by ext ev) (bg (bS (l:=b.map .str) (k:=((S.bj+S.bk:Nat):Int)) (d:=.str y) (by ext ev) ?r1 (by exact LY) (by simp;exact LZ hb h4 c2) y2) bW) ?r2 ?r3) vh)) (eN.last (Tt.cast (cp (bS (l:=a.map .str) (k:=((S.bi+S.bk:Nat):Int)) (d:=.str z) (by ext ev) ?r4 (by exact LY) (by simp;exact LZ ha h2 c1) z2) (bS (l:=b.map .str) (k:=((S.bj+S.bk:Nat):Int)) (d:=.str y) (by ext ev) ?r5 (by exact LY) (by simp;exact LZ hb h4 c2) y2) sL) (decide_eq_false ζ))))))
        case r1=>(rw[<-δ];ext ev)
        ext r2 take r3 take
        case r4=>(rw[<-ν];ext ev)
        case r5=>(rw[<-δ];ext ev)
       .exact ce (eN.step (Tt.cast (cp (by ext ev) (by ext ev) ju) (t1 true (decide_eq_true c1))) (eN.miss (Tt.cast (cp (by ext ev) (by ext ev) ju) (t2 false (decide_eq_false c2)))))
      .exact ce (eN.miss (Tt.cast (cp (by ext ev) (by ext ev) ju) (t1 false (decide_eq_false c1))))
     refine' sU ?Gq ?Gr ?Y0 ?Z8;ext Gq sub Gr takes
     case Y0=>
      by_cases c1:alo<S.bi
      .by_cases c2:blo<S.bj
       .have⟨y,y1,y2⟩:=H b (S.bj-1) (by exact Qh h4 jb (dE (GA c2)));refine' ce (eN.step (Tt.cast (cp (by ext ev) (by ext ev) jv) (decide_eq_true (by exact GI c1))) (eN.step (Tt.cast (cp (by ext ev) (by ext ev) jv) (decide_eq_true (by exact GI c2))) (eN.miss (lw (xG ok (by ext ev) (bg (bS (l:=b.map .str) (k:=((S.bj-1:Nat):Int)) (d:=.str y) (by ext ev) ?s1 (by exact Bb) (by simp;exact LU hb h4 jb (bG _ _)) y2) bW) ?s2 ?s3) vh))))
        case s1=>(rw[<-ε c2];ext ev)
        ext s2 take s3 take
       .exact ce (eN.step (Tt.cast (cp (by ext ev) (by ext ev) jv) (decide_eq_true (by exact GI c1))) (eN.miss (Tt.cast (cp (by ext ev) (by ext ev) jv) (decide_eq_false (by exact LV c2)))))
      .exact ce (eN.miss (Tt.cast (cp (by ext ev) (by ext ev) jv) (decide_eq_false (by exact LV c1))))
     refine' sU ?X9 ?X8 ?X7 ?Z7;ext X9 sub X8 takes
     case X7=>
      have t1:∀v:Bool,decide (S.bi+S.bk<t)=v->decide ((S.bi:Int)+(S.bk:Int)<(t:Int))=v:=λ v h=>h▸decide_eq_decide.mpr (by omega);have t2:∀v:Bool,decide (S.bj+S.bk<bhi)=v->decide ((S.bj:Int)+(S.bk:Int)<(bhi:Int))=v:=λ v h=>h▸decide_eq_decide.mpr (by omega);by_cases c1:S.bi+S.bk<t
      .by_cases c2:S.bj+S.bk<bhi
       .have⟨y,y1,y2⟩:=H b (S.bj+S.bk) (by exact jf c2 h4);refine' ce (eN.step (Tt.cast (cp (by ext ev) (by ext ev) ju) (t1 true (decide_eq_true c1))) (eN.step (Tt.cast (cp (by ext ev) (by ext ev) ju) (t2 true (decide_eq_true c2))) (eN.miss (lw (xG ok (by ext ev) (bg (bS (l:=b.map .str) (k:=((S.bj+S.bk:Nat):Int)) (d:=.str y) (by ext ev) ?u1 (by exact LY) (by simp;exact LZ hb h4 c2) y2) bW) ?u2 ?u3) vh))))
        case u1=>(rw[<-δ];ext ev)
        ext u2 take u3 take
       .exact ce (eN.step (Tt.cast (cp (by ext ev) (by ext ev) ju) (t1 true (decide_eq_true c1))) (eN.miss (Tt.cast (cp (by ext ev) (by ext ev) ju) (t2 false (decide_eq_false c2)))))
      .exact ce (eN.miss (Tt.cast (cp (by ext ev) (by ext ev) ju) (t1 false (decide_eq_false c1))))
     refine' ly (ka ok (BM (fq w) (C:=158) ?x1) ?x2 ?x3 .nil (((Ue w S.bi S.bj S.bk).a.fn))) ?x4
     case x1=>symm
     ext x2 ev x3 evl;exact⟨_,_,.cons (.tail (.tail .head)) (.cons (.tail (.tail .head)) (.cons (.tail (.tail .head)) (.cons (.tail (.tail .head)) .nil))),rfl,rfl⟩
end
section
open PySem.Builtin PySem.Builtin.ObjectAttr
abbrev xm (B:AA):D:=.tup [.int B.1,.int B.2.1,.int B.2.2.1,.int B.2.2.2]
abbrev Cn (t:sV):JI:=(t.1,t.2.1,t.2.2)
abbrev vG (t:sV):D:=lD 158 (Cn t)
abbrev nY (t:sV):D:=Vi (Cn t)
def lT (d:List sV) (n:Nat):sV:=if n=0 then(0,0,0) else d.getD (n-1) (0,0,0)
theorem KJ (w:aB) (x da:aM) (a b:List Str) (oc:D) (q s1 s2:aM) (nd:b.Nodup) (ha:a.length <= 100) (hb:b.length <= 100) (P:List AA->List sV->Prop) (RR:List sV) (hQ:Vk a b P RR):
  Fn pw w (Tw w) 8 (.ref 226) [.inst 265 x da] (Ed w da a b .none oc q s1 s2)
   (Is (.lst ((RR++[(a.length,b.length,0)]).map vG)) (Ed w da a b (.lst ((RR++[(a.length,b.length,0)]).map vG)) oc q s1 s2)):=by
 injections w x da a b oc q s1 s2 nd ha hb P RR hQ;refine dF ["self"] [("self",.inst 265 x da)] (Pb w) (ff w) ?_ rfl (by rfl') (by rfl') ?_ ?_
 .exact ku λ v=>rfl
 .intro p hp;simp only[ap,aK,or_false] at hp;rcases hp with rfl<;>rfl
 .intros A L B ok
  conv=>arg 4;whnf
  unfold Ed H7;ext st;refine' br ?t1 ?k1;ext t1 tt;ext st;have la:(a.map D.str).length=a.length:=ah ..;have lb:(b.map D.str).length=b.length:=ah ..;have hla:Fn pw w (Tw w) 7 (.builtin "len") [dL a] [] (Is (.int a.length) []):=by have:=qm (pr:=pw) (w:=w) (T:=Tw w) (n:=7) (l:=a.map .str) (by rw[la];exact OW ha);rwa [la] at this
  have hlb:Fn pw w (Tw w) 7 (.builtin "len") [dL b] [] (Is (.int b.length) []):=by have:=qm (pr:=pw) (w:=w) (T:=Tw w) (n:=7) (l:=b.map .str) (by rw[lb];exact OW hb);rwa [lb] at this
  refine' nh ok (ds:=[.int a.length,.int b.length]) (xs:=["la","lb"]) (fa (bg (ka ok iu ?c1 (bg ?c2 bW) .nil hla) (bg (ka ok iu ?c3 (bg ?c4 bW) .nil hlb) bW))) (.cons ?c5 (.cons ?c6 .nil)) ?c7;ext c1 ev c2 ev c3 ev c4 ev c5 put c6 put;refine' En (ds:=[.tup [.int 0,.int a.length,.int 0,.int b.length]]) (bg (fa ?d1) bW) ?d2;ext d1 evl;intros qa;ext bind;ext new;intros ba;ext bind;refine kc (σ:=List AA×List sV) (λ st=>pC st.1) (λ st=>P st.1 st.2) (λ st=>[("self",.inst 265 x da),("la",.int a.length),("lb",.int b.length),("queue",.val (.ref qa)),("matching_blocks",.val (.ref ba))])
   (λ st=>[(qa,.list (st.1.map xm)),(ba,.list (st.2.map vG)),(da,cy w.params (H7 (dL a) (dL b) .none oc (.val (.ref q)) (.val (.ref s1)) (.val (.ref s2)))),(q,cy w.params (mH b)),(s1,.pred kD),(s2,.pred kD)]) ([(0,a.length,0,b.length)],[]) hQ.h0 ?_ ?_ ?_
  .ext sub
  .show cv _ [(qa,.list [.tup [.int 0,.int a.length,.int 0,.int b.length]]),(ba,.list []),_,_,_,_] [];unfold H7;ext takes
  .refine Sa ?_;intros qs bl hP;have hP:P qs bl:=hP
   try dsimp only
   rcases fR qs with rfl|h_
   .right
    refine⟨Tt.cast (lw (by ext ev) (IF (l:=([]:List AA).map xm) .head (by decide))) rfl,?_⟩;have⟨hnd,h64⟩:=hQ.nd bl hP;have eT:bl.map vG=(bl.map Cn).map (lD 158):=by rw[bH];rfl
    rw[eT];refine' JL (n:=6) (C:=158) (ms:=bl.map Cn) (fq w) (yW w) ok ?e1 ?e2 ?e3 ?e4 ?e5;ext e1 ev e2 take
    case e3=>
     rw[bH];have:(bl.map λ t=>((t.1:Nat):Int)).Nodup:=by
      have:=hnd;unfold uY at this⊢;rw[dU] at this⊢;exact this.imp λ h z=>h (by exact_mod_cast z)
     exact this
    case e4=>rw[ah];exact h64
    intros ι hp hs;have h_:∃ms:List sV,ι=ms.map Cn:=by
     refine⟨ι.map λ t=>(t.1.toNat,t.2.1.toNat,t.2.2.toNat),?_⟩;rw[bH]
     conv=>lhs;rw[<-jY ι]
     apply dQ;intro t ht;obtain⟨u,_,rfl⟩:=az.mp (hp.mem_iff.mp ht)
     rfl
    have⟨ms,rfl⟩:=h_;have μ:ms.Perm bl:=by
     have:=hp.map λ t:JI=>((t.1.toNat,t.2.1.toNat,t.2.2.toNat):sV);rw[bH,bH] at this;have e:∀l:List sV,l.map ((λ t:JI=>((t.1.toNat,t.2.1.toNat,t.2.2.toNat):sV))∘Cn)=l:=λ l=>by
      conv=>rhs;rw[<-jY l]
      rfl
     rwa [e,e] at this
    have κ:ms.Pairwise λ x y=>x.1<y.1:=by
     rw[dU] at hs;exact hs.imp λ{x y} h=>Cq.mp h
    have hRR:=hQ.so bl ms hP μ κ;subst hRR;have η:=hQ.pos;have υ:=hQ.adj;have δ:=hQ.len;have hcur0:lT ms 0=(0,0,0):=rfl;have β:∀n x,ms[n]?=some x->lT ms (n+1)=x:=λ n x h=>by unfold lT;rw[if_neg (wF n),ji,bu,h];rfl
    have ο:∀n x,ms[n]?=some x->(ms.take n).map nY++[nY x]=(ms.take (n+1)).map nY:=λ n x h=>by rw[bY,h,av];rfl
    refine' kY (Ei (i:=0)) (.cons (kb ?o1).w (.cons (kb ?o2).w (.one (kb ?o3).w rfl) rfl) rfl) ?o4;ext o1 put o2 put o3 put;ext new;intros na;ext bind;refine' gd (x:="matching_blocks") (a:=ba) (l:=(ms.map Cn).map (lD 158)) (vf.mem (by ext has)) ?o5 ?o6 ?o7;ext o5 take o6 put;refine' nD (p:=(qa,_)) ?o8 ?o9;ext o8 take;refine' lA (eZ ok (ds:=(ms.map Cn).map (lD 158)) ?q1) (λ n=>[("self",.inst 265 x da),("la",.int a.length),("lb",.int b.length),("i1",.int (lT ms n).1),("j1",.int (lT ms n).2.1),("k1",.int (lT ms n).2.2),("non_adjacent",.val (.ref na))])
     (λ n=>[(na,.list ((ms.take (n-1)).map nY)),(da,cy w.params [("isjunk",.none),("a",dL a),("b",dL b),("autojunk",.bool true),("matching_blocks",.none),("opcodes",oc),("fullbcount",.none),("b2j",.val (.ref q)),("bjunk",.val (.ref s1)),("bpopular",.val (.ref s2))]),(q,cy w.params (mH b)),(s1,.pred kD),(s2,.pred kD)]) ?q2 ?q3 ?q4 ?q5
    ext q1 ev
    case q2=>
     show Sub [_,_,_,("i1",.int 0),("j1",.int 0),("k1",.int 0),_] _;ext sub
    case q3=>
     show cv _ [(na,.list []),_,_,_,_] [];ext takes
    case q4=>
     intros n d hd P2;have h_:∃t,ms[n]?=some t /\ d=vG t:=by
      rw[a9,a9] at hd;cases hm:ms[n]? with
      |none=>rw[hm] at hd;cases hd
      |some t=>rw[hm] at hd;exact⟨t,rfl,(jr hd).symm⟩
     have⟨t,ht,rfl⟩:=h_;have hc1:=β n t ht;rw[hc1,ji];have hlt:n<ms.length:=(au.mp ht).1;have hc:(n=0 /\ lT ms n=(0,0,0)) \/ (0<n /\ 0<(lT ms n).2.2 /\ ¬((lT ms n).1+(lT ms n).2.2=t.1 /\ (lT ms n).2.1+(lT ms n).2.2=t.2.1) /\ (ms.take (n-1)).map nY++[nY (lT ms n)]=(ms.take n).map nY):=by
      cases n with
      |zero=>exact .inl ⟨rfl,rfl⟩
      |succ n=>
       obtain⟨y,hy⟩:∃y,ms[n]?=some y:=⟨ms[n],am ((lz 308997413409042) hlt)⟩;rw[β n y hy];exact .inr ⟨Cu _,η y (bD hy),υ n y t hy ht,by rw[ji];exact ο n y hy⟩
     have hl1:((ms.take (n-1)).map nY).length <= 100:=by rw[ah,bL];exact OX δ (cD _ _)
     generalize lT ms n=cu at hc⊢;refine' ⟨_,?r1,?r2⟩
     case r1=>exact EQ (fq w) (yW w) ok (by ext asl)
     refine' dY (b:=decide (cu.1+cu.2.2=t.1 /\ cu.2.1+cu.2.2=t.2.1)) ?r3 (λ γ=>?r4) (λ γ=>?r5)
     case r3=>exact Tt.cast (by ext tt) (by rw[cQ];simp only[bB,decide_eq_true_eq];omega)
     case r4=>
      have γ:=of_decide_eq_true γ;rcases hc with⟨rfl,rfl⟩|⟨_,_,hno,_⟩
      .have e:((0:Nat):Int)+(t.2.2:Int)=(t.2.2:Int):=eS (lz 166204929) (lz 2659194369);refine' Mg (d:=.int t.2.2) ?w1 ?w2 ?w3 ?w4 ?w5;ext w1 has w2 ev
       case w3=>rw[<-e];exact CE
       ext w4 put;refine aV (aY ⟨?_,?_⟩)
       .dsimp only at γ;have e1:t.1=0:=by have:=γ.1;omega
        have e2:t.2.1=0:=by have:=γ.2;omega
        rw[e1,e2];ext sub
       .ext takes
      .exact absurd γ hno
     case r5=>
      refine' dY (b:=decide (((cu.2.2:Nat):Int)≠0)) ?s1 (λ M=>?s2) (λ M=>?s3);ext s1 tt
      case s2=>
       have M:=of_decide_eq_true M;rcases hc with⟨_,rfl⟩|⟨_,_,_,ν⟩
       .exact absurd rfl M
       .ext st;rw[ν];refine aV ?_;refine' nh ok (ds:=[.int t.1,.int t.2.1,.int t.2.2]) (xs:=["i1","j1","k1"]) (fa ?v1) (.cons ?v2 (.cons ?v3 (.cons ?v4 .nil))) ?v5;ext v1 evl v2 put v3 put v4 put;refine aV (aY ⟨?_,?_⟩)
        .ext sub
        .ext takes
      case s3=>
       have M:=of_decide_eq_false M;rcases hc with⟨rfl,rfl⟩|⟨_,hp,_,_⟩
       .refine aV ?_;refine' nh ok (ds:=[.int t.1,.int t.2.1,.int t.2.2]) (xs:=["i1","j1","k1"]) (fa ?x1) (.cons ?x2 (.cons ?x3 (.cons ?x4 .nil))) ?x5;ext x1 evl x2 put x3 put x4 put;refine aV (aY ⟨?_,?_⟩)
        .ext sub
        .ext takes
       .exact absurd hp (by omega)
    case q5=>
     have e:((ms.map Cn).map (lD 158)).length=ms.length:=by rw[ah,ah]
     rw[e];have hl1:((ms.take (ms.length-1)).map nY).length <= 100:=by rw[ah,bL];exact OX δ (cD _ _)
     have hc:(ms=[] /\ lT ms ms.length=(0,0,0)) \/ (0<(lT ms ms.length).2.2 /\ (ms.take (ms.length-1)).map nY++[nY (lT ms ms.length)]=ms.map nY):=by
      rcases fR ms with z|⟨l,y,z⟩
      .left;rw[z];exact⟨rfl,rfl⟩
      .right
       rw[gW] at z;have hy:ms[l.length]?=some y:=by rw[z];simp
       have hn:ms.length=l.length+1:=by rw[z];simp
       rw[hn,β l.length y hy,ji,ο l.length y hy,lM (by exact OV hn)];exact⟨η y (bD hy),rfl⟩
     have θ:∀i1 j1 k1:Nat,Ex ⟨pw,w,Tw w,A,cx (fb 226) L 226,B⟩ [("self",.inst 265 x da),("la",.int a.length),("lb",.int b.length),("i1",.int i1),("j1",.int j1),("k1",.int k1),("non_adjacent",.val (.ref na))]
       [(na,.list (ms.map nY)),(da,cy w.params [("isjunk",.none),("a",dL a),("b",dL b),("autojunk",.bool true),("matching_blocks",.none),("opcodes",oc),("fullbcount",.none),("b2j",.val (.ref q)),("bjunk",.val (.ref s1)),("bpopular",.val (.ref s2))]),(q,cy w.params (mH b)),(s1,.pred kD),(s2,.pred kD)] ((gb 5 7).drop 11) (Gives (Is (.lst ((ms++[(a.length,b.length,0)]).map vG)) (Ed w da a b (.lst ((ms++[(a.length,b.length,0)]).map vG)) oc q s1 s2))):=by
      intros i1 j1 k1
      conv=>arg 4;whnf
      have hz:(ms.map nY).length <= 100:=by rw[ah];exact(lz 30681967580155921) δ
      refine' fc (d:=nY (a.length,b.length,0)) ok ?a1 (fa ?a2) ?a3 ?a4 ?a5;ext a1 ev
      case a2=>
       show vd _ _ _ _ [.int a.length,.int b.length,.int 0];ext evl
      ext a3 take
      case a4=>(rw[ay];exact LP hz)
      rw[show ms.map nY++[nY (a.length,b.length,0)]=(ms++[(a.length,b.length,0)]).map nY by rw[av];rfl];refine' gd (x:="non_adjacent") (a:=na) (l:=(ms++[(a.length,b.length,0)]).map nY) (by simp) ?a6 ?a7 ?a8;ext a6 take a7 put;generalize hms:ms++[(a.length,b.length,0)]=ns;have ω:ns.length <= 100:=by rw[<-hms,aF];simp only[aE,bp];exact OY δ
      refine' yf (fq w) ok (jy w) (BV (C:=158) (f:=112) (p0:=114) (k:=2) (rest:=[.bool false]) (ds:=ns.map nY) (ds':=ns.map vG) (fq w) ok (by decide) ?b1 ?b2 ?b3 ?b4 ?b5 ?b6 ?b7 (by rw[ah,ah]) ?b8 ?b9) ?b10 ?b11 ?b12 ?b13 ?b14;ext b1 ev b2 ev b3 ev b4 ev
      case b5=>symm
      case b6=>symm
      case b7=>symm
      case b8=>
       intros i d d' h1 h2;rw[a9] at h1 h2;cases hm:ns[i]? with
       |none=>rw[hm] at h1;cases h1
       |some t=>
        rw[hm] at h1 h2;cases h1;cases h2;exact W6 w t.1 t.2.1 t.2.2
      case b9=>(rw[ay,ah];exact LP ω)
      ext b10 ev b11 take b12 put
      case b13=>symm
      ext ret;exact⟨_,[],.cons .head (.cons .head (.cons .head (.cons .head .nil))),rfl,rfl⟩
     refine' dY (b:=decide (((lT ms ms.length).2.2:Int)≠0)) ?c1 (λ M=>?c2) (λ M=>?c3);ext c1 tt
     case c2=>
      have M:=of_decide_eq_true M;rcases hc with⟨_,h0⟩|⟨_,ν⟩
      .rw[h0] at M;exact absurd rfl M
      .ext st;rw[ν];exact aV (θ _ _ _)
     case c3=>
      have M:=of_decide_eq_false M;rcases hc with⟨τ,_⟩|⟨hp,_⟩
      .have e0:(ms.take (ms.length-1)).map nY=ms.map nY:=by rw[τ];rfl
       rw[e0];exact aV (θ _ _ _)
      .exact absurd hp (by omega)
   .have⟨V,H,ρ⟩:=h_
    left
    rw[gW] at ρ;subst ρ;have⟨hB,ξ,χ⟩:=hQ.h1 V H bl hP;rw[av,show sI xm [H]=[xm H] from rfl];have ε:(V.map xm).length <= 1000:=by rw[ah];exact ξ
    refine⟨Tt.cast (lw (by ext ev) (IF (l:=V.map xm++[xm H]) .head (by rw[aF];simp only[aE,bp];exact(lz 18450923699955590238481) ε))) (by simp),?_⟩;refine' sM ok (MT (l:=V.map xm) (d:=xm H) ok ?f1 ?f2 ?f3) ?f4;ext f1 ev f2 take
    case f3=>rw[ay];exact OZ ε
    intros d W' h_;have⟨rfl,rfl⟩:=h_;refine' ⟨_,?f5,?f6⟩;ext f5 as;have hF:=Uh w x da a b .none oc q s1 s2 nd ha hb H.1 H.2.1 H.2.2.1 H.2.2.2 hB.h1 hB.h2 hB.h3 hB.h4 hB.e;have hs:=hQ.hs V H bl hP;have hz:=hQ.hz V H bl hP;have hM:=AC (qs:=V) hB;have hlo:=hB.e.ia;have hhi:=hB.e.ja;have ψ:=wh (qs:=V) (B:=H);have hF:vn pw w (Tw w) 4 (.ref 219) (λ vs=>⟨vs,[]⟩) [.inst 265 x da,.int H.1,.int H.2.1,.int H.2.2.1,.int H.2.2.2] (Ed w da a b .none oc q s1 s2) (Is (vG (vW a b H)) (Ed w da a b .none oc q s1 s2)):=hF;generalize vW a b H=t at hF hs hz hM hlo hhi;have φ:Fn pw w (Tw w) 7 (.ref 219) [.inst 265 x da,.int H.1,.int H.2.1,.int H.2.2.1,.int H.2.2.2] (Ed w da a b .none oc q s1 s2) (Is (vG t) (Ed w da a b .none oc q s1 s2)):=hF.a.fn.le (by decide);unfold Ed H7 at φ;refine' kY (d:=vG t) (Jj (fq w) ok (jy w) (f:=219) (ds:=[.int H.1,.int H.2.1,.int H.2.2.1,.int H.2.2.2]) ?g1 ?g2 ?g3 ?g4 ?g5 (Pa w).kp ?g6 ?g7 φ) (.cons (EQ (fq w) (yW w) ok ?g8).w (.one (kb ?g9).w rfl) rfl) ?g10;ext g1 ev g2 take
    case g3=>symm
    case g4=>symm
    case g5=>symm
    ext g6 evl g7 takes g8 asl g9 put;refine' dY (b:=decide (((t.2.2:Nat):Int)≠0)) ?i1 (λ hc=>?i2) (λ hc=>?i3);ext i1 tt
    case i2=>
     have hc:=of_decide_eq_true hc;have hk:0<t.2.2:=by omega
     have ζ:=hM hk;refine' fc ok ?h1 ?h2 ?h3 ?h4 ?h5;ext h1 ev h2 ev h3 take
     case h4=>(rw[ay,ah];exact Lr χ)
     refine' dY (b:=decide (H.1<t.1 /\ H.2.2.1<t.2.1)) ?j1 (λ c1=>?j2) (λ c1=>?j3)
     case j1=>exact Tt.cast (by ext tt) (by rw[cQ];simp only[bB,decide_eq_true_eq];omega)
     case j2=>
      have c1:=of_decide_eq_true c1;refine' fc (d:=xm (H.1,t.1,H.2.2.1,t.2.1)) ok ?k1a ?Z' ?Z9 ?Z8 ?k5a;ext k1a ev Z' ev Z9 take
      case Z8=>(rw[ay,ah];exact Lr ξ)
      refine aV ?_;refine' dY (b:=decide (t.1+t.2.2<H.2.1 /\ t.2.1+t.2.2<H.2.2.2)) ?Z4 (λ c2=>?Z3) (λ c2=>?Z2)
      case Z4=>exact Tt.cast (by ext tt) (by rw[cQ];simp only[bB,decide_eq_true_eq];omega)
      case Z3=>
       have c2:=of_decide_eq_true c2;refine' fc (d:=xm (t.1+t.2.2,H.2.1,t.2.1+t.2.2,H.2.2.2)) ok ?up1 (fa (bg (Ev.op (a:=.int t.1) (b:=.int t.2.2) ?Y2 ?Y1 ?Y0) (bg ?X9 (bg (Ev.op (a:=.int t.2.1) (b:=.int t.2.2) ?X8 ?X7 ?X6) (bg ?X5 bW))))) ?X1 ?X0 ?up12;ext up1 ev Y2 ev Y1 ev
       case Y0=>(intro d' e';rw[e',show((t.1+t.2.2:Nat):Int)=(t.1:Int)+(t.2.2:Int) by push_cast;rfl];exact gn)
       ext X9 ev X8 ev X7 ev
       case X6=>(intro d' e';rw[e',show((t.2.1+t.2.2:Nat):Int)=(t.2.1:Int)+(t.2.2:Int) by push_cast;rfl];exact gn)
       ext X5 ev X1 take
       case X0=>(rw[ay];(try simp only[aF,aE,bp]);exact OZ ε)
       refine aV (aV (aY ⟨(V++qq H t++qr H t,bl++[t]),ζ,hs hk,?_,?_⟩))
       .ext sub
       .dsimp only;unfold qq qr;rw[if_pos c1,if_pos c2];simp only[av,aq,aX,ax];ext takes
      case Z2=>
       have c2:=of_decide_eq_false c2;refine aV (aV (aY ⟨(V++qq H t++qr H t,bl++[t]),ζ,hs hk,?_,?_⟩))
       .ext sub
       .dsimp only;unfold qq qr;rw[if_pos c1,if_neg c2];simp only[av,aq,aX,ax];ext takes
     case j3=>
      have c1:=of_decide_eq_false c1;refine aV ?_;refine' dY (b:=decide (t.1+t.2.2<H.2.1 /\ t.2.1+t.2.2<H.2.2.2)) ?Z7 (λ c2=>?Z6) (λ c2=>?Z5)
      case Z7=>exact Tt.cast (by ext tt) (by rw[cQ];simp only[bB,decide_eq_true_eq];omega)
      case Z6=>
       have c2:=of_decide_eq_true c2;refine' fc (d:=xm (t.1+t.2.2,H.2.1,t.2.1+t.2.2,H.2.2.2)) ok ?Z1 (fa (bg (Ev.op (a:=.int t.1) (b:=.int t.2.2) ?Z0 ?Y9 ?Y8) (bg ?Y7 (bg (Ev.op (a:=.int t.2.1) (b:=.int t.2.2) ?Y6 ?Y5 ?Y4) (bg ?Y3 bW))))) ?X4 ?X3 ?un12;ext Z1 ev Z0 ev Y9 ev
       case Y8=>(intro d' e';rw[e',show((t.1+t.2.2:Nat):Int)=(t.1:Int)+(t.2.2:Int) by push_cast;rfl];exact gn)
       ext Y7 ev Y6 ev Y5 ev
       case Y4=>(intro d' e';rw[e',show((t.2.1+t.2.2:Nat):Int)=(t.2.1:Int)+(t.2.2:Int) by push_cast;rfl];exact gn)
       ext Y3 ev X4 take
       case X3=>(rw[ay];(try simp only[aF,aE,bp]);exact Lr ε)
       refine aV (aV (aY ⟨(V++qq H t++qr H t,bl++[t]),ζ,hs hk,?_,?_⟩))
       .ext sub
       .dsimp only;unfold qq qr;rw[if_neg c1,if_pos c2];simp only[av,aq,aX,ax];ext takes
      case Z5=>
       have c2:=of_decide_eq_false c2;refine aV (aV (aY ⟨(V++qq H t++qr H t,bl++[t]),ζ,hs hk,?_,?_⟩))
       .ext sub
       .dsimp only;unfold qq qr;rw[if_neg c1,if_neg c2];simp only[av,aq,aX,ax];ext takes
    case i3=>
     have hc:=of_decide_eq_false hc;have hk:t.2.2=0:=by omega
     refine aV (aY ⟨(V,bl),?_,hz hk,?_,?_⟩)
     .dsimp only;exact(lz 463626302251474161939) ψ
     .ext sub
     .dsimp only;ext takes
end
section
open PySem.Builtin PySem.Builtin.ObjectAttr
theorem Tv.cast (h:Tv c G W d x) (e:x=y):Tv c G W d y:=e▸h
theorem NG (w:aB) (x da:aM) (a b:List Str) (q s1 s2:aM) (nd:b.Nodup) (ha:a.length <= 100) (hb:b.length <= 100) (P:List AA->List sV->Prop) (RR:List sV) (hQ:Vk a b P RR):
  Fn pw w (Tw w) 9 (.ref 233) [.inst 265 x da] (Ed w da a b .none .none q s1 s2)
   (λ d Wo=>∃l W2,d=.val (.ref l) /\ Wo=(l,.list ((lE 0 0 (RR++[(a.length,b.length,0)])).map dC))::W2):=by
 injections w x da a b q s1 s2 nd ha hb P RR hQ;refine dF ["self"] [("self",.inst 265 x da)] (Pc w) (ff w) ?_ rfl (by rfl') (by rfl') ?_ ?_
 .exact ku λ v=>rfl
 .intro p hp;simp only[ap,aK,or_false] at hp;rcases hp with rfl<;>rfl
 .intros A L B ok
  conv=>arg 4;whnf
  unfold Ed H7;ext st;refine' br ?t1 ?k1;ext t1 tt;ext st;refine' kY (Ei (i:=0)) (.cons (kb ?o1).w (.one (kb ?o2).w rfl) rfl) ?o3;ext o1 put o2 put;refine' mC (nA bW) ?o4;intros d W' h_;have⟨l,rfl,rfl⟩:=h_;refine' ⟨_,_,.cons (iE (fq w) ok (jy w) ?c1 ?c2 ?c3 ?c4) (.one (kb ?c5).w rfl) rfl,?c6⟩;ext c1 ev c2 take c3 put
  case c4=>symm
  ext c5 put;have M:=KJ w x da a b (.val (.ref l)) q s1 s2 nd ha hb P RR hQ;have β:=hQ.len;generalize γ:RR++[(a.length,b.length,0)]=bs at M⊢;have u:bs.length <= 100:=by rw[<-γ,aF];simp only[aE,bp];exact OY β
  unfold Ed H7 at M;refine' lA (ds:=bs.map vG) (W₁:=[(da,cy w.params [("isjunk",.none),("a",dL a),("b",dL b),("autojunk",.bool true),("matching_blocks",.lst (bs.map vG)),("opcodes",.val (.ref l)),("fullbcount",.none),("b2j",.val (.ref q)),("bjunk",.val (.ref s1)),("bpopular",.val (.ref s2))]),(q,cy w.params (mH b)),(s1,.pred kD),(s2,.pred kD),(l,.list [])])
   (JM ok (rq.mono (kf (fq w) ok (jy w) (f:=226) (ds:=[]) ?e1 ?e2 ?e3 ?e4 ?e5 (Pb w).kp bW (Wr:=[(l,.list [])]) ?e7 M) ?e8))
   (λ n=>[("self",.inst 265 x da),("i",.int (Eb bs n).1),("j",.int (Eb bs n).2.1),("answer",.val (.ref l))])
   (λ n=>[(l,.list ((Eb bs n).2.2.map dC)),(da,cy w.params [("isjunk",.none),("a",dL a),("b",dL b),("autojunk",.bool true),("matching_blocks",.lst (bs.map vG)),("opcodes",.val (.ref l)),("fullbcount",.none),("b2j",.val (.ref q)),("bjunk",.val (.ref s1)),("bpopular",.val (.ref s2))]),(q,cy w.params (mH b)),(s1,.pred kD),(s2,.pred kD)]) ?g1 ?g2 ?g3 ?g4
  ext e1 ev e2 take
  case e3=>symm
  case e4=>symm
  case e5=>symm
  ext e7 takes
  case e8=>
   intros d W' h_;have⟨Wo,⟨rfl,rfl⟩,rfl⟩:=h_;exact⟨rfl,rfl⟩
  case g1=>
   show Sub [_,("i",.int 0),("j",.int 0),_] _;ext sub
  case g2=>
   show cv _ [(l,.list []),_,_,_,_] [];ext takes
  case g3=>
   intros n d hd P2;rw[a9,cN] at hd;have⟨t,ht,rfl⟩:=hd;have hl:=F9 bs n;have hn:n<bs.length:=(au.mp ht).1;rw[Dt ht];generalize Eb bs n=st at hl⊢;have v1:((t.1+t.2.2:Nat):Int)=(t.1:Int)+(t.2.2:Int):=by push_cast;rfl
   have v2:((t.2.1+t.2.2:Nat):Int)=(t.2.1:Int)+(t.2.2:Int):=by push_cast;rfl
   have w1:(gB st t).1=t.1+t.2.2:=rfl;have w2:(gB st t).2.1=t.2.1+t.2.2:=rfl;rw[w1,w2];refine' ⟨_,?r1,?r2⟩
   case r1=>exact EQ (fq w) (yW w) ok (by ext asl)
   ext st;refine' dY (b:=decide (st.1<t.1 /\ st.2.1<t.2.1)) ?h1 (λ c1=>?h2) (λ c1=>?h3)
   case h1=>exact Tt.cast (by ext tt) (by rw[cQ];simp only[bB,decide_eq_true_eq];omega)
   case h2=>
    have c1:=of_decide_eq_true c1;ext st;refine aV ?_;refine' fG ?z1t1 ?z1t2
    case z1t1=>exact lw (by ext ev) (Tv.cast (Bp (by rfl')) (by rfl'))
    refine' fc (d:=dC ("replace",st.1,t.1,st.2.1,t.2.1)) ok ?z1a1 (fa ?z1a2) ?z1a3 ?z1a4 ?z1a5;ext z1a1 ev z1a2 evl z1a3 take
    case z1a4=>(rw[ay,ah];exact L1 u hn hl)
    refine aV ?_;refine' nh ok (ds:=[.int ((t.1+t.2.2:Nat):Int),.int ((t.2.1+t.2.2:Nat):Int)]) (xs:=["i","j"]) (fa (bg (Ev.op (a:=.int t.1) (b:=.int t.2.2) ?z1b1 ?z1b2 ?z1b3) (bg (Ev.op (a:=.int t.2.1) (b:=.int t.2.2) ?z1b4 ?z1b5 ?z1b6) bW))) (.cons ?z1b7 (.cons ?z1b8 .nil)) ?z1b9;ext z1b1 ev z1b2 ev z1b4 ev z1b5 ev
    case z1b3=>(intro V H;rw[H,v1];exact gn)
    case z1b6=>(intro V H;rw[H,v2];exact gn)
    ext z1b7 put z1b8 put;refine' dY (b:=decide (((t.2.2:Nat):Int)≠0)) ?z1c1 (λ hz=>?z1c2) (λ hz=>?z1c3);ext z1c1 tt
    case z1c2=>
     have hz:=of_decide_eq_true hz;refine' fc (d:=dC ("equal",t.1,t.1+t.2.2,t.2.1,t.2.1+t.2.2)) ok ?z1d1 (fa ?z1d2) ?z1d3 ?z1d4 ?z1d5;ext z1d1 ev z1d2 evl z1d3 take
     case z1d4=>(rw[ay];(try simp only[aF,aE,bp,ah]);(try rw[ah]);exact Qi u hn hl)
     have e3:(gB st t).2.2=st.2.2++([("replace",st.1,t.1,st.2.1,t.2.1)]:List gL)++([("equal",t.1,t.1+t.2.2,t.2.1,t.2.1+t.2.2)]:List gL):=by
      unfold gB dS cT;dsimp only;rw[if_pos (show t.1+t.2.2>t.1 by omega),if_pos (show t.1>st.1 /\ t.2.1>st.2.1 from⟨c1.1,c1.2⟩)]
      (try simp only[ax])
     refine aV (aY ⟨?_,?_⟩)
     .ext sub
     .rw[e3]
      (try simp only[av,aq,aX,ax])
      ext takes
    case z1c3=>
     have hz:=of_decide_eq_false hz;have e3:(gB st t).2.2=st.2.2++([("replace",st.1,t.1,st.2.1,t.2.1)]:List gL):=by
      unfold gB dS cT;dsimp only;rw[if_neg (show¬t.1+t.2.2>t.1 by omega),if_pos (show t.1>st.1 /\ t.2.1>st.2.1 from⟨c1.1,c1.2⟩)]
      (try simp only[ax])
     refine aV (aY ⟨?_,?_⟩)
     .ext sub
     .rw[e3]
      (try simp only[av,aq,aX,ax])
      ext takes
   case h3=>
    have c1:=of_decide_eq_false c1;refine' dY (b:=decide (st.1<t.1)) ?i1 (λ c2=>?i2) (λ c2=>?i3)
    case i1=>exact Tt.cast (by ext tt) (by rw[cQ];simp only[decide_eq_true_eq];omega)
    case i2=>
     have c2:=of_decide_eq_true c2;ext st;refine aV ?_;refine aV ?_;refine' fG ?z2t1 ?z2t2
     case z2t1=>exact lw (by ext ev) (Tv.cast (Bp (by rfl')) (by rfl'))
     refine' fc (d:=dC ("delete",st.1,t.1,st.2.1,t.2.1)) ok ?z2a1 (fa ?z2a2) ?z2a3 ?z2a4 ?z2a5;ext z2a1 ev z2a2 evl z2a3 take
     case z2a4=>(rw[ay,ah];exact L1 u hn hl)
     refine aV ?_;refine' nh ok (ds:=[.int ((t.1+t.2.2:Nat):Int),.int ((t.2.1+t.2.2:Nat):Int)]) (xs:=["i","j"]) (fa (bg (Ev.op (a:=.int t.1) (b:=.int t.2.2) ?z2b1 ?z2b2 ?z2b3) (bg (Ev.op (a:=.int t.2.1) (b:=.int t.2.2) ?z2b4 ?z2b5 ?z2b6) bW))) (.cons ?z2b7 (.cons ?z2b8 .nil)) ?z2b9;ext z2b1 ev z2b2 ev z2b4 ev z2b5 ev
     case z2b3=>(intro V H;rw[H,v1];exact gn)
     case z2b6=>(intro V H;rw[H,v2];exact gn)
     ext z2b7 put z2b8 put;refine' dY (b:=decide (((t.2.2:Nat):Int)≠0)) ?z2c1 (λ hz=>?z2c2) (λ hz=>?z2c3);ext z2c1 tt
     case z2c2=>
      have hz:=of_decide_eq_true hz;refine' fc (d:=dC ("equal",t.1,t.1+t.2.2,t.2.1,t.2.1+t.2.2)) ok ?z2d1 (fa ?z2d2) ?z2d3 ?z2d4 ?z2d5;ext z2d1 ev z2d2 evl z2d3 take
      case z2d4=>(rw[ay];(try simp only[aF,aE,bp,ah]);(try rw[ah]);exact Qi u hn hl)
      have e3:(gB st t).2.2=st.2.2++([("delete",st.1,t.1,st.2.1,t.2.1)]:List gL)++([("equal",t.1,t.1+t.2.2,t.2.1,t.2.1+t.2.2)]:List gL):=by
       unfold gB dS cT;dsimp only;rw[if_pos (show t.1+t.2.2>t.1 by omega),if_neg (show¬(t.1>st.1 /\ t.2.1>st.2.1) by exact λ q=>(rM (of_decide_eq_false ‹_›)).elim (λ r=>L2 c2 r) λ r=>L2 q.2 r),if_pos (show t.1>st.1 from c2)]
       (try simp only[ax])
      refine aV (aY ⟨?_,?_⟩)
      .ext sub
      .rw[e3]
       (try simp only[av,aq,aX,ax])
       ext takes
     case z2c3=>
      have hz:=of_decide_eq_false hz;have e3:(gB st t).2.2=st.2.2++([("delete",st.1,t.1,st.2.1,t.2.1)]:List gL):=by
       unfold gB dS cT;dsimp only;rw[if_neg (show¬t.1+t.2.2>t.1 by omega),if_neg (show¬(t.1>st.1 /\ t.2.1>st.2.1) by exact λ q=>(rM (of_decide_eq_false ‹_›)).elim (λ r=>L2 c2 r) λ r=>L2 q.2 r),if_pos (show t.1>st.1 from c2)]
       (try simp only[ax])
      refine aV (aY ⟨?_,?_⟩)
      .ext sub
      .rw[e3]
       (try simp only[av,aq,aX,ax])
       ext takes
    case i3=>
     have c2:=of_decide_eq_false c2;refine' dY (b:=decide (st.2.1<t.2.1)) ?j1 (λ c3=>?j2) (λ c3=>?j3)
     case j1=>exact Tt.cast (by ext tt) (by rw[cQ];simp only[decide_eq_true_eq];omega)
     case j2=>
      have c3:=of_decide_eq_true c3;ext st;refine aV ?_;refine aV ?_;refine aV ?_;refine' fG ?Y7 ?z3t2
      case Y7=>exact lw (by ext ev) (Tv.cast (Bp (by rfl')) (by rfl'))
      refine' fc (d:=dC ("insert",st.1,t.1,st.2.1,t.2.1)) ok ?z3a1 (fa ?z3a2) ?z3a3 ?z3a4 ?z3a5;ext z3a1 ev z3a2 evl z3a3 take
      case z3a4=>(rw[ay,ah];exact L1 u hn hl)
      refine aV ?_;refine' nh ok (ds:=[.int ((t.1+t.2.2:Nat):Int),.int ((t.2.1+t.2.2:Nat):Int)]) (xs:=["i","j"]) (fa (bg (Ev.op (a:=.int t.1) (b:=.int t.2.2) ?z3b1 ?z3b2 ?Z') (bg (Ev.op (a:=.int t.2.1) (b:=.int t.2.2) ?Z9 ?Z8 ?Z7) bW))) (.cons ?Z6 (.cons ?Z5 .nil)) ?z3b9;ext z3b1 ev z3b2 ev Z9 ev Z8 ev
      case Z'=>(intro V H;rw[H,v1];exact gn)
      case Z7=>(intro V H;rw[H,v2];exact gn)
      ext Z6 put Z5 put;refine' dY (b:=decide (((t.2.2:Nat):Int)≠0)) ?Z4 (λ hz=>?Z3) (λ hz=>?Z2);ext Z4 tt
      case Z3=>
       have hz:=of_decide_eq_true hz;refine' fc (d:=dC ("equal",t.1,t.1+t.2.2,t.2.1,t.2.1+t.2.2)) ok ?Z1 (fa ?Z0) ?Y9 ?Y8 ?z3d5;ext Z1 ev Z0 evl Y9 take
       case Y8=>(rw[ay];(try simp only[aF,aE,bp,ah]);(try rw[ah]);exact Qi u hn hl)
       have e3:(gB st t).2.2=st.2.2++([("insert",st.1,t.1,st.2.1,t.2.1)]:List gL)++([("equal",t.1,t.1+t.2.2,t.2.1,t.2.1+t.2.2)]:List gL):=by
        unfold gB dS cT;dsimp only;rw[if_pos (show t.1+t.2.2>t.1 by omega),if_neg (show¬(t.1>st.1 /\ t.2.1>st.2.1) from λ q=>L3 c2 q.1),if_neg (show¬t.1>st.1 from c2),if_pos (show t.2.1>st.2.1 from c3)]
        (try simp only[ax])
       refine aV (aY ⟨?_,?_⟩)
       .ext sub
       .rw[e3]
        (try simp only[av,aq,aX,ax])
        ext takes
      case Z2=>
       have hz:=of_decide_eq_false hz;have e3:(gB st t).2.2=st.2.2++([("insert",st.1,t.1,st.2.1,t.2.1)]:List gL):=by
        unfold gB dS cT;dsimp only;rw[if_neg (show¬t.1+t.2.2>t.1 by omega),if_neg (show¬(t.1>st.1 /\ t.2.1>st.2.1) from λ q=>L3 c2 q.1),if_neg (show¬t.1>st.1 from c2),if_pos (show t.2.1>st.2.1 from c3)]
        (try simp only[ax])
       refine aV (aY ⟨?_,?_⟩)
       .ext sub
       .rw[e3]
        (try simp only[av,aq,aX,ax])
        ext takes
     case j3=>
      have c3:=of_decide_eq_false c3;refine aV ?_;refine aV ?_;refine aV ?_;refine' br ?X0 ?z4t2
      case X0=>exact lw (by ext ev) (Tv.cast (Bp (by rfl')) (by rfl'))
      refine aV ?_;refine' nh ok (ds:=[.int ((t.1+t.2.2:Nat):Int),.int ((t.2.1+t.2.2:Nat):Int)]) (xs:=["i","j"]) (fa (bg (Ev.op (a:=.int t.1) (b:=.int t.2.2) ?Y6 ?Y5 ?Y4) (bg (Ev.op (a:=.int t.2.1) (b:=.int t.2.2) ?Y3 ?Y2 ?Y1) bW))) (.cons ?Y0 (.cons ?X9 .nil)) ?z4b9;ext Y6 ev Y5 ev Y3 ev Y2 ev
      case Y4=>(intro V H;rw[H,v1];exact gn)
      case Y1=>(intro V H;rw[H,v2];exact gn)
      ext Y0 put X9 put;refine' dY (b:=decide (((t.2.2:Nat):Int)≠0)) ?X8 (λ hz=>?X7) (λ hz=>?X6);ext X8 tt
      case X7=>
       have hz:=of_decide_eq_true hz;refine' fc (d:=dC ("equal",t.1,t.1+t.2.2,t.2.1,t.2.1+t.2.2)) ok ?X5 (fa ?X4) ?X3 ?X1 ?z4d5;ext X5 ev X4 evl X3 take
       case X1=>(rw[ay];(try simp only[aF,aE,bp,ah]);(try rw[ah]);exact L1 u hn hl)
       have e3:(gB st t).2.2=st.2.2++([("equal",t.1,t.1+t.2.2,t.2.1,t.2.1+t.2.2)]:List gL):=by
        unfold gB dS cT;dsimp only;rw[if_pos (show t.1+t.2.2>t.1 by omega),if_neg (show¬(t.1>st.1 /\ t.2.1>st.2.1) from λ q=>L3 c2 q.1),if_neg (show¬t.1>st.1 from c2),if_neg (show¬t.2.1>st.2.1 from c3)]
        (try simp only[ax])
       refine aV (aY ⟨?_,?_⟩)
       .ext sub
       .rw[e3]
        (try simp only[av,aq,aX,ax])
        ext takes
      case X6=>
       have hz:=of_decide_eq_false hz;have e3:(gB st t).2.2=st.2.2:=by
        unfold gB dS cT;dsimp only;rw[if_neg (show¬t.1+t.2.2>t.1 by omega),if_neg (show¬(t.1>st.1 /\ t.2.1>st.2.1) from λ q=>L3 c2 q.1),if_neg (show¬t.1>st.1 from c2),if_neg (show¬t.2.1>st.2.1 from c3)]
        (try simp only[ax])
       refine aV (aY ⟨?_,?_⟩)
       .ext sub
       .rw[e3]
        (try simp only[av,aq,aX,ax])
        ext takes
  case g4=>
   rw[ah,M1];ext ret;exact⟨_,_,.cons .head .nil,l,[],rfl,rfl⟩
end
section
open PySem.Builtin PySem.Builtin.ObjectAttr
theorem O5.le {mk:List aj->pP} {P:D->Om->Prop} (h:O5 pr w T n fr f mk ds Wi P) (hn:n <= m):O5 pr w T m fr f mk ds Wi P:=λ A h1 h2 h3=>h A h1 (PI hn h2) (PJ hn h3)
theorem RE (w:aB) (t:List Int) (hn:t.length <= 63):
  O5 pw w (Tw w) 15 [] (.ref 1138) (λ vs=>⟨vs,[]⟩) [.lst (t.map .int)] [] (λ d Wo=>d=.bool true):=by
 injections w t hn;refine Ay [("script",.lst (t.map .int))] (Q4 w) (ff w) ?_ (by rfl') ?_
 .refine Bd.g (ps:=["script"]) (ds':=[.lst (t.map .int)]) (FH ?_) rfl (by rfl') ?_
  .exact ku λ v=>rfl
  .intro p hp;simp only[ap,aK,or_false] at hp;rcases hp with rfl<;>rfl
 .intros A L B ok Y9
  conv=>arg 4;whnf
  have H:(fH t).length <= 8:=by unfold fH;rw[aF,bL];simp;exact(lz 472896141513986065) (bO _ _)
  have u:=KD (fH t) H;have κ:(drawn (fH t)).words≠[]:=Fj _;have υ:Fn pw w (Tw w) 14 (.ref 1100) [.lst (t.map .int)] [] (Is (.tup [.lst (nE (drawn (fH t)).books),.lst (sd (drawn (fH t)).deeds),.lst ((drawn (fH t)).words.map .str)]) []):=
   (Kc w t ((lz 18642745501527893348369) hn) λ i x hx=>by
    have hi:=(au.mp hx).1;have hl:((fH t).take i).length <= 8:=by rw[bL];exact(lz 85297821590139140444211) H hi (bO _ _)
    exact Ub (KD _ hl) hl x).le (by decide)
  generalize drawn (fH t)=st at u κ υ;generalize(fH t).length=n8 at u H;have l1:bA "/"=1:=by rfl'
  have l2:bA " "=1:=by rfl'
  have Y7:=u.bl;have γ:=u.dl;have μ:=u.wl;ext st
  clear υ
  refine' lB (f:=fL) ok (eZ ok (ds:=nE st.books) ?m1) ?m2 ?m3 ?p1 ?k1 (cl:=[]) ?m6 ?m7 ?m8 ?m9;ext p1 put m1 ev
  case m2=>rw[ah,ay];exact(lz 638431631024755390280699955) H Y7 γ
  case m3=>
   intro d hd C B' X q ι;obtain⟨b,hb,rfl⟩:=az.mp hd;obtain⟨i,hi⟩:=j8 hb;obtain⟨hr,X8⟩:=Gx u H hi;refine' ⟨_,true,dL (b.map ar),?X0,kQ,?q1,λ _=>?_⟩;ext X0 as
   case q1=>unfold fL;rw[AW];rfl
   rw[show dL (b.map ar)=.lst ((b.map dT).filterMap vv) from by rw[Rx]];refine' ic (f:=vv) ι (eZ ι (ds:=b.map dT) ?n1) ?n2 ?n3 (cl:=[]) ?n6 ?n7 ?n8 ?n9;ext n1 ev
   case n2=>rw[ah,ay];exact(lz 3536098530693137) X8
   case n3=>
    intro d hd C2 B2 X2 q2 ok2;obtain⟨r,X9,rfl⟩:=az.mp hd;have ν:=NA hr X9;have hj:=ot (sep:="/") ν;have τ:=ig (sep:="/") ν;rw[l1] at hj τ;refine' ⟨_,true,.str (ar r),?as2,kQ,?q2,λ _=>?_⟩;ext as2 as
    case q2=>unfold vv;rw[eJ];rfl
    unfold ar
    with_reducible refine' kB ?c1 ?c2 (iV ?c3)
    ext c1 ev
    case c2=>
     with_reducible refine' xB (by assumption) ?mo ?X1 gG jC jD ?ml ?mt ?mf
     ext mo ev
     case X1=>exact Bk
     ext ml evl
     case mf=>exact Am (by rw[l1];exact(lz 991165722336205802500572844050) hj)
     case mt=>exact .nil
    case c3=>rw[l1,ay];exact Qd τ
   case n6=>rfl
   case n7=>rfl'
   case n8=>rfl
   case n9=>rfl'
  case m6=>rfl
  case m7=>rfl'
  case m8=>rfl
  case m9=>rfl'
  rw[Rw];rw[show(st.books.map λ b=>b.map ar)=eh st from rfl];have V:=NB u H;have Y3:=ot (sep:=" ") V;have η:=ig (sep:=" ") V;rw[l2] at Y3 η;have X5:∀(n:Nat) (fr:Ea),13 <= n->fr.Ok->O5 pw w (Tw w) n fr (.ref 1082) (λ vs=>⟨vs,[]⟩) [.str (bw " " (st.words.map iG))] [] (λ d Wo=>∃l,d=.val (.ref l) /\ Wo=[(l,.list (st.words.map .str))]):=λ n fr hn Y4=>
   (Ky w (bw " " (st.words.map iG)) (st.words.map λ x=>cd (iG x)) st.words ((lz 7799073567422595154841617) η) (H2 st.words) (by rw[ah]) (by rw[ah];exact kI.mpr κ) (λ i c x hc hx=>by
    rw[a9,hx] at hc;have hc:cd (iG x)=c:=by simpa using hc
    rw[<-hc];have hw:=u.words x (bD hx);exact Fh hw.c hw.z) ((lz 961176464787864343430631458) H μ) fr Y4).le hn
  have hq:∀x∈st.words,Fn pw w (Tw w) 14 (.ref 1090) [.str x] [] (Is (.str (iG x)) []):=λ x hx=>by
   have h1:=(u.words x hx).l;have h2:=wZ x;exact(Ke w x (Qe h1) ((lz 404517518948605884196351709218) h1 h2)).le (by decide)
  have hcm:Fn pw w (Tw w) 14 (.ref 1107) [.lst (st.words.map .str)] [] (Is (.lst (st.deeds.map dL)) []):=by
   have:=(Dx w st.words (Ny u H)).le (m:=14) (by decide)
   rwa [u.cmds] at this
  have δ:(gI (st.words.map .str)).canLay0=true:=SQ λ x hx=>AJ (u.words x hx).c;have θ:(gI (st.deeds.map λ x=>gI (x.map .str))).canLay0=true:=AV (DW u H);have ε:(gI ((eh st).map λ x=>gI (x.map .str))).canLay0=true:=AV (KG u H);have X3:∀G W,eM (Cw w A (cx (fb 1138) L 1138) B) G W (.lst (st.words.map .str)) (.lst (st.words.map .str)) (.bool false) (bq .NotEq):=λ G W=>by
   have:=rX (c:=Cw w A (cx (fb 1138) L 1138) B) (G:=G) (W:=W) ok encStr.list (by decide) (a:=st.words) (b:=st.words) δ δ
   rwa [show decide (st.words≠st.words)=false from by simp] at this
  have ω:∀G W,eM (Cw w A (cx (fb 1138) L 1138) B) G W (.lst (st.deeds.map dL)) (.lst (st.deeds.map dL)) (.bool false) (bq .NotEq):=λ G W=>by
   have:=rX (c:=Cw w A (cx (fb 1138) L 1138) B) (G:=G) (W:=W) ok encStr.list.list (by decide) (a:=st.deeds) (b:=st.deeds) θ θ
   rwa [show decide (st.deeds≠st.deeds)=false from by simp] at this
  have ψ:∀G W,eM (Cw w A (cx (fb 1138) L 1138) B) G W (.lst ((eh st).map dL)) (.lst ((eh st).map dL)) (.bool false) (bq .NotEq):=λ G W=>by
   have:=rX (c:=Cw w A (cx (fb 1138) L 1138) B) (G:=G) (W:=W) ok encStr.list.list (by decide) (a:=eh st) (b:=eh st) ε ε
   rwa [show decide (eh st≠eh st)=false from by simp] at this
  refine' eU (Jm ok Y9 ?b1 rfl (J0 w).kp ?b3 (bg ?b4 bW) .nil λ dd Y0=>X5 14 _ (by decide) ?b5) ?b6
  case b1=>rw[show(Cw w A (cx (fb 1138) L 1138) B).env.scope.kind=.function from by symm];decide
  ext b3 ev
  case b4=>
   with_reducible refine' xB (by assumption) ?mo ?X1 gG jC jD ?ml ?mt ?mf
   ext mo ev
   case X1=>exact Bk
   case mt=>exact .nil
   case mf=>exact IC (wa V (by rw[l2];decide))
   case ml=>
    refine bg (d:=.lst ((st.words.map iG).map D.str)) ?mz bW;rw[<-Ry];refine' ic (f:=fQ) ok (eZ ok (ds:=st.words.map D.str) ?c3) ?c4 ?c5 (cl:=[]) ?c6 ?c7 ?c8 ?c9;ext c3 ev
    case c4=>rw[ah,ay];exact(lz 14666388928033801179170) H μ
    case c5=>
     intro d hd C B' X q ι;obtain⟨x,hx,rfl⟩:=az.mp hd;have hqx:=hq x hx;refine' ⟨_,true,.str (iG x),?X0,kQ,rfl,λ _=>?_⟩;ext X0 as;ext ev
    case c6=>rfl
    case c7=>rfl'
    case c8=>rfl
    case c9=>rfl'
  case b5=>
   intro x hx;rw[aw.mp hx];exact⟨by rw[show(Cw w A (cx (fb 1138) L 1138) B).env.scope.kind=.function from by symm];decide,rfl,Y0⟩
  case b6=>
   intros d W' z_;have⟨Wo,q0,rfl⟩:=z_;have⟨l,rfl,rfl⟩:=q0;show∃G',un _ _ _ G' /\ Ex _ G' [(l,.list (st.words.map .str))] _ _;ext bind;refine' gd (x:="told") (a:=l) (l:=st.words.map .str) (vf.mem ?s1) .head ?s2 ?s3;ext s1 has s2 put;refine' br (wH (rL.skip (cp ?t1 ?t2 (X3 _ _)) (rL.last (cp ?t3 ?t4 (ω _ _))))) ?t5;ext t1 ev t2 ev t3 ev t4 ev;refine aV ?_;have hll:=H6 u;have X7:Fn pw w (Tw w) 14 (.ref 1119) [.lst ((lC.map ar).map .str),.lst (st.deeds.map dL)] [] (Is (.lst ((eh st).map dL)) []):=by
    have:=J7 w (lC.map ar) st.deeds ((lz 314211660262694522914) H γ) (DV u)
    rwa [H4 u] at this
   have Y2:((eh st).map dL)[(0:Int).toNat]?=some (dL (lC.map ar)):=by
    rw[a9,show(0:Int).toNat=0 from rfl,yV u.b0];rfl
   refine' jt (x:="shelf") (d:=.lst ((eh st).map dL)) (ka ok (J1 w).kp ?u1 (bg (bS (l:=(eh st).map dL) (k:=0) ?u2 ?u3 (by decide) (by decide) Y2) (bg ?u4 bW)) .nil X7) ?u5 ?u6;ext u1 ev u2 ev u3 ev u4 ev u5 put;refine' br (cp ?v1 ?v2 (ψ _ _)) ?v3;ext v1 ev v2 ev;refine aV ?_;have ο:(st.deeds.map dL).length=st.deeds.length:=ah ..;have ξ:Fn pw w (Tw w) 14 (.builtin "len") [.lst (st.deeds.map dL)] [] (Is (.int st.deeds.length) []):=by
    have:=qm (pr:=pw) (w:=w) (T:=Tw w) (n:=14) (l:=st.deeds.map dL) (by rw[ο];exact(lz 1227389297906225442) H γ)
    rwa [ο] at this
   refine' lA (EM (b:=st.deeds.length) ok ?w1 (bg (ka ok iu ?w2 (bg ?w3 bW) .nil ξ) bW) (by omega) ((lz 80438185226950284482082) H γ))
    (λ i=>[("deeds",.lst (st.deeds.map dL)),("listings",.lst ((eh st).map dL)),("shelf",.lst ((eh st).map dL))]) (λ i=>[]) ?w4 ?w5 ?w6 ?w7
   ext w1 ev w2 ev w3 ev w4 sub
   case w5=>exact .nil
   case w7=>
    ext ret;exact⟨[],_,.nil,[],rfl,rfl⟩
   case w6=>
    intros i d hd p;have⟨hi,rfl⟩:=yj hd;rw[Int.zero_add];have hi:i<st.deeds.length:=by omega
    obtain⟨a,b,k,ns,q1,q2,q3,q4⟩:=u.deed i _ (am hi);have ha:((eh st).map dL)[((i:Nat):Int).toNat]?=some (dL (a.map ar)):=by
     rw[a9,eI,yV q1];rfl
    have hb:((eh st).map dL)[((i:Nat)+1:Int).toNat]?=some (dL (b.map ar)):=by
     rw[a9,show((i:Nat)+1:Int).toNat=i+1 by omega,yV q2];rfl
    have hk:(st.deeds.map dL)[((i:Nat):Int).toNat]?=some (dL (k::ns.map ar)):=by
     rw[a9,eI,am hi,q3];rfl
    have M:=q4.pair;have σ:=q4.l1;have ρ:=q4.l2;have Y6:=JX M.same;have hQ:=Vo (nj M.s1) (nj M.s2) (Ng M.s1 M.s2) M.same (by rw[ah];exact(lz 56577577927577617) σ);have Y5:Fn pw w (Tw w) 14 (.ref 1126) [dL (a.map ar),dL (b.map ar)] [] (Is (.lst ((dm (a.map ar) (b.map ar)).map dC)) []):=(E0 w _ _ q4.chOk).le (by decide);have X4:Fn pw w (Tw w) 14 (.ref 1133) [dL (a.map ar),dL (b.map ar),.lst ((dm (a.map ar) (b.map ar)).map dC)] [] (Is (dL (k::ns.map ar)) []):=by
     have:=(Nb w _ _ _ q4.toldOk).le (m:=14) (by decide)
     rwa [q4.toldBack] at this
    have X6:Fn pw w (Tw w) 14 (.ref 265) [.none,dL (a.map ar),dL (b.map ar)] [] (V7 w (a.map ar) (b.map ar)):=(RD w _ _ (nj M.s2) (by rw[ah];exact Qj ρ)).le (by decide);have χ:∀G W,eM (Cw w A (cx (fb 1138) L 1138) B) G W (.lst ((dm (a.map ar) (b.map ar)).map dC)) (.lst ((dm (a.map ar) (b.map ar)).map dC)) (.bool false) (bq .NotEq):=λ G W=>by
     have:=rX (c:=Cw w A (cx (fb 1138) L 1138) B) (G:=G) (W:=W) ok Nz.list (by decide) (a:=dm (a.map ar) (b.map ar)) (b:=dm (a.map ar) (b.map ar)) (AU _ _) (AU _ _)
     rwa [show decide (dm (a.map ar) (b.map ar)≠dm (a.map ar) (b.map ar))=false from by simp] at this
    have ζ:(gI ((k::ns.map ar).map .str)).canLay0=true:=SQ λ y hy=>DW u H _ (cE hi) y (by rw[q3];exact hy);have φ:∀G W,eM (Cw w A (cx (fb 1138) L 1138) B) G W (dL (k::ns.map ar)) (dL (k::ns.map ar)) (.bool false) (bq .NotEq):=λ G W=>by
     have:=rX (c:=Cw w A (cx (fb 1138) L 1138) B) (G:=G) (W:=W) ok encStr.list (by decide) (a:=k::ns.map ar) (b:=k::ns.map ar) ζ ζ
     rwa [show decide (k::ns.map ar≠k::ns.map ar)=false from by simp] at this
    have Y1:=nj M.s2;have Z0:(a.map ar).length <= 100:=by rw[ah];exact Qj σ
    have Y8:(b.map ar).length <= 100:=by rw[ah];exact Qj ρ
    generalize a.map ar=A1 at*;generalize b.map ar=B1 at*;generalize k::ns.map ar=C1 at*;refine' ⟨_,?X0,?kk⟩;ext X0 as;refine' eU (MU (f:=233) (C:=265) (P1:=λ d W'=>∃l W2,d=.val (.ref l) /\ W'=(l,.list ((dm A1 B1).map dC))::(W2++(p (i+1)++[]))) (fq w) ok (jy w) (my ok (BM (fq w) (C:=265) ?c1) ?c2 (bg xz (bg (bS (l:=(eh st).map dL) (k:=(i:Nat)) ?c3 ?c4 ?c5 ?c6 ha) (bg (bS (l:=(eh st).map dL) (k:=(i:Nat)+1) ?c7 ?c8 ?c9 ?c10 hb) bW))) .nil X6) ?c11 ?Z' (Pc w).kp ?Z9) ?Z8
    case c1=>symm
    ext c2 ev c3 ev c4 ev
    case c5=>exact Bb
    case c6=>omega
    ext c7 ev c8 ev
    case c9=>exact Qk
    case c10=>omega
    case c11=>symm
    case Z'=>symm
    case Z9=>
     rintro d W' ⟨Wo,⟨x,da,rfl,q,s1,s2,rfl⟩,rfl⟩;have β:=(NG w x da A1 B1 q s1 s2 Y1 Z0 Y8 _ _ hQ).le (m:=14) (by decide);rw[Y6] at β;refine⟨x,da,_,_,Ed w da A1 B1 .none .none q s1 s2,p (i+1)++[],rfl,.head,by symm,?_,β.mono ?_⟩
     .exact .cons .head (.cons .head (.cons .head (.cons .head .nil)))
     .rintro d Wo ⟨l,W2,rfl,rfl⟩;exact⟨l,W2,rfl,by simp⟩
    case Z8=>
     rintro d W' ⟨l,W2,rfl,rfl⟩;ext bind;refine' gd (x:="codes") (a:=l) (l:=(dm A1 B1).map dC) (vf.mem ?d1) .head ?d2 ?d3;ext d1 has d2 put;refine xY ?_;refine' br (cp ?f1 (ka ok (J2 w).kp ?f2 (bg (bS (l:=(eh st).map dL) (k:=(i:Nat)) ?f3 ?f4 ?f5 ?f6 ha) (bg (bS (l:=(eh st).map dL) (k:=(i:Nat)+1) ?f7 ?f8 ?f9 ?Z7 hb) bW)) .nil Y5) (χ _ _)) ?f11;ext f1 ev f2 ev f3 ev f4 ev
     case f5=>exact Bb
     case f6=>omega
     ext f7 ev f8 ev
     case f9=>exact Qk
     case Z7=>omega
     refine aV ?_;refine' br (cp (ka ok (J3 w).kp ?g2 (bg (bS (l:=(eh st).map dL) (k:=(i:Nat)) ?g3 ?g4 ?g5 ?g6 ha) (bg (bS (l:=(eh st).map dL) (k:=(i:Nat)+1) ?g7 ?g8 ?g9 ?Z6 hb) (bg ?Z5 bW))) .nil X4) (bS (l:=st.deeds.map dL) (k:=(i:Nat)) ?Z4 ?Z3 ?Z2 ?Z1 hk) (φ _ _)) ?g16;ext g2 ev g3 ev g4 ev
     case g5=>exact Bb
     case g6=>omega
     ext g7 ev g8 ev
     case g9=>exact Qk
     case Z6=>omega
     ext Z5 ev Z4 ev Z3 ev
     case Z2=>exact Bb
     case Z1=>omega
     refine aV ?_;exact aY ⟨by ext sub,by ext takes⟩
end
section
open PySem.Builtin PySem.Builtin.ObjectAttr
theorem NI {h:dM} {a:aM} {m d:Str->Option aj} (h1:h.Ns a m) (h2:h.Ns a d) (x:Str):m x=d x:=by
 obtain⟨o,es,ep,q1,q2,_,t⟩:=h1;obtain⟨H,u,v,r1,r2,_,r3⟩:=h2;rw[q1] at r1;cases r1;rw[q2] at r2;cases r2;rw[<-t,<-r3]
theorem RF (w:aB):Gl w "law" (.ref 1138):=⟨by symm⟩
theorem KL {K:FM} {ns:List Int} {vs:List aj} (h:IntsAre vs ns):cB K (ns.map D.int) vs:=by
 induction h with
 |nil=>exact cB.nil
 |cons n t _ d=>exact cB.cons ⟨t,rfl⟩ d
set_option tactic.hygienic true in
theorem walk:Mine.Walk:=by
 intro w σ V mg mb G Y a o pm cd doc dV kV ha ho ρ ο η u args κ as β γ ζ ε θ
 wrow_args β γ ζ ε θ
 rename_i ns hs ι hL ν ξ A1 A2 l vs A3 H ra w1 r0 hI hr hc hT;have δ:FM.In (Tw w) V.heap:=Y;have e:a=1138:=by
  have h1:=NI G.T.g ((M3 w).g V.heap δ) "law";have h2:=(RF w).h;have h3:mg "law"=some (.ref a):=η;rw[h1,h2] at h3;cases h3;rfl
 subst e;have w1:Well w.params V.heap (.ref l) (.list (ofPys (ns.map PyData.int))):=w1;cases w1 with
 |@list _ M _ t μ=>
  refine RE w ns ((lz 4551698536397279249) hc) callerA rfl (by decide) (by decide) rfl V (λ b=>V.heap.get? b) [.ref l] _ _ (λ b o e=>δ b o e) (λ b o e=>e) ?_ gx.nil ?_
  .refine cB.cons ?_ cB.nil;obtain⟨o2,g2,_,n2,d2⟩:=H;rw[t] at g2;cases g2;have d2:M=vs:=congrArg Cz (Data.seq.inj d2).1;exact⟨l,M,0,rfl,t,d2▸KL hI⟩
  .intro v h' K' t' d Wo A r e;subst e;obtain rfl:v=.bool true:=r;refine⟨.inl ⟨.bool true,.bool true,[],rfl,raisesW_false (by wrow_none_raised),.bool true,?_,?_⟩,?_,rfl,?_⟩
   .wrow_post
   .intro _;exact⟨nJ,λ a h=>nomatch h⟩
   .exact .of_keep λ b o e=>A.old b o e (by simp)
   .exact .of_eq u
end
end La
theorem PySem.Challenge.cw_il0105_01_holds : PySem.Challenge.rw_il0105_01.Holds := by
  exact Mine.head La.walk
