import PyProof.Rows.All
import Wide.All
import OpenK.AllK
import Wide.FinOn
import PySem.Challenge.RW_tl0028_01
set_option Elab.async false
section
open PySem PySem.W PySem.Calls PyProof.Rows
namespace Mine
theorem left_of {p q : Program} {loose : List Str} {Xt : Shared → Bool} {α : Type} {Yf : Shared → α} {Ya : World → α} {N : Nat} {m₀ : Nat} {ann : Option Value}
    (open_ : ∀ w : World, (fencedOpening treeTable p w N).map (fun s => (s.heap, s.gens, s.drawn, s.toks)) = some (boot_heap w.params, Array.mk [], boot_drawn, boot_toks))
    (size : ∀ w : World, ((boot_heap w.params).isNs mainGlobals, (boot_heap w.params).objs.size, (boot_heap w.params).nsMap mainGlobals "__annotations__") = (true, m₀, ann))
    (run : ∀ (w : World) (os : OsState), (topRun treeTable p w m₀ ann N ⟨boot_heap w.params, Array.mk [], boot_drawn, boot_toks, os⟩ (topStub p)).map (fun s =>
      (staticsOk (importedModules p.main.body) (boot_heap w.params) s.heap && namesBound p s.heap && gensDone s && laidKept (boot_heap w.params) s.heap,
        openSeen q loose (importedModules p.main.body) Xt true s, Yf s)) = some (true, openGood q loose, Ya w)) : LeftO p q loose Xt Yf Ya N := fun w => by
  obtain ⟨⟨h, gs, d, k, os⟩, e, e'⟩ := Option.map_eq_some_iff.mp (open_ w)
  obtain ⟨rfl, rfl, rfl, rfl⟩ : h = boot_heap w.params ∧ gs = Array.mk [] ∧ d = boot_drawn ∧ k = boot_toks := by simpa using e'
  obtain ⟨z1, z2, z3⟩ : _ ∧ _ ∧ _ := by simpa only [Prod.mk.injEq] using size w
  obtain ⟨s, r, l⟩ := Option.map_eq_some_iff.mp (run w os)
  obtain ⟨l1, l2, l3⟩ : _ ∧ _ ∧ _ := by simpa only [Prod.mk.injEq] using l
  have t : topFrom treeTable p w N ⟨boot_heap w.params, Array.mk [], boot_drawn, boot_toks, os⟩ = some s := by
    unfold topFrom
    dsimp only
    rw [z1, z2, z3, r]
    show (match staticsOk (importedModules p.main.body) (boot_heap w.params) s.heap && namesBound p s.heap && gensDone s && laidKept (boot_heap w.params) s.heap with | true => _ | false => _) = _
    rw [l1]
  unfold openEnds
  rw [e]
  show (topFrom treeTable p w N _).map _ = _
  rw [t]
  exact congrArg some (Prod.ext l2 l3)
def keepL : List Nat := [1, 2, 3, 4, 5, 6, 7, 9, 11, 12, 13, 14, 15, 16, 17, 18, 19, 20, 21, 22, 23, 24, 25, 26, 27, 28, 29, 30, 31, 32, 33, 34, 35, 36, 37, 38, 39, 40, 41, 42, 43, 44, 45, 46, 47, 48, 49, 50, 51, 52, 53, 54, 55, 56, 57, 58, 59, 60, 61, 63, 64, 65, 67, 68, 69, 70, 71, 72, 73, 74, 75, 76]
def qv : Program := view PySem.Challenge.pw_tl0028_01 keepL
def bodyAt (n : Nat) : Arguments × List Stmt × Scope := match PySem.Challenge.pw_tl0028_01.main.body[n]? with
  | some (.FunctionDef _ a b _ _ _ s _ _ _) => (a, b, s)
  | _ => (⟨[], [], none, [], [], none, []⟩, [], default)
set_option maxRecDepth 100000 in
set_option maxHeartbeats 8000000 in
noncomputable def hd.heap_39 : Params → Frag := fun P => (fun {pdiv2n1n : Arguments} {bdiv2n1n : List Stmt} {cdiv2n1n : Scope} {pdiv3n2n : Arguments} {bdiv3n2n : List Stmt} {cdiv3n2n : Scope} {pint2digits : Arguments} {bint2digits : List Stmt} {cint2digits : Scope} {pdigits2int : Arguments} {bdigits2int : List Stmt} {cdigits2int : Scope} {pdivmodpos : Arguments} {bdivmodpos : List Stmt} {cdivmodpos : Scope} {pintdivmod : Arguments} {bintdivmod : List Stmt} {cintdivmod : Scope} {phsvtorgb : Arguments} {bhsvtorgb : List Stmt} {chsvtorgb : Scope} {pISEOF : Arguments} {bISEOF : List Stmt} {cISEOF : Scope} {psubstitutioncost : Arguments} {bsubstitutioncost : List Stmt} {csubstitutioncost : Scope} {plawcells : Arguments} {blawcells : List Stmt} {clawcells : Scope} {plawpalette : Arguments} {blawpalette : List Stmt} {clawpalette : Scope} {plawownlights : Arguments} {blawownlights : List Stmt} {clawownlights : Scope} {plawwalks : Arguments} {blawwalks : List Stmt} {clawwalks : Scope} {plawdet : Arguments} {blawdet : List Stmt} {clawdet : Scope} {plawexchanged : Arguments} {blawexchanged : List Stmt} {clawexchanged : Scope} {plawcramer : Arguments} {blawcramer : List Stmt} {clawcramer : Scope} {plawword : Arguments} {blawword : List Stmt} {clawword : Scope} {plawholds : Arguments} {blawholds : List Stmt} {clawholds : Scope} {plaw : Arguments} {blaw : List Stmt} {claw : Scope} (_ : [bodyAt 2, bodyAt 3, bodyAt 4, bodyAt 5, bodyAt 6, bodyAt 7, bodyAt 9, bodyAt 61, bodyAt 65, bodyAt 67, bodyAt 68, bodyAt 69, bodyAt 70, bodyAt 71, bodyAt 72, bodyAt 73, bodyAt 74, bodyAt 75, bodyAt 76] = [(pdiv2n1n, bdiv2n1n, cdiv2n1n), (pdiv3n2n, bdiv3n2n, cdiv3n2n), (pint2digits, bint2digits, cint2digits), (pdigits2int, bdigits2int, cdigits2int), (pdivmodpos, bdivmodpos, cdivmodpos), (pintdivmod, bintdivmod, cintdivmod), (phsvtorgb, bhsvtorgb, chsvtorgb), (pISEOF, bISEOF, cISEOF), (psubstitutioncost, bsubstitutioncost, csubstitutioncost), (plawcells, blawcells, clawcells), (plawpalette, blawpalette, clawpalette), (plawownlights, blawownlights, clawownlights), (plawwalks, blawwalks, clawwalks), (plawdet, blawdet, clawdet), (plawexchanged, blawexchanged, clawexchanged), (plawcramer, blawcramer, clawcramer), (plawword, blawword, clawword), (plawholds, blawholds, clawholds), (plaw, blaw, claw)]) => ((
((nat_lit 2), ⟨.none, .none, (.dict #[] 0), #[]⟩) ::
((nat_lit 3), ⟨(.type "dict"), .none, (.dict #[⟨(PySem.PyData.keyHash P "__name__"), (.str "__name__" 165), (.str "law_tl0028_01" 503)⟩, ⟨(PySem.PyData.keyHash P "__doc__"), (.str "__doc__" 166), .none⟩, ⟨(PySem.PyData.keyHash P "__package__"), (.str "__package__" 167), .none⟩, ⟨(PySem.PyData.keyHash P "__loader__"), (.str "__loader__" 168), (.builtin "__main__.__loader__#opaque")⟩, ⟨(PySem.PyData.keyHash P "__spec__"), (.str "__spec__" 169), .none⟩, ⟨(PySem.PyData.keyHash P "__annotations__"), (.str "__annotations__" 170), (.ref 6)⟩, ⟨(PySem.PyData.keyHash P "__builtins__"), (.str "__builtins__" 171), (.ref 4)⟩, ⟨(PySem.PyData.keyHash P "__file__"), (.str "__file__" 173), (.str "/claim/cut.py" 172)⟩, ⟨(PySem.PyData.keyHash P "__cached__"), (.str "__cached__" 174), .none⟩, ⟨(PySem.PyData.keyHash P "_DIV_LIMIT"), (.str "_DIV_LIMIT" 190), (.int 4000 189)⟩, ⟨(PySem.PyData.keyHash P "_div2n1n"), (.str "_div2n1n" 207), (.ref 21)⟩, ⟨(PySem.PyData.keyHash P "_div3n2n"), (.str "_div3n2n" 221), (.ref 28)⟩, ⟨(PySem.PyData.keyHash P "_int2digits"), (.str "_int2digits" 232), (.ref 35)⟩, ⟨(PySem.PyData.keyHash P "_digits2int"), (.str "_digits2int" 243), (.ref 42)⟩, ⟨(PySem.PyData.keyHash P "_divmod_pos"), (.str "_divmod_pos" 258), (.ref 49)⟩, ⟨(PySem.PyData.keyHash P "int_divmod"), (.str "int_divmod" 268), (.ref 56)⟩, ⟨(PySem.PyData.keyHash P "hsv_to_rgb"), (.str "hsv_to_rgb" 284), (.ref 63)⟩, ⟨(PySem.PyData.keyHash P "ENDMARKER"), (.str "ENDMARKER" 288), (.int 0 287)⟩, ⟨(PySem.PyData.keyHash P "LPAR"), (.str "LPAR" 290), (.int 7 289)⟩, ⟨(PySem.PyData.keyHash P "RPAR"), (.str "RPAR" 292), (.int 8 291)⟩, ⟨(PySem.PyData.keyHash P "LSQB"), (.str "LSQB" 294), (.int 9 293)⟩, ⟨(PySem.PyData.keyHash P "RSQB"), (.str "RSQB" 296), (.int 10 295)⟩, ⟨(PySem.PyData.keyHash P "COLON"), (.str "COLON" 298), (.int 11 297)⟩, ⟨(PySem.PyData.keyHash P "COMMA"), (.str "COMMA" 300), (.int 12 299)⟩, ⟨(PySem.PyData.keyHash P "SEMI"), (.str "SEMI" 302), (.int 13 301)⟩, ⟨(PySem.PyData.keyHash P "PLUS"), (.str "PLUS" 304), (.int 14 303)⟩, ⟨(PySem.PyData.keyHash P "MINUS"), (.str "MINUS" 306), (.int 15 305)⟩, ⟨(PySem.PyData.keyHash P "STAR"), (.str "STAR" 308), (.int 16 307)⟩, ⟨(PySem.PyData.keyHash P "SLASH"), (.str "SLASH" 310), (.int 17 309)⟩, ⟨(PySem.PyData.keyHash P "VBAR"), (.str "VBAR" 312), (.int 18 311)⟩, ⟨(PySem.PyData.keyHash P "AMPER"), (.str "AMPER" 314), (.int 19 313)⟩, ⟨(PySem.PyData.keyHash P "LESS"), (.str "LESS" 316), (.int 20 315)⟩, ⟨(PySem.PyData.keyHash P "GREATER"), (.str "GREATER" 318), (.int 21 317)⟩, ⟨(PySem.PyData.keyHash P "EQUAL"), (.str "EQUAL" 320), (.int 22 319)⟩, ⟨(PySem.PyData.keyHash P "DOT"), (.str "DOT" 322), (.int 23 321)⟩, ⟨(PySem.PyData.keyHash P "PERCENT"), (.str "PERCENT" 324), (.int 24 323)⟩, ⟨(PySem.PyData.keyHash P "LBRACE"), (.str "LBRACE" 326), (.int 25 325)⟩, ⟨(PySem.PyData.keyHash P "RBRACE"), (.str "RBRACE" 328), (.int 26 327)⟩, ⟨(PySem.PyData.keyHash P "EQEQUAL"), (.str "EQEQUAL" 330), (.int 27 329)⟩, ⟨(PySem.PyData.keyHash P "NOTEQUAL"), (.str "NOTEQUAL" 332), (.int 28 331)⟩, ⟨(PySem.PyData.keyHash P "LESSEQUAL"), (.str "LESSEQUAL" 334), (.int 29 333)⟩, ⟨(PySem.PyData.keyHash P "GREATEREQUAL"), (.str "GREATEREQUAL" 336), (.int 30 335)⟩, ⟨(PySem.PyData.keyHash P "TILDE"), (.str "TILDE" 338), (.int 31 337)⟩, ⟨(PySem.PyData.keyHash P "CIRCUMFLEX"), (.str "CIRCUMFLEX" 340), (.int 32 339)⟩, ⟨(PySem.PyData.keyHash P "LEFTSHIFT"), (.str "LEFTSHIFT" 342), (.int 33 341)⟩, ⟨(PySem.PyData.keyHash P "RIGHTSHIFT"), (.str "RIGHTSHIFT" 344), (.int 34 343)⟩, ⟨(PySem.PyData.keyHash P "DOUBLESTAR"), (.str "DOUBLESTAR" 346), (.int 35 345)⟩, ⟨(PySem.PyData.keyHash P "PLUSEQUAL"), (.str "PLUSEQUAL" 348), (.int 36 347)⟩, ⟨(PySem.PyData.keyHash P "MINEQUAL"), (.str "MINEQUAL" 350), (.int 37 349)⟩, ⟨(PySem.PyData.keyHash P "STAREQUAL"), (.str "STAREQUAL" 352), (.int 38 351)⟩, ⟨(PySem.PyData.keyHash P "SLASHEQUAL"), (.str "SLASHEQUAL" 354), (.int 39 353)⟩, ⟨(PySem.PyData.keyHash P "PERCENTEQUAL"), (.str "PERCENTEQUAL" 356), (.int 40 355)⟩, ⟨(PySem.PyData.keyHash P "AMPEREQUAL"), (.str "AMPEREQUAL" 358), (.int 41 357)⟩, ⟨(PySem.PyData.keyHash P "VBAREQUAL"), (.str "VBAREQUAL" 360), (.int 42 359)⟩, ⟨(PySem.PyData.keyHash P "CIRCUMFLEXEQUAL"), (.str "CIRCUMFLEXEQUAL" 362), (.int 43 361)⟩, ⟨(PySem.PyData.keyHash P "LEFTSHIFTEQUAL"), (.str "LEFTSHIFTEQUAL" 364), (.int 44 363)⟩, ⟨(PySem.PyData.keyHash P "RIGHTSHIFTEQUAL"), (.str "RIGHTSHIFTEQUAL" 366), (.int 45 365)⟩, ⟨(PySem.PyData.keyHash P "DOUBLESTAREQUAL"), (.str "DOUBLESTAREQUAL" 368), (.int 46 367)⟩, ⟨(PySem.PyData.keyHash P "DOUBLESLASH"), (.str "DOUBLESLASH" 370), (.int 47 369)⟩, ⟨(PySem.PyData.keyHash P "DOUBLESLASHEQUAL"), (.str "DOUBLESLASHEQUAL" 372), (.int 48 371)⟩, ⟨(PySem.PyData.keyHash P "AT"), (.str "AT" 374), (.int 49 373)⟩, ⟨(PySem.PyData.keyHash P "ATEQUAL"), (.str "ATEQUAL" 376), (.int 50 375)⟩, ⟨(PySem.PyData.keyHash P "RARROW"), (.str "RARROW" 378), (.int 51 377)⟩, ⟨(PySem.PyData.keyHash P "ELLIPSIS"), (.str "ELLIPSIS" 380), (.int 52 379)⟩, ⟨(PySem.PyData.keyHash P "COLONEQUAL"), (.str "COLONEQUAL" 382), (.int 53 381)⟩, ⟨(PySem.PyData.keyHash P "EXCLAMATION"), (.str "EXCLAMATION" 384), (.int 54 383)⟩, ⟨(PySem.PyData.keyHash P "EXACT_TOKEN_TYPES"), (.str "EXACT_TOKEN_TYPES" 481), (.ref 64)⟩, ⟨(PySem.PyData.keyHash P "ISEOF"), (.str "ISEOF" 488), (.ref 73)⟩, ⟨(PySem.PyData.keyHash P "_MOVE_COST"), (.str "_MOVE_COST" 492), (.int 2 491)⟩, ⟨(PySem.PyData.keyHash P "_CASE_COST"), (.str "_CASE_COST" 494), (.int 1 493)⟩, ⟨(PySem.PyData.keyHash P "_substitution_cost"), (.str "_substitution_cost" 502), (.ref 80)⟩, ⟨(PySem.PyData.keyHash P "_law_cells"), (.str "_law_cells" 514), (.ref 87)⟩, ⟨(PySem.PyData.keyHash P "_law_palette"), (.str "_law_palette" 520), (.ref 92)⟩, ⟨(PySem.PyData.keyHash P "_law_own_lights"), (.str "_law_own_lights" 526), (.ref 97)⟩, ⟨(PySem.PyData.keyHash P "_law_walks"), (.str "_law_walks" 532), (.ref 102)⟩, ⟨(PySem.PyData.keyHash P "_law_det"), (.str "_law_det" 543), (.ref 109)⟩, ⟨(PySem.PyData.keyHash P "_law_exchanged"), (.str "_law_exchanged" 554), (.ref 116)⟩, ⟨(PySem.PyData.keyHash P "_law_cramer"), (.str "_law_cramer" 560), (.ref 121)⟩, ⟨(PySem.PyData.keyHash P "_law_word"), (.str "_law_word" 566), (.ref 126)⟩, ⟨(PySem.PyData.keyHash P "_law_holds"), (.str "_law_holds" 572), (.ref 131)⟩, ⟨(PySem.PyData.keyHash P "law"), (.str "law" 578), (.ref 136)⟩] 81), #[]⟩) ::
((nat_lit 15), ⟨(.type "tuple"), .none, (.seq #[] 0), #[]⟩) ::
((nat_lit 17), ⟨(.type "tuple"), .none, (.seq #[(.str "a" 194), (.str "b" 195), (.str "n" 196), (.str "pad" 197), (.str "half_n" 198), (.str "mask" 199), (.str "b1" 200), (.str "b2" 201), (.str "q1" 202), (.str "r" 203), (.str "q2" 204)] 0), #[]⟩) ::
((nat_lit 18), ⟨(.type "tuple"), .none, (.seq #[] 0), #[]⟩) ::
((nat_lit 20), ⟨(.type "code"), .none, (.fields #[(.str "_div2n1n" 191), (.str "_div2n1n" 192), (.str "/claim/cut.py" 193), (.int 3 0), (.int 3 0), (.int 0 0), (.int 0 0), (.int 3 0), (.ref 15), (.bool .true), (.int 181 0), (.ref 16), .none, (.ref 17), (.ref 18), (.ref 19), (.int 205 0), (.int 3 0), (.str "/claim/cut.py" 206)]), #[]⟩) ::
((nat_lit 21), ⟨(.type "function"), .none, (.func ⟨"_div2n1n", "_div2n1n", pdiv2n1n, (.stmts bdiv2n1n), cdiv2n1n, 3, [], .none, .none, .none, (.str "cpy313._pylong" 187), .none, (.ref 20), .none, 0⟩), #[]⟩) ::
((nat_lit 22), ⟨(.type "tuple"), .none, (.seq #[] 0), #[]⟩) ::
((nat_lit 24), ⟨(.type "tuple"), .none, (.seq #[(.str "a12" 211), (.str "a3" 212), (.str "b" 213), (.str "b1" 214), (.str "b2" 215), (.str "n" 216), (.str "q" 217), (.str "r" 218)] 0), #[]⟩) ::
((nat_lit 25), ⟨(.type "tuple"), .none, (.seq #[] 0), #[]⟩) ::
((nat_lit 27), ⟨(.type "code"), .none, (.fields #[(.str "_div3n2n" 208), (.str "_div3n2n" 209), (.str "/claim/cut.py" 210), (.int 19 0), (.int 6 0), (.int 0 0), (.int 0 0), (.int 3 0), (.ref 22), (.bool .true), (.int 181 0), (.ref 23), .none, (.ref 24), (.ref 25), (.ref 26), (.int 219 0), (.int 19 0), (.str "/claim/cut.py" 220)]), #[]⟩) ::
((nat_lit 28), ⟨(.type "function"), .none, (.func ⟨"_div3n2n", "_div3n2n", pdiv3n2n, (.stmts bdiv3n2n), cdiv3n2n, 3, [], .none, .none, .none, (.str "cpy313._pylong" 187), .none, (.ref 27), .none, 0⟩), #[]⟩) ::
((nat_lit 29), ⟨(.type "tuple"), .none, (.seq #[] 0), #[]⟩) ::
((nat_lit 31), ⟨(.type "tuple"), .none, (.seq #[(.str "a" 225), (.str "n" 226)] 0), #[]⟩) ::
((nat_lit 32), ⟨(.type "tuple"), .none, (.seq #[(.str "n" 227), (.str "a_digits" 228), (.str "inner" 229)] 0), #[]⟩) ::
((nat_lit 34), ⟨(.type "code"), .none, (.fields #[(.str "_int2digits" 222), (.str "_int2digits" 223), (.str "/claim/cut.py" 224), (.int 29 0), (.int 2 0), (.int 0 0), (.int 0 0), (.int 3 0), (.ref 29), (.bool .true), (.int 181 0), (.ref 30), .none, (.ref 31), (.ref 32), (.ref 33), (.int 230 0), (.int 29 0), (.str "/claim/cut.py" 231)]), #[]⟩) ::
((nat_lit 35), ⟨(.type "function"), .none, (.func ⟨"_int2digits", "_int2digits", pint2digits, (.stmts bint2digits), cint2digits, 3, [], .none, .none, .none, (.str "cpy313._pylong" 187), .none, (.ref 34), .none, 0⟩), #[]⟩) ::
((nat_lit 36), ⟨(.type "tuple"), .none, (.seq #[] 0), #[]⟩) ::
((nat_lit 38), ⟨(.type "tuple"), .none, (.seq #[(.str "digits" 236), (.str "n" 237)] 0), #[]⟩) ::
((nat_lit 39), ⟨(.type "tuple"), .none, (.seq #[(.str "digits" 238), (.str "n" 239), (.str "inner" 240)] 0), #[]⟩) ::
((nat_lit 41), ⟨(.type "code"), .none, (.fields #[(.str "_digits2int" 233), (.str "_digits2int" 234), (.str "/claim/cut.py" 235), (.int 45 0), (.int 2 0), (.int 0 0), (.int 0 0), (.int 3 0), (.ref 36), (.bool .true), (.int 181 0), (.ref 37), .none, (.ref 38), (.ref 39), (.ref 40), (.int 241 0), (.int 45 0), (.str "/claim/cut.py" 242)]), #[]⟩) ::
((nat_lit 42), ⟨(.type "function"), .none, (.func ⟨"_digits2int", "_digits2int", pdigits2int, (.stmts bdigits2int), cdigits2int, 3, [], .none, .none, .none, (.str "cpy313._pylong" 187), .none, (.ref 41), .none, 0⟩), #[]⟩) ::
((nat_lit 43), ⟨(.type "tuple"), .none, (.seq #[] 0), #[]⟩) ::
((nat_lit 45), ⟨(.type "tuple"), .none, (.seq #[(.str "a" 247), (.str "b" 248), (.str "n" 249), (.str "a_digits" 250), (.str "r" 251), (.str "q_digits" 252), (.str "a_digit" 253), (.str "q_digit" 254), (.str "q" 255)] 0), #[]⟩) ::
((nat_lit 46), ⟨(.type "tuple"), .none, (.seq #[] 0), #[]⟩) ::
((nat_lit 48), ⟨(.type "code"), .none, (.fields #[(.str "_divmod_pos" 244), (.str "_divmod_pos" 245), (.str "/claim/cut.py" 246), (.int 54 0), (.int 2 0), (.int 0 0), (.int 0 0), (.int 3 0), (.ref 43), (.bool .true), (.int 181 0), (.ref 44), .none, (.ref 45), (.ref 46), (.ref 47), (.int 256 0), (.int 54 0), (.str "/claim/cut.py" 257)]), #[]⟩) ::
((nat_lit 49), ⟨(.type "function"), .none, (.func ⟨"_divmod_pos", "_divmod_pos", pdivmodpos, (.stmts bdivmodpos), cdivmodpos, 3, [], .none, .none, .none, (.str "cpy313._pylong" 187), .none, (.ref 48), .none, 0⟩), #[]⟩) ::
((nat_lit 50), ⟨(.type "tuple"), .none, (.seq #[] 0), #[]⟩) ::
((nat_lit 52), ⟨(.type "tuple"), .none, (.seq #[(.str "a" 262), (.str "b" 263), (.str "q" 264), (.str "r" 265)] 0), #[]⟩) ::
((nat_lit 53), ⟨(.type "tuple"), .none, (.seq #[] 0), #[]⟩) ::
((nat_lit 55), ⟨(.type "code"), .none, (.fields #[(.str "int_divmod" 259), (.str "int_divmod" 260), (.str "/claim/cut.py" 261), (.int 65 0), (.int 2 0), (.int 0 0), (.int 0 0), (.int 3 0), (.ref 50), (.bool .true), (.int 181 0), (.ref 51), .none, (.ref 52), (.ref 53), (.ref 54), (.int 266 0), (.int 65 0), (.str "/claim/cut.py" 267)]), #[]⟩) ::
((nat_lit 56), ⟨(.type "function"), .none, (.func ⟨"int_divmod", "int_divmod", pintdivmod, (.stmts bintdivmod), cintdivmod, 3, [], .none, .none, .none, (.str "cpy313._pylong" 187), .none, (.ref 55), .none, 0⟩), #[]⟩) ::
((nat_lit 57), ⟨(.type "tuple"), .none, (.seq #[] 0), #[]⟩) ::
((nat_lit 59), ⟨(.type "tuple"), .none, (.seq #[(.str "h" 274), (.str "s" 275), (.str "v" 276), (.str "i" 277), (.str "f" 278), (.str "p" 279), (.str "q" 280), (.str "t" 281)] 0), #[]⟩) ::
((nat_lit 60), ⟨(.type "tuple"), .none, (.seq #[] 0), #[]⟩) ::
((nat_lit 62), ⟨(.type "code"), .none, (.fields #[(.str "hsv_to_rgb" 271), (.str "hsv_to_rgb" 272), (.str "/claim/cut.py" 273), (.int 77 0), (.int 3 0), (.int 0 0), (.int 0 0), (.int 3 0), (.ref 57), (.bool .true), (.int 181 0), (.ref 58), .none, (.ref 59), (.ref 60), (.ref 61), (.int 282 0), (.int 77 0), (.str "/claim/cut.py" 283)]), #[]⟩) ::
((nat_lit 63), ⟨(.type "function"), .none, (.func ⟨"hsv_to_rgb", "hsv_to_rgb", phsvtorgb, (.stmts bhsvtorgb), chsvtorgb, 3, [], .none, .none, .none, (.str "cpy313.colorsys" 269), .none, (.ref 62), .none, 0⟩), #[]⟩) ::
((nat_lit 64), ⟨(.type "dict"), .none, (.dict #[⟨(PySem.PyData.keyHash P "!"), (.str "!" 385), (.int 54 383)⟩, ⟨(PySem.PyData.keyHash P "!="), (.str "!=" 387), (.int 28 331)⟩, ⟨(PySem.PyData.keyHash P "%"), (.str "%" 389), (.int 24 323)⟩, ⟨(PySem.PyData.keyHash P "%="), (.str "%=" 391), (.int 40 355)⟩, ⟨(PySem.PyData.keyHash P "&"), (.str "&" 393), (.int 19 313)⟩, ⟨(PySem.PyData.keyHash P "&="), (.str "&=" 395), (.int 41 357)⟩, ⟨(PySem.PyData.keyHash P "("), (.str "(" 397), (.int 7 289)⟩, ⟨(PySem.PyData.keyHash P ")"), (.str ")" 399), (.int 8 291)⟩, ⟨(PySem.PyData.keyHash P "*"), (.str "*" 401), (.int 16 307)⟩, ⟨(PySem.PyData.keyHash P "**"), (.str "**" 403), (.int 35 345)⟩, ⟨(PySem.PyData.keyHash P "**="), (.str "**=" 405), (.int 46 367)⟩, ⟨(PySem.PyData.keyHash P "*="), (.str "*=" 407), (.int 38 351)⟩, ⟨(PySem.PyData.keyHash P "+"), (.str "+" 409), (.int 14 303)⟩, ⟨(PySem.PyData.keyHash P "+="), (.str "+=" 411), (.int 36 347)⟩, ⟨(PySem.PyData.keyHash P ","), (.str "," 413), (.int 12 299)⟩, ⟨(PySem.PyData.keyHash P "-"), (.str "-" 415), (.int 15 305)⟩, ⟨(PySem.PyData.keyHash P "-="), (.str "-=" 417), (.int 37 349)⟩, ⟨(PySem.PyData.keyHash P "->"), (.str "->" 419), (.int 51 377)⟩, ⟨(PySem.PyData.keyHash P "."), (.str "." 421), (.int 23 321)⟩, ⟨(PySem.PyData.keyHash P "..."), (.str "..." 423), (.int 52 379)⟩, ⟨(PySem.PyData.keyHash P "/"), (.str "/" 425), (.int 17 309)⟩, ⟨(PySem.PyData.keyHash P "//"), (.str "//" 427), (.int 47 369)⟩, ⟨(PySem.PyData.keyHash P "//="), (.str "//=" 429), (.int 48 371)⟩, ⟨(PySem.PyData.keyHash P "/="), (.str "/=" 431), (.int 39 353)⟩, ⟨(PySem.PyData.keyHash P ":"), (.str ":" 433), (.int 11 297)⟩, ⟨(PySem.PyData.keyHash P ":="), (.str ":=" 435), (.int 53 381)⟩, ⟨(PySem.PyData.keyHash P ";"), (.str ";" 437), (.int 13 301)⟩, ⟨(PySem.PyData.keyHash P "<"), (.str "<" 439), (.int 20 315)⟩, ⟨(PySem.PyData.keyHash P "<<"), (.str "<<" 441), (.int 33 341)⟩, ⟨(PySem.PyData.keyHash P "<<="), (.str "<<=" 443), (.int 44 363)⟩, ⟨(PySem.PyData.keyHash P "<="), (.str "<=" 445), (.int 29 333)⟩, ⟨(PySem.PyData.keyHash P "="), (.str "=" 447), (.int 22 319)⟩, ⟨(PySem.PyData.keyHash P "=="), (.str "==" 449), (.int 27 329)⟩, ⟨(PySem.PyData.keyHash P ">"), (.str ">" 451), (.int 21 317)⟩, ⟨(PySem.PyData.keyHash P ">="), (.str ">=" 453), (.int 30 335)⟩, ⟨(PySem.PyData.keyHash P ">>"), (.str ">>" 454), (.int 34 343)⟩, ⟨(PySem.PyData.keyHash P ">>="), (.str ">>=" 455), (.int 45 365)⟩, ⟨(PySem.PyData.keyHash P "@"), (.str "@" 456), (.int 49 373)⟩, ⟨(PySem.PyData.keyHash P "@="), (.str "@=" 457), (.int 50 375)⟩, ⟨(PySem.PyData.keyHash P "["), (.str "[" 458), (.int 9 293)⟩, ⟨(PySem.PyData.keyHash P "]"), (.str "]" 459), (.int 10 295)⟩, ⟨(PySem.PyData.keyHash P "^"), (.str "^" 460), (.int 32 339)⟩, ⟨(PySem.PyData.keyHash P "^="), (.str "^=" 461), (.int 43 361)⟩, ⟨(PySem.PyData.keyHash P "{"), (.str "{" 462), (.int 25 325)⟩, ⟨(PySem.PyData.keyHash P "|"), (.str "|" 463), (.int 18 311)⟩, ⟨(PySem.PyData.keyHash P "|="), (.str "|=" 464), (.int 42 359)⟩, ⟨(PySem.PyData.keyHash P "}"), (.str "}" 465), (.int 26 327)⟩, ⟨(PySem.PyData.keyHash P "~"), (.str "~" 466), (.int 31 337)⟩] 48), #[]⟩) ::
((nat_lit 67), ⟨(.type "tuple"), .none, (.seq #[] 0), #[]⟩) ::
((nat_lit 69), ⟨(.type "tuple"), .none, (.seq #[(.str "x" 485)] 0), #[]⟩) ::
((nat_lit 70), ⟨(.type "tuple"), .none, (.seq #[] 0), #[]⟩) ::
((nat_lit 72), ⟨(.type "code"), .none, (.fields #[(.str "ISEOF" 482), (.str "ISEOF" 483), (.str "/claim/cut.py" 484), (.int 149 0), (.int 1 0), (.int 0 0), (.int 0 0), (.int 3 0), (.ref 67), (.bool .true), (.int 181 0), (.ref 68), .none, (.ref 69), (.ref 70), (.ref 71), (.int 486 0), (.int 149 0), (.str "/claim/cut.py" 487)]), #[]⟩) ::
((nat_lit 73), ⟨(.type "function"), .none, (.func ⟨"ISEOF", "ISEOF", pISEOF, (.stmts bISEOF), cISEOF, 3, [], .none, .none, .none, (.str "cpy313.token" 285), .none, (.ref 72), .none, 0⟩), #[]⟩) ::
((nat_lit 74), ⟨(.type "tuple"), .none, (.seq #[] 0), #[]⟩) ::
((nat_lit 76), ⟨(.type "tuple"), .none, (.seq #[(.str "ch_a" 498), (.str "ch_b" 499)] 0), #[]⟩) ::
((nat_lit 77), ⟨(.type "tuple"), .none, (.seq #[] 0), #[]⟩) ::
((nat_lit 79), ⟨(.type "code"), .none, (.fields #[(.str "_substitution_cost" 495), (.str "_substitution_cost" 496), (.str "/claim/cut.py" 497), (.int 154 0), (.int 2 0), (.int 0 0), (.int 0 0), (.int 3 0), (.ref 74), (.bool .true), (.int 181 0), (.ref 75), .none, (.ref 76), (.ref 77), (.ref 78), (.int 500 0), (.int 154 0), (.str "/claim/cut.py" 501)]), #[]⟩) ::
((nat_lit 80), ⟨(.type "function"), .none, (.func ⟨"_substitution_cost", "_substitution_cost", psubstitutioncost, (.stmts bsubstitutioncost), csubstitutioncost, 3, [], .none, .none, .none, (.str "cpy313.traceback" 489), .none, (.ref 79), .none, 0⟩), #[]⟩) ::
((nat_lit 81), ⟨(.type "tuple"), .none, (.seq #[] 0), #[]⟩) ::
((nat_lit 83), ⟨(.type "tuple"), .none, (.seq #[(.str "script" 508), (.str "cells" 509), (.str "k" 510), (.str "x" 511)] 0), #[]⟩) ::
((nat_lit 84), ⟨(.type "tuple"), .none, (.seq #[] 0), #[]⟩) ::
((nat_lit 86), ⟨(.type "code"), .none, (.fields #[(.str "_law_cells" 505), (.str "_law_cells" 506), (.str "/claim/cut.py" 507), (.int 161 0), (.int 1 0), (.int 0 0), (.int 0 0), (.int 3 0), (.ref 81), (.bool .true), (.int 181 0), (.ref 82), .none, (.ref 83), (.ref 84), (.ref 85), (.int 512 0), (.int 161 0), (.str "/claim/cut.py" 513)]), #[]⟩) ::
((nat_lit 87), ⟨(.type "function"), .none, (.func ⟨"_law_cells", "_law_cells", plawcells, (.stmts blawcells), clawcells, 3, [], .none, .none, .none, (.str "law_tl0028_01" 503), .none, (.ref 86), .none, 0⟩), #[]⟩) ::
((nat_lit 88), ⟨(.type "tuple"), .none, (.seq #[] 0), #[]⟩) ::
((nat_lit 91), ⟨(.type "code"), .none, (.fields #[(.str "_law_palette" 515), (.str "_law_palette" 516), (.str "/claim/cut.py" 517), (.int 166 0), (.int 2 0), (.int 0 0), (.int 0 0), (.int 3 0), (.ref 88), (.bool .true), (.int 181 0), (.ref 89), .none, .none, .none, (.ref 90), (.int 518 0), (.int 166 0), (.str "/claim/cut.py" 519)]), #[]⟩) ::
((nat_lit 92), ⟨(.type "function"), .none, (.func ⟨"_law_palette", "_law_palette", plawpalette, (.stmts blawpalette), clawpalette, 3, [], .none, .none, .none, (.str "law_tl0028_01" 503), .none, (.ref 91), .none, 0⟩), #[]⟩) ::
((nat_lit 93), ⟨(.type "tuple"), .none, (.seq #[] 0), #[]⟩) ::
((nat_lit 96), ⟨(.type "code"), .none, (.fields #[(.str "_law_own_lights" 521), (.str "_law_own_lights" 522), (.str "/claim/cut.py" 523), (.int 180 0), (.int 2 0), (.int 0 0), (.int 0 0), (.int 3 0), (.ref 93), (.bool .true), (.int 181 0), (.ref 94), .none, .none, .none, (.ref 95), (.int 524 0), (.int 180 0), (.str "/claim/cut.py" 525)]), #[]⟩) ::
((nat_lit 97), ⟨(.type "function"), .none, (.func ⟨"_law_own_lights", "_law_own_lights", plawownlights, (.stmts blawownlights), clawownlights, 3, [], .none, .none, .none, (.str "law_tl0028_01" 503), .none, (.ref 96), .none, 0⟩), #[]⟩) ::
((nat_lit 98), ⟨(.type "tuple"), .none, (.seq #[] 0), #[]⟩) ::
((nat_lit 101), ⟨(.type "code"), .none, (.fields #[(.str "_law_walks" 527), (.str "_law_walks" 528), (.str "/claim/cut.py" 529), (.int 187 0), (.int 5 0), (.int 0 0), (.int 0 0), (.int 3 0), (.ref 98), (.bool .true), (.int 181 0), (.ref 99), .none, .none, .none, (.ref 100), (.int 530 0), (.int 187 0), (.str "/claim/cut.py" 531)]), #[]⟩) ::
((nat_lit 102), ⟨(.type "function"), .none, (.func ⟨"_law_walks", "_law_walks", plawwalks, (.stmts blawwalks), clawwalks, 3, [], .none, .none, .none, (.str "law_tl0028_01" 503), .none, (.ref 101), .none, 0⟩), #[]⟩) ::
((nat_lit 103), ⟨(.type "tuple"), .none, (.seq #[] 0), #[]⟩) ::
((nat_lit 105), ⟨(.type "tuple"), .none, (.seq #[(.str "a" 536), (.str "b" 537), (.str "c" 538), (.str "first" 539), (.str "second" 540)] 0), #[]⟩) ::
((nat_lit 106), ⟨(.type "tuple"), .none, (.seq #[] 0), #[]⟩) ::
((nat_lit 108), ⟨(.type "code"), .none, (.fields #[(.str "_law_det" 533), (.str "_law_det" 534), (.str "/claim/cut.py" 535), (.int 199 0), (.int 3 0), (.int 0 0), (.int 0 0), (.int 3 0), (.ref 103), (.bool .true), (.int 181 0), (.ref 104), .none, (.ref 105), (.ref 106), (.ref 107), (.int 541 0), (.int 199 0), (.str "/claim/cut.py" 542)]), #[]⟩) ::
((nat_lit 109), ⟨(.type "function"), .none, (.func ⟨"_law_det", "_law_det", plawdet, (.stmts blawdet), clawdet, 3, [], .none, .none, .none, (.str "law_tl0028_01" 503), .none, (.ref 108), .none, 0⟩), #[]⟩) ::
((nat_lit 110), ⟨(.type "tuple"), .none, (.seq #[] 0), #[]⟩) ::
((nat_lit 112), ⟨(.type "tuple"), .none, (.seq #[(.str "lights" 547), (.str "gone" 548), (.str "new" 549), (.str "rows" 550), (.str "k" 551)] 0), #[]⟩) ::
((nat_lit 113), ⟨(.type "tuple"), .none, (.seq #[] 0), #[]⟩) ::
((nat_lit 115), ⟨(.type "code"), .none, (.fields #[(.str "_law_exchanged" 544), (.str "_law_exchanged" 545), (.str "/claim/cut.py" 546), (.int 203 0), (.int 3 0), (.int 0 0), (.int 0 0), (.int 3 0), (.ref 110), (.bool .true), (.int 181 0), (.ref 111), .none, (.ref 112), (.ref 113), (.ref 114), (.int 552 0), (.int 203 0), (.str "/claim/cut.py" 553)]), #[]⟩) ::
((nat_lit 116), ⟨(.type "function"), .none, (.func ⟨"_law_exchanged", "_law_exchanged", plawexchanged, (.stmts blawexchanged), clawexchanged, 3, [], .none, .none, .none, (.str "law_tl0028_01" 503), .none, (.ref 115), .none, 0⟩), #[]⟩) ::
((nat_lit 117), ⟨(.type "tuple"), .none, (.seq #[] 0), #[]⟩) ::
((nat_lit 120), ⟨(.type "code"), .none, (.fields #[(.str "_law_cramer" 555), (.str "_law_cramer" 556), (.str "/claim/cut.py" 557), (.int 208 0), (.int 3 0), (.int 0 0), (.int 0 0), (.int 3 0), (.ref 117), (.bool .true), (.int 181 0), (.ref 118), .none, .none, .none, (.ref 119), (.int 558 0), (.int 208 0), (.str "/claim/cut.py" 559)]), #[]⟩) ::
((nat_lit 121), ⟨(.type "function"), .none, (.func ⟨"_law_cramer", "_law_cramer", plawcramer, (.stmts blawcramer), clawcramer, 3, [], .none, .none, .none, (.str "law_tl0028_01" 503), .none, (.ref 120), .none, 0⟩), #[]⟩) ::
((nat_lit 122), ⟨(.type "tuple"), .none, (.seq #[] 0), #[]⟩) ::
((nat_lit 125), ⟨(.type "code"), .none, (.fields #[(.str "_law_word" 561), (.str "_law_word" 562), (.str "/claim/cut.py" 563), (.int 215 0), (.int 2 0), (.int 0 0), (.int 0 0), (.int 3 0), (.ref 122), (.bool .true), (.int 181 0), (.ref 123), .none, .none, .none, (.ref 124), (.int 564 0), (.int 215 0), (.str "/claim/cut.py" 565)]), #[]⟩) ::
((nat_lit 126), ⟨(.type "function"), .none, (.func ⟨"_law_word", "_law_word", plawword, (.stmts blawword), clawword, 3, [], .none, .none, .none, (.str "law_tl0028_01" 503), .none, (.ref 125), .none, 0⟩), #[]⟩) ::
((nat_lit 127), ⟨(.type "tuple"), .none, (.seq #[] 0), #[]⟩) ::
((nat_lit 130), ⟨(.type "code"), .none, (.fields #[(.str "_law_holds" 567), (.str "_law_holds" 568), (.str "/claim/cut.py" 569), (.int 217 0), (.int 4 0), (.int 0 0), (.int 0 0), (.int 3 0), (.ref 127), (.bool .true), (.int 181 0), (.ref 128), .none, .none, .none, (.ref 129), (.int 570 0), (.int 217 0), (.str "/claim/cut.py" 571)]), #[]⟩) ::
((nat_lit 131), ⟨(.type "function"), .none, (.func ⟨"_law_holds", "_law_holds", plawholds, (.stmts blawholds), clawholds, 3, [], .none, .none, .none, (.str "law_tl0028_01" 503), .none, (.ref 130), .none, 0⟩), #[]⟩) ::
((nat_lit 132), ⟨(.type "tuple"), .none, (.seq #[] 0), #[]⟩) ::
((nat_lit 135), ⟨(.type "code"), .none, (.fields #[(.str "law" 573), (.str "law" 574), (.str "/claim/cut.py" 575), (.int 231 0), (.int 1 0), (.int 0 0), (.int 0 0), (.int 3 0), (.ref 132), (.bool .true), (.int 181 0), (.ref 133), .none, .none, .none, (.ref 134), (.int 576 0), (.int 231 0), (.str "/claim/cut.py" 577)]), #[]⟩) ::
((nat_lit 136), ⟨(.type "function"), .none, (.func ⟨"law", "law", plaw, (.stmts blaw), claw, 3, [], .none, .none, .none, (.str "law_tl0028_01" 503), .none, (.ref 135), .none, 0⟩), #[]⟩) :: []) : Frag)) rfl
abbrev lo : List Str := [Str.ofString "EXACT_TOKEN_TYPES"]
abbrev asL : List Addr := [2, 3, 15, 17, 18, 20, 21, 22, 24, 25, 27, 28, 29, 31, 32, 34, 35, 36, 38, 39, 41, 42, 43, 45, 46, 48, 49, 50, 52, 53, 55, 56, 57, 59, 60, 62, 63, 64, 67, 69, 70, 72, 73, 74, 76, 77, 79, 80, 81, 83, 84, 86, 87, 88, 91, 92, 93, 96, 97, 98, 101, 102, 103, 105, 106, 108, 109, 110, 112, 113, 115, 116, 117, 120, 121, 122, 125, 126, 127, 130, 131, 132, 135, 136]
set_option maxRecDepth 100000
theorem open_p : opening PySem.Challenge.pw_tl0028_01 = plainProg PySem.Challenge.pw_tl0028_01.main.scope.names := by kernel_rfl
theorem fence_p : ∀ s, fenceModules? PySem.Challenge.pw_tl0028_01 s = some s := fun _ => by kernel_rfl
theorem size_p (w : World) : ((boot_heap w.params).isNs mainGlobals, (boot_heap w.params).objs.size, (boot_heap w.params).nsMap mainGlobals "__annotations__") = (true, 11, some (.ref 6)) := by kernel_rfl
abbrev pE : Program := PySem.Challenge.pw_tl0028_01
set_option maxHeartbeats 8000000 in
noncomputable def H1 : Params → Heap := fun P => (fun {pdiv2n1n : Arguments} {bdiv2n1n : List Stmt} {cdiv2n1n : Scope} {pdiv3n2n : Arguments} {bdiv3n2n : List Stmt} {cdiv3n2n : Scope} {pint2digits : Arguments} {bint2digits : List Stmt} {cint2digits : Scope} {pdigits2int : Arguments} {bdigits2int : List Stmt} {cdigits2int : Scope} {pdivmodpos : Arguments} {bdivmodpos : List Stmt} {cdivmodpos : Scope} {pintdivmod : Arguments} {bintdivmod : List Stmt} {cintdivmod : Scope} {phsvtorgb : Arguments} {bhsvtorgb : List Stmt} {chsvtorgb : Scope} {pISEOF : Arguments} {bISEOF : List Stmt} {cISEOF : Scope} {psubstitutioncost : Arguments} {bsubstitutioncost : List Stmt} {csubstitutioncost : Scope} {plawcells : Arguments} {blawcells : List Stmt} {clawcells : Scope} {plawpalette : Arguments} {blawpalette : List Stmt} {clawpalette : Scope} {plawownlights : Arguments} {blawownlights : List Stmt} {clawownlights : Scope} {plawwalks : Arguments} {blawwalks : List Stmt} {clawwalks : Scope} {plawdet : Arguments} {blawdet : List Stmt} {clawdet : Scope} {plawexchanged : Arguments} {blawexchanged : List Stmt} {clawexchanged : Scope} {plawcramer : Arguments} {blawcramer : List Stmt} {clawcramer : Scope} {plawword : Arguments} {blawword : List Stmt} {clawword : Scope} {plawholds : Arguments} {blawholds : List Stmt} {clawholds : Scope} {plaw : Arguments} {blaw : List Stmt} {claw : Scope} (_ : [bodyAt 2, bodyAt 3, bodyAt 4, bodyAt 5, bodyAt 6, bodyAt 7, bodyAt 9, bodyAt 61, bodyAt 65, bodyAt 67, bodyAt 68, bodyAt 69, bodyAt 70, bodyAt 71, bodyAt 72, bodyAt 73, bodyAt 74, bodyAt 75, bodyAt 76] = [(pdiv2n1n, bdiv2n1n, cdiv2n1n), (pdiv3n2n, bdiv3n2n, cdiv3n2n), (pint2digits, bint2digits, cint2digits), (pdigits2int, bdigits2int, cdigits2int), (pdivmodpos, bdivmodpos, cdivmodpos), (pintdivmod, bintdivmod, cintdivmod), (phsvtorgb, bhsvtorgb, chsvtorgb), (pISEOF, bISEOF, cISEOF), (psubstitutioncost, bsubstitutioncost, csubstitutioncost), (plawcells, blawcells, clawcells), (plawpalette, blawpalette, clawpalette), (plawownlights, blawownlights, clawownlights), (plawwalks, blawwalks, clawwalks), (plawdet, blawdet, clawdet), (plawexchanged, blawexchanged, clawexchanged), (plawcramer, blawcramer, clawcramer), (plawword, blawword, clawword), (plawholds, blawholds, clawholds), (plaw, blaw, claw)]) => (⟨List.toArray (
(PySem.W.boot_o_0 P) ::
(PySem.W.boot_o_1 P) ::
(PySem.W.boot_o_2 P) ::
⟨(.type "dict"), .none, (.dict #[⟨(PySem.PyData.keyHash P "__name__"), (.str "__name__" 165), (.str "law_tl0028_01" 503)⟩, ⟨(PySem.PyData.keyHash P "__doc__"), (.str "__doc__" 166), .none⟩, ⟨(PySem.PyData.keyHash P "__package__"), (.str "__package__" 167), .none⟩, ⟨(PySem.PyData.keyHash P "__loader__"), (.str "__loader__" 168), (.builtin "__main__.__loader__#opaque")⟩, ⟨(PySem.PyData.keyHash P "__spec__"), (.str "__spec__" 169), .none⟩, ⟨(PySem.PyData.keyHash P "__annotations__"), (.str "__annotations__" 170), (.ref 6)⟩, ⟨(PySem.PyData.keyHash P "__builtins__"), (.str "__builtins__" 171), (.ref 4)⟩, ⟨(PySem.PyData.keyHash P "__file__"), (.str "__file__" 173), (.str "/claim/cut.py" 172)⟩, ⟨(PySem.PyData.keyHash P "__cached__"), (.str "__cached__" 174), .none⟩, ⟨(PySem.PyData.keyHash P "_DIV_LIMIT"), (.str "_DIV_LIMIT" 190), (.int 4000 189)⟩, ⟨(PySem.PyData.keyHash P "_div2n1n"), (.str "_div2n1n" 207), (.ref 21)⟩, ⟨(PySem.PyData.keyHash P "_div3n2n"), (.str "_div3n2n" 221), (.ref 28)⟩, ⟨(PySem.PyData.keyHash P "_int2digits"), (.str "_int2digits" 232), (.ref 35)⟩, ⟨(PySem.PyData.keyHash P "_digits2int"), (.str "_digits2int" 243), (.ref 42)⟩, ⟨(PySem.PyData.keyHash P "_divmod_pos"), (.str "_divmod_pos" 258), (.ref 49)⟩, ⟨(PySem.PyData.keyHash P "int_divmod"), (.str "int_divmod" 268), (.ref 56)⟩, ⟨(PySem.PyData.keyHash P "hsv_to_rgb"), (.str "hsv_to_rgb" 284), (.ref 63)⟩, ⟨(PySem.PyData.keyHash P "ENDMARKER"), (.str "ENDMARKER" 288), (.int 0 287)⟩, ⟨(PySem.PyData.keyHash P "LPAR"), (.str "LPAR" 290), (.int 7 289)⟩, ⟨(PySem.PyData.keyHash P "RPAR"), (.str "RPAR" 292), (.int 8 291)⟩, ⟨(PySem.PyData.keyHash P "LSQB"), (.str "LSQB" 294), (.int 9 293)⟩, ⟨(PySem.PyData.keyHash P "RSQB"), (.str "RSQB" 296), (.int 10 295)⟩, ⟨(PySem.PyData.keyHash P "COLON"), (.str "COLON" 298), (.int 11 297)⟩, ⟨(PySem.PyData.keyHash P "COMMA"), (.str "COMMA" 300), (.int 12 299)⟩, ⟨(PySem.PyData.keyHash P "SEMI"), (.str "SEMI" 302), (.int 13 301)⟩, ⟨(PySem.PyData.keyHash P "PLUS"), (.str "PLUS" 304), (.int 14 303)⟩, ⟨(PySem.PyData.keyHash P "MINUS"), (.str "MINUS" 306), (.int 15 305)⟩, ⟨(PySem.PyData.keyHash P "STAR"), (.str "STAR" 308), (.int 16 307)⟩, ⟨(PySem.PyData.keyHash P "SLASH"), (.str "SLASH" 310), (.int 17 309)⟩, ⟨(PySem.PyData.keyHash P "VBAR"), (.str "VBAR" 312), (.int 18 311)⟩, ⟨(PySem.PyData.keyHash P "AMPER"), (.str "AMPER" 314), (.int 19 313)⟩, ⟨(PySem.PyData.keyHash P "LESS"), (.str "LESS" 316), (.int 20 315)⟩, ⟨(PySem.PyData.keyHash P "GREATER"), (.str "GREATER" 318), (.int 21 317)⟩, ⟨(PySem.PyData.keyHash P "EQUAL"), (.str "EQUAL" 320), (.int 22 319)⟩, ⟨(PySem.PyData.keyHash P "DOT"), (.str "DOT" 322), (.int 23 321)⟩, ⟨(PySem.PyData.keyHash P "PERCENT"), (.str "PERCENT" 324), (.int 24 323)⟩, ⟨(PySem.PyData.keyHash P "LBRACE"), (.str "LBRACE" 326), (.int 25 325)⟩, ⟨(PySem.PyData.keyHash P "RBRACE"), (.str "RBRACE" 328), (.int 26 327)⟩, ⟨(PySem.PyData.keyHash P "EQEQUAL"), (.str "EQEQUAL" 330), (.int 27 329)⟩, ⟨(PySem.PyData.keyHash P "NOTEQUAL"), (.str "NOTEQUAL" 332), (.int 28 331)⟩, ⟨(PySem.PyData.keyHash P "LESSEQUAL"), (.str "LESSEQUAL" 334), (.int 29 333)⟩, ⟨(PySem.PyData.keyHash P "GREATEREQUAL"), (.str "GREATEREQUAL" 336), (.int 30 335)⟩, ⟨(PySem.PyData.keyHash P "TILDE"), (.str "TILDE" 338), (.int 31 337)⟩, ⟨(PySem.PyData.keyHash P "CIRCUMFLEX"), (.str "CIRCUMFLEX" 340), (.int 32 339)⟩, ⟨(PySem.PyData.keyHash P "LEFTSHIFT"), (.str "LEFTSHIFT" 342), (.int 33 341)⟩, ⟨(PySem.PyData.keyHash P "RIGHTSHIFT"), (.str "RIGHTSHIFT" 344), (.int 34 343)⟩, ⟨(PySem.PyData.keyHash P "DOUBLESTAR"), (.str "DOUBLESTAR" 346), (.int 35 345)⟩, ⟨(PySem.PyData.keyHash P "PLUSEQUAL"), (.str "PLUSEQUAL" 348), (.int 36 347)⟩, ⟨(PySem.PyData.keyHash P "MINEQUAL"), (.str "MINEQUAL" 350), (.int 37 349)⟩, ⟨(PySem.PyData.keyHash P "STAREQUAL"), (.str "STAREQUAL" 352), (.int 38 351)⟩, ⟨(PySem.PyData.keyHash P "SLASHEQUAL"), (.str "SLASHEQUAL" 354), (.int 39 353)⟩, ⟨(PySem.PyData.keyHash P "PERCENTEQUAL"), (.str "PERCENTEQUAL" 356), (.int 40 355)⟩, ⟨(PySem.PyData.keyHash P "AMPEREQUAL"), (.str "AMPEREQUAL" 358), (.int 41 357)⟩, ⟨(PySem.PyData.keyHash P "VBAREQUAL"), (.str "VBAREQUAL" 360), (.int 42 359)⟩, ⟨(PySem.PyData.keyHash P "CIRCUMFLEXEQUAL"), (.str "CIRCUMFLEXEQUAL" 362), (.int 43 361)⟩, ⟨(PySem.PyData.keyHash P "LEFTSHIFTEQUAL"), (.str "LEFTSHIFTEQUAL" 364), (.int 44 363)⟩, ⟨(PySem.PyData.keyHash P "RIGHTSHIFTEQUAL"), (.str "RIGHTSHIFTEQUAL" 366), (.int 45 365)⟩, ⟨(PySem.PyData.keyHash P "DOUBLESTAREQUAL"), (.str "DOUBLESTAREQUAL" 368), (.int 46 367)⟩, ⟨(PySem.PyData.keyHash P "DOUBLESLASH"), (.str "DOUBLESLASH" 370), (.int 47 369)⟩, ⟨(PySem.PyData.keyHash P "DOUBLESLASHEQUAL"), (.str "DOUBLESLASHEQUAL" 372), (.int 48 371)⟩, ⟨(PySem.PyData.keyHash P "AT"), (.str "AT" 374), (.int 49 373)⟩, ⟨(PySem.PyData.keyHash P "ATEQUAL"), (.str "ATEQUAL" 376), (.int 50 375)⟩, ⟨(PySem.PyData.keyHash P "RARROW"), (.str "RARROW" 378), (.int 51 377)⟩, ⟨(PySem.PyData.keyHash P "ELLIPSIS"), (.str "ELLIPSIS" 380), (.int 52 379)⟩, ⟨(PySem.PyData.keyHash P "COLONEQUAL"), (.str "COLONEQUAL" 382), (.int 53 381)⟩, ⟨(PySem.PyData.keyHash P "EXCLAMATION"), (.str "EXCLAMATION" 384), (.int 54 383)⟩, ⟨(PySem.PyData.keyHash P "EXACT_TOKEN_TYPES"), (.str "EXACT_TOKEN_TYPES" 481), (.ref 64)⟩, ⟨(PySem.PyData.keyHash P "ISEOF"), (.str "ISEOF" 488), (.ref 73)⟩, ⟨(PySem.PyData.keyHash P "_MOVE_COST"), (.str "_MOVE_COST" 492), (.int 2 491)⟩, ⟨(PySem.PyData.keyHash P "_CASE_COST"), (.str "_CASE_COST" 494), (.int 1 493)⟩, ⟨(PySem.PyData.keyHash P "_substitution_cost"), (.str "_substitution_cost" 502), (.ref 80)⟩, ⟨(PySem.PyData.keyHash P "_law_cells"), (.str "_law_cells" 514), (.ref 87)⟩, ⟨(PySem.PyData.keyHash P "_law_palette"), (.str "_law_palette" 520), (.ref 92)⟩, ⟨(PySem.PyData.keyHash P "_law_own_lights"), (.str "_law_own_lights" 526), (.ref 97)⟩, ⟨(PySem.PyData.keyHash P "_law_walks"), (.str "_law_walks" 532), (.ref 102)⟩, ⟨(PySem.PyData.keyHash P "_law_det"), (.str "_law_det" 543), (.ref 109)⟩, ⟨(PySem.PyData.keyHash P "_law_exchanged"), (.str "_law_exchanged" 554), (.ref 116)⟩, ⟨(PySem.PyData.keyHash P "_law_cramer"), (.str "_law_cramer" 560), (.ref 121)⟩, ⟨(PySem.PyData.keyHash P "_law_word"), (.str "_law_word" 566), (.ref 126)⟩, ⟨(PySem.PyData.keyHash P "_law_holds"), (.str "_law_holds" 572), (.ref 131)⟩, ⟨(PySem.PyData.keyHash P "law"), (.str "law" 578), (.ref 136)⟩] 81), #[]⟩ ::
(PySem.W.boot_o_4 P) ::
(PySem.W.boot_o_5 P) ::
(PySem.W.boot_o_6 P) ::
(PySem.W.boot_o_7 P) ::
(PySem.W.boot_o_8 P) ::
(PySem.W.boot_o_9 P) ::
(PySem.W.boot_o_10 P) ::
⟨(.type "tuple"), .none, (.seq #[] 0), #[]⟩ ::
⟨.none, .none, (.fields #[(.int 3 0), (.int 0 0), (.ref 20), (.int 19 0), (.int 0 0), (.ref 27), (.int 29 0), (.int 0 0), (.ref 34), (.int 45 0), (.int 0 0), (.ref 41), (.int 54 0), (.int 0 0), (.ref 48), (.int 65 0), (.int 0 0), (.ref 55), (.int 77 0), (.int 0 0), (.ref 62), (.int 149 0), (.int 0 0), (.ref 72), (.int 154 0), (.int 0 0), (.ref 79), (.int 161 0), (.int 0 0), (.ref 86), (.int 166 0), (.int 0 0), (.ref 91), (.int 180 0), (.int 0 0), (.ref 96), (.int 187 0), (.int 0 0), (.ref 101), (.int 199 0), (.int 0 0), (.ref 108), (.int 203 0), (.int 0 0), (.ref 115), (.int 208 0), (.int 0 0), (.ref 120), (.int 215 0), (.int 0 0), (.ref 125), (.int 217 0), (.int 0 0), (.ref 130), (.int 231 0), (.int 0 0), (.ref 135)]), #[]⟩ ::
⟨(.type "code"), .none, (.fields #[(.str "<module>" 182), (.str "<module>" 183), (.str "/claim/cut.py" 184), (.int 1 0), (.int 0 0), (.int 0 0), (.int 0 0), (.int 0 0), (.ref 11), (.bool .false), (.int 181 0), (.ref 12), .none, .none, .none, .none, (.int 185 0), (.int 1 0), (.str "/claim/cut.py" 186)]), #[]⟩ ::
⟨(.type "frame"), .none, .plain, #[(.some (.ref 13)), (.some (.ref 3)), (.some (.ref 3)), .none, (.some (.str "__main__" 164)), .none, (.some (.ref 0))]⟩ ::
⟨(.type "tuple"), .none, (.seq #[] 0), #[]⟩ ::
⟨.none, .none, (.fields #[]), #[]⟩ ::
⟨(.type "tuple"), .none, (.seq #[(.str "a" 194), (.str "b" 195), (.str "n" 196), (.str "pad" 197), (.str "half_n" 198), (.str "mask" 199), (.str "b1" 200), (.str "b2" 201), (.str "q1" 202), (.str "r" 203), (.str "q2" 204)] 0), #[]⟩ ::
⟨(.type "tuple"), .none, (.seq #[] 0), #[]⟩ ::
⟨.none, .none, (.func ⟨"_div2n1n", "_div2n1n", pdiv2n1n, (.stmts bdiv2n1n), cdiv2n1n, 0, [], .none, .none, .none, .none, .none, .none, .none, 0⟩), #[]⟩ ::
⟨(.type "code"), .none, (.fields #[(.str "_div2n1n" 191), (.str "_div2n1n" 192), (.str "/claim/cut.py" 193), (.int 3 0), (.int 3 0), (.int 0 0), (.int 0 0), (.int 3 0), (.ref 15), (.bool .true), (.int 181 0), (.ref 16), .none, (.ref 17), (.ref 18), (.ref 19), (.int 205 0), (.int 3 0), (.str "/claim/cut.py" 206)]), #[]⟩ ::
⟨(.type "function"), .none, (.func ⟨"_div2n1n", "_div2n1n", pdiv2n1n, (.stmts bdiv2n1n), cdiv2n1n, 3, [], .none, .none, .none, (.str "cpy313._pylong" 187), .none, (.ref 20), .none, 0⟩), #[]⟩ ::
⟨(.type "tuple"), .none, (.seq #[] 0), #[]⟩ ::
⟨.none, .none, (.fields #[]), #[]⟩ ::
⟨(.type "tuple"), .none, (.seq #[(.str "a12" 211), (.str "a3" 212), (.str "b" 213), (.str "b1" 214), (.str "b2" 215), (.str "n" 216), (.str "q" 217), (.str "r" 218)] 0), #[]⟩ ::
⟨(.type "tuple"), .none, (.seq #[] 0), #[]⟩ ::
⟨.none, .none, (.func ⟨"_div3n2n", "_div3n2n", pdiv3n2n, (.stmts bdiv3n2n), cdiv3n2n, 0, [], .none, .none, .none, .none, .none, .none, .none, 0⟩), #[]⟩ ::
⟨(.type "code"), .none, (.fields #[(.str "_div3n2n" 208), (.str "_div3n2n" 209), (.str "/claim/cut.py" 210), (.int 19 0), (.int 6 0), (.int 0 0), (.int 0 0), (.int 3 0), (.ref 22), (.bool .true), (.int 181 0), (.ref 23), .none, (.ref 24), (.ref 25), (.ref 26), (.int 219 0), (.int 19 0), (.str "/claim/cut.py" 220)]), #[]⟩ ::
⟨(.type "function"), .none, (.func ⟨"_div3n2n", "_div3n2n", pdiv3n2n, (.stmts bdiv3n2n), cdiv3n2n, 3, [], .none, .none, .none, (.str "cpy313._pylong" 187), .none, (.ref 27), .none, 0⟩), #[]⟩ ::
⟨(.type "tuple"), .none, (.seq #[] 0), #[]⟩ ::
⟨.none, .none, (.fields #[]), #[]⟩ ::
⟨(.type "tuple"), .none, (.seq #[(.str "a" 225), (.str "n" 226)] 0), #[]⟩ ::
⟨(.type "tuple"), .none, (.seq #[(.str "n" 227), (.str "a_digits" 228), (.str "inner" 229)] 0), #[]⟩ ::
⟨.none, .none, (.func ⟨"_int2digits", "_int2digits", pint2digits, (.stmts bint2digits), cint2digits, 0, [], .none, .none, .none, .none, .none, .none, .none, 0⟩), #[]⟩ ::
⟨(.type "code"), .none, (.fields #[(.str "_int2digits" 222), (.str "_int2digits" 223), (.str "/claim/cut.py" 224), (.int 29 0), (.int 2 0), (.int 0 0), (.int 0 0), (.int 3 0), (.ref 29), (.bool .true), (.int 181 0), (.ref 30), .none, (.ref 31), (.ref 32), (.ref 33), (.int 230 0), (.int 29 0), (.str "/claim/cut.py" 231)]), #[]⟩ ::
⟨(.type "function"), .none, (.func ⟨"_int2digits", "_int2digits", pint2digits, (.stmts bint2digits), cint2digits, 3, [], .none, .none, .none, (.str "cpy313._pylong" 187), .none, (.ref 34), .none, 0⟩), #[]⟩ ::
⟨(.type "tuple"), .none, (.seq #[] 0), #[]⟩ ::
⟨.none, .none, (.fields #[]), #[]⟩ ::
⟨(.type "tuple"), .none, (.seq #[(.str "digits" 236), (.str "n" 237)] 0), #[]⟩ ::
⟨(.type "tuple"), .none, (.seq #[(.str "digits" 238), (.str "n" 239), (.str "inner" 240)] 0), #[]⟩ ::
⟨.none, .none, (.func ⟨"_digits2int", "_digits2int", pdigits2int, (.stmts bdigits2int), cdigits2int, 0, [], .none, .none, .none, .none, .none, .none, .none, 0⟩), #[]⟩ ::
⟨(.type "code"), .none, (.fields #[(.str "_digits2int" 233), (.str "_digits2int" 234), (.str "/claim/cut.py" 235), (.int 45 0), (.int 2 0), (.int 0 0), (.int 0 0), (.int 3 0), (.ref 36), (.bool .true), (.int 181 0), (.ref 37), .none, (.ref 38), (.ref 39), (.ref 40), (.int 241 0), (.int 45 0), (.str "/claim/cut.py" 242)]), #[]⟩ ::
⟨(.type "function"), .none, (.func ⟨"_digits2int", "_digits2int", pdigits2int, (.stmts bdigits2int), cdigits2int, 3, [], .none, .none, .none, (.str "cpy313._pylong" 187), .none, (.ref 41), .none, 0⟩), #[]⟩ ::
⟨(.type "tuple"), .none, (.seq #[] 0), #[]⟩ ::
⟨.none, .none, (.fields #[]), #[]⟩ ::
⟨(.type "tuple"), .none, (.seq #[(.str "a" 247), (.str "b" 248), (.str "n" 249), (.str "a_digits" 250), (.str "r" 251), (.str "q_digits" 252), (.str "a_digit" 253), (.str "q_digit" 254), (.str "q" 255)] 0), #[]⟩ ::
⟨(.type "tuple"), .none, (.seq #[] 0), #[]⟩ ::
⟨.none, .none, (.func ⟨"_divmod_pos", "_divmod_pos", pdivmodpos, (.stmts bdivmodpos), cdivmodpos, 0, [], .none, .none, .none, .none, .none, .none, .none, 0⟩), #[]⟩ ::
⟨(.type "code"), .none, (.fields #[(.str "_divmod_pos" 244), (.str "_divmod_pos" 245), (.str "/claim/cut.py" 246), (.int 54 0), (.int 2 0), (.int 0 0), (.int 0 0), (.int 3 0), (.ref 43), (.bool .true), (.int 181 0), (.ref 44), .none, (.ref 45), (.ref 46), (.ref 47), (.int 256 0), (.int 54 0), (.str "/claim/cut.py" 257)]), #[]⟩ ::
⟨(.type "function"), .none, (.func ⟨"_divmod_pos", "_divmod_pos", pdivmodpos, (.stmts bdivmodpos), cdivmodpos, 3, [], .none, .none, .none, (.str "cpy313._pylong" 187), .none, (.ref 48), .none, 0⟩), #[]⟩ ::
⟨(.type "tuple"), .none, (.seq #[] 0), #[]⟩ ::
⟨.none, .none, (.fields #[]), #[]⟩ ::
⟨(.type "tuple"), .none, (.seq #[(.str "a" 262), (.str "b" 263), (.str "q" 264), (.str "r" 265)] 0), #[]⟩ ::
⟨(.type "tuple"), .none, (.seq #[] 0), #[]⟩ ::
⟨.none, .none, (.func ⟨"int_divmod", "int_divmod", pintdivmod, (.stmts bintdivmod), cintdivmod, 0, [], .none, .none, .none, .none, .none, .none, .none, 0⟩), #[]⟩ ::
⟨(.type "code"), .none, (.fields #[(.str "int_divmod" 259), (.str "int_divmod" 260), (.str "/claim/cut.py" 261), (.int 65 0), (.int 2 0), (.int 0 0), (.int 0 0), (.int 3 0), (.ref 50), (.bool .true), (.int 181 0), (.ref 51), .none, (.ref 52), (.ref 53), (.ref 54), (.int 266 0), (.int 65 0), (.str "/claim/cut.py" 267)]), #[]⟩ ::
⟨(.type "function"), .none, (.func ⟨"int_divmod", "int_divmod", pintdivmod, (.stmts bintdivmod), cintdivmod, 3, [], .none, .none, .none, (.str "cpy313._pylong" 187), .none, (.ref 55), .none, 0⟩), #[]⟩ ::
⟨(.type "tuple"), .none, (.seq #[] 0), #[]⟩ ::
⟨.none, .none, (.fields #[]), #[]⟩ ::
⟨(.type "tuple"), .none, (.seq #[(.str "h" 274), (.str "s" 275), (.str "v" 276), (.str "i" 277), (.str "f" 278), (.str "p" 279), (.str "q" 280), (.str "t" 281)] 0), #[]⟩ ::
⟨(.type "tuple"), .none, (.seq #[] 0), #[]⟩ ::
⟨.none, .none, (.func ⟨"hsv_to_rgb", "hsv_to_rgb", phsvtorgb, (.stmts bhsvtorgb), chsvtorgb, 0, [], .none, .none, .none, .none, .none, .none, .none, 0⟩), #[]⟩ ::
⟨(.type "code"), .none, (.fields #[(.str "hsv_to_rgb" 271), (.str "hsv_to_rgb" 272), (.str "/claim/cut.py" 273), (.int 77 0), (.int 3 0), (.int 0 0), (.int 0 0), (.int 3 0), (.ref 57), (.bool .true), (.int 181 0), (.ref 58), .none, (.ref 59), (.ref 60), (.ref 61), (.int 282 0), (.int 77 0), (.str "/claim/cut.py" 283)]), #[]⟩ ::
⟨(.type "function"), .none, (.func ⟨"hsv_to_rgb", "hsv_to_rgb", phsvtorgb, (.stmts bhsvtorgb), chsvtorgb, 3, [], .none, .none, .none, (.str "cpy313.colorsys" 269), .none, (.ref 62), .none, 0⟩), #[]⟩ ::
⟨(.type "dict"), .none, (.dict #[⟨(PySem.PyData.keyHash P "!"), (.str "!" 385), (.int 54 383)⟩, ⟨(PySem.PyData.keyHash P "!="), (.str "!=" 387), (.int 28 331)⟩, ⟨(PySem.PyData.keyHash P "%"), (.str "%" 389), (.int 24 323)⟩, ⟨(PySem.PyData.keyHash P "%="), (.str "%=" 391), (.int 40 355)⟩, ⟨(PySem.PyData.keyHash P "&"), (.str "&" 393), (.int 19 313)⟩, ⟨(PySem.PyData.keyHash P "&="), (.str "&=" 395), (.int 41 357)⟩, ⟨(PySem.PyData.keyHash P "("), (.str "(" 397), (.int 7 289)⟩, ⟨(PySem.PyData.keyHash P ")"), (.str ")" 399), (.int 8 291)⟩, ⟨(PySem.PyData.keyHash P "*"), (.str "*" 401), (.int 16 307)⟩, ⟨(PySem.PyData.keyHash P "**"), (.str "**" 403), (.int 35 345)⟩, ⟨(PySem.PyData.keyHash P "**="), (.str "**=" 405), (.int 46 367)⟩, ⟨(PySem.PyData.keyHash P "*="), (.str "*=" 407), (.int 38 351)⟩, ⟨(PySem.PyData.keyHash P "+"), (.str "+" 409), (.int 14 303)⟩, ⟨(PySem.PyData.keyHash P "+="), (.str "+=" 411), (.int 36 347)⟩, ⟨(PySem.PyData.keyHash P ","), (.str "," 413), (.int 12 299)⟩, ⟨(PySem.PyData.keyHash P "-"), (.str "-" 415), (.int 15 305)⟩, ⟨(PySem.PyData.keyHash P "-="), (.str "-=" 417), (.int 37 349)⟩, ⟨(PySem.PyData.keyHash P "->"), (.str "->" 419), (.int 51 377)⟩, ⟨(PySem.PyData.keyHash P "."), (.str "." 421), (.int 23 321)⟩, ⟨(PySem.PyData.keyHash P "..."), (.str "..." 423), (.int 52 379)⟩, ⟨(PySem.PyData.keyHash P "/"), (.str "/" 425), (.int 17 309)⟩, ⟨(PySem.PyData.keyHash P "//"), (.str "//" 427), (.int 47 369)⟩, ⟨(PySem.PyData.keyHash P "//="), (.str "//=" 429), (.int 48 371)⟩, ⟨(PySem.PyData.keyHash P "/="), (.str "/=" 431), (.int 39 353)⟩, ⟨(PySem.PyData.keyHash P ":"), (.str ":" 433), (.int 11 297)⟩, ⟨(PySem.PyData.keyHash P ":="), (.str ":=" 435), (.int 53 381)⟩, ⟨(PySem.PyData.keyHash P ";"), (.str ";" 437), (.int 13 301)⟩, ⟨(PySem.PyData.keyHash P "<"), (.str "<" 439), (.int 20 315)⟩, ⟨(PySem.PyData.keyHash P "<<"), (.str "<<" 441), (.int 33 341)⟩, ⟨(PySem.PyData.keyHash P "<<="), (.str "<<=" 443), (.int 44 363)⟩, ⟨(PySem.PyData.keyHash P "<="), (.str "<=" 445), (.int 29 333)⟩, ⟨(PySem.PyData.keyHash P "="), (.str "=" 447), (.int 22 319)⟩, ⟨(PySem.PyData.keyHash P "=="), (.str "==" 449), (.int 27 329)⟩, ⟨(PySem.PyData.keyHash P ">"), (.str ">" 451), (.int 21 317)⟩, ⟨(PySem.PyData.keyHash P ">="), (.str ">=" 453), (.int 30 335)⟩, ⟨(PySem.PyData.keyHash P ">>"), (.str ">>" 454), (.int 34 343)⟩, ⟨(PySem.PyData.keyHash P ">>="), (.str ">>=" 455), (.int 45 365)⟩, ⟨(PySem.PyData.keyHash P "@"), (.str "@" 456), (.int 49 373)⟩, ⟨(PySem.PyData.keyHash P "@="), (.str "@=" 457), (.int 50 375)⟩, ⟨(PySem.PyData.keyHash P "["), (.str "[" 458), (.int 9 293)⟩, ⟨(PySem.PyData.keyHash P "]"), (.str "]" 459), (.int 10 295)⟩, ⟨(PySem.PyData.keyHash P "^"), (.str "^" 460), (.int 32 339)⟩, ⟨(PySem.PyData.keyHash P "^="), (.str "^=" 461), (.int 43 361)⟩, ⟨(PySem.PyData.keyHash P "{"), (.str "{" 462), (.int 25 325)⟩, ⟨(PySem.PyData.keyHash P "|"), (.str "|" 463), (.int 18 311)⟩, ⟨(PySem.PyData.keyHash P "|="), (.str "|=" 464), (.int 42 359)⟩, ⟨(PySem.PyData.keyHash P "}"), (.str "}" 465), (.int 26 327)⟩, ⟨(PySem.PyData.keyHash P "~"), (.str "~" 466), (.int 31 337)⟩] 48), #[]⟩ ::
⟨(.type "dict"), .none, (.dict #[⟨(PySem.PyData.keyHash P "->"), (.str "->" 419), (.int 51 377)⟩, ⟨(PySem.PyData.keyHash P "."), (.str "." 421), (.int 23 321)⟩, ⟨(PySem.PyData.keyHash P "..."), (.str "..." 423), (.int 52 379)⟩, ⟨(PySem.PyData.keyHash P "/"), (.str "/" 425), (.int 17 309)⟩, ⟨(PySem.PyData.keyHash P "//"), (.str "//" 427), (.int 47 369)⟩, ⟨(PySem.PyData.keyHash P "//="), (.str "//=" 429), (.int 48 371)⟩, ⟨(PySem.PyData.keyHash P "/="), (.str "/=" 431), (.int 39 353)⟩, ⟨(PySem.PyData.keyHash P ":"), (.str ":" 433), (.int 11 297)⟩, ⟨(PySem.PyData.keyHash P ":="), (.str ":=" 435), (.int 53 381)⟩, ⟨(PySem.PyData.keyHash P ";"), (.str ";" 437), (.int 13 301)⟩, ⟨(PySem.PyData.keyHash P "<"), (.str "<" 439), (.int 20 315)⟩, ⟨(PySem.PyData.keyHash P "<<"), (.str "<<" 441), (.int 33 341)⟩, ⟨(PySem.PyData.keyHash P "<<="), (.str "<<=" 443), (.int 44 363)⟩, ⟨(PySem.PyData.keyHash P "<="), (.str "<=" 445), (.int 29 333)⟩, ⟨(PySem.PyData.keyHash P "="), (.str "=" 447), (.int 22 319)⟩, ⟨(PySem.PyData.keyHash P "=="), (.str "==" 449), (.int 27 329)⟩, ⟨(PySem.PyData.keyHash P ">"), (.str ">" 451), (.int 21 317)⟩] 17), #[]⟩ ::
⟨(.type "dict"), .none, (.dict #[⟨(PySem.PyData.keyHash P ">="), (.str ">=" 453), (.int 30 335)⟩, ⟨(PySem.PyData.keyHash P ">>"), (.str ">>" 454), (.int 34 343)⟩, ⟨(PySem.PyData.keyHash P ">>="), (.str ">>=" 455), (.int 45 365)⟩, ⟨(PySem.PyData.keyHash P "@"), (.str "@" 456), (.int 49 373)⟩, ⟨(PySem.PyData.keyHash P "@="), (.str "@=" 457), (.int 50 375)⟩, ⟨(PySem.PyData.keyHash P "["), (.str "[" 458), (.int 9 293)⟩, ⟨(PySem.PyData.keyHash P "]"), (.str "]" 459), (.int 10 295)⟩, ⟨(PySem.PyData.keyHash P "^"), (.str "^" 460), (.int 32 339)⟩, ⟨(PySem.PyData.keyHash P "^="), (.str "^=" 461), (.int 43 361)⟩, ⟨(PySem.PyData.keyHash P "{"), (.str "{" 462), (.int 25 325)⟩, ⟨(PySem.PyData.keyHash P "|"), (.str "|" 463), (.int 18 311)⟩, ⟨(PySem.PyData.keyHash P "|="), (.str "|=" 464), (.int 42 359)⟩, ⟨(PySem.PyData.keyHash P "}"), (.str "}" 465), (.int 26 327)⟩, ⟨(PySem.PyData.keyHash P "~"), (.str "~" 466), (.int 31 337)⟩] 14), #[]⟩ ::
⟨(.type "tuple"), .none, (.seq #[] 0), #[]⟩ ::
⟨.none, .none, (.fields #[]), #[]⟩ ::
⟨(.type "tuple"), .none, (.seq #[(.str "x" 485)] 0), #[]⟩ ::
⟨(.type "tuple"), .none, (.seq #[] 0), #[]⟩ ::
⟨.none, .none, (.func ⟨"ISEOF", "ISEOF", pISEOF, (.stmts bISEOF), cISEOF, 0, [], .none, .none, .none, .none, .none, .none, .none, 0⟩), #[]⟩ ::
⟨(.type "code"), .none, (.fields #[(.str "ISEOF" 482), (.str "ISEOF" 483), (.str "/claim/cut.py" 484), (.int 149 0), (.int 1 0), (.int 0 0), (.int 0 0), (.int 3 0), (.ref 67), (.bool .true), (.int 181 0), (.ref 68), .none, (.ref 69), (.ref 70), (.ref 71), (.int 486 0), (.int 149 0), (.str "/claim/cut.py" 487)]), #[]⟩ ::
⟨(.type "function"), .none, (.func ⟨"ISEOF", "ISEOF", pISEOF, (.stmts bISEOF), cISEOF, 3, [], .none, .none, .none, (.str "cpy313.token" 285), .none, (.ref 72), .none, 0⟩), #[]⟩ ::
⟨(.type "tuple"), .none, (.seq #[] 0), #[]⟩ ::
⟨.none, .none, (.fields #[]), #[]⟩ ::
⟨(.type "tuple"), .none, (.seq #[(.str "ch_a" 498), (.str "ch_b" 499)] 0), #[]⟩ ::
⟨(.type "tuple"), .none, (.seq #[] 0), #[]⟩ ::
⟨.none, .none, (.func ⟨"_substitution_cost", "_substitution_cost", psubstitutioncost, (.stmts bsubstitutioncost), csubstitutioncost, 0, [], .none, .none, .none, .none, .none, .none, .none, 0⟩), #[]⟩ ::
⟨(.type "code"), .none, (.fields #[(.str "_substitution_cost" 495), (.str "_substitution_cost" 496), (.str "/claim/cut.py" 497), (.int 154 0), (.int 2 0), (.int 0 0), (.int 0 0), (.int 3 0), (.ref 74), (.bool .true), (.int 181 0), (.ref 75), .none, (.ref 76), (.ref 77), (.ref 78), (.int 500 0), (.int 154 0), (.str "/claim/cut.py" 501)]), #[]⟩ ::
⟨(.type "function"), .none, (.func ⟨"_substitution_cost", "_substitution_cost", psubstitutioncost, (.stmts bsubstitutioncost), csubstitutioncost, 3, [], .none, .none, .none, (.str "cpy313.traceback" 489), .none, (.ref 79), .none, 0⟩), #[]⟩ ::
⟨(.type "tuple"), .none, (.seq #[] 0), #[]⟩ ::
⟨.none, .none, (.fields #[]), #[]⟩ ::
⟨(.type "tuple"), .none, (.seq #[(.str "script" 508), (.str "cells" 509), (.str "k" 510), (.str "x" 511)] 0), #[]⟩ ::
⟨(.type "tuple"), .none, (.seq #[] 0), #[]⟩ ::
⟨.none, .none, (.func ⟨"_law_cells", "_law_cells", plawcells, (.stmts blawcells), clawcells, 0, [], .none, .none, .none, .none, .none, .none, .none, 0⟩), #[]⟩ ::
⟨(.type "code"), .none, (.fields #[(.str "_law_cells" 505), (.str "_law_cells" 506), (.str "/claim/cut.py" 507), (.int 161 0), (.int 1 0), (.int 0 0), (.int 0 0), (.int 3 0), (.ref 81), (.bool .true), (.int 181 0), (.ref 82), .none, (.ref 83), (.ref 84), (.ref 85), (.int 512 0), (.int 161 0), (.str "/claim/cut.py" 513)]), #[]⟩ ::
⟨(.type "function"), .none, (.func ⟨"_law_cells", "_law_cells", plawcells, (.stmts blawcells), clawcells, 3, [], .none, .none, .none, (.str "law_tl0028_01" 503), .none, (.ref 86), .none, 0⟩), #[]⟩ ::
⟨(.type "tuple"), .none, (.seq #[] 0), #[]⟩ ::
⟨.none, .none, (.fields #[]), #[]⟩ ::
⟨.none, .none, (.func ⟨"_law_palette", "_law_palette", plawpalette, (.stmts blawpalette), clawpalette, 0, [], .none, .none, .none, .none, .none, .none, .none, 0⟩), #[]⟩ ::
⟨(.type "code"), .none, (.fields #[(.str "_law_palette" 515), (.str "_law_palette" 516), (.str "/claim/cut.py" 517), (.int 166 0), (.int 2 0), (.int 0 0), (.int 0 0), (.int 3 0), (.ref 88), (.bool .true), (.int 181 0), (.ref 89), .none, .none, .none, (.ref 90), (.int 518 0), (.int 166 0), (.str "/claim/cut.py" 519)]), #[]⟩ ::
⟨(.type "function"), .none, (.func ⟨"_law_palette", "_law_palette", plawpalette, (.stmts blawpalette), clawpalette, 3, [], .none, .none, .none, (.str "law_tl0028_01" 503), .none, (.ref 91), .none, 0⟩), #[]⟩ ::
⟨(.type "tuple"), .none, (.seq #[] 0), #[]⟩ ::
⟨.none, .none, (.fields #[]), #[]⟩ ::
⟨.none, .none, (.func ⟨"_law_own_lights", "_law_own_lights", plawownlights, (.stmts blawownlights), clawownlights, 0, [], .none, .none, .none, .none, .none, .none, .none, 0⟩), #[]⟩ ::
⟨(.type "code"), .none, (.fields #[(.str "_law_own_lights" 521), (.str "_law_own_lights" 522), (.str "/claim/cut.py" 523), (.int 180 0), (.int 2 0), (.int 0 0), (.int 0 0), (.int 3 0), (.ref 93), (.bool .true), (.int 181 0), (.ref 94), .none, .none, .none, (.ref 95), (.int 524 0), (.int 180 0), (.str "/claim/cut.py" 525)]), #[]⟩ ::
⟨(.type "function"), .none, (.func ⟨"_law_own_lights", "_law_own_lights", plawownlights, (.stmts blawownlights), clawownlights, 3, [], .none, .none, .none, (.str "law_tl0028_01" 503), .none, (.ref 96), .none, 0⟩), #[]⟩ ::
⟨(.type "tuple"), .none, (.seq #[] 0), #[]⟩ ::
⟨.none, .none, (.fields #[]), #[]⟩ ::
⟨.none, .none, (.func ⟨"_law_walks", "_law_walks", plawwalks, (.stmts blawwalks), clawwalks, 0, [], .none, .none, .none, .none, .none, .none, .none, 0⟩), #[]⟩ ::
⟨(.type "code"), .none, (.fields #[(.str "_law_walks" 527), (.str "_law_walks" 528), (.str "/claim/cut.py" 529), (.int 187 0), (.int 5 0), (.int 0 0), (.int 0 0), (.int 3 0), (.ref 98), (.bool .true), (.int 181 0), (.ref 99), .none, .none, .none, (.ref 100), (.int 530 0), (.int 187 0), (.str "/claim/cut.py" 531)]), #[]⟩ ::
⟨(.type "function"), .none, (.func ⟨"_law_walks", "_law_walks", plawwalks, (.stmts blawwalks), clawwalks, 3, [], .none, .none, .none, (.str "law_tl0028_01" 503), .none, (.ref 101), .none, 0⟩), #[]⟩ ::
⟨(.type "tuple"), .none, (.seq #[] 0), #[]⟩ ::
⟨.none, .none, (.fields #[]), #[]⟩ ::
⟨(.type "tuple"), .none, (.seq #[(.str "a" 536), (.str "b" 537), (.str "c" 538), (.str "first" 539), (.str "second" 540)] 0), #[]⟩ ::
⟨(.type "tuple"), .none, (.seq #[] 0), #[]⟩ ::
⟨.none, .none, (.func ⟨"_law_det", "_law_det", plawdet, (.stmts blawdet), clawdet, 0, [], .none, .none, .none, .none, .none, .none, .none, 0⟩), #[]⟩ ::
⟨(.type "code"), .none, (.fields #[(.str "_law_det" 533), (.str "_law_det" 534), (.str "/claim/cut.py" 535), (.int 199 0), (.int 3 0), (.int 0 0), (.int 0 0), (.int 3 0), (.ref 103), (.bool .true), (.int 181 0), (.ref 104), .none, (.ref 105), (.ref 106), (.ref 107), (.int 541 0), (.int 199 0), (.str "/claim/cut.py" 542)]), #[]⟩ ::
⟨(.type "function"), .none, (.func ⟨"_law_det", "_law_det", plawdet, (.stmts blawdet), clawdet, 3, [], .none, .none, .none, (.str "law_tl0028_01" 503), .none, (.ref 108), .none, 0⟩), #[]⟩ ::
⟨(.type "tuple"), .none, (.seq #[] 0), #[]⟩ ::
⟨.none, .none, (.fields #[]), #[]⟩ ::
⟨(.type "tuple"), .none, (.seq #[(.str "lights" 547), (.str "gone" 548), (.str "new" 549), (.str "rows" 550), (.str "k" 551)] 0), #[]⟩ ::
⟨(.type "tuple"), .none, (.seq #[] 0), #[]⟩ ::
⟨.none, .none, (.func ⟨"_law_exchanged", "_law_exchanged", plawexchanged, (.stmts blawexchanged), clawexchanged, 0, [], .none, .none, .none, .none, .none, .none, .none, 0⟩), #[]⟩ ::
⟨(.type "code"), .none, (.fields #[(.str "_law_exchanged" 544), (.str "_law_exchanged" 545), (.str "/claim/cut.py" 546), (.int 203 0), (.int 3 0), (.int 0 0), (.int 0 0), (.int 3 0), (.ref 110), (.bool .true), (.int 181 0), (.ref 111), .none, (.ref 112), (.ref 113), (.ref 114), (.int 552 0), (.int 203 0), (.str "/claim/cut.py" 553)]), #[]⟩ ::
⟨(.type "function"), .none, (.func ⟨"_law_exchanged", "_law_exchanged", plawexchanged, (.stmts blawexchanged), clawexchanged, 3, [], .none, .none, .none, (.str "law_tl0028_01" 503), .none, (.ref 115), .none, 0⟩), #[]⟩ ::
⟨(.type "tuple"), .none, (.seq #[] 0), #[]⟩ ::
⟨.none, .none, (.fields #[]), #[]⟩ ::
⟨.none, .none, (.func ⟨"_law_cramer", "_law_cramer", plawcramer, (.stmts blawcramer), clawcramer, 0, [], .none, .none, .none, .none, .none, .none, .none, 0⟩), #[]⟩ ::
⟨(.type "code"), .none, (.fields #[(.str "_law_cramer" 555), (.str "_law_cramer" 556), (.str "/claim/cut.py" 557), (.int 208 0), (.int 3 0), (.int 0 0), (.int 0 0), (.int 3 0), (.ref 117), (.bool .true), (.int 181 0), (.ref 118), .none, .none, .none, (.ref 119), (.int 558 0), (.int 208 0), (.str "/claim/cut.py" 559)]), #[]⟩ ::
⟨(.type "function"), .none, (.func ⟨"_law_cramer", "_law_cramer", plawcramer, (.stmts blawcramer), clawcramer, 3, [], .none, .none, .none, (.str "law_tl0028_01" 503), .none, (.ref 120), .none, 0⟩), #[]⟩ ::
⟨(.type "tuple"), .none, (.seq #[] 0), #[]⟩ ::
⟨.none, .none, (.fields #[]), #[]⟩ ::
⟨.none, .none, (.func ⟨"_law_word", "_law_word", plawword, (.stmts blawword), clawword, 0, [], .none, .none, .none, .none, .none, .none, .none, 0⟩), #[]⟩ ::
⟨(.type "code"), .none, (.fields #[(.str "_law_word" 561), (.str "_law_word" 562), (.str "/claim/cut.py" 563), (.int 215 0), (.int 2 0), (.int 0 0), (.int 0 0), (.int 3 0), (.ref 122), (.bool .true), (.int 181 0), (.ref 123), .none, .none, .none, (.ref 124), (.int 564 0), (.int 215 0), (.str "/claim/cut.py" 565)]), #[]⟩ ::
⟨(.type "function"), .none, (.func ⟨"_law_word", "_law_word", plawword, (.stmts blawword), clawword, 3, [], .none, .none, .none, (.str "law_tl0028_01" 503), .none, (.ref 125), .none, 0⟩), #[]⟩ ::
⟨(.type "tuple"), .none, (.seq #[] 0), #[]⟩ ::
⟨.none, .none, (.fields #[]), #[]⟩ ::
⟨.none, .none, (.func ⟨"_law_holds", "_law_holds", plawholds, (.stmts blawholds), clawholds, 0, [], .none, .none, .none, .none, .none, .none, .none, 0⟩), #[]⟩ ::
⟨(.type "code"), .none, (.fields #[(.str "_law_holds" 567), (.str "_law_holds" 568), (.str "/claim/cut.py" 569), (.int 217 0), (.int 4 0), (.int 0 0), (.int 0 0), (.int 3 0), (.ref 127), (.bool .true), (.int 181 0), (.ref 128), .none, .none, .none, (.ref 129), (.int 570 0), (.int 217 0), (.str "/claim/cut.py" 571)]), #[]⟩ ::
⟨(.type "function"), .none, (.func ⟨"_law_holds", "_law_holds", plawholds, (.stmts blawholds), clawholds, 3, [], .none, .none, .none, (.str "law_tl0028_01" 503), .none, (.ref 130), .none, 0⟩), #[]⟩ ::
⟨(.type "tuple"), .none, (.seq #[] 0), #[]⟩ ::
⟨.none, .none, (.fields #[]), #[]⟩ ::
⟨.none, .none, (.func ⟨"law", "law", plaw, (.stmts blaw), claw, 0, [], .none, .none, .none, .none, .none, .none, .none, 0⟩), #[]⟩ ::
⟨(.type "code"), .none, (.fields #[(.str "law" 573), (.str "law" 574), (.str "/claim/cut.py" 575), (.int 231 0), (.int 1 0), (.int 0 0), (.int 0 0), (.int 3 0), (.ref 132), (.bool .true), (.int 181 0), (.ref 133), .none, .none, .none, (.ref 134), (.int 576 0), (.int 231 0), (.str "/claim/cut.py" 577)]), #[]⟩ ::
⟨(.type "function"), .none, (.func ⟨"law", "law", plaw, (.stmts blaw), claw, 3, [], .none, .none, .none, (.str "law_tl0028_01" 503), .none, (.ref 135), .none, 0⟩), #[]⟩ :: []), ⟨[], [], [], 0, [], [], .false, #[], [], 0, .false, .false, .false, 0, [2000, 10, 10], .false, 0, .true, [], [], 0, .false⟩⟩ : Heap)) rfl
noncomputable abbrev Hk : Hook := kmHook hd.heap_39 asL (fun _ => by kernel_rfl) [37, 30]
abbrev dr1 : Drawn := ⟨0, 0, 0, 0⟩
abbrev RunP (w : World) : Prop := ∀ os : OsState, topRun treeTable pE w 11 (some (.ref 6)) 2100 ⟨boot_heap w.params, Array.mk [], boot_drawn, boot_toks, os⟩ (topStub pE) = some ⟨H1 w.params, Array.mk [], dr1, 579, os⟩
theorem run_f (w : World) : RunP (w.withFollow "special-get-raises" false) := fun os => by kernel_rfl
theorem run_t (w : World) : RunP (w.withFollow "special-get-raises" true) := fun os => by kernel_rfl
theorem run_p (w : World) : RunP w := byRow2 "special-get-raises" (P := RunP) run_f run_t w
abbrev Xt1 : Shared → Bool := fun s => xlAt qv [] s && recOk (RowW.records PySem.Challenge.rw_tl0028_01.row.toRowW) s
theorem look_1 (w : World) (os : OsState) : (staticsOk (importedModules pE.main.body) (boot_heap w.params) (H1 w.params) && namesBound pE (H1 w.params) && gensDone ⟨H1 w.params, Array.mk [], dr1, 579, os⟩ && laidKept (boot_heap w.params) (H1 w.params)) = true := by kernel_rfl
theorem pr2 {α β : Type} {a a' : α} {b b' : β} (h : a = a') (k : b = b') : (a, b) = (a', b') := by rw [h, k]
theorem lA (w : World) (os : OsState) : (fun s : Shared => seen ((recsOf qv).map (·.name)) (ownsOf qv) [] { s with gens := #[] }) ⟨H1 w.params, Array.mk [], dr1, 579, os⟩ = expectedOf qv := by kernel_rfl
theorem lB (w : World) (os : OsState) : (fun s : Shared => s.heap.bltView) ⟨H1 w.params, Array.mk [], dr1, 579, os⟩ = bltViewBooted := by kernel_rfl
theorem lC (w : World) (os : OsState) : (fun s : Shared => s.heap.keysOk (looseW qv lo) ((recsOf qv).map (·.name)) ((litsOf qv).map (·.1)) ((clssOf qv (looseW qv lo)).map (·.name))) ⟨H1 w.params, Array.mk [], dr1, 579, os⟩ = true := by kernel_rfl
theorem lC2 (w : World) (os : OsState) : (fun s : Shared => s.heap.accountedOkI (importedModules pE.main.body)) ⟨H1 w.params, Array.mk [], dr1, 579, os⟩ = true := by kernel_rfl
theorem lC3 (w : World) (os : OsState) : (fun s : Shared => s.heap.isNs mainGlobals) ⟨H1 w.params, Array.mk [], dr1, 579, os⟩ = true := by kernel_rfl
theorem lC4 (w : World) (os : OsState) : (fun s : Shared => s.heap.isNs builtinsNs) ⟨H1 w.params, Array.mk [], dr1, 579, os⟩ = true := by kernel_rfl
theorem lD (w : World) (os : OsState) : (fun s : Shared => tablesOk qv s.heap) ⟨H1 w.params, Array.mk [], dr1, 579, os⟩ = true := by kernel_rfl
theorem lX (w : World) (os : OsState) : (fun s : Shared => Xt1 s) ⟨H1 w.params, Array.mk [], dr1, 579, os⟩ = true := by kernel_rfl
theorem lG (w : World) (os : OsState) : (fun s : Shared => (if true then s.gens.size == 0 else !leftWithCleanup s.gens)) ⟨H1 w.params, Array.mk [], dr1, 579, os⟩ = true := by kernel_rfl
theorem lE (w : World) (os : OsState) : (fun s : Shared => tabsOk qv s) ⟨H1 w.params, Array.mk [], dr1, 579, os⟩ = true := by kernel_rfl
theorem lF (w : World) (os : OsState) : (fun s : Shared => pinSeenD qv (drecsOf qv) s) ⟨H1 w.params, Array.mk [], dr1, 579, os⟩ = pinGoodD (drecsOf qv) := by kernel_rfl
theorem lP (w : World) (os : OsState) : (fun s : Shared => plainSeenE qv (looseW qv lo) s) ⟨H1 w.params, Array.mk [], dr1, 579, os⟩ = plainGoodE qv (looseW qv lo) := by kernel_rfl
theorem lQ (w : World) (os : OsState) : (fun s : Shared => plainSeenD qv lo s) ⟨H1 w.params, Array.mk [], dr1, 579, os⟩ = plainGoodD qv lo := by kernel_rfl
theorem lI (w : World) (os : OsState) : (fun s : Shared => wideSeen qv s) ⟨H1 w.params, Array.mk [], dr1, 579, os⟩ = wideGood qv := by kernel_rfl
theorem lJ (w : World) (os : OsState) : (fun s : Shared => clsSeenW qv lo s) ⟨H1 w.params, Array.mk [], dr1, 579, os⟩ = clsGoodW qv lo := by kernel_rfl
theorem look_2 (w : World) (os : OsState) : openSeen qv lo (importedModules pE.main.body) Xt1 true ⟨H1 w.params, Array.mk [], dr1, 579, os⟩ = openGood qv lo :=
  pr2 (lA w os) (pr2 (lB w os) (pr2 (look_both (look_both (look_both (look_both (look_both (look_both (lC w os) (lC2 w os)) (lC3 w os)) (lC4 w os)) (lD w os)) (lX w os)) (lG w os)) (pr2 (lE w os) (pr2 (lF w os) (pr2 (lP w os) (pr2 (lQ w os) (pr2 (lI w os) (lJ w os))))))))
theorem look_3 (w : World) (os : OsState) : Hk.obs ⟨H1 w.params, Array.mk [], dr1, 579, os⟩ = Hk.val w := by kernel_rfl
theorem left_p : LeftO pE qv lo Xt1 Hk.obs Hk.val 4278 := LeftO.of_pieces (H₀ := boot_heap) (H₁ := H1) (gs₀ := Array.mk []) (gs₁ := Array.mk []) (d₀ := boot_drawn) (d₁ := dr1) (k₀ := boot_toks) (k₁ := 579) (M := 2100)
  (boot_open open_p (by decide) fence_p) (fun w => by rw [show ((boot_heap w.params).isNs mainGlobals && (Array.mk [] : Array GenState).size == 0) = (boot_heap w.params).isNs mainGlobals from Bool.and_true _]; exact size_p w) run_p (by decide)
  (fun w => funext fun os => by rw [look_1 w os, look_2 w os, look_3 w os])
theorem said : OpenLaw.wellSaid PySem.Challenge.rw_tl0028_01 = true := by
  unfold OpenLaw.wellSaid
  repeat' (with_reducible refine look_both ?_ ?_)
  all_goals first | (unfold OpenRow.wellSaid; repeat' (with_reducible refine look_both ?_ ?_)) | skip
  all_goals decide +kernel
set_option maxHeartbeats 8000000 in
noncomputable def lawD : DefRec := (fun {p : Arguments} {b : List Stmt} {c : Scope} (_ : bodyAt 76 = (p, b, c)) => (⟨"law", p, b, c, ⟨231, 0, 237, 93⟩⟩ : DefRec)) rfl
theorem defL : defOf qv PySem.Challenge.rw_tl0028_01.row.name = some (lawD, []) := by kernel_rfl
theorem hd (walk : WalkO qv lo (XL qv []) (kmHook hd.heap_39 asL (fun _ => by kernel_rfl) [37, 30]).says PySem.Challenge.rw_tl0028_01.row.toRowW lawD [] fun f vs => PySem.call f vs) : PySem.Challenge.rw_tl0028_01.Holds :=
  holds_law said fun s => holds_open (q := qv) (loose := lo) (Xt := fun s => xlAt qv [] s && recOk (RowW.records PySem.Challenge.rw_tl0028_01.row.toRowW) s) (XP := XL qv []) (Yf := Hk.obs) (Ya := Hk.val) (YP := Hk.says) (N := 4278) left_p Hk.of Hk.keeps
    (fun s e => xl_of s (Bool.and_eq_true_iff.mp e).1) XL.keeps defL (by kernel_rfl) (by kernel_rfl) (fun s e => recFacts_of (Bool.and_eq_true_iff.mp e).2) (by rfl) s (by decide +kernel) ⟨rfl, rfl, rfl, rfl, rfl, by decide +kernel⟩ ⟨[WData.list []], by decide +kernel, by decide +kernel⟩ walk
end Mine
end
section
open PySem PySem.Spec PySem.Calls PySem.W PyProof.Rows
set_option maxRecDepth 100000
namespace Mine

theorem stays_fr {h₀ h h' : Heap} {L : Addr} {m : Str → Option Value} (F : Fr h₀ L h m) (st : h.StaysIn h') : Fr h₀ L h' m := by
  obtain ⟨oL, es, ep, hL, hLd, hLk, hLf⟩ := F.ns
  exact ⟨⟨oL, es, ep, st L oL hL, hLd, hLk, hLf⟩, fun b o e => st b o (F.keep b o e), F.above⟩
theorem stays_news {h₀ h h' : Heap} {L : Addr} {news : List (Addr × Obj)} (N : News h₀ L h news) (st : h.StaysIn h') : News h₀ L h' news :=
  fun p hp => ⟨st _ _ (N p hp).1, (N p hp).2⟩
/-- a thing that the callee has made goes onto the caller's ledger -/
theorem news_up {h₀ h h' : Heap} {L L' : Addr} {m : Str → Option Value} {news own : List (Addr × Obj)} (F : Fr h₀ L h m) (N : News h₀ L h news) (st : h.StaysIn h') (N' : News h L' h' own) : News h₀ L h' (own ++ news) := by
  intro p hp
  rcases List.mem_append.mp hp with hp | hp
  · refine ⟨(N' p hp).1, fun q => ?_, ?_⟩
    · obtain ⟨oL, es, ep, hL, _⟩ := F.ns
      have := (N' p hp).2.2
      rw [q, hL] at this; cases this
    · cases q : h₀.get? p.1 with
      | none => rfl
      | some o =>
        have := (N' p hp).2.2
        rw [F.keep _ _ q] at this; cases this
  · exact stays_news N st p hp

section
variable {prog : Program} {w : World} {A₀ A : Around} {s : Shared} {base h₀ : Heap} {outer : List Env} {L : Addr} {m : Str → Option Value} {env : Env}
  {R : Result → Shared → Prop} {name qual : Str} {params : Arguments} {body : List Stmt} {scope : Scope} {cl : List (Str × Addr)} {dV kV doc pm cdv ct oc : Value} {an od : Option Addr} {osl : Array (Option Value)} {fo : Obj} {f : Addr} {args : Args} {binds : List (Str × Value)}
  {K : Frag} {p : Program} {loose : List Str} {mean : ExcName → Option Value} {mg mb : Str → Option Value}

theorem leaveR {R : Result → Shared → Prop} {v : Value} {s' : Shared} (F : Fr h₀ L s.heap m) (h : LeaveK h₀ L m s.heap R v s') : R (.ok (.ret v)) s' := by
  obtain ⟨L', m', news', F', N', k⟩ := h
  refine k (stays_fr F F'.keep) ?_
  have := news_up F (News.nil (L := L) (h₀ := h₀) (h := s.heap)) F'.keep N'
  rwa [List.append_nil] at this

/-- a def is entered, the whole heap its base -/
theorem enterR (B : Below A₀ base outer h₀) (F : Fr h₀ L s.heap m) (X₀ : K.In h₀) (T : Top p loose mean mg mb h₀) (hA : A.frames = some (env :: outer)) (hf : env.frame = some L) (hke : env.scope.kind = .function)
    (ho : K.lookup f = some ⟨oc, od, .func (fnOf name qual params body scope dV kV doc pm an cdv ct), osl⟩) (hcd : codeIn K cdv qual = true) (hroom : A.depth < recursionLimit)
    (hbind : BindsTo s (fnOf name qual params body scope dV kV doc pm an cdv ct) args binds) (hloc : ∀ y ∈ binds, scope.names.lookup y.1 = some .local)
    (h : ∀ L' h₁, Fr h₀ L s.heap m → Fr s.heap L' h₁ (fun y => binds.reverse.lookup y) → News s.heap L' h₁ [] → Below A base (env :: outer) s.heap → K.In s.heap → Top p loose mean mg mb s.heap →
      wpAny (model prog w) (A.deeper (envOf qual scope L' f cdv)) (execs body (envOf qual scope L' f cdv))
        (fun fl s' => LeaveK h₀ L m s.heap R (match fl with | .ret v => v | _ => .none) s')
        (fun e s' => wpAny (model prog w) (A.deeper (envOf qual scope L' f cdv)) (leaving (envOf qual scope L' f cdv) e) (fun _ s'' => R (.error e) s'') (fun e' s'' => R (.error e') s'') s')
        { s with heap := h₁, toks := s.toks + binds.length })
    (hco : scope.isCoroutine = false) (hgen : scope.isGenerator = false) (hk : scope.kind = .function)
    (hcell : ∀ x ∈ scope.names, x.2 ≠ .cell) : codeAny (model prog w) A (.call (.ref f) args) R s := by
  refine codeAny_call_def (fd := fnOf name qual params body scope dV kV doc pm an cdv ct) (body := body) (binds := binds) hroom ((X₀.keeps F.keep) _ _ ho) rfl (T.nolimit.keeps F.keep) (codeRec_of (X₀.keeps F.keep) hcd) rfl hbind hcell hloc (fun h₁ hns hk₁ => ?_) hco hgen hk
  have B₁ : Below (A₀.deeper env) base (env :: outer) s.heap := pushX B F hf hke
  exact wpAny_mono (h s.heap.objs.size h₁ F ⟨hns, hk₁, Nat.le_refl _⟩ News.nil ⟨hA, B₁.stays, B₁.frames⟩ (X₀.keeps F.keep) (T.keeps F.keep)) (fun fl s' hl => leaveR F hl) fun _ _ y => y

theorem enterRC (B : Below A₀ base outer h₀) (F : Fr h₀ L s.heap m) (X₀ : K.In h₀) (T : Top p loose mean mg mb h₀) (hA : A.frames = some (env :: outer)) (hf : env.frame = some L) (hke : env.scope.kind = .function)
    (ho : K.lookup f = some ⟨oc, od, .func (fnOf name qual params body scope dV kV doc pm an cdv ct), osl⟩) (hcd : codeIn K cdv qual = true) (hroom : A.depth < recursionLimit)
    (hbind : BindsTo s (fnOf name qual params body scope dV kV doc pm an cdv ct) args binds) (hkind : (binds.all fun y => scope.names.lookup y.1 == some .local || scope.names.lookup y.1 == some .cell) = true)
    (hnd : ((cellsFrom 0 scope.names []).map (·.1)).Nodup)
    (h : ∀ L' h₁ tk cells, Fr h₀ L s.heap m → Fr s.heap L' h₁ (bindL (envOfC qual scope L' f cdv).kindOf binds fun _ => none) → News s.heap L' h₁ cells →
      CellsAre (bindC (envOfC qual scope L' f cdv).kindOf binds fun _ => none) (cellsFrom (L' + 1) scope.names []) cells → Below A base (env :: outer) s.heap → K.In s.heap → Top p loose mean mg mb s.heap →
      wpAny (model prog w) (A.deeper (envOfC qual scope L' f cdv)) (execs body (envOfC qual scope L' f cdv))
        (fun fl s' => LeaveK h₀ L m s.heap R (match fl with | .ret v => v | _ => .none) s')
        (fun e s' => wpAny (model prog w) (A.deeper (envOfC qual scope L' f cdv)) (leaving (envOfC qual scope L' f cdv) e) (fun _ s'' => R (.error e) s'') (fun e' s'' => R (.error e') s'') s')
        { s with heap := h₁, toks := tk })
    (hco : scope.isCoroutine = false) (hgen : scope.isGenerator = false) (hk : scope.kind = .function) : codeAny (model prog w) A (.call (.ref f) args) R s := by
  refine codeAny_call_function (fd := fnOf name qual params body scope dV kV doc pm an cdv ct) hroom ((X₀.keeps F.keep) _ _ ho) rfl hco hgen rfl (codeRec_of (X₀.keeps F.keep) hcd) (hbind _ _ _ _ ?_)
  refine wpAny_newFunctionEnv_cells hk (kindsX hkind _) fun env' he s' x => ?_
  subst he
  refine ⟨(T.nolimit.keeps F.keep).keeps x.toInCall.keep, codeAny_func ?_⟩
  obtain ⟨h₁, tk, rfl, _⟩ := x.done
  have hk₁ := x.toInCall.keep
  have B₁ : Below (A₀.deeper env) base (env :: outer) s.heap := pushX B F hf hke
  obtain ⟨cells, NC, Y⟩ := Cl.news (h₀ := s.heap) (Nat.le_refl _) fun n c hm => ⟨x.cell n c (lookup_of_mem_nodup (cellsFrom_names scope.names 0 (s.heap.objs.size + 1) [] [] rfl ▸ hnd) hm), x.above n c hm⟩
  exact wpAny_mono (h s.heap.objs.size h₁ tk cells F ⟨x.toInCall.ns, hk₁, Nat.le_refl _⟩ NC Y ⟨hA, B₁.stays, B₁.frames⟩ (X₀.keeps F.keep) (T.keeps F.keep)) (fun fl s' hl => leaveR F hl) fun _ _ y => y
end
end Mine
end
section
open PySem PySem.Spec PySem.Calls PySem.W PyProof.Rows
set_option maxRecDepth 100000
namespace Mine
section
variable {prog : Program} {w : World} {A₀ A : Around} {s : Shared} {base h₀ : Heap} {outer : List Env} {L : Addr} {m : Str → Option Value} {env : Env}
  {R : Result → Shared → Prop} {name qual : Str} {params : Arguments} {body : List Stmt} {scope : Scope} {cl : List (Str × Addr)} {dV kV doc pm cdv ct oc : Value} {an od : Option Addr} {osl : Array (Option Value)} {fo : Obj} {f : Addr} {args : Args} {binds : List (Str × Value)}
  {K : Frag} {p : Program} {loose : List Str} {mean : ExcName → Option Value} {mg mb : Str → Option Value}

theorem enterRL (B : Below A₀ base outer h₀) (F : Fr h₀ L s.heap m) (X₀ : K.In h₀) (T : Top p loose mean mg mb h₀) (hA : A.frames = some (env :: outer)) (hf : env.frame = some L) (hke : env.scope.kind = .function)
    (ho : K.lookup f = some ⟨oc, od, .func (fnOf name qual params body scope dV kV doc pm an cdv ct), osl⟩) (hcd : codeIn K cdv qual = true) (hroom : A.depth < recursionLimit)
    (hbind : BindsTo s (fnOf name qual params body scope dV kV doc pm an cdv ct) args binds) (hloc : ∀ y ∈ binds, scope.names.lookup y.1 = some .local)
    (h : ∀ L' h₁ tk, Fr h₀ L s.heap m → let env' := envOf qual scope L' f cdv; let A' := A.deeper env'; let M' : Str → Option Value := fun y => binds.reverse.lookup y; Fr s.heap L' h₁ M' → News s.heap L' h₁ [] → Below A base (env :: outer) s.heap → K.In s.heap → Top p loose mean mg mb s.heap →
      wpAny (model prog w) A' (execs body env')
        (fun fl s' => LeaveK h₀ L m s.heap R (match fl with | .ret v => v | _ => .none) s')
        (fun e s' => wpAny (model prog w) A' (leaving env' e) (fun _ s'' => R (.error e) s'') (fun e' s'' => R (.error e') s'') s')
        ⟨h₁, s.gens, s.drawn, tk, s.os⟩)
    (hco : scope.isCoroutine = false) (hgen : scope.isGenerator = false) (hk : scope.kind = .function)
    (hcell : ∀ x ∈ scope.names, x.2 ≠ .cell) : codeAny (model prog w) A (.call (.ref f) args) R s :=
  enterR B F X₀ T hA hf hke ho hcd hroom hbind hloc (fun L' h₁ => h L' h₁ _) hco hgen hk hcell

theorem enterRCL (B : Below A₀ base outer h₀) (F : Fr h₀ L s.heap m) (X₀ : K.In h₀) (T : Top p loose mean mg mb h₀) (hA : A.frames = some (env :: outer)) (hf : env.frame = some L) (hke : env.scope.kind = .function)
    (ho : K.lookup f = some ⟨oc, od, .func (fnOf name qual params body scope dV kV doc pm an cdv ct), osl⟩) (hcd : codeIn K cdv qual = true) (hroom : A.depth < recursionLimit)
    (hbind : BindsTo s (fnOf name qual params body scope dV kV doc pm an cdv ct) args binds) (hkind : (binds.all fun y => scope.names.lookup y.1 == some .local || scope.names.lookup y.1 == some .cell) = true)
    (hnd : ((cellsFrom 0 scope.names []).map (·.1)).Nodup)
    (h : ∀ L' h₁ tk cells, Fr h₀ L s.heap m → let env' := envOfC qual scope L' f cdv; let A' := A.deeper env'; let M' : Str → Option Value := bindL env'.kindOf binds fun _ => none; Fr s.heap L' h₁ M' → News s.heap L' h₁ cells →
      CellsAre (bindC env'.kindOf binds fun _ => none) (cellsFrom (L' + 1) scope.names []) cells → Below A base (env :: outer) s.heap → K.In s.heap → Top p loose mean mg mb s.heap →
      wpAny (model prog w) A' (execs body env')
        (fun fl s' => LeaveK h₀ L m s.heap R (match fl with | .ret v => v | _ => .none) s')
        (fun e s' => wpAny (model prog w) A' (leaving env' e) (fun _ s'' => R (.error e) s'') (fun e' s'' => R (.error e') s'') s')
        ⟨h₁, s.gens, s.drawn, tk, s.os⟩)
    (hco : scope.isCoroutine = false) (hgen : scope.isGenerator = false) (hk : scope.kind = .function) : codeAny (model prog w) A (.call (.ref f) args) R s :=
  enterRC B F X₀ T hA hf hke ho hcd hroom hbind hkind hnd (fun L' h₁ tk cells => h L' h₁ tk cells) hco hgen hk
theorem letS {prog : Program} {w : World} {α : Type} {A : Around} {c : Sem α} {Q : α → Shared → Prop} {E : Value → Shared → Prop} {s : Shared} (h : let s9 := s; wpAny (model prog w) A c Q E s9) : wpAny (model prog w) A c Q E s := h
theorem letEnv {prog : Program} {w : World} {A₁ : Around} {env : Env} {body : List Stmt} {Q : Flow → Shared → Prop} {E : Value → Shared → Prop} {s : Shared}
    (h : let e' := env; let A' := A₁.deeper e'; wpAny (model prog w) A' (execs body e') Q E s) : wpAny (model prog w) (A₁.deeper env) (execs body env) Q E s := h
theorem letM {h₀ h : Heap} {L : Addr} {m : Str → Option Value} {P : Prop} (F : Fr h₀ L h m) (k : let M' := m; Fr h₀ L h M' → P) : P := k F
end
theorem ltA {a b : Nat} {r : Prop} (h : a < b ∧ r) : a ≠ b := Nat.ne_of_lt h.1
theorem gtA {a b : Nat} {r : Prop} (h : b < a ∧ r) : a ≠ b := Nat.ne_of_gt h.1
theorem neS {a b : Nat} (h : b ≠ a) : a ≠ b := fun e => h e.symm
theorem neA {a b : Nat} {r : Prop} (h : a ≠ b ∧ r) : a ≠ b := h.1
theorem neB {a b : Nat} {r : Prop} (h : b ≠ a ∧ r) : a ≠ b := fun e => h.1 e.symm
theorem neP1 {a : Nat} : a ≠ a + 1 := Nat.ne_of_lt (Nat.lt_succ_self _)
theorem neP2 {a : Nat} : a ≠ a + 1 + 1 := Nat.ne_of_lt (Nat.lt_succ_of_lt (Nat.lt_succ_self _))
theorem letP {P : Prop} (h : let P' := P; P') : P := h
section
variable {prog : Program} {w : World} {A A₀ : Around} {s : Shared} {K : Frag} {L : Addr} {h₀ base : Heap} {m mg mb : Str → Option Value} {news : List (Addr × Obj)} {p : Program} {loose : List Str} {mean : ExcName → Option Value}
  {env : Env} {outer : List Env} {R : Result → Shared → Prop} {name qual : Str} {params : Arguments} {body : List Stmt} {scope : Scope} {dV kV doc pm cdv ct oc : Value} {an od : Option Addr} {osl : Array (Option Value)} {f : Addr} {args : Args} {binds : List (Str × Value)}
theorem code_defL
    (B : Below A₀ base outer h₀) (F : Fr h₀ L s.heap m) (X₀ : K.In h₀) (N : News h₀ L s.heap news) (T : Top p loose mean mg mb h₀) (hA : A.frames = some (env :: outer)) (hf : env.frame = some L) (hke : env.scope.kind = .function)
    (ho : K.lookup f = some ⟨oc, od, .func (fnOf name qual params body scope dV kV doc pm an cdv ct), osl⟩) (hcd : codeIn K cdv qual = true) (hroom : A.depth < recursionLimit)
    (hbind : BindsTo s (fnOf name qual params body scope dV kV doc pm an cdv ct) args binds) (hloc : ∀ y ∈ binds, scope.names.lookup y.1 = some .local)
    (h : ∀ g L' h₁ tk, Fr h₀ L g m → let env' := envOf qual scope L' f cdv; let A' := A.deeper env'; let M' : Str → Option Value := fun y => binds.reverse.lookup y; Fr g L' h₁ M' → News g L' h₁ news → Below A base (env :: outer) g → K.In g → Top p loose mean mg mb g →
      wpAny (model prog w) A' (execs body env')
        (fun fl s' => LeaveK h₀ L m g R (match fl with | .ret v => v | _ => .none) s')
        (fun e s' => wpAny (model prog w) A' (leaving env' e) (fun _ s'' => R (.error e) s'') (fun e' s'' => R (.error e') s'') s')
        ⟨h₁, s.gens, s.drawn, tk, s.os⟩)
    (hco : scope.isCoroutine = false) (hgen : scope.isGenerator = false) (hk : scope.kind = .function)
    (hcell : ∀ x ∈ scope.names, x.2 ≠ .cell) : codeAny (model prog w) A (.call (.ref f) args) R s :=
  code_def B F X₀ N T hA hf hke ho hcd hroom hbind hloc (fun g L' h₁ => h g L' h₁ _) hco hgen hk hcell
theorem code_defCL
    (B : Below A₀ base outer h₀) (F : Fr h₀ L s.heap m) (X₀ : K.In h₀) (N : News h₀ L s.heap news) (T : Top p loose mean mg mb h₀) (hA : A.frames = some (env :: outer)) (hf : env.frame = some L) (hke : env.scope.kind = .function)
    (ho : K.lookup f = some ⟨oc, od, .func (fnOf name qual params body scope dV kV doc pm an cdv ct), osl⟩) (hcd : codeIn K cdv qual = true) (hroom : A.depth < recursionLimit)
    (hbind : BindsTo s (fnOf name qual params body scope dV kV doc pm an cdv ct) args binds) (hkind : (binds.all fun y => scope.names.lookup y.1 == some .local || scope.names.lookup y.1 == some .cell) = true)
    (hnd : ((cellsFrom 0 scope.names []).map (·.1)).Nodup)
    (h : ∀ g L' h₁ tk cells, Fr h₀ L g m → let env' := envOfC qual scope L' f cdv; let A' := A.deeper env'; let M' : Str → Option Value := bindL env'.kindOf binds fun _ => none; Fr g L' h₁ M' → News g L' h₁ (cells ++ news) →
      CellsAre (bindC env'.kindOf binds fun _ => none) (cellsFrom (L' + 1) scope.names []) cells → Below A base (env :: outer) g → K.In g → Top p loose mean mg mb g → (∀ p ∈ news, p.1 < L') →
      wpAny (model prog w) A' (execs body env')
        (fun fl s' => LeaveK h₀ L m g R (match fl with | .ret v => v | _ => .none) s')
        (fun e s' => wpAny (model prog w) A' (leaving env' e) (fun _ s'' => R (.error e) s'') (fun e' s'' => R (.error e') s'') s')
        ⟨h₁, s.gens, s.drawn, tk, s.os⟩)
    (hco : scope.isCoroutine = false) (hgen : scope.isGenerator = false) (hk : scope.kind = .function) : codeAny (model prog w) A (.call (.ref f) args) R s :=
  code_defC B F X₀ N T hA hf hke ho hcd hroom hbind hkind hnd h hco hgen hk
end
end Mine
end
section
open PySem PySem.Spec PySem.Calls PySem.W PyProof.Rows
set_option maxRecDepth 100000
namespace Mine
abbrev V3 := Int × Int × Int
/-- a list of three ints lies at a -/
def Tri (h : Heap) (a : Addr) (v : V3) : Prop := ∃ t0 t1 t2, h.IsList a #[.int v.1 t0, .int v.2.1 t1, .int v.2.2 t2]
def Tris (h : Heap) (as : List Addr) (vs : List V3) : Prop := as.length = vs.length ∧ ∀ i, i < as.length → Tri h (as.getD i 0) (vs.getD i (0, 0, 0))
theorem isList_stays {h h' : Heap} {a : Addr} {its : Array Value} (x : h.IsList a its) (st : h.StaysIn h') : h'.IsList a its := let ⟨o, e, r⟩ := x; ⟨o, st _ _ e, r⟩
theorem Tri.keeps {h h' : Heap} {a : Addr} {v : V3} (x : Tri h a v) (st : h.StaysIn h') : Tri h' a v := let ⟨t0, t1, t2, l⟩ := x; ⟨t0, t1, t2, isList_stays l st⟩
theorem Tris.keeps {h h' : Heap} {as : List Addr} {vs : List V3} (x : Tris h as vs) (st : h.StaysIn h') : Tris h' as vs := ⟨x.1, fun i hi => (x.2 i hi).keeps st⟩
theorem getD_take' {α : Type} (l : List α) (n i : Nat) (d : α) (h : i < n) : (l.take n).getD i d = l.getD i d := by
  rw [List.getD_eq_getElem?_getD, List.getD_eq_getElem?_getD, List.getElem?_take_of_lt h]
theorem Tris.take {h : Heap} {as : List Addr} {vs : List V3} (x : Tris h as vs) (n : Nat) : Tris h (as.take n) (vs.take n) := by
  refine ⟨by rw [List.length_take, List.length_take, x.1], fun i hi => ?_⟩
  rw [List.length_take] at hi
  rw [getD_take' _ _ _ _ (by omega), getD_take' _ _ _ _ (by omega)]
  exact x.2 i (by omega)
theorem getD_set' {α : Type} (l : List α) (k i : Nat) (v d : α) (hk : k < l.length) : (l.set k v).getD i d = if i = k then v else l.getD i d := by
  rw [List.getD_eq_getElem?_getD, List.getD_eq_getElem?_getD, List.getElem?_set]
  by_cases h : k = i
  · subst h; simp [hk]
  · simp [h, Ne.symm h]
theorem Tris.set {h : Heap} {as : List Addr} {vs : List V3} (x : Tris h as vs) (k : Nat) {a : Addr} {v : V3} (y : Tri h a v) : Tris h (as.set k a) (vs.set k v) := by
  refine ⟨by rw [List.length_set, List.length_set, x.1], fun i hi => ?_⟩
  rw [List.length_set] at hi
  by_cases hk : k < as.length
  · rw [getD_set' _ _ _ _ _ hk, getD_set' _ _ _ _ _ (x.1 ▸ hk)]
    by_cases e : i = k
    · simp only [e, if_true]; exact y
    · simp only [e, if_false]; exact x.2 i hi
  · rw [List.set_eq_of_length_le (by omega), List.set_eq_of_length_le (by have := x.1; omega)]
    exact x.2 i hi

section
variable {prog : Program} {w : World} {A : Around} {E : Value → Shared → Prop} {s : Shared} {env : Env} {h₀ : Heap} {x : Str} {body : List Stmt} {Q : Flow → Shared → Prop}
/-- a loop over a range, by a word on its state -/
theorem rangeRest_of {I : Addr} {a : Int} {n : Nat} {m₀ : Str → Option Value} {news₀ : List (Addr × Obj)} (J : (Str → Option Value) → Nat → (Str → Option Value) → List (Addr × Obj) → Prop) (h0 : J m₀ 0 m₀ news₀)
    (turn : ∀ i m news t h tk, i < n → J m₀ i m news → Fr h₀ env.locals h (fun y => if y = x then some (.int (a + (i : Int)) t) else m y) →
      News h₀ env.locals h ((I, itR (a + ((i + 1 : Nat) : Int)) ((n : Int) - ((i + 1 : Nat) : Int))) :: news) →
      wpAny (model prog w) A (execs body env) (UnrPost h₀ env.locals { s with heap := h, toks := tk } I (itR (a + ((i + 1 : Nat) : Int)) ((n : Int) - ((i + 1 : Nat) : Int))) (J m₀ (i + 1)) Q) E { s with heap := h, toks := tk })
    (done : ∀ m news h tk, J m₀ n m news → Fr h₀ env.locals h m → News h₀ env.locals h news → Q .next { s with heap := h, toks := tk }) :
    RangeRest prog w A E h₀ env x body Q s I a n n 0 m₀ news₀ := by
  have key : ∀ (k i : Nat) (m : Str → Option Value) (news : List (Addr × Obj)), i + k = n → J m₀ i m news → RangeRest prog w A E h₀ env x body Q s I a n k i m news := by
    intro k
    induction k with
    | zero =>
      intro i m news e hj
      have : i = n := by omega
      subst this
      exact RangeRest.zero fun h tk F N => done m news h tk hj F N
    | succ k ih =>
      intro i m news e hj
      refine RangeRest.succ fun t h tk F N => ?_
      refine wpAny_mono (turn i m news t h tk (by omega) hj F N) (fun f s₂ p => ?_) fun _ _ z => z
      cases f with
      | ret v => exact p
      | brk => exact p
      | next => obtain ⟨h', tk', m', news', e', F', N', off, r⟩ := p; exact ⟨h', tk', m', news', e', F', N', off, ih (i + 1) m' news' (by omega) r⟩
      | cont => obtain ⟨h', tk', m', news', e', F', N', off, r⟩ := p; exact ⟨h', tk', m', news', e', F', N', off, ih (i + 1) m' news' (by omega) r⟩
  exact key n 0 m₀ news₀ (by omega) h0
/-- a loop over a made list -/
theorem listRest_of {I : Addr} {lp : Addr × Obj} {vs : List Value} {m₀ : Str → Option Value} {news₀ : List (Addr × Obj)} (J : (Str → Option Value) → List Value → List Value → (Str → Option Value) → List (Addr × Obj) → Prop) (h0 : J m₀ [] vs m₀ news₀)
    (turn : ∀ pre v post m news it h tk, pre ++ v :: post = vs → J m₀ pre (v :: post) m news → it.cls = .type "list_iterator" → Fr h₀ env.locals h (fun y => if y = x then some v else m y) → News h₀ env.locals h ((I, it) :: news) →
      wpAny (model prog w) A (execs body env) (UnrPost h₀ env.locals { s with heap := h, toks := tk } I it (fun m' n' => lp ∈ n' ∧ J m₀ (pre ++ [v]) post m' n') Q) E { s with heap := h, toks := tk })
    (done : ∀ m news h tk, J m₀ vs [] m news → Fr h₀ env.locals h m → News h₀ env.locals h news → Q .next { s with heap := h, toks := tk }) :
    ListRest prog w A E h₀ env x body Q s I lp vs m₀ news₀ := by
  have key : ∀ (post pre : List Value) (m : Str → Option Value) (news : List (Addr × Obj)), pre ++ post = vs → J m₀ pre post m news → ListRest prog w A E h₀ env x body Q s I lp post m news := by
    intro post
    induction post with
    | nil =>
      intro pre m news e hj
      rw [List.append_nil] at e
      subst e
      exact ListRest.zero fun h tk F N => done m news h tk hj F N
    | cons v post ih =>
      intro pre m news e hj
      refine ListRest.succ fun it h tk hc F N => ?_
      refine wpAny_mono (turn pre v post m news it h tk e hj hc F N) (fun f s₂ p => ?_) fun _ _ z => z
      have e2 : (pre ++ [v]) ++ post = vs := by rw [List.append_assoc]; exact e
      cases f with
      | ret v => exact p
      | brk => exact p
      | next => obtain ⟨h', tk', m', news', e', F', N', off, hm, r⟩ := p; exact ⟨h', tk', m', news', e', F', N', off, hm, ih _ m' news' e2 r⟩
      | cont => obtain ⟨h', tk', m', news', e', F', N', off, hm, r⟩ := p; exact ⟨h', tk', m', news', e', F', N', off, hm, ih _ m' news' e2 r⟩
  exact key vs [] m₀ news₀ rfl h0

/-- an item of a list of objects, at a place that is not written -/
theorem refs_getD {as : List Addr} {k : Int} (h0 : 0 ≤ k) (h1 : k < as.length) : (as.map Value.ref)[k.toNat]? = some (.ref (as.getD k.toNat 0)) := by
  have : k.toNat < as.length := by omega
  rw [List.getElem?_map, List.getD_eq_getElem?_getD, List.getElem?_eq_getElem this]; rfl
theorem item_refs {value slice : PySem.Expr} {l : Addr} {as : List Addr} {k : Int} {u : Tok} {Q : Value → Shared → Prop} (hl : s.heap.IsList l (as.map Value.ref).toArray) (h0 : 0 ≤ k) (h1 : k < as.length) (hfit : k < 2 ^ 63)
    (h : Q (.ref (as.getD k.toNat 0)) s) (hs : subscripted slice false (.ref l) (.int k u) = operate [.ref l, .int k u] (getItem (.ref l) (.int k u)) := by with_unfolding_all rfl) :
    wpAny (model prog w) A (subscriptTail value slice (.ref l) (.int k u)) Q E s := item_litK hl h0 hfit (refs_getD h0 h1) h hs
theorem set_refs {L D : Addr} {m : Str → Option Value} {news news' : List (Addr × Obj)} {as : List Addr} {n : Nat} {k : Int} {t : Tok} {b : Addr} {Q : Unit → Shared → Prop} (F : Fr h₀ L s.heap m) (N : News h₀ L s.heap news)
    (U : Upd D (PySem.W.listOf (as.map Value.ref).toArray n) (PySem.W.listOf ((as.set k.toNat b).map Value.ref).toArray n) news news') (h0 : 0 ≤ k) (h1 : k < as.length) (hfit : k < 2 ^ 63)
    (h : ∀ h', Fr h₀ L h' m → News h₀ L h' news' → Q () { s with heap := h' }) : wpAny (model prog w) A (setItem (.ref D) (.int k t) (.ref b)) Q E s := by
  obtain ⟨pre, post, rfl, rfl, a, b'⟩ := U.split
  have z := N (D, PySem.W.listOf (as.map Value.ref).toArray n) (List.mem_append.mpr (.inr (.head _)))
  refine ki_setAt z.1 h0 hfit (by simp; omega) (h _ (F.change (Heap.SameBut.update ..) z.2.1 z.2.2) (ki_turn _ N a b' ?_ ?_))
  · show (as.map Value.ref).toArray.setIfInBounds k.toNat (.ref b) = ((as.set k.toNat b).map Value.ref).toArray
    apply Array.toList_inj.mp
    simp
  · simp
end
end Mine
namespace Mine
theorem pick_upto (l : List Value) (n : Nat) : kms_pick l.toArray.toList none (some (n : Int)) = l.take n := by
  have h : ¬ ((n : Int) < 0) := by omega
  simp only [kms_pick, kms_lo, kms_hi, h, if_false, Int.toNat_natCast, List.drop_zero, Nat.sub_zero]
  by_cases hl : n ≤ l.length
  · rw [Nat.min_eq_left hl]
  · rw [Nat.min_eq_right (by omega), List.take_length, List.take_of_length_le (by omega)]
theorem pick_refs (as : List Addr) (n : Nat) : kms_pick (as.map Value.ref).toArray.toList none (some (n : Int)) = (as.take n).map Value.ref := by
  rw [pick_upto, List.map_take]
/-- the walk stands still here -/
def Halt (P : Prop) : Prop := P
theorem halt {P : Prop} (h : Halt P) : P := h
theorem Halt.go {P : Prop} (h : P) : Halt P := h
theorem ints_mem {ns : List Int} {k : Int} {P : Int → Prop} (h : ∀ g ∈ ns, P g) (h0 : 0 ≤ k) (h1 : k < ns.length) : P (ns.getD k.toNat 0) := by
  have : k.toNat < ns.length := by omega
  rw [List.getD_eq_getElem?_getD, List.getElem?_eq_getElem this]
  exact h _ (List.getElem_mem this)
end Mine
namespace Mine
theorem map_id {x : Str} (m : Str → Option Value) : m = fun z => if z = x then m x else m z := by
  funext z
  by_cases h : z = x
  · simp [h]
  · simp [h]
theorem three_of {α : Type} {l : List α} (h : l.length = 3) : ∃ a b c, l = [a, b, c] := by
  match l, h with
  | [a, b, c], _ => exact ⟨a, b, c, rfl⟩
end Mine
namespace Mine
theorem map_again (x : Str) (a b : Option Value) (m : Str → Option Value) : (fun y => if y = x then a else (fun z => if z = x then b else m z) y) = fun z => if z = x then a else m z := by
  funext z
  by_cases h : z = x
  · simp [h]
  · simp [h]
end Mine
namespace Mine
theorem nameF {h₀ h : Heap} {L : Addr} {m : Str → Option Value} {P : Prop} (_ : Fr h₀ L h m) (k : ∀ L', L' = L → P) : P := k L rfl
theorem nameN1 {h₀ h : Heap} {L a : Addr} {x : Obj} {r : List (Addr × Obj)} {P : Prop} (_ : News h₀ L h ((a, x) :: r)) (k : ∀ a' x', a' = a → x' = x → P) : P := k a x rfl rfl
theorem nameN2 {h₀ h : Heap} {L a b : Addr} {x y : Obj} {r : List (Addr × Obj)} {P : Prop} (_ : News h₀ L h ((a, x) :: (b, y) :: r)) (k : ∀ a' x' b' y', a' = a → x' = x → b' = b → y' = y → P) : P := k a x b y rfl rfl rfl rfl
theorem nameN3 {h₀ h : Heap} {L a b c : Addr} {x y z : Obj} {r : List (Addr × Obj)} {P : Prop} (_ : News h₀ L h ((a, x) :: (b, y) :: (c, z) :: r)) (k : ∀ a' x' b' y' c' z', a' = a → x' = x → b' = b → y' = y → c' = c → z' = z → P) : P := k a x b y c z rfl rfl rfl rfl rfl rfl
theorem news_sub {h₀ h : Heap} {L : Addr} {l l' : List (Addr × Obj)} (N : News h₀ L h l) (s : ∀ p ∈ l', p ∈ l) : News h₀ L h l' := fun p hp => N p (s p hp)
end Mine
namespace Mine
section
variable {prog : Program} {w : World} {A : Around} {E : Value → Shared → Prop} {s : Shared}
theorem len_any {l : Addr} {vs : List Value} {Q : Value → Shared → Prop} (hl : s.heap.IsList l vs.toArray) (hfit : vs.length < 2 ^ 60) (h : ∀ t tk, Q (.int (vs.length : Int) t) { s with toks := tk }) :
    wpAny (model prog w) A (call (.builtin "len") [.ref l]) Q E s := by
  refine len_list hl (by rw [List.size_toArray]; omega) ?_
  have := h
  rw [List.size_toArray]; exact h _ _
theorem len_refs {l : Addr} {as : List Addr} {Q : Value → Shared → Prop} (hl : s.heap.IsList l (as.map Value.ref).toArray) (hfit : as.length < 2 ^ 60) (h : ∀ t tk, Q (.int (as.length : Int) t) { s with toks := tk }) :
    wpAny (model prog w) A (call (.builtin "len") [.ref l]) Q E s := len_any hl (by rw [List.length_map]; exact hfit) (by rw [List.length_map]; exact h)
end
theorem mem_213 {α : Type} {a b c : α} : ∀ p ∈ [b, a, c], p ∈ [a, b, c] := by
  intro p hp
  simp only [List.mem_cons, List.not_mem_nil, or_false] at hp ⊢
  rcases hp with h | h | h
  · exact .inr (.inl h)
  · exact .inl h
  · exact .inr (.inr h)
end Mine
namespace Mine
theorem ints3 {ys : List Value} {g : Int → Int} (h : IntsAre ys ((rangeKs 0 3).map g)) : ∃ t0 t1 t2, ys = [.int (g 0) t0, .int (g 1) t1, .int (g 2) t2] := by
  have e : (rangeKs 0 3).map g = [g 0, g 1, g 2] := rfl
  rw [e] at h
  cases h with
  | cons _ t0 h => cases h with
    | cons _ t1 h => cases h with
      | cons _ t2 h => cases h; exact ⟨t0, t1, t2, rfl⟩
theorem perm3 {ns : List Int} {x y z : Int} (h : ns.Perm [x, y, z]) (hs : ns.Pairwise (· ≤ ·)) (h2 : [0, 1, 2].Perm [x, y, z]) : ns = [0, 1, 2] :=
  List.Perm.eq_of_pairwise (fun _ _ _ _ h1 h2 => Int.le_antisymm h1 h2) hs (by decide) (h.trans h2.symm)
end Mine
namespace Mine
/-- one thing that the callee has made, on the caller's ledger -/
theorem news_ret {h₀ h h' : Heap} {L L' : Addr} {m : Str → Option Value} {news own : List (Addr × Obj)} {p : Addr × Obj} (F : Fr h₀ L h m) (N : News h₀ L h news) (st : h.StaysIn h') (N' : News h L' h' own) (hp : p ∈ own) : News h₀ L h' (p :: news) ∧ ∀ q ∈ news, q.1 ≠ p.1 := by
  refine ⟨?_, fun q hq e => ?_⟩
  · have z := news_up (own := [p]) F N st (fun q hq => by rw [List.mem_singleton.mp hq]; exact N' p hp)
    exact z
  · have h1 := (N q hq).1
    have h2 := (N' p hp).2.2
    rw [e, h2] at h1
    cases h1
theorem getD_mem {fs : List Addr} {k : Nat} (h : k < fs.length) : fs.getD k 0 ∈ fs := by
  rw [List.getD_eq_getElem?_getD, List.getElem?_eq_getElem h]
  exact List.getElem_mem h
end Mine
namespace Mine
theorem push_refs (as : List Addr) (a : Addr) : (as.map Value.ref).toArray.push (.ref a) = ((as ++ [a]).map Value.ref).toArray := by
  rw [List.map_append, List.push_toArray]; rfl
theorem nameV {h₀ h : Heap} {L D : Addr} {x : Str} {m : Str → Option Value} {P : Prop} (_ : Fr h₀ L h (fun z => if z = x then some (.ref D) else m z)) (k : ∀ D', D' = D → P) : P := k D rfl
theorem off_cons {I c : Addr} {a : Addr} {o : Obj} {r : List (Addr × Obj)} (h1 : @Ne Nat a I) (h2 : @Ne Nat a c) (h : ∀ p ∈ r, p.1 ≠ I ∧ p.1 ≠ c) : ∀ p ∈ (a, o) :: r, p.1 ≠ I ∧ p.1 ≠ c := List.forall_mem_cons.mpr ⟨⟨h1, h2⟩, h⟩
theorem off1_cons {c : Addr} {a : Addr} {o : Obj} {r : List (Addr × Obj)} (h1 : @Ne Nat a c) (h : ∀ p ∈ r, p.1 ≠ c) : ∀ p ∈ (a, o) :: r, p.1 ≠ c := List.forall_mem_cons.mpr ⟨h1, h⟩
end Mine
namespace Mine
theorem sortedK {prog : Program} {w : World} {A : Around} {E : Value → Shared → Prop} {s : Shared} {h₀ : Heap} {L : Addr} {m : Str → Option Value} {news : List (Addr × Obj)} {l : Addr} {vs : List Value} {ns : List Int} {Q : Value → Shared → Prop}
    (F : Fr h₀ L s.heap m) (N : News h₀ L s.heap news) (hl : s.heap.IsList l vs.toArray) (hI : IntsAre vs ns) (h64 : vs.length < 64)
    (h : ∀ (D : Addr) (h' : Heap) (vs' : List Value) (ns' : List Int) (e : Nat), Fr h₀ L h' m → News h₀ L h' ((D, PySem.W.listOf vs'.toArray e) :: news) → (∀ p ∈ news, p.1 < D) →
      IntsAre vs' ns' → ns'.Perm ns → ns'.Pairwise (· ≤ ·) → Q (.ref D) { s with heap := h' }) :
    wpAny (model prog w) A (call (.builtin "sorted") [.ref l]) Q E s :=
  sorted_N F N hl hI h64 fun h' vs' ns' e F' N' a1 a2 a3 => h _ h' vs' ns' e F' N' (fun p hp => Nat.lt_succ_of_lt (Heap.lt_size (N p hp).1)) a1 a2 a3
end Mine
namespace Mine
theorem cons_of {α : Type} [DecidableEq α] {l : List α} (h : decide (l = []) = false) : ∃ a r, l = a :: r := by
  cases l with
  | nil => simp at h
  | cons a r => exact ⟨a, r, rfl⟩
end Mine

namespace Mine
theorem nameI {ws : List Value} {ns : List Int} {P : Prop} (_ : IntsAre ws ns) (k : ∀ ws', ws' = ws → P) : P := k ws rfl
end Mine
namespace Mine
theorem flat_rep (n : Nat) : (List.replicate n [(0 : Int)]).flatten = List.replicate n 0 := by
  induction n with
  | zero => rfl
  | succ n ih => rw [List.replicate_succ, List.flatten_cons, ih]; rfl
/-- so many noughts -/
theorem mul0K {prog : Program} {w : World} {A : Around} {E : Value → Shared → Prop} {s : Shared} {h₀ : Heap} {L : Addr} {m : Str → Option Value} {news : List (Addr × Obj)} {l : Addr} {x : Int} {u t : Tok} {Q : Value → Shared → Prop}
    (Fm : Fr h₀ L s.heap m) (N : News h₀ L s.heap news) (hl : s.heap.IsList l #[.int 0 t]) (hlo : -(2 ^ 63 : Int) ≤ x) (hhi : x < 2 ^ 20)
    (h : ∀ (D : Addr) (h' : Heap) (ws : List Value), Fr h₀ L h' m → News h₀ L h' ((D, PySem.W.listOf ws.toArray 0) :: news) → (∀ p ∈ news, p.1 < D) → IntsAre ws (List.replicate x.toNat 0) → Q (.ref D) { s with heap := h' }) :
    wpAny (model prog w) A (binaryOp .Mult (.ref l) (.int x u)) Q E s := by
  refine KM.mul (vs := [.int 0 t]) (ns := [0]) Fm N hl (.cons _ _ .nil) hlo (by omega) (by simp only [List.length_cons, List.length_nil]; omega) fun D h' F' N' l1 i1 _ _ _ _ _ => ?_
  rw [flat_rep] at i1
  exact h D h' _ F' N' l1 i1
end Mine
namespace Mine
theorem nameN4 {h₀ h : Heap} {L a b c d : Addr} {x y z u : Obj} {r : List (Addr × Obj)} {P : Prop} (_ : News h₀ L h ((a, x) :: (b, y) :: (c, z) :: (d, u) :: r)) (k : ∀ a' x' b' y' c' z' d' u', a' = a → x' = x → b' = b → y' = y → c' = c → z' = z → d' = d → u' = u → P) : P := k a x b y c z d u rfl rfl rfl rfl rfl rfl rfl rfl
end Mine
namespace Mine
def tup2 (x : Int) (t : Tok) (y : Int) (u : Tok) : Obj := { cls := .type "tuple", data := .seq #[.int x t, .int y u] }
theorem divmodK {prog : Program} {w : World} {A : Around} {E : Value → Shared → Prop} {s : Shared} {a b : Int} {t u : Tok} {Q : Value → Shared → Prop} {h₀ : Heap} {L : Addr} {m : Str → Option Value} {news : List (Addr × Obj)} (F : Fr h₀ L s.heap m) (N : News h₀ L s.heap news) (hb : 0 < b) (hB : b < 2 ^ 200)
    (h : ∀ D h' tk' t0 t1, Fr h₀ L h' m → News h₀ L h' ((D, { cls := .type "tuple", data := .seq #[.int (a.fdiv b) t0, .int (a.fmod b) t1] }) :: news) → (∀ p ∈ news, p.1 < D) →
      Q (.ref D) { s with toks := tk', heap := h' }) :
    wpAny (model prog w) A (call (.builtin "divmod") [.int a t, .int b u]) Q E s := by
  refine divmod_N F N (by omega) (fun h' F' N' => h _ h' _ _ _ F' N' fun p hp => Heap.lt_size (N p hp).1) (.inl (PyProof.noPylong_of_log2 ?_))
  have hz : b.natAbs ≠ 0 := by omega
  have : b.natAbs.log2 < 200 := (Nat.log2_lt hz).mpr (by omega)
  omega
end Mine
namespace Mine
theorem intBits_le {x : Int} {k : Nat} (h0 : 0 ≤ x) (h1 : x < 2 ^ k) : Builtin.Int.intBits x ≤ k := by
  unfold Builtin.Int.intBits
  by_cases hx : x = 0
  · subst hx; simp
  · have hn : x.natAbs ≠ 0 := by omega
    have h2 : x.natAbs < 2 ^ k := by
      have : ((x.natAbs : Nat) : Int) < ((2 ^ k : Nat) : Int) := by rw [Int.natAbs_of_nonneg h0]; exact_mod_cast h1
      exact_mod_cast this
    have := (Nat.log2_lt hn).mpr h2
    rw [if_neg (by simpa using hx)]
    omega
end Mine
namespace Mine
theorem bits_shift {x : Int} {m : Nat} (s : Nat) (h0 : 0 ≤ x) (h1 : x < 2 ^ m) : Builtin.Int.intBits (x.fdiv (2 ^ s)) ≤ m := by
  have hp : (0 : Int) < 2 ^ s := by exact_mod_cast Nat.two_pow_pos s
  rw [Int.fdiv_eq_ediv_of_nonneg _ (Int.le_of_lt hp)]
  exact intBits_le (Int.ediv_nonneg h0 (Int.le_of_lt hp)) (Int.lt_of_le_of_lt (Int.ediv_le_self _ h0) h1)
end Mine
end
section
open PySem PySem.Spec PySem.Calls PySem.W PyProof.Rows
set_option maxRecDepth 100000
namespace Mine
open LCg LCt
section
variable {prog : Program} {w : World} {A : Around} {s : Shared} {h₀ : Heap} {L : Addr} {m : Str → Option Value} {env : Env}
/-- a test in a comprehension's turn has come to its end -/
def TestEnd (h₀ : Heap) (L : Addr) (m : Str → Option Value) (s₀ : Shared) (led : List (Addr × Obj)) (b : Bool) (ok : Bool) (s' : Shared) : Prop :=
  ok = b ∧ ∃ h' tk', s' = { s₀ with heap := h', toks := tk' } ∧ Fr h₀ L h' m ∧ News h₀ L h' led
theorem compT_ints {ct : Expr} {x : Str} {px : Pos} {scope : Scope} {cl : List (Str × Addr)} {S : List (Addr × Obj) → Prop} {P : Nat → Value → Prop} {Fin : List Value → List (Addr × Obj) → Prop} {n : Nat} {news : List (Addr × Obj)} {ks : List Int} (p : Int → Bool)
    (hlen : ks.length = n) (hP : ∀ i v, i < n → P i v → ∃ k t, ks[i]? = some k ∧ v = .int k t) (hS : S news)
    (hk : scope.kind = .function) (hl : (compEnvC scope cl 0 env).kindOf x = some .local) (hd : (x == ("__debug__" : Str)) = false)
    (turn : ∀ k t I oI C oC D m₂ ys h tk (E' : Value → Shared → Prop), k ∈ ks → NsObj oC m₂ → m₂ x = some (.int k t) → Fr h₀ L h m → News h₀ L h ((I, oI) :: (C, oC) :: (D, lst ys) :: news) → Off3 I C D news → ((@Ne Nat I C) ∧ (@Ne Nat I D) ∧ (@Ne Nat C D)) →
      wpAny (model prog w) A (isTrue ct (compEnvC scope cl C env) (eval ct (compEnvC scope cl C env))) (TestEnd h₀ L m s ((I, oI) :: (C, oC) :: (D, lst ys) :: news) (p k)) E' { s with heap := h, toks := tk })
    (fin : ∀ ys, IntsAre ys (ks.filter p) → Fin ys news) : CompRestT prog w A h₀ L m env ct (.Name x px) x scope cl s S P Fin n 0 [] news := by
  have key : ∀ (j i : Nat) (ys : List Value), i + j = n → IntsAre ys ((ks.take i).filter p) → CompRestT prog w A h₀ L m env ct (.Name x px) x scope cl s S P Fin j i ys news := by
    intro j
    induction j with
    | zero =>
      intro i ys hi hy
      have e : i = ks.length := by omega
      subst e
      rw [List.take_length] at hy
      exact CompRestT.zero (fin ys hy)
    | succ j ih =>
      intro i ys hi hy
      refine CompRestT.succ ?_
      intro v I oI C oC D m₂ h tk E' hv hC hx F N off ne
      obtain ⟨k, t, hk', rfl⟩ := hP i v (by omega) hv
      refine wpAny_mono (turn k t I oI C oC D m₂ ys h tk E' (List.mem_of_getElem? hk') hC hx F N off ne) (fun ok s' hq => ?_) fun _ _ e => e
      obtain ⟨rfl, h', tk', rfl, F', N'⟩ := hq
      have ht : (ks.take (i + 1)).filter p = (ks.take i).filter p ++ (if p k then [k] else []) := take_succ_filter p ks i k hk'
      cases hp : p k with
      | true =>
        simp only [if_true]
        refine LCgL.ld_own (v := .int k t) (oC := oC) (m₂ := m₂) N' (List.mem_cons_of_mem _ List.mem_cons_self) hC hx ?_ hk hl hd
        refine CompEnd.intro F' N' news (fun _ hp => hp) off hS (ih (i + 1) _ (by omega) ?_)
        rw [ht, hp]
        exact IntsAre.append hy (.cons k t .nil)
      | false =>
        simp only [Bool.false_eq_true, if_false]
        refine CompEnd.intro F' N' news (fun _ hp => hp) off hS (ih (i + 1) _ (by omega) ?_)
        rw [ht, hp]
        simpa using hy
  exact key n 0 [] (by omega) (by simp only [List.take_zero, List.filter_nil]; exact .nil)

theorem compT_list {ct : Expr} {x : Str} {px : Pos} {scope : Scope} {cl : List (Str × Addr)} {S : List (Addr × Obj) → Prop} {Fin : List Value → List (Addr × Obj) → Prop} {news : List (Addr × Obj)} {vs : List Value} {ks : List Int} (p : Int → Bool)
    (hi : IntsAre vs ks) (hS : S news)
    (hk : scope.kind = .function) (hl : (compEnvC scope cl 0 env).kindOf x = some .local) (hd : (x == ("__debug__" : Str)) = false)
    (turn : ∀ k t I oI C oC D m₂ ys h tk (E' : Value → Shared → Prop), k ∈ ks → NsObj oC m₂ → m₂ x = some (.int k t) → Fr h₀ L h m → News h₀ L h ((I, oI) :: (C, oC) :: (D, lst ys) :: news) → Off3 I C D news → ((@Ne Nat I C) ∧ (@Ne Nat I D) ∧ (@Ne Nat C D)) →
      wpAny (model prog w) A (isTrue ct (compEnvC scope cl C env) (eval ct (compEnvC scope cl C env))) (TestEnd h₀ L m s ((I, oI) :: (C, oC) :: (D, lst ys) :: news) (p k)) E' { s with heap := h, toks := tk })
    (fin : ∀ ys, IntsAre ys (ks.filter p) → Fin ys news) : CompRestT prog w A h₀ L m env ct (.Name x px) x scope cl s S (fun i v => vs.toArray[i]? = some v) Fin vs.toArray.size 0 [] news :=
  compT_ints p (by rw [List.size_toArray]; exact hi.length.symm) (fun i v _ hv => by
    obtain ⟨k, t, e, hk⟩ := IntsAre.at hi i v (by simpa using hv)
    exact ⟨k, t, hk, e⟩) hS hk hl hd turn fin
theorem compT_range {ct : Expr} {x : Str} {px : Pos} {scope : Scope} {cl : List (Str × Addr)} {S : List (Addr × Obj) → Prop} {Fin : List Value → List (Addr × Obj) → Prop} {news : List (Addr × Obj)} {n : Nat} {a : Int} (p : Int → Bool)
    (hS : S news)
    (hk : scope.kind = .function) (hl : (compEnvC scope cl 0 env).kindOf x = some .local) (hd : (x == ("__debug__" : Str)) = false)
    (turn : ∀ k t I oI C oC D m₂ ys h tk (E' : Value → Shared → Prop), k ∈ rangeKs a n → NsObj oC m₂ → m₂ x = some (.int k t) → Fr h₀ L h m → News h₀ L h ((I, oI) :: (C, oC) :: (D, lst ys) :: news) → Off3 I C D news → ((@Ne Nat I C) ∧ (@Ne Nat I D) ∧ (@Ne Nat C D)) →
      wpAny (model prog w) A (isTrue ct (compEnvC scope cl C env) (eval ct (compEnvC scope cl C env))) (TestEnd h₀ L m s ((I, oI) :: (C, oC) :: (D, lst ys) :: news) (p k)) E' { s with heap := h, toks := tk })
    (fin : ∀ ys, IntsAre ys ((rangeKs a n).filter p) → Fin ys news) : CompRestT prog w A h₀ L m env ct (.Name x px) x scope cl s S (fun i v => ∃ t, v = .int (a + (i : Int)) t) Fin n 0 [] news :=
  compT_ints p (rangeKs_length a n) (fun i v hi hv => by
    obtain ⟨t, e⟩ := hv
    exact ⟨a + (i : Int), t, by simp [rangeKs, hi], e⟩) hS hk hl hd turn fin

/-- a comprehension without a test, by a word on what it has made -/
theorem compRest_of {elt : Expr} {x : Str} {scope : Scope} {cl : List (Str × Addr)} {S : List (Addr × Obj) → Prop} {P : Nat → Value → Prop} {Fin : List Value → List (Addr × Obj) → Prop} {n : Nat} {news₀ : List (Addr × Obj)} (J : Nat → List Value → List (Addr × Obj) → Prop) (h0 : J 0 [] news₀)
    (turn : ∀ i ys news v I oI C oC D m₂ h tk (E' : Value → Shared → Prop), i < n → J i ys news → P i v → NsObj oC m₂ → m₂ x = some v → Fr h₀ L h m → News h₀ L h ((I, oI) :: (C, oC) :: (D, lst ys) :: news) → Off3 I C D news → ((@Ne Nat I C) ∧ (@Ne Nat I D) ∧ (@Ne Nat C D)) →
      wpAny (model prog w) A (eval elt (compEnvC scope cl C env)) (CompEnd h₀ L m { s with heap := h, toks := tk } I oI C oC D (lst ys) S (fun y news' => J (i + 1) (ys ++ [y]) news')) E' { s with heap := h, toks := tk })
    (done : ∀ ys news, J n ys news → Fin ys news) : CompRest prog w A h₀ L m env elt x scope cl s S P Fin n 0 [] news₀ := by
  have key : ∀ (k i : Nat) (ys : List Value) (news : List (Addr × Obj)), i + k = n → J i ys news → CompRest prog w A h₀ L m env elt x scope cl s S P Fin k i ys news := by
    intro k
    induction k with
    | zero =>
      intro i ys news e hj
      have : i = n := by omega
      subst this
      exact CompRest.zero (done ys news hj)
    | succ k ih =>
      intro i ys news e hj
      refine CompRest.succ ?_
      intro v I oI C oC D m₂ h tk E' hv hC hx F N off ne
      refine wpAny_mono (turn i ys news v I oI C oC D m₂ h tk E' (by omega) hj hv hC hx F N off ne) (fun y s₂ hq => ?_) fun _ _ e => e
      obtain ⟨h', tk', news', e', F', N', off', hS, r⟩ := hq
      exact ⟨h', tk', news', e', F', N', off', hS, ih (i + 1) _ news' (by omega) r⟩
  exact key n 0 [] news₀ (by omega) h0
end
end Mine
end
section
open PySem PySem.Spec PySem.Calls PySem.W PyProof.Rows
set_option maxRecDepth 100000
namespace Mine
open LCg
section
variable {prog : Program} {w : World} {A : Around} {E : Value → Shared → Prop} {s : Shared} {h₀ : Heap} {L : Addr} {env : Env} {x : Str} {body : List Stmt} {Q : Flow → Shared → Prop}
/-- a turn's end in a loop whose name is a cell -/
def EndC (h₀ : Heap) (L : Addr) (s₁ : Shared) (I : Addr) (oI : Obj) (c : Addr) (S : List (Addr × Obj) → Prop) (J : (Str → Option Value) → List (Addr × Obj) → Prop) (Q : Flow → Shared → Prop) (f : Flow) (s₂ : Shared) : Prop :=
  match f with
  | .ret v => Q (.ret v) s₂
  | .brk => Q .next s₂
  | _ => ∃ h' tk m' rest' oc v, s₂ = { s₁ with heap := h', toks := tk } ∧ Fr h₀ L h' m' ∧ News h₀ L h' ((I, oI) :: (c, oc) :: rest') ∧ oc.data = .cell v ∧ (∀ p ∈ rest', p.1 ≠ I ∧ p.1 ≠ c) ∧ S rest' ∧ J m' rest'
theorem EndC.next {I c : Addr} {oI oc : Obj} {s₁ : Shared} {S : List (Addr × Obj) → Prop} {J : (Str → Option Value) → List (Addr × Obj) → Prop} {m' : Str → Option Value} {all rest' : List (Addr × Obj)} {v : Option Value} {h' : Heap} {tk : Nat}
    (F : Fr h₀ L h' m') (N : News h₀ L h' all) (sub : ∀ p ∈ (I, oI) :: (c, oc) :: rest', p ∈ all) (hv : oc.data = .cell v) (off : ∀ p ∈ rest', p.1 ≠ I ∧ p.1 ≠ c) (hS : S rest') (hJ : J m' rest') : EndC h₀ L s₁ I oI c S J Q .next { s₁ with heap := h', toks := tk } :=
  ⟨h', tk, m', rest', oc, v, rfl, F, fun p hp => N p (sub p hp), hv, off, hS, hJ⟩

theorem loopC {px : Pos} {I c : Addr} {fp : List Addr} {n : Nat} {P : Nat → Value → Prop} {St : Nat → Heap → Prop} {S : List (Addr × Obj) → Prop} {m₀ : Str → Option Value} {oc : Obj} {v₀ : Option Value} {rest₀ : List (Addr × Obj)} {R : Result → Shared → Prop}
    (W : Walks prog w A I fp [I] n P St) (hIo : ∀ i h, St i h → ∃ o, h.get? I = some o)
    (hSt : ∀ i h h' o nw, St i h → h.get? I = some o → h'.get? I = some o → (∀ b o, h₀.get? b = some o → h'.get? b = some o) → News h₀ L h' nw → S nw → St i h')
    (hk : env.scope.kind = .function) (hx : env.kindOf x = some .cell) (hc : env.cells.lookup x = some c)
    (hst : St 0 s.heap) (F : Fr h₀ L s.heap m₀) (N : News h₀ L s.heap ((c, oc) :: rest₀)) (hoc : oc.data = .cell v₀) (hIL : L ≠ I) (hI₀ : h₀.get? I = none) (hcI : c ≠ I) (hcf : c ∉ fp) (off : ∀ p ∈ rest₀, p.1 ≠ I ∧ p.1 ≠ c) (hS : S rest₀)
    (J : (Str → Option Value) → Nat → (Str → Option Value) → List (Addr × Obj) → Prop) (h0 : J m₀ 0 m₀ rest₀)
    (turn : ∀ i v m rest oI oc' h tk (E' : Value → Shared → Prop), i < n → P i v → J m₀ i m rest → (∀ p ∈ rest, p.1 ≠ I ∧ p.1 ≠ c) → (@Ne Nat c I) → oc'.data = .cell (some v) → Fr h₀ L h m → News h₀ L h ((I, oI) :: (c, oc') :: rest) →
      wpAny (model prog w) A (execs body env) (EndC h₀ L { s with heap := h, toks := tk } I oI c S (J m₀ (i + 1)) (fun f s' => R (.ok f) s')) E' { s with heap := h, toks := tk })
    (done : ∀ m rest oc' v' h tk, oc'.data = .cell v' → J m₀ n m rest → Fr h₀ L h m → News h₀ L h ((c, oc') :: rest) → R (.ok .next) { s with heap := h, toks := tk }) :
    codeAny (model prog w) A (.forLoop (.Name x px) (.ref I) body [] env) R s := by
  refine codeAny_forLoop
    (fun k s' => ∃ h' tk i m rest oc' v', s' = { s with heap := h', toks := tk } ∧ i ≤ n ∧ k = n + 1 - i ∧ St i h' ∧ Fr h₀ L h' m ∧ News h₀ L h' ((c, oc') :: rest) ∧ oc'.data = .cell v' ∧ (∀ p ∈ rest, p.1 ≠ I ∧ p.1 ≠ c) ∧ S rest ∧ J m₀ i m rest) ?_ (n + 1)
    ⟨s.heap, s.toks, 0, m₀, rest₀, oc, v₀, rfl, Nat.zero_le _, rfl, hst, F, N, hoc, off, hS, h0⟩
  rintro k s' ⟨h', tk, i, m, rest, oc', v', rfl, hi, rfl, hst', F', N', hoc', off', hS', hJ⟩
  by_cases hlt : i < n
  · refine W.item i _ _ _ hlt hst' fun v h₂ tk₂ hPv hst₂ hk₂ => ?_
    have F₂ : Fr h₀ L h₂ m := fr_but F' hk₂ hIL hI₀
    have N₂ : News h₀ L h₂ ((c, oc') :: rest) := news_but N' hk₂ fun p hp => by
      rcases List.mem_cons.mp hp with rfl | hp
      · exact hcI
      · exact (off' p hp).1
    have zc := N₂ (c, oc') List.mem_cons_self
    refine wpAny_assign_Name (wpAny_storeName_cell hk hx hc ⟨oc', zc.1, hoc'⟩ fun h₃ hv₃ hs₃ => ?_)
    obtain ⟨oc₃, hoc₃, hd₃⟩ := hv₃
    have F₃ : Fr h₀ L h₃ m := F₂.change hs₃ zc.2.1 zc.2.2
    have hst₃ : St (i + 1) h₃ := W.frame _ _ _ hst₂ fun b hb o e => hs₃.extBut b o (fun q => hcf (q ▸ hb)) e
    obtain ⟨oI, heI⟩ := hIo _ _ hst₃
    have N₃ : News h₀ L h₃ ((I, oI) :: (c, oc₃) :: rest) := fun p hp => by
      rcases List.mem_cons.mp hp with rfl | hp
      · exact ⟨heI, Ne.symm hIL, hI₀⟩
      · rcases List.mem_cons.mp hp with rfl | hp
        · exact ⟨hoc₃, zc.2⟩
        · have z := N₂ p (List.mem_cons_of_mem _ hp)
          exact ⟨hs₃.extBut _ _ (off' p hp).2 z.1, z.2⟩
    refine wpAny_mono (turn i v m rest oI oc₃ h₃ _ _ hlt hPv hJ off' hcI hd₃ F₃ N₃) (fun f s₃ q₃ => ?_) fun _ _ e => e
    have fin : (∃ h' tk m' rest' oc v, s₃ = { ({ s with heap := h₃, toks := tk₂ } : Shared) with heap := h', toks := tk } ∧ Fr h₀ L h' m' ∧ News h₀ L h' ((I, oI) :: (c, oc) :: rest') ∧ oc.data = .cell v ∧ (∀ p ∈ rest', p.1 ≠ I ∧ p.1 ≠ c) ∧ S rest' ∧ J m₀ (i + 1) m' rest') →
        ∃ k', k' < n + 1 - i ∧ ∃ h' tk i' m rest oc' v', s₃ = { s with heap := h', toks := tk } ∧ i' ≤ n ∧ k' = n + 1 - i' ∧ St i' h' ∧ Fr h₀ L h' m ∧ News h₀ L h' ((c, oc') :: rest) ∧ oc'.data = .cell v' ∧ (∀ p ∈ rest, p.1 ≠ I ∧ p.1 ≠ c) ∧ S rest ∧ J m₀ i' m rest := by
      rintro ⟨h₄, tk₄, m₄, rest₄, oc₄, v₄, rfl, F₄, N₄, hd₄, off₄, hS₄, hJ₄⟩
      have N₅ : News h₀ L h₄ rest₄ := fun p hp => N₄ p (List.mem_cons_of_mem _ (List.mem_cons_of_mem _ hp))
      exact ⟨n + 1 - (i + 1), by omega, h₄, tk₄, i + 1, m₄, rest₄, oc₄, v₄, rfl, hlt, rfl, hSt _ _ _ _ _ hst₃ heI (N₄ (I, oI) List.mem_cons_self).1 F₄.keep N₅ hS₄, F₄, fun p hp => N₄ p (List.mem_cons_of_mem _ hp), hd₄, off₄, hS₄, hJ₄⟩
    cases f with
    | ret v => exact q₃
    | brk => exact q₃
    | cont => exact fin q₃
    | next => exact fin q₃
  · obtain rfl : i = n := Nat.le_antisymm hi (Nat.not_lt.mp hlt)
    refine W.done _ _ _ hst' fun h₂ tk₂ hk₂ => wpAny_execs_nil ?_
    exact done m rest oc' v' h₂ tk₂ hoc' hJ (fr_but F' hk₂ hIL hI₀) (news_but N' hk₂ fun p hp => by
      rcases List.mem_cons.mp hp with rfl | hp
      · exact hcI
      · exact (off' p hp).1)

/-- for x in range(..), x a cell -/
theorem forC_range {iter : Expr} {px pos : Pos} {c : Addr} {n : Nat} {m₀ : Str → Option Value}
    (_F₀ : Fr h₀ L s.heap m₀) (hk : env.scope.kind = .function) (hx : env.kindOf x = some .cell) (hc : env.cells.lookup x = some c) (hh : A.handled = none)
    (J : (Str → Option Value) → Nat → (Str → Option Value) → List (Addr × Obj) → Prop)
    (h : wpAny (model prog w) A (eval iter env) (fun xv s₁ => Halt (∃ r a b t u v oc v₀ rest₀, xv = .ref r ∧ IsRange s₁.heap r a b 1 t u v ∧ Builtin.Range.small a b 1 = true ∧ Builtin.Range.rangeSize a b 1 = ((n : Nat) : Int) ∧
      Fr h₀ L s₁.heap m₀ ∧ News h₀ L s₁.heap ((c, oc) :: rest₀) ∧ oc.data = .cell v₀ ∧ (∀ p ∈ rest₀, p.1 ≠ c) ∧ J m₀ 0 m₀ rest₀ ∧
      (∀ I i t m rest oI oc' h tk (E' : Value → Shared → Prop), i < n → J m₀ i m rest → (∀ p ∈ rest, p.1 ≠ I ∧ p.1 ≠ c) → (@Ne Nat c I) → oc'.data = .cell (some (.int (a + (i : Int)) t)) → Fr h₀ L h m → News h₀ L h ((I, oI) :: (c, oc') :: rest) →
        wpAny (model prog w) A (execs body env) (EndC h₀ L { s₁ with heap := h, toks := tk } I oI c (fun _ => True) (J m₀ (i + 1)) Q) E' { s₁ with heap := h, toks := tk }) ∧
      (∀ m rest oc' v' h tk, oc'.data = .cell v' → J m₀ n m rest → Fr h₀ L h m → News h₀ L h ((c, oc') :: rest) → Q .next { s₁ with heap := h, toks := tk }))) E s)
    (hs : ∀ x, foldedSetIterable iter env x = pure x := by intro _; rfl) :
    wpAny (model prog w) A (exec (.For (.Name x px) iter body [] pos) env) Q E s := by
  refine wpAny_For (wpAny_mono h (fun xv s₁ h₁ => ?_) fun _ _ e => e) hs
  obtain ⟨r, a, b, t, u, v, oc, v₀, rest₀, rfl, hr, hsm, hn, F, N, hoc, off, h0, turn, done⟩ := h₁
  refine wpAny_pyIter_range hr hsm ?_
  have hcl := Heap.lt_size (N (c, oc) List.mem_cons_self).1
  refine loopC (R := fun r s' => match r with | .ok f => Q f s' | .error e => cameBackBy (model prog w) A env E e s') (range_walks hh a n) (fun i h st => ⟨_, st⟩) range_st hk hx hc (by show IsRangeIter _ _ _ _ _; rw [hn]; simpa using Heap.get?_push_size _ rfl)
    (F.keeps fun _ _ e => Heap.get?_push_of_some _ e) (N.grown fun _ _ e => Heap.get?_push_of_some _ e) hoc (Nat.ne_of_lt F.ns.lt) (next_is_new F) (Nat.ne_of_lt hcl) (fun hm => absurd (List.mem_singleton.mp hm) (Nat.ne_of_lt hcl))
    (fun p hp => ⟨Nat.ne_of_lt (Heap.lt_size (N p (List.mem_cons_of_mem _ hp)).1), off p hp⟩) trivial J h0 ?_ ?_
  · rintro i v m rest oI oc' h tk E' hi ⟨t', rfl⟩ hJ off' hcI hd F' N'
    exact turn _ i t' m rest oI oc' h tk E' hi hJ off' hcI hd F' N'
  · intro m rest oc' v' h tk hd hJ F' N'
    exact done m rest oc' v' h tk hd hJ F' N'

/-- for x in a list, x a cell -/
theorem forC_list {iter : Expr} {px pos : Pos} {c : Addr} {n : Nat} {m₀ : Str → Option Value}
    (_F₀ : Fr h₀ L s.heap m₀) (hk : env.scope.kind = .function) (hx : env.kindOf x = some .cell) (hc : env.cells.lookup x = some c) (hh : A.handled = none)
    (h : wpAny (model prog w) A (eval iter env) (fun xv s₁ => Halt (∃ ax its oc v₀ rest₀, ∃ J : (Str → Option Value) → Nat → (Str → Option Value) → List (Addr × Obj) → Prop, xv = .ref ax ∧ SrcAt h₀ ax its rest₀ ∧ its.size = n ∧
      Fr h₀ L s₁.heap m₀ ∧ News h₀ L s₁.heap ((c, oc) :: rest₀) ∧ oc.data = .cell v₀ ∧ (∀ p ∈ rest₀, p.1 ≠ c) ∧ J m₀ 0 m₀ rest₀ ∧
      (∀ I i v m rest oI oc' h tk (E' : Value → Shared → Prop), i < n → its[i]? = some v → J m₀ i m rest → (∀ p ∈ rest, p.1 ≠ I ∧ p.1 ≠ c) → (@Ne Nat c I) → oc'.data = .cell (some v) → Fr h₀ L h m → News h₀ L h ((I, oI) :: (c, oc') :: rest) →
        wpAny (model prog w) A (execs body env) (EndC h₀ L { s₁ with heap := h, toks := tk } I oI c (SrcAt h₀ ax its) (J m₀ (i + 1)) Q) E' { s₁ with heap := h, toks := tk }) ∧
      (∀ m rest oc' v' h tk, oc'.data = .cell v' → J m₀ n m rest → Fr h₀ L h m → News h₀ L h ((c, oc') :: rest) → Q .next { s₁ with heap := h, toks := tk }))) E s)
    (hs : ∀ x, foldedSetIterable iter env x = pure x := by intro _; rfl) :
    wpAny (model prog w) A (exec (.For (.Name x px) iter body [] pos) env) Q E s := by
  refine wpAny_For (wpAny_mono h (fun xv s₁ h₁ => ?_) fun _ _ e => e) hs
  obtain ⟨ax, its, oc, v₀, rest₀, J, rfl, S, hn, F, N, hoc, off, h0, turn, done⟩ := h₁
  subst hn
  have Nr : News h₀ L s₁.heap rest₀ := fun p hp => N p (List.mem_cons_of_mem _ hp)
  have hl := S.list F.keep Nr
  have hlt : ax < s₁.heap.objs.size := by obtain ⟨_, e, _⟩ := hl; exact Heap.lt_size e
  have zc := N (c, oc) List.mem_cons_self
  have hcl := Heap.lt_size zc.1
  have hca : c ≠ ax := by
    intro q
    obtain ⟨o, e, hcls, k, hd⟩ := hl
    rw [← q, zc.1] at e
    cases e
    rw [hoc] at hd
    cases hd
  refine wpAny_pyIter_list hl ?_
  have up : ∀ b o, s₁.heap.get? b = some o → (s₁.heap.push { cls := .type "list_iterator", data := .fields #[.ref ax, .int 0 0] }).get? b = some o := fun b o e => Heap.get?_push_of_some _ e
  refine loopC (R := fun r s' => match r with | .ok f => Q f s' | .error e => cameBackBy (model prog w) A env E e s') (Walks.list hh s₁.heap.objs.size ax (Nat.ne_of_lt hlt) its) (fun i h st => by obtain ⟨o, e, _⟩ := st.1; exact ⟨o, e⟩) list_st hk hx hc ⟨⟨_, Heap.get?_push_size _ rfl, rfl, rfl⟩, hl.push _⟩
    (F.keeps up) (N.grown up) hoc (Nat.ne_of_lt F.ns.lt) (next_is_new F) (Nat.ne_of_lt hcl) (fun hm => by
      rcases List.mem_cons.mp hm with e | hm
      · exact absurd e (Nat.ne_of_lt hcl)
      · exact hca (List.mem_singleton.mp hm))
    (fun p hp => ⟨Nat.ne_of_lt (Heap.lt_size (N p (List.mem_cons_of_mem _ hp)).1), off p hp⟩) S J h0 ?_ ?_
  · intro i v m rest oI oc' h tk E' hi hv hJ off' hcI hd F' N'
    exact turn _ i v m rest oI oc' h tk E' hi hv hJ off' hcI hd F' N'
  · intro m rest oc' v' h tk hd hJ F' N'
    exact done m rest oc' v' h tk hd hJ F' N'
end
end Mine
end
section
open PySem PySem.Spec PySem.Calls PySem.W PyProof.Rows
set_option maxRecDepth 100000
namespace Mine
theorem AllObj.mono : ∀ {ws : List (Addr × String)} {k k' : List (Addr × Obj) → Prop}, AllObj ws k → (∀ its, k its → k' its) → AllObj ws k'
  | [], _, _, h, f => f _ h
  | _ :: _, _, _, h, f => fun o e => AllObj.mono (h o e) fun its => f (_ :: its)
section
variable {prog : Program} {w : World} {A : Around} {E : Value → Shared → Prop} {s : Shared} {h₀ : Heap} {env : Env} {target : Expr} {body : List Stmt} {Q : Flow → Shared → Prop}
/-- a loop over enumerate, by a word on its state -/
theorem enumRest_of {ws : List (Addr × String)} {keep : List (Addr × Obj)} {vs : List Value} {m₀ : Str → Option Value} {news₀ : List (Addr × Obj)} (J : (Str → Option Value) → Nat → (Str → Option Value) → List (Addr × Obj) → Prop) (h0 : J m₀ 0 m₀ news₀)
    (turn : ∀ i v m news T t h tk, vs[i]? = some v → J m₀ i m news → IsTup h T #[.int (i : Int) t, v] → Fr h₀ env.locals h m → AllObj ws (fun its => News h₀ env.locals h (its ++ news) →
      wpAny (model prog w) A (assign target env (.ref T)) (fun _ s₂ => wpAny (model prog w) A (execs body env) (UnrPostW h₀ env.locals { s with heap := h, toks := tk } its (fun m' n' => SubL keep n' ∧ J m₀ (i + 1) m' n') Q) E s₂) E { s with heap := h, toks := tk }))
    (done : ∀ m news h tk, J m₀ vs.length m news → Fr h₀ env.locals h m → News h₀ env.locals h news → Q .next { s with heap := h, toks := tk }) :
    ItemsRest prog w A E h₀ env target body Q s ws keep (enumItems 0 vs) m₀ news₀ := by
  have key : ∀ (r : List Value) (i : Nat) (m : Str → Option Value) (news : List (Addr × Obj)), vs.drop i = r → i ≤ vs.length → J m₀ i m news → ItemsRest prog w A E h₀ env target body Q s ws keep (enumItems i r) m news := by
    intro r
    induction r with
    | nil =>
      intro i m news e hle hj
      have hi : i = vs.length := by
        have := congrArg List.length e
        rw [List.length_drop, List.length_nil] at this
        omega
      subst hi
      exact ItemsRest.zero fun h tk F N => done m news h tk hj F N
    | cons v r ih =>
      intro i m news e hle hj
      have hv : vs[i]? = some v := by
        have := congrArg (fun l => l[0]?) e
        simpa using this
      have hr : vs.drop (i + 1) = r := by
        have := congrArg (List.drop 1) e
        rwa [List.drop_drop, List.drop_one, List.tail_cons] at this
      have hlt : i < vs.length := (List.getElem?_eq_some_iff.mp hv).1
      refine ItemsRest.pair fun T t h tk hT F => ?_
      refine AllObj.mono (turn i v m news T t h tk hv hj hT F) fun its hi N => ?_
      refine wpAny_mono (hi N) (fun _ s₂ q => wpAny_mono q (fun f s₃ p => ?_) fun _ _ z => z) fun _ _ z => z
      cases f with
      | ret v => exact p
      | brk => exact p
      | next => obtain ⟨h', tk', m', n', e', F', N', off, sb, jj⟩ := p; exact ⟨h', tk', m', n', e', F', N', off, sb, ih (i + 1) m' n' hr hlt jj⟩
      | cont => obtain ⟨h', tk', m', n', e', F', N', off, sb, jj⟩ := p; exact ⟨h', tk', m', n', e', F', N', off, sb, ih (i + 1) m' n' hr hlt jj⟩
  exact key vs 0 m₀ news₀ rfl (Nat.zero_le _) h0
theorem map2_id (x y : Str) (m : Str → Option Value) : m = fun z => if z = x then m x else if z = y then m y else m z := by
  funext z
  by_cases h : z = x
  · simp [h]
  · by_cases h2 : z = y
    · subst h2; simp only [h, if_false, if_true]
    · simp only [h, h2, if_false]
theorem map2_again (x y : Str) (a b u v : Option Value) (m : Str → Option Value) : (fun z => if z = x then a else if z = y then b else (fun z => if z = x then u else if z = y then v else m z) z) = fun z => if z = x then a else if z = y then b else m z := by
  funext z
  by_cases h : z = x
  · simp [h]
  · by_cases h2 : z = y <;> simp [h, h2]
end
section
variable {prog : Program} {w : World} {A : Around} {E : Value → Shared → Prop} {s : Shared} {h₀ : Heap}
theorem ints_set {vs : List Value} {ns : List Int} (h : IntsAre vs ns) (k : Nat) (x : Int) (t : Tok) : IntsAre (vs.set k (.int x t)) (ns.set k x) := by
  induction h generalizing k with
  | nil => exact .nil
  | cons n u r ih => cases k with
    | zero => exact .cons _ _ r
    | succ k => exact .cons _ _ (ih k)
theorem set_ints {L D : Addr} {m : Str → Option Value} {news news' : List (Addr × Obj)} {vs : List Value} {n : Nat} {k x : Int} {t u : Tok} {Q : Unit → Shared → Prop} (F : Fr h₀ L s.heap m) (N : News h₀ L s.heap news)
    (U : Upd D (PySem.W.listOf vs.toArray n) (PySem.W.listOf (vs.set k.toNat (.int x u)).toArray n) news news') (h0 : 0 ≤ k) (h1 : k < vs.length) (hfit : k < 2 ^ 63)
    (h : ∀ h', Fr h₀ L h' m → News h₀ L h' news' → Q () { s with heap := h' }) : wpAny (model prog w) A (setItem (.ref D) (.int k t) (.int x u)) Q E s := by
  obtain ⟨pre, post, rfl, rfl, a, b'⟩ := U.split
  have z := N (D, PySem.W.listOf vs.toArray n) (List.mem_append.mpr (.inr (.head _)))
  refine ki_setAt z.1 h0 hfit (by simp; omega) (h _ (F.change (Heap.SameBut.update ..) z.2.1 z.2.2) (ki_turn _ N a b' ?_ ?_))
  · show vs.toArray.setIfInBounds k.toNat (.int x u) = (vs.set k.toNat (.int x u)).toArray
    apply Array.toList_inj.mp
    simp
  · simp
end
end Mine
end
section
open PySem PySem.Spec PySem.Calls PySem.W PyProof.Rows
set_option maxRecDepth 100000
namespace Mine
/-- a code table: nothing yet, or the one nested def -/
def TabOk (pos : Pos) (qual : Str) (ps : Array Value) (cs : List (Addr × Obj)) : Prop :=
  (ps = #[] ∧ cs = []) ∨ ∃ c' oc vs t, ps = #[rawInt pos.line, rawInt pos.col, .ref c'] ∧ cs = [(c', oc)] ∧ oc.data = .fields vs ∧ vs[1]? = some (.str qual t)
section
variable {M : Model} {A : Around} {E : Value → Shared → Prop} {s : Shared} {h₀ : Heap} {L a c P : Addr} {m mg mb : Str → Option Value} {cn : Str} {cs : Scope} {ccd : Value} {cl : List (Str × Addr)} {others cl0 : List (Addr × Obj)}
  {p : Program} {loose : List Str} {mean : ExcName → Option Value} {name qual : Str} {params : Arguments} {body : List Stmt} {scope : Scope} {ps : Array Value} {pos : Pos} {firstLine : Nat} {clos : List (Str × Addr)}
theorem nestBoth {Q : Value → Shared → Prop} (F : Fr h₀ L s.heap m) (N : News h₀ L s.heap ((P, tabObj ps) :: (cl0 ++ others))) (T : Top p loose mean mg mb h₀) (C : CodeHd h₀ c P) (hcd : ccd = .ref c) (st : TabOk pos qual ps cl0)
    (hne : ∀ q ∈ cl0 ++ others, q.1 ≠ P) (hdd : ∀ q ∈ cl0, ∀ r ∈ others, r.1 ≠ q.1) (hcl : closureFor scope (envX cn cs L a ccd cl) = pure clos)
    (h : ∀ f c' oc vs t ctv doc h' tk, Fr h₀ L h' m →
      News h₀ L h' ((f, fnMade name qual params body scope clos doc ((mg "__name__").getD .none) c' ctv) :: (P, tabObj #[rawInt pos.line, rawInt pos.col, .ref c']) :: (c', oc) :: others) →
      oc.data = .fields vs → vs[1]? = some (.str qual t) → (∀ r ∈ others, r.1 ≠ f) → (∀ r ∈ others, r.1 ≠ c') → @Ne Nat P f → @Ne Nat P c' → @Ne Nat c' f → Q (.ref f) { s with heap := h', toks := tk }) :
    wpAny M A (makeFunction name qual params (.stmts body) scope (envX cn cs L a ccd cl) [] [] [] pos firstLine) Q E s := by
  rcases st with ⟨rfl, rfl⟩ | ⟨c', oc, vs, t, rfl, rfl, hd, hv⟩
  · refine nest_K F N T C hcd (UpdF.head hne) trivial (by rfl) hcl fun f c' oc vs t ctv doc h' tk F' N' hd hv l1 l2 => ?_
    have lP : P < c' := l1 (P, tabObj #[]) List.mem_cons_self
    have lo : ∀ r ∈ others, r.1 < c' := fun r hr => l1 r (List.mem_cons_of_mem _ hr)
    refine h f c' oc vs t ctv doc h' tk F' (fun q hq => N' q ?_) hd hv (fun r hr => Nat.ne_of_lt (Nat.lt_trans (lo r hr) l2)) (fun r hr => Nat.ne_of_lt (lo r hr)) (Nat.ne_of_lt (Nat.lt_trans lP l2)) (Nat.ne_of_lt lP) (Nat.ne_of_lt l2)
    simp only [List.nil_append, List.mem_cons, List.append_nil] at hq ⊢
    rcases hq with hq | hq | hq | hq
    · exact .inl hq
    · exact .inr (.inr (.inl hq))
    · exact .inr (.inl hq)
    · exact .inr (.inr (.inr hq))
  · refine nestHit_K (c' := c') F N T C hcd List.mem_cons_self (by simp [TriplesOk, rawInt]) (by simp [codeAmong, rawInt]) hcl fun f ctv doc h' tk F' N' l1 => ?_
    have lP : P < f := l1 (P, _) List.mem_cons_self
    have lc : c' < f := l1 (c', oc) (List.mem_cons_of_mem _ List.mem_cons_self)
    exact h f c' oc vs t ctv doc h' tk F' N' hd hv (fun r hr => Nat.ne_of_lt (l1 r (List.mem_cons_of_mem _ (List.mem_cons_of_mem _ hr)))) (fun r hr => hdd _ List.mem_cons_self r hr) (Nat.ne_of_lt lP) (Ne.symm (hne (c', oc) List.mem_cons_self)) (Nat.ne_of_lt lc)
end
theorem allLt_at {d : Nat} {l : List (Addr × Obj)} : AllLt d l → ∀ p ∈ l, @LT.lt Nat _ p.1 d := by
  induction l with
  | nil => exact fun _ _ hp => nomatch hp
  | cons q r ih =>
    intro h p hp
    rcases List.mem_cons.mp hp with rfl | hp
    · exact h.1
    · exact ih h.2 p hp
theorem nameN5 {h₀ h : Heap} {L a b c d e : Addr} {x y z u v : Obj} {r : List (Addr × Obj)} {P : Prop} (_ : News h₀ L h ((a, x) :: (b, y) :: (c, z) :: (d, u) :: (e, v) :: r)) (k : ∀ a' x' b' y' c' z' d' u' e' v', a' = a → x' = x → b' = b → y' = y → c' = c → z' = z → d' = d → u' = u → e' = e → v' = v → P) : P := k a x b y c z d u e v rfl rfl rfl rfl rfl rfl rfl rfl rfl rfl
end Mine
end
section
open PySem PySem.Spec PySem.Calls PySem.W PyProof.Rows
set_option maxRecDepth 100000
namespace Mine
theorem offI_of {I : Addr} {o : Obj} {l : List (Addr × Obj)} : (∀ p ∈ l, p.1 ≠ I) → OffI I o l := by
  induction l with
  | nil => exact fun _ => trivial
  | cons q r ih => exact fun h => ⟨.inl (h q List.mem_cons_self), ih fun p hp => h p (List.mem_cons_of_mem _ hp)⟩
section
variable {prog : Program} {w : World} {A : Around} {E : Value → Shared → Prop} {s : Shared} {env : Env} {h₀ : Heap} {x : Str} {body : List Stmt} {Q : Flow → Shared → Prop}
/-- a loop over reversed(list), by a word on its state -/
theorem revRest_of {I : Addr} {lp : Addr × Obj} {vs : List Value} {m₀ : Str → Option Value} {news₀ : List (Addr × Obj)} (J : (Str → Option Value) → List Value → List Value → (Str → Option Value) → List (Addr × Obj) → Prop) (h0 : J m₀ [] vs m₀ news₀)
    (turn : ∀ pre v post m news it h tk, pre ++ v :: post = vs → J m₀ pre (v :: post) m news → it.cls = .type "list_reverseiterator" → Fr h₀ env.locals h (fun y => if y = x then some v else m y) → News h₀ env.locals h ((I, it) :: news) →
      wpAny (model prog w) A (execs body env) (UnrPost h₀ env.locals { s with heap := h, toks := tk } I it (fun m' n' => lp ∈ n' ∧ J m₀ (pre ++ [v]) post m' n') Q) E { s with heap := h, toks := tk })
    (done : ∀ m news h tk, J m₀ vs [] m news → Fr h₀ env.locals h m → News h₀ env.locals h news → Q .next { s with heap := h, toks := tk }) :
    RevRest prog w A E h₀ env x body Q s I lp vs m₀ news₀ := by
  have key : ∀ (post pre : List Value) (m : Str → Option Value) (news : List (Addr × Obj)), pre ++ post = vs → J m₀ pre post m news → RevRest prog w A E h₀ env x body Q s I lp post m news := by
    intro post
    induction post with
    | nil =>
      intro pre m news e hj
      rw [List.append_nil] at e
      subst e
      exact RevRest.zero fun h tk F N => done m news h tk hj F N
    | cons v post ih =>
      intro pre m news e hj
      refine RevRest.succ fun it h tk hc F N => ?_
      refine wpAny_mono (turn pre v post m news it h tk e hj hc F N) (fun f s₂ p => ?_) fun _ _ z => z
      have e2 : (pre ++ [v]) ++ post = vs := by rw [List.append_assoc]; exact e
      cases f with
      | ret v => exact p
      | brk => exact p
      | next => obtain ⟨h', tk', m', news', e', F', N', off, hm, r⟩ := p; exact ⟨h', tk', m', news', e', F', N', off, hm, ih _ m' news' e2 r⟩
      | cont => obtain ⟨h', tk', m', news', e', F', N', off, hm, r⟩ := p; exact ⟨h', tk', m', news', e', F', N', off, hm, ih _ m' news' e2 r⟩
  exact key vs [] m₀ news₀ rfl h0
end
theorem map3_id (x y z : Str) (m : Str → Option Value) : m = fun k => if k = x then m x else if k = y then m y else if k = z then m z else m k := by
  funext k
  by_cases h : k = x
  · subst h; simp only [if_true]
  · by_cases h2 : k = y
    · subst h2; simp only [h, if_false, if_true]
    · by_cases h3 : k = z
      · subst h3; simp only [h, h2, if_false, if_true]
      · simp only [h, h2, h3, if_false]
theorem map3_again (x y z : Str) (a b c a' b' c' : Option Value) (m : Str → Option Value) : (fun k => if k = x then a else if k = y then b else if k = z then c else (fun k => if k = x then a' else if k = y then b' else if k = z then c' else m k) k) = fun k => if k = x then a else if k = y then b else if k = z then c else m k := by
  funext k
  by_cases h : k = x
  · subst h; simp only [if_true]
  · by_cases h2 : k = y
    · subst h2; simp only [h, if_false, if_true]
    · by_cases h3 : k = z
      · subst h3; simp only [h, h2, if_false, if_true]
      · simp only [h, h2, h3, if_false]
end Mine
namespace Mine
theorem ints_reverse {vs : List Value} {ns : List Int} (h : IntsAre vs ns) : IntsAre vs.reverse ns.reverse := by
  induction h with
  | nil => exact .nil
  | cons n u r ih => rw [List.reverse_cons, List.reverse_cons]; exact IntsAre.append ih (.cons n u .nil)
theorem big_lt {r d : Int} {n : Nat} (h0 : 0 ≤ r) (h1 : r < 2 ^ 150) (hn : n ≤ 150) (hd : d < 2 ^ n) : r * 2 ^ n + d < 2 ^ 400 := by
  have hp : (0 : Int) < 2 ^ n := by exact_mod_cast Nat.two_pow_pos n
  have h2 : (2 : Int) ^ n ≤ 2 ^ 150 := by exact_mod_cast Nat.pow_le_pow_right (show 0 < 2 by decide) hn
  have h3 : (r + 1) * 2 ^ n ≤ 2 ^ 150 * 2 ^ 150 := Int.mul_le_mul (by omega) h2 (Int.le_of_lt hp) (by decide)
  rw [Int.add_mul, Int.one_mul] at h3
  have h4 : (2 : Int) ^ 150 * 2 ^ 150 < 2 ^ 400 := by decide
  omega
end Mine
end
section
open PySem
namespace Mine
theorem nat_and_low (X s : Nat) : X &&& (X / 2 ^ s * 2 ^ s) = X / 2 ^ s * 2 ^ s := by
  apply Nat.eq_of_testBit_eq
  intro i
  rw [Nat.testBit_and, Nat.testBit_mul_two_pow]
  by_cases h : s ≤ i
  · rw [Nat.testBit_div_two_pow, Nat.sub_add_cancel h]; simp [h]
  · simp [h]
theorem nat_or_low (X s : Nat) : X ||| (X / 2 ^ s * 2 ^ s) = X := by
  apply Nat.eq_of_testBit_eq
  intro i
  rw [Nat.testBit_or, Nat.testBit_mul_two_pow]
  by_cases h : s ≤ i
  · rw [Nat.testBit_div_two_pow, Nat.sub_add_cancel h]; simp [h]
  · simp [h]
theorem bitXor_nat (x y : Nat) : Builtin.bitXor (x : Int) (y : Int) = ((x ||| y : Nat) : Int) - ((x &&& y : Nat) : Int) := by
  have h1 : ¬ (0 ≤ (-(x : Int) - 1)) := by omega
  have h2 : ¬ (0 ≤ (-(y : Int) - 1)) := by omega
  have e1 : (-(-(x : Int) - 1) - 1).toNat = x := by omega
  have e2 : (-(-(y : Int) - 1) - 1).toNat = y := by omega
  have a1 : Builtin.bitAnd (x : Int) (y : Int) = ((x &&& y : Nat) : Int) := by
    unfold Builtin.bitAnd
    rw [decide_eq_true (Int.natCast_nonneg x), decide_eq_true (Int.natCast_nonneg y)]
    rfl
  have a2 : Builtin.bitOr (x : Int) (y : Int) = ((x ||| y : Nat) : Int) := by
    unfold Builtin.bitOr Builtin.bitAnd Builtin.bitNot
    rw [decide_eq_false h1, decide_eq_false h2]
    simp only [e1, e2]
    omega
  unfold Builtin.bitXor
  rw [a1, a2]
theorem bitXor_low {x : Int} (h : 0 ≤ x) (s : Nat) : Builtin.bitXor x (x.fdiv (2 ^ s) * 2 ^ s) = x % 2 ^ s := by
  obtain ⟨X, rfl⟩ := Int.eq_ofNat_of_zero_le h
  have hp : (0 : Int) ≤ 2 ^ s := by exact_mod_cast Nat.zero_le (2 ^ s)
  have e : ((X : Int).fdiv (2 ^ s) * 2 ^ s) = ((X / 2 ^ s * 2 ^ s : Nat) : Int) := by
    rw [Int.fdiv_eq_ediv_of_nonneg _ hp]; push_cast; rfl
  rw [e, bitXor_nat, nat_and_low, nat_or_low]
  have : ((X : Int)) = 2 ^ s * ((X : Int) / 2 ^ s) + (X : Int) % 2 ^ s := (Int.mul_ediv_add_emod _ _).symm
  push_cast
  have h3 : (X : Int) / 2 ^ s * 2 ^ s = 2 ^ s * ((X : Int) / 2 ^ s) := Int.mul_comm _ _
  omega
theorem low_digit {x : Int} (h : 0 ≤ x) {S a n : Nat} (hs : a + n ≤ S) : (x % 2 ^ S) / 2 ^ a % 2 ^ n = x / 2 ^ a % 2 ^ n := by
  obtain ⟨X, rfl⟩ := Int.eq_ofNat_of_zero_le h
  obtain ⟨r, rfl⟩ := Nat.exists_eq_add_of_le hs
  have : X % 2 ^ (a + n + r) / 2 ^ a % 2 ^ n = X / 2 ^ a % 2 ^ n := by
    rw [Nat.add_assoc, Nat.pow_add, Nat.mod_mul_right_div_self, Nat.pow_add, Nat.mod_mul_right_mod]
  exact_mod_cast this
theorem high_digit {x : Int} (S a : Nat) : x / 2 ^ S / 2 ^ a = x / 2 ^ (S + a) := by
  rw [Int.ediv_ediv_of_nonneg (by exact_mod_cast Nat.zero_le (2 ^ S)), ← Int.pow_add]
theorem digits_join {ds ds1 ds2 : List Int} {x lo mid hi : Int} {n S : Nat} (hx : 0 ≤ x) (h0 : 0 ≤ lo) (h1 : lo < mid) (h2 : mid < hi) (hS : S = n * (mid - lo).toNat)
    (e1 : ∀ j : Nat, ds1.getD j 0 = if lo ≤ (j : Int) ∧ (j : Int) < mid then ((x % 2 ^ S) / 2 ^ (n * (j - lo.toNat))) % 2 ^ n else ds.getD j 0)
    (e2 : ∀ j : Nat, ds2.getD j 0 = if mid ≤ (j : Int) ∧ (j : Int) < hi then ((x.fdiv (2 ^ S)) / 2 ^ (n * (j - mid.toNat))) % 2 ^ n else ds1.getD j 0) (j : Nat) :
    ds2.getD j 0 = if lo ≤ (j : Int) ∧ (j : Int) < hi then (x / 2 ^ (n * (j - lo.toNat))) % 2 ^ n else ds.getD j 0 := by
  rw [e2 j]
  by_cases a : mid ≤ (j : Int) ∧ (j : Int) < hi
  · rw [if_pos a, if_pos (by omega), Int.fdiv_eq_ediv_of_nonneg _ (by exact_mod_cast Nat.zero_le (2 ^ S)), high_digit, hS, ← Nat.mul_add]
    congr 4
    omega
  · rw [if_neg a, e1 j]
    by_cases b : lo ≤ (j : Int) ∧ (j : Int) < mid
    · rw [if_pos b, if_pos (by omega), low_digit hx]
      rw [hS, ← Nat.mul_succ]
      exact Nat.mul_le_mul_left _ (by omega)
    · rw [if_neg b, if_neg (by omega)]
end Mine
namespace Mine
theorem half_facts {lo hi n1 : Int} (h0 : 0 ≤ lo) (h1 : lo < hi) (h2 : hi ≤ 400) (hn0 : 1 ≤ n1) (hn1 : n1 ≤ 200) :
    0 ≤ (lo + hi).fdiv (2 ^ Int.toNat 1) - lo ∧ (lo + hi).fdiv (2 ^ Int.toNat 1) - lo ≤ 400 ∧ (lo + 1 ≠ hi → lo < (lo + hi).fdiv (2 ^ Int.toNat 1) ∧ (lo + hi).fdiv (2 ^ Int.toNat 1) < hi) ∧
    0 ≤ ((lo + hi).fdiv (2 ^ Int.toNat 1) - lo) * n1 ∧ ((lo + hi).fdiv (2 ^ Int.toNat 1) - lo) * n1 ≤ 80000 ∧
    (((lo + hi).fdiv (2 ^ Int.toNat 1) - lo) * n1).toNat = n1.toNat * ((lo + hi).fdiv (2 ^ Int.toNat 1) - lo).toNat := by
  have hM : (lo + hi).fdiv (2 ^ Int.toNat 1) = (lo + hi) / 2 := by
    rw [show ((2 : Int) ^ Int.toNat 1) = 2 from rfl, Int.fdiv_eq_ediv_of_nonneg _ (by omega)]
  rw [hM]
  have a0 : 0 ≤ (lo + hi) / 2 - lo := by omega
  have a1 : (lo + hi) / 2 - lo ≤ 400 := by omega
  refine ⟨a0, a1, fun _ => by omega, Int.mul_nonneg a0 (by omega), Int.le_trans (Int.mul_le_mul a1 hn1 (by omega) (by omega)) (by omega), ?_⟩
  apply Int.natCast_inj.mp
  rw [Int.toNat_of_nonneg (Int.mul_nonneg a0 (by omega)), Int.natCast_mul, Int.toNat_of_nonneg a0, Int.toNat_of_nonneg (by omega), Int.mul_comm]
theorem low_facts {x : Int} (s : Nat) (h : 0 ≤ x) : 0 ≤ Builtin.bitXor x (x.fdiv (2 ^ s) * 2 ^ s) ∧ Builtin.bitXor x (x.fdiv (2 ^ s) * 2 ^ s) < 2 ^ s := by
  have hp : (0 : Int) < 2 ^ s := by exact_mod_cast Nat.two_pow_pos s
  rw [bitXor_low h]
  exact ⟨Int.emod_nonneg _ (Int.ne_of_gt hp), Int.emod_lt_of_pos _ hp⟩
theorem high_facts {x : Int} (s r : Nat) (h : 0 ≤ x) (h1 : x < 2 ^ (s + r)) : 0 ≤ x.fdiv (2 ^ s) ∧ x.fdiv (2 ^ s) < 2 ^ r := by
  have hp : (0 : Int) < 2 ^ s := by exact_mod_cast Nat.two_pow_pos s
  rw [Int.fdiv_eq_ediv_of_nonneg _ (Int.le_of_lt hp)]
  refine ⟨Int.ediv_nonneg h (Int.le_of_lt hp), Int.ediv_lt_of_lt_mul hp ?_⟩
  rw [Int.mul_comm, ← Int.pow_add]; exact h1
end Mine
namespace Mine
/-- how many digits -/
def digN (a n : Int) : Int := ((Builtin.Int.intBits a : Int) + n - 1).fdiv n
theorem lt_bits {a : Int} (h : 0 ≤ a) : a < 2 ^ Builtin.Int.intBits a := by
  unfold Builtin.Int.intBits
  by_cases h0 : a = 0
  · subst h0; decide
  · rw [if_neg (by simpa using h0)]
    have h1 : a.natAbs < 2 ^ (a.natAbs.log2 + 1) := Nat.lt_log2_self
    have h2 : ((a.natAbs : Nat) : Int) = a := Int.natAbs_of_nonneg h
    rw [← h2]
    exact_mod_cast h1
theorem digN_facts {a n : Int} (h : 0 ≤ a) (hn : 1 ≤ n) : 0 ≤ digN a n ∧ (a ≠ 0 → 1 ≤ digN a n) ∧ a < 2 ^ (n.toNat * (digN a n).toNat) := by
  have e : digN a n = ((Builtin.Int.intBits a : Int) + n - 1) / n := Int.fdiv_eq_ediv_of_nonneg _ (by omega)
  have h0 : 0 ≤ digN a n := by rw [e]; exact Int.ediv_nonneg (by omega) (by omega)
  have h1 := Int.mul_ediv_add_emod ((Builtin.Int.intBits a : Int) + n - 1) n
  have h2 := Int.emod_lt_of_pos ((Builtin.Int.intBits a : Int) + n - 1) (show 0 < n by omega)
  rw [← e] at h1
  have h3 : (Builtin.Int.intBits a : Int) ≤ n * digN a n := by omega
  have h4 : Builtin.Int.intBits a ≤ n.toNat * (digN a n).toNat := by
    have : ((n.toNat * (digN a n).toNat : Nat) : Int) = n * digN a n := by rw [Int.natCast_mul, Int.toNat_of_nonneg h0, Int.toNat_of_nonneg (by omega)]
    omega
  refine ⟨h0, fun ha => ?_, Int.lt_of_lt_of_le (lt_bits h) ?_⟩
  · have hb : 1 ≤ Builtin.Int.intBits a := by
      unfold Builtin.Int.intBits
      rw [if_neg (by simpa using ha)]
      omega
    have : digN a n ≠ 0 := fun z => by rw [z, Int.mul_zero] at h3; omega
    omega
  · have := Nat.pow_le_pow_right (show 0 < 2 by decide) h4
    exact_mod_cast this
def Digits (a n : Int) (ds : List Int) : Prop := ds.length = (digN a n).toNat ∧ ∀ j : Nat, ds.getD j 0 = if j < (digN a n).toNat then (a / 2 ^ (n.toNat * j)) % 2 ^ n.toNat else 0
theorem digits_zero {n : Int} (k : Nat) (hk : k = (digN 0 n).toNat) : Digits 0 n (List.replicate k 0) := by
  subst hk
  refine ⟨List.length_replicate, fun j => ?_⟩
  by_cases hj : j < (digN 0 n).toNat
  · rw [if_pos hj, Int.zero_ediv, Int.zero_emod, List.getD_eq_getElem?_getD, List.getElem?_replicate, if_pos hj]; rfl
  · rw [if_neg hj, List.getD_eq_getElem?_getD, List.getElem?_replicate, if_neg hj]; rfl
theorem digits_of {a n hi : Int} {ds : List Int} {k : Nat} (hk : k = (digN a n).toNat) (hh : hi = (k : Int)) (hl : ds.length = k) (h : ∀ j : Nat, ds.getD j 0 = if (0 : Int) ≤ (j : Int) ∧ (j : Int) < hi then (a / 2 ^ (n.toNat * (j - (0 : Int).toNat))) % 2 ^ n.toNat else (List.replicate k (0 : Int)).getD j 0) : Digits a n ds := by
  subst hk hh
  refine ⟨hl, fun j => ?_⟩
  rw [h j]
  by_cases hj : j < (digN a n).toNat
  · rw [if_pos hj, if_pos (by omega)]; rfl
  · rw [if_neg hj, if_neg (by omega), List.getD_eq_getElem?_getD, List.getElem?_replicate, if_neg hj]; rfl
end Mine
namespace Mine
/-- the number of its digits -/
def dsum (n : Nat) : List Int → Int
  | [] => 0
  | d :: r => d + 2 ^ n * dsum n r
theorem dsum_append (n : Nat) (l r : List Int) : dsum n (l ++ r) = dsum n l + 2 ^ (n * l.length) * dsum n r := by
  induction l with
  | nil => simp [dsum]
  | cons d l ih =>
    rw [List.cons_append, dsum, dsum, ih, List.length_cons, Nat.mul_succ, Nat.add_comm, Int.pow_add, Int.mul_add, Int.mul_assoc, Int.add_assoc]
theorem dsum_bounds {n : Nat} {l : List Int} (h : ∀ d ∈ l, 0 ≤ d ∧ d < 2 ^ n) : 0 ≤ dsum n l ∧ dsum n l < 2 ^ (n * l.length) := by
  have hp : (0 : Int) < 2 ^ n := by exact_mod_cast Nat.two_pow_pos n
  induction l with
  | nil => simp [dsum]
  | cons d l ih =>
    have hd := h d List.mem_cons_self
    obtain ⟨i0, i1⟩ := ih fun x hx => h x (List.mem_cons_of_mem _ hx)
    refine ⟨Int.add_nonneg hd.1 (Int.mul_nonneg (Int.le_of_lt hp) i0), ?_⟩
    rw [dsum, List.length_cons, Nat.mul_succ, Nat.add_comm, Int.pow_add]
    have h1 : dsum n l + 1 ≤ 2 ^ (n * l.length) := i1
    have h2 := Int.mul_le_mul_of_nonneg_left h1 (Int.le_of_lt hp)
    rw [Int.mul_add, Int.mul_one] at h2
    omega
def seg (l : List Int) (lo hi : Nat) : List Int := (l.drop lo).take (hi - lo)
theorem seg_length {l : List Int} {lo hi : Nat} (h : hi ≤ l.length) : (seg l lo hi).length = hi - lo := by
  unfold seg; rw [List.length_take, List.length_drop]; omega
theorem seg_append {l : List Int} {lo mid hi : Nat} (h0 : lo ≤ mid) (h1 : mid ≤ hi) : seg l lo hi = seg l lo mid ++ seg l mid hi := by
  unfold seg
  have e1 : hi - lo = (mid - lo) + (hi - mid) := by omega
  rw [e1, List.take_add, List.drop_drop]
  congr 3
  omega
theorem seg_mem {l : List Int} {lo hi : Nat} {d : Int} (h : d ∈ seg l lo hi) : d ∈ l := List.mem_of_mem_drop (List.mem_of_mem_take h)
theorem seg_all (l : List Int) : seg l 0 l.length = l := by unfold seg; simp
theorem seg_one {l : List Int} {lo : Nat} (h : lo < l.length) (n : Nat) : dsum n (seg l lo (lo + 1)) = l.getD lo 0 := by
  unfold seg
  rw [Nat.add_sub_cancel_left, List.take_one, List.head?_drop, List.getElem?_eq_getElem h, List.getD_eq_getElem?_getD, List.getElem?_eq_getElem h]
  simp [dsum]
theorem seg_join {l : List Int} {lo mid hi : Int} {n S : Nat} (h0 : 0 ≤ lo) (h1 : lo ≤ mid) (h2 : mid ≤ hi) (h3 : hi ≤ (l.length : Int)) (hS : S = n * (mid - lo).toNat) :
    dsum n (seg l mid.toNat hi.toNat) * 2 ^ S + dsum n (seg l lo.toNat mid.toNat) = dsum n (seg l lo.toNat hi.toNat) := by
  rw [seg_append (lo := lo.toNat) (mid := mid.toNat) (hi := hi.toNat) (by omega) (by omega), dsum_append, seg_length (by omega), hS, Int.mul_comm, Int.add_comm]
  congr 4
  omega
end Mine
namespace Mine
theorem dsum_of {n : Nat} (ds : List Int) : ∀ {a : Int}, 0 ≤ a → a < 2 ^ (n * ds.length) → (∀ j : Nat, j < ds.length → ds.getD j 0 = (a / 2 ^ (n * j)) % 2 ^ n) → dsum n ds = a := by
  induction ds with
  | nil =>
    intro a h0 h1 _
    simp only [List.length_nil, Nat.mul_zero, Int.pow_zero] at h1
    simp only [dsum]
    omega
  | cons d r ih =>
    intro a h0 h1 h
    have hp : (0 : Int) < 2 ^ n := by exact_mod_cast Nat.two_pow_pos n
    have hd : d = a % 2 ^ n := by
      have := h 0 (by simp)
      simpa using this
    have hr := ih (a := a / 2 ^ n) (Int.ediv_nonneg h0 (Int.le_of_lt hp)) (Int.ediv_lt_of_lt_mul hp (by rw [Int.mul_comm, ← Int.pow_add, Nat.add_comm, ← Nat.mul_succ]; exact h1)) (fun j hj => by
      have := h (j + 1) (by simpa using hj)
      rw [List.getD_cons_succ] at this
      rw [this, Int.ediv_ediv_of_nonneg (Int.le_of_lt hp), ← Int.pow_add, Nat.mul_succ, Nat.add_comm])
    rw [dsum, hr, hd]
    have := Int.emod_add_mul_ediv a (2 ^ n)
    omega
theorem digits_dsum {a n : Int} {ds : List Int} (h : Digits a n ds) (h0 : 0 ≤ a) (hn : 1 ≤ n) : dsum n.toNat ds = a ∧ ∀ d ∈ ds, 0 ≤ d ∧ d < 2 ^ n.toNat := by
  obtain ⟨_, _, hb⟩ := digN_facts h0 hn
  have hp : (0 : Int) < 2 ^ n.toNat := by exact_mod_cast Nat.two_pow_pos n.toNat
  refine ⟨dsum_of ds h0 (by rw [h.1]; exact hb) fun j hj => by rw [h.2 j, if_pos (h.1 ▸ hj)], fun d hd => ?_⟩
  obtain ⟨j, hj, rfl⟩ := List.mem_iff_getElem.mp hd
  have e := h.2 j
  rw [List.getD_eq_getElem?_getD, List.getElem?_eq_getElem hj, if_pos (h.1 ▸ hj)] at e
  have e' : ds[j] = a / 2 ^ (n.toNat * j) % 2 ^ n.toNat := e
  rw [e']
  exact ⟨Int.emod_nonneg _ (Int.ne_of_gt hp), Int.emod_lt_of_pos _ hp⟩
/-- a turn of the long division -/
theorem long_step {n : Nat} {b r d Qv P : Int} (hb : 0 < b) (hr0 : 0 ≤ r) (hr1 : r < b) (hd0 : 0 ≤ d) (hd1 : d < 2 ^ n) (e : Qv * b + r = P) :
    (0 ≤ (r * 2 ^ n + d).fdiv b ∧ (r * 2 ^ n + d).fdiv b < 2 ^ n) ∧ (0 ≤ (r * 2 ^ n + d).fmod b ∧ (r * 2 ^ n + d).fmod b < b) ∧ ((r * 2 ^ n + d).fdiv b + 2 ^ n * Qv) * b + (r * 2 ^ n + d).fmod b = d + 2 ^ n * P := by
  have hp : (0 : Int) < 2 ^ n := by exact_mod_cast Nat.two_pow_pos n
  have h0 : 0 ≤ r * 2 ^ n := Int.mul_nonneg hr0 (Int.le_of_lt hp)
  rw [Int.fdiv_eq_ediv_of_nonneg _ (Int.le_of_lt hb), Int.fmod_eq_emod_of_nonneg _ (Int.le_of_lt hb)]
  refine ⟨⟨Int.ediv_nonneg (by omega) (Int.le_of_lt hb), Int.ediv_lt_of_lt_mul hb ?_⟩, ⟨Int.emod_nonneg _ (Int.ne_of_gt hb), Int.emod_lt_of_pos _ hb⟩, ?_⟩
  · have h1 : (r + 1) * 2 ^ n ≤ b * 2 ^ n := Int.mul_le_mul_of_nonneg_right (by omega) (Int.le_of_lt hp)
    rw [Int.add_mul, Int.one_mul] at h1
    rw [Int.mul_comm (2 ^ n) b]
    omega
  · have h1 := Int.mul_ediv_add_emod (r * 2 ^ n + d) b
    rw [Int.add_mul, ← e, Int.mul_add, Int.mul_comm ((r * 2 ^ n + d) / b) b, Int.mul_assoc, Int.mul_comm (2 ^ n) r]
    omega
theorem long_end {a b q r : Int} (hb : 0 < b) (hr0 : 0 ≤ r) (hr1 : r < b) (e : q * b + r = a) : q = a.fdiv b ∧ r = a.fmod b := by
  rw [Int.fdiv_eq_ediv_of_nonneg _ (Int.le_of_lt hb), Int.fmod_eq_emod_of_nonneg _ (Int.le_of_lt hb), ← e]
  constructor
  · rw [Int.add_comm, Int.add_mul_ediv_right _ _ (Int.ne_of_gt hb), Int.ediv_eq_zero_of_lt hr0 hr1, Int.zero_add]
  · rw [Int.add_comm, Int.add_mul_emod_self_right, Int.emod_eq_of_lt hr0 hr1]
end Mine
end
section
open PySem PySem.Spec PySem.Calls PySem.W PyProof.Rows
namespace Mine
def detZ (a0 a1 a2 b0 b1 b2 c0 c1 c2 : Int) : Int := a0 * (b1 * c2 - b2 * c1) - a1 * (b0 * c2 - b2 * c0) + a2 * (b0 * c1 - b1 * c0)
set_option maxRecDepth 100000 in
set_option maxHeartbeats 8000000 in
theorem det_spec {w : World} {p : Program} {loose : List Str} {mean : ExcName → Option Value} {mg mb : Str → Option Value}
   {dp un : Nat} {gd : Option (List Code)} {cn : Str} {cs : Scope} {a : Addr} {ccd : Value} {cl : List (Str × Addr)} {outer : List Env} {A₀ : Around} {base h₀ : Heap} {L : Addr} {m : Str → Option Value} {s : Shared} {Q E : Value → Shared → Prop} {news : List (Addr × Obj)}
   {la lb lc : Addr} {a0 a1 a2 b0 b1 b2 c0 c1 c2 : Int} {t0 t1 t2 t3 t4 t5 t6 t7 t8 : Tok} :
   Below A₀ base outer h₀ → Fr h₀ L s.heap m → (Mine.hd.heap_39 w.params).In h₀ → News h₀ L s.heap news → Top p loose mean mg mb h₀ → cs.kind = .function →
   dp + 1 < recursionLimit → un + 8 * 1 < cLine →
   (-(2^40) < a0 ∧ a0 < 2^40) → (-(2^40) < a1 ∧ a1 < 2^40) → (-(2^40) < a2 ∧ a2 < 2^40) → (-(2^40) < b0 ∧ b0 < 2^40) → (-(2^40) < b1 ∧ b1 < 2^40) → (-(2^40) < b2 ∧ b2 < 2^40) → (-(2^40) < c0 ∧ c0 < 2^40) → (-(2^40) < c1 ∧ c1 < 2^40) → (-(2^40) < c2 ∧ c2 < 2^40) → s.heap.IsList la #[.int a0 t0, .int a1 t1, .int a2 t2] → s.heap.IsList lb #[.int b0 t3, .int b1 t4, .int b2 t5] → s.heap.IsList lc #[.int c0 t6, .int c1 t7, .int c2 t8] →
   (∀ (t : Tok) (h' : Heap) (tk' : Nat), Fr h₀ L h' m → News h₀ L h' news → s.heap.StaysIn h' → Q (.int (detZ a0 a1 a2 b0 b1 b2 c0 c1 c2) t) { s with heap := h', toks := tk' }) →
   wpAny (model PySem.Challenge.rw_tl0028_01.prog w) (ktrTop dp un gd cn cs L a ccd cl outer) (call (.ref 109) [.ref la, .ref lb, .ref lc]) Q E s := by
  w_top off
  k_fill
  intro B F X N T hk hd hu b1 b2 b3 b4 b5 b6 b7 b8 b9 ha hb hc hret
  refine wpAny_call ?_
  k_dflt (first
    | (refine' Mine.enterRL ?k1 ?k2 ?k3 ?k5 ?kA ?kF ?kK ?k6 ?k7 ?k8 ?k9 ?kB ?_ ?c2 ?c3 ?c4 ?c5; (case kA => exact rfl); (case kF => exact rfl); (case kK => assumption); (case k1 => k_asm); (case k2 => k_asm); (case k3 => k_asm); (case k5 => k_asm); (case k6 => k_is); (case k7 => k_is); (case k8 => ktr_room); (case k9 => exact BindsTo.of_eq rfl); (case c5 => decide); (case kB => exact locs rfl); (case c2 => exact rfl); (case c3 => exact rfl); (case c4 => exact rfl); k_whole; intro lE hE tkE fgE envE aE mE fE nE bE xE tE; (try dsimp only); (try ((show wpAny _ _ _ _ _ _); k_fold)))
    | (refine' Mine.enterRCL ?k1 ?k2 ?k3 ?k5 ?kA ?kF ?kK ?k6 ?k7 ?k8 ?k9 ?kB ?kD ?_ ?c2 ?c3 ?c4; (case kA => exact rfl); (case kF => exact rfl); (case kK => assumption); (case k1 => k_asm); (case k2 => k_asm); (case k3 => k_asm); (case k5 => k_asm); (case k6 => k_is); (case k7 => k_is); (case k8 => ktr_room); (case k9 => exact BindsTo.of_eq rfl); (case kB => exact rfl); (case kD => decide +kernel); (case c2 => exact rfl); (case c3 => exact rfl); (case c4 => exact rfl); k_whole; intro lE hE tkE cellsE fgE envE aE mE fE nE yE bE xE tE; k_cells yE; (try simp only [List.cons_append, List.nil_append, List.append_nil] at nE); (try dsimp only); (try ((show wpAny _ _ _ _ _ _); k_fold))))
  k_steps
  all_goals exact hret _ _ _ (by k_asm) (stays_news N (Fr.keep (by assumption))) (Fr.keep (by assumption))
end Mine
end
section
open PySem PySem.Spec PySem.Calls PySem.W PyProof.Rows
namespace Mine

def exchRows (vs : List V3) (gs ns : List Int) : List V3 := (gs.zip ns).foldl (fun r p => r.set p.1.toNat (vs.getD p.2.toNat (0, 0, 0))) (vs.take 3)
def detV (a b c : V3) : Int := detZ a.1 a.2.1 a.2.2 b.1 b.2.1 b.2.2 c.1 c.2.1 c.2.2
def exchZ (vs : List V3) (gs ns : List Int) : Int := let r := exchRows vs gs ns; detV (r.getD 0 (0,0,0)) (r.getD 1 (0,0,0)) (r.getD 2 (0,0,0))
def Small (v : V3) : Prop := (-(2^40) < v.1 ∧ v.1 < 2^40) ∧ (-(2^40) < v.2.1 ∧ v.2.1 < 2^40) ∧ (-(2^40) < v.2.2 ∧ v.2.2 < 2^40)
theorem exchRows_succ (vs : List V3) {gs ns : List Int} {i : Nat} (e : gs.length = ns.length) (hi : i < gs.length) : exchRows vs (gs.take (i + 1)) (ns.take (i + 1)) = (exchRows vs (gs.take i) (ns.take i)).set (gs.getD i 0).toNat (vs.getD (ns.getD i 0).toNat (0, 0, 0)) := by
  unfold exchRows
  have h1 : gs[i]? = some (gs.getD i 0) := by rw [List.getD_eq_getElem?_getD, List.getElem?_eq_getElem hi]; rfl
  have h2 : ns[i]? = some (ns.getD i 0) := by rw [List.getD_eq_getElem?_getD, List.getElem?_eq_getElem (e ▸ hi)]; rfl
  rw [List.take_add_one (l := gs), List.take_add_one (l := ns), h1, h2, Option.toList_some, Option.toList_some, List.zip_append (by rw [List.length_take, List.length_take, e]), List.foldl_append]
  rfl
theorem small_zero : Small (0, 0, 0) := by unfold Small; decide
theorem small_getD {vs : List V3} (h : ∀ v ∈ vs, Small v) (i : Nat) : Small (vs.getD i (0, 0, 0)) := by
  rw [List.getD_eq_getElem?_getD]
  cases e : vs[i]? with
  | none => exact small_zero
  | some v => exact h v (List.mem_of_getElem? e)
theorem exchRows_small {vs : List V3} (h : ∀ v ∈ vs, Small v) (gs ns : List Int) (i : Nat) : Small ((exchRows vs gs ns).getD i (0, 0, 0)) := by
  refine small_getD ?_ i
  unfold exchRows
  generalize gs.zip ns = l
  have h0 : ∀ v ∈ vs.take 3, Small v := fun v hv => h v (List.mem_of_mem_take hv)
  revert h0
  generalize vs.take 3 = r
  induction l generalizing r with
  | nil => exact fun h0 => h0
  | cons p l ih =>
    intro h0
    rw [List.foldl_cons]
    refine ih _ fun v hv => ?_
    rcases List.mem_or_eq_of_mem_set hv with hv | rfl
    · exact h0 v hv
    · exact small_getD h _
local macro_rules | `(tactic| walk_at "subscriptTail Name Slice ref ref") => `(tactic| (k_here; refine Mine.halt ?_))
local macro_rules | `(tactic| walk_at "pyIter ref") => `(tactic| ((with_reducible show wpAny _ _ (pyIter (Value.ref _)) (fun it s₂ => LoopAtV _ _ _ _ _ _ _ _ _ it s₂) _ _); refine Mine.halt ?_))
local macro_rules | `(tactic| walk_at "exec For Name Call cons nil") => `(tactic| (k_here; (rename Fr _ _ _ _ => lF'); (with_unfolding_all refine' For_invVF lF' ?k1 ?k2 ?_; (case k1 => exact rfl); (case k2 => exact rfl); k_whole)))
local macro_rules | `(tactic| walk_at "subscriptTail") => `(tactic| (k_here; (with_reducible show wpAny _ _ (subscriptTail _ _ (Value.ref _) (Value.int _ _)) _ _ _); (with_unfolding_all refine' Mine.item_refs ?k1 ?k2 ?k3 ?k4 ?_ ?k6; (case k1 => is_list); (case k2 => omega); (case k3 => omega); (case k4 => omega); (case k6 => with_unfolding_all rfl); k_whole)))
local macro_rules | `(tactic| walk_at "setItem ref int") => `(tactic| (k_here; refine Mine.halt ?_))
local macro_rules | `(tactic| walk_at "call ref") => `(tactic| (k_here; refine Mine.halt ?_))
set_option maxRecDepth 100000 in
set_option maxHeartbeats 8000000 in
theorem exch_spec {w : World} {p : Program} {loose : List Str} {mean : ExcName → Option Value} {mg mb : Str → Option Value}
   {dp un : Nat} {gd : Option (List Code)} {cn : Str} {cs : Scope} {a : Addr} {ccd : Value} {cl : List (Str × Addr)} {outer : List Env} {A₀ : Around} {base h₀ : Heap} {L : Addr} {m : Str → Option Value} {s : Shared} {Q E : Value → Shared → Prop} {news : List (Addr × Obj)}
   {ll lg ln : Addr} {as : List Addr} {vs : List V3} {vg vn : List Value} {gs ns : List Int} :
   Below A₀ base outer h₀ → Fr h₀ L s.heap m → (Mine.hd.heap_39 w.params).In h₀ → News h₀ L s.heap news → Top p loose mean mg mb h₀ → cs.kind = .function →
   dp + 2 < recursionLimit → un + 8 * 2 < cLine →
   s.heap.IsList ll (as.map Value.ref).toArray → Tris s.heap as vs → 3 ≤ as.length → as.length ≤ 6 → (∀ v ∈ vs, Small v) → s.heap.IsList lg vg.toArray → IntsAre vg gs → s.heap.IsList ln vn.toArray → IntsAre vn ns → gs.length = ns.length → gs.length ≤ 3 → (∀ g ∈ gs, 0 ≤ g ∧ g < 3) → (∀ n ∈ ns, 0 ≤ n ∧ n < (as.length : Int)) →
   (∀ (t : Tok) (h' : Heap) (tk' : Nat), Fr h₀ L h' m → News h₀ L h' news → s.heap.StaysIn h' → Q (.int (exchZ vs gs ns) t) { s with heap := h', toks := tk' }) →
   wpAny (model PySem.Challenge.rw_tl0028_01.prog w) (ktrTop dp un gd cn cs L a ccd cl outer) (call (.ref 116) [.ref ll, .ref lg, .ref ln]) Q E s := by
  w_top off
  k_fill
  intro B F X N T hk hd hu hL hT hal hah hsm hLg hIg hLn hIn hgn hg3 hgb hnb hret
  refine wpAny_call ?_
  k_dflt (first
    | (refine' Mine.enterRL ?k1 ?k2 ?k3 ?k5 ?kA ?kF ?kK ?k6 ?k7 ?k8 ?k9 ?kB ?_ ?c2 ?c3 ?c4 ?c5; (case kA => exact rfl); (case kF => exact rfl); (case kK => assumption); (case k1 => k_asm); (case k2 => k_asm); (case k3 => k_asm); (case k5 => k_asm); (case k6 => k_is); (case k7 => k_is); (case k8 => ktr_room); (case k9 => exact BindsTo.of_eq rfl); (case c5 => decide); (case kB => exact locs rfl); (case c2 => exact rfl); (case c3 => exact rfl); (case c4 => exact rfl); k_whole; intro lE hE tkE fgE envE aE mE fE nE bE xE tE; (try dsimp only); (try ((show wpAny _ _ _ _ _ _); k_fold)))
    | (refine' Mine.enterRCL ?k1 ?k2 ?k3 ?k5 ?kA ?kF ?kK ?k6 ?k7 ?k8 ?k9 ?kB ?kD ?_ ?c2 ?c3 ?c4; (case kA => exact rfl); (case kF => exact rfl); (case kK => assumption); (case k1 => k_asm); (case k2 => k_asm); (case k3 => k_asm); (case k5 => k_asm); (case k6 => k_is); (case k7 => k_is); (case k8 => ktr_room); (case k9 => exact BindsTo.of_eq rfl); (case kB => exact rfl); (case kD => decide +kernel); (case c2 => exact rfl); (case c3 => exact rfl); (case c4 => exact rfl); k_whole; intro lE hE tkE cellsE fgE envE aE mE fE nE yE bE xE tE; k_cells yE; (try simp only [List.cons_append, List.nil_append, List.append_nil] at nE); (try dsimp only); (try ((show wpAny _ _ _ _ _ _); k_fold))))
  k_steps
  refine Halt.go ?_
  k_dflt (refine kms_slice_lit (by k_asm) (by k_asm) (by kmk_list) (by kmk_part) (by kmk_part) (by exact Mine.pick_refs _ 3) ?_ (by with_unfolding_all rfl) (by kmk_pure) (by (simp only [List.size_toArray, List.length_map]; rw [PySem.sizeLine_eq]; omega)))
  intro dS hS fS nS lS
  try k_sweep
  k_steps
  refine Halt.go ?_
  rename Fr _ _ _ _ => F1
  rename News _ _ _ _ => N1
  rename IsRange _ _ _ _ _ _ _ _ => R1
  with_unfolding_all refine iter_rangeUnr (n := gs.length) (by rfl) R1 (by first | exact small_one (by omega) (by omega) (by omega) (by omega)) (by first | exact rangeSize_nat _ _ | rfl) F1 N1 ?_
  clear F1 N1
  intro I hI
  k_lt hI
  refine rangeRest_of (J := fun m₀ i m news => Halt (∃ u rs D1, m₀ (Str.ofString "rows") = some (.ref D1) ∧ m = (fun z => if z = Str.ofString "k" then u else m₀ z) ∧ news = [(D1, PySem.W.listOf (rs.map Value.ref).toArray 0)] ∧ rs.length = 3 ∧ Tris s.heap rs (exchRows vs (gs.take i) (ns.take i)))) ?_ ?_ ?_
  · refine Halt.go ⟨_, as.take 3, _, rfl, map_id _, rfl, by rw [List.length_take]; omega, ?_⟩
    · simp only [exchRows, List.take_zero, List.zip_nil_left, List.foldl_nil]; exact hT.take 3
  · rintro i m1 news1 t1 h1 tk1 hi HJ9 F' N'
    refine Mine.letP ?_
    intro G9
    obtain ⟨u, rs, D, hD, rfl, rfl, hrs, hTr⟩ := HJ9
    have eD := Value.ref.inj (Option.some.inj hD); subst eD
    have hn1 := ints_mem (k := 0 + (i : Int)) hnb (by omega) (by omega)
    have hg1 := ints_mem (k := 0 + (i : Int)) hgb (by omega) (by omega)
    show wpAny _ _ _ _ _ _
    try dsimp only
    try ((show wpAny _ _ _ _ _ _); k_fold)
    k_steps
    refine Halt.go ?_
    k_dflt (refine Mine.set_refs (by k_asm) (by k_asm) (by k_upd) (by omega) (by omega) (by omega) ?_)
    intro hS fS nS
    try k_sweep
    k_steps
    refine Halt.go ⟨_, _, _, rfl, map_again _ _ _ _, rfl, by rw [List.length_set]; exact hrs, ?_⟩
    rw [exchRows_succ vs (by omega) hi]
    simp only [Int.zero_add, Int.toNat_natCast] at hn1 hg1 ⊢
    exact hTr.set _ (hT.2 _ (by omega))
  · rintro m1 news1 h1 tk1 HJ9 F' N'
    refine Mine.letP ?_
    intro G9
    obtain ⟨u, rs, D, hD, rfl, rfl, hrs, hTr⟩ := HJ9
    have eD := Value.ref.inj (Option.some.inj hD); subst eD
    rw [List.take_length, hgn, List.take_length] at hTr
    have hss := exchRows_small hsm gs ns
    obtain ⟨r0, r1, r2, rfl⟩ := three_of hrs
    obtain ⟨⟨b0, b1⟩, ⟨b2, b3⟩, b4, b5⟩ := hss 0
    obtain ⟨⟨c0, c1⟩, ⟨c2, c3⟩, c4, c5⟩ := hss 1
    obtain ⟨⟨d0, d1⟩, ⟨d2, d3⟩, d4, d5⟩ := hss 2
    obtain ⟨x0, x1, x2, l0⟩ := hTr.2 0 (by simp)
    obtain ⟨y0, y1, y2, l1⟩ := hTr.2 1 (by simp)
    obtain ⟨z0, z1, z2, l2⟩ := hTr.2 2 (by simp)
    show wpAny _ _ _ _ _ _
    try dsimp only
    try ((show wpAny _ _ _ _ _ _); k_fold)
    k_steps
    refine Halt.go ?_
    k_dflt (refine' Mine.det_spec ?zB ?zF ?zX ?zN ?zT ?zk ?zd ?zu ?z0 ?z1 ?z2 ?z3 ?z4 ?z5 ?z6 ?z7 ?z8 ?y0 ?y1 ?y2 ?zret; (case zB => k_asm); (case zF => k_asm); (case zX => first | k_asm | k_in); (case zN => k_asm); (case zT => k_asm); (case zk => first | exact rfl | assumption); (case zd => ktr_room); (case zu => ktr_units); (case y0 => is_list); (case y1 => is_list); (case y2 => is_list); (case z0 => first | assumption | omega); (case z1 => first | assumption | omega); (case z2 => first | assumption | omega); (case z3 => first | assumption | omega); (case z4 => first | assumption | omega); (case z5 => first | assumption | omega); (case z6 => first | assumption | omega); (case z7 => first | assumption | omega); (case z8 => first | assumption | omega); skip)
    intro t9 h9 tk9 F9 N9 S9
    try dsimp only
    k_steps
    exact hret _ _ _ (by k_asm) (stays_news N (Fr.keep (by assumption))) (Fr.keep (by assumption))
end Mine
end
section
open PySem PySem.Spec PySem.Calls PySem.W PyProof.Rows
namespace Mine
local macro_rules | `(tactic| ke_room) => `(tactic| first | units_room | ((dsimp +zetaDelta only); units_room))
local macro_rules | `(tactic| walk_at "eval ListComp") => `(tactic| (k_here; k_dflt (first
  | (with_reducible show wpAny _ _ (eval (PySem.Expr.ListComp _ [⟨_, _, [], _⟩] _ _) _) _ _ _); refine LCg.ListComp_U (F₀ := by k_asm) (by with_unfolding_all rfl) (by decide) (by rfl) (by decide) (by rfl) ?_
  | (with_reducible show wpAny _ _ (eval (PySem.Expr.ListComp _ [⟨_, _, [_], _⟩] _ _) _) _ _ _); refine LCt.ListComp_T (F₀ := by k_asm) (by with_unfolding_all rfl) (by decide) (by rfl) (by decide) (by rfl) ?_)))
local macro_rules | `(tactic| walk_at "exec Assign cons ListComp") => `(tactic| (k_here; k_dflt (first
  | (with_reducible show wpAny _ _ (exec (PySem.Stmt.Assign _ (PySem.Expr.ListComp _ [⟨_, _, [], _⟩] _ _) _) _) _ _ _); refine LCg.Assign_ListComp_U (F₀ := by k_asm) (by rfl) (by with_unfolding_all rfl) (by with_unfolding_all rfl) (by decide) (by rfl) (by decide) (by rfl) (by rfl) (by rfl) ?_
  | (with_reducible show wpAny _ _ (exec (PySem.Stmt.Assign _ (PySem.Expr.ListComp _ [⟨_, _, [_], _⟩] _ _) _) _) _ _ _); refine LCt.Assign_ListComp_T (F₀ := by k_asm) (by rfl) (by with_unfolding_all rfl) (by with_unfolding_all rfl) (by decide) (by rfl) (by decide) (by rfl) (by rfl) (by rfl) ?_)))
local macro_rules | `(tactic| walk_at "CompSrc") => `(tactic| (k_here; refine Mine.halt ?_))
local macro_rules | `(tactic| walk_at "CompSrcT") => `(tactic| (k_here; refine Mine.halt ?_))
local macro_rules | `(tactic| walk_at "exec For Name Call cons nil") => `(tactic| (k_here; refine Mine.halt ?_))
local macro_rules | `(tactic| walk_at "exec For Name BinOp cons nil") => `(tactic| (k_here; refine Mine.halt ?_))
local macro_rules | `(tactic| walk_at "exec For Name Name cons nil") => `(tactic| (k_here; refine Mine.halt ?_))
local macro_rules | `(tactic| k_all) => `(tactic| assumption)
local macro_rules | `(tactic| walk_at "call builtin:sorted") => `(tactic| (k_here; refine Mine.halt ?_))
local macro_rules | `(tactic| walk_at "call builtin:len") => `(tactic| (k_here; k_dflt (refine' Mine.len_refs ?l ?n ?_; (case l => is_list); (case n => omega)); intro t' tk'))
local macro_rules | `(tactic| walk_at "compareOp Eq ref ref") => `(tactic| (k_here; k_dflt (refine' eq_intsK ?k1 ?k2 ?k3 ?k4 ?k5 ?_; (case k1 => is_list); (case k2 => assumption); (case k3 => is_list); (case k4 => repeat' (first | exact IntsAre.nil | refine IntsAre.cons _ _ ?_)); (case k5 => ktr_units); k_whole)))
local macro_rules | `(tactic| walk_at "subscriptTail") => `(tactic| (k_here; (with_reducible show wpAny _ _ (subscriptTail _ _ (Value.ref _) (Value.int _ _)) _ _ _); (with_unfolding_all refine' Mine.item_refs ?k1 ?k2 ?k3 ?k4 ?_ ?k6; (case k1 => is_list); (case k2 => omega); (case k3 => omega); (case k4 => omega); (case k6 => with_unfolding_all rfl); k_whole)))
/-- a light for each of the base -/
def ownK (ns : List Int) (b : Nat) (k : Int) : Int := (ns.getD k.toNat 0 + ((0 + (b : Int)).fdiv (2 ^ k.toNat)).fmod 2).fmod 3
def OwnOk (ns : List Int) (b : Nat) : Prop := [0, 1, 2].Perm [ownK ns b 0, ownK ns b 1, ownK ns b 2]
def OwnsIn (ns : List Int) (objs : List (Addr × Obj)) (fs : List Addr) : Prop := ∀ a ∈ fs, ∃ b t0 t1 t2 k, b < 8 ∧ OwnOk ns b ∧ (a, PySem.W.listOf #[.int (ownK ns b 0) t0, .int (ownK ns b 1) t1, .int (ownK ns b 2) t2] k) ∈ objs
theorem OwnsIn.up {ns : List Int} {objs : List (Addr × Obj)} {fs : List Addr} (h : OwnsIn ns objs fs) (p : Addr × Obj) : OwnsIn ns (p :: objs) fs := fun a ha => by
  obtain ⟨b, t0, t1, t2, k, h1, h2, h3⟩ := h a ha
  exact ⟨b, t0, t1, t2, k, h1, h2, List.mem_cons_of_mem _ h3⟩
theorem OwnsIn.snoc {ns : List Int} {objs : List (Addr × Obj)} {fs : List Addr} {a : Addr} {b : Nat} {t0 t1 t2 : Tok} {k : Nat} (h : OwnsIn ns objs fs) (hb : b < 8) (ho : OwnOk ns b) :
    OwnsIn ns ((a, PySem.W.listOf #[.int (ownK ns b 0) t0, .int (ownK ns b 1) t1, .int (ownK ns b 2) t2] k) :: objs) (fs ++ [a]) := fun a' ha => by
  rcases List.mem_append.mp ha with ha | ha
  · exact h.up _ a' ha
  · rw [List.mem_singleton.mp ha]
    exact ⟨b, t0, t1, t2, k, hb, ho, List.mem_cons_self⟩
set_option maxRecDepth 100000 in
set_option maxHeartbeats 8000000 in
theorem own_spec {w : World} {p : Program} {loose : List Str} {mean : ExcName → Option Value} {mg mb : Str → Option Value}
   {dp un : Nat} {gd : Option (List Code)} {cn : Str} {cs : Scope} {a : Addr} {ccd : Value} {cl : List (Str × Addr)} {outer : List Env} {A₀ : Around} {base h₀ : Heap} {L : Addr} {m : Str → Option Value} {s : Shared} {Q E : Value → Shared → Prop} {news : List (Addr × Obj)}
   {l1 : Addr} {y : Int} {u : Tok} {v1 : List Value} {s1 : List Int} :
   Below A₀ base outer h₀ → Fr h₀ L s.heap m → (Mine.hd.heap_39 w.params).In h₀ → News h₀ L s.heap news → Top p loose mean mg mb h₀ → cs.kind = .function →
   dp + 20 < recursionLimit → un + 8 * 20 < cLine →
   s.heap.IsList l1 v1.toArray → IntsAre v1 s1 → 3 ≤ s1.length → s1.length ≤ 6 → (∃ b, b < 8 ∧ OwnOk s1 b) → 0 ≤ y →
   (∀ (b : Nat) (t0 t1 t2 : Tok) (k : Nat) (a : Addr) (h' : Heap) (tk' : Nat), b < 8 → OwnOk s1 b → Fr h₀ L h' m → News h₀ L h' ((a, PySem.W.listOf #[.int (ownK s1 b 0) t0, .int (ownK s1 b 1) t1, .int (ownK s1 b 2) t2] k) :: news) → (∀ p ∈ news, p.1 ≠ a) → s.heap.StaysIn h' → Q (.ref a) { s with heap := h', toks := tk' }) →
   wpAny (model PySem.Challenge.rw_tl0028_01.prog w) (ktrTop dp un gd cn cs L a ccd cl outer) (call (.ref 97) [.ref l1, .int y u]) Q E s := by
  w_top off
  k_fill
  intro B F X N T hk hd hu hL hI h3 h6 hgood hy hret
  refine wpAny_call ?_
  k_dflt (first
    | (refine' Mine.enterRL ?k1 ?k2 ?k3 ?k5 ?kA ?kF ?kK ?k6 ?k7 ?k8 ?k9 ?kB ?_ ?c2 ?c3 ?c4 ?c5; (case kA => exact rfl); (case kF => exact rfl); (case kK => assumption); (case k1 => k_asm); (case k2 => k_asm); (case k3 => k_asm); (case k5 => k_asm); (case k6 => k_is); (case k7 => k_is); (case k8 => ktr_room); (case k9 => exact BindsTo.of_eq rfl); (case c5 => decide); (case kB => exact locs rfl); (case c2 => exact rfl); (case c3 => exact rfl); (case c4 => exact rfl); k_whole; intro lE hE tkE fgE envE aE mE fE nE bE xE tE; (try dsimp only); (try ((show wpAny _ _ _ _ _ _); k_fold)))
    | (refine' Mine.enterRCL ?k1 ?k2 ?k3 ?k5 ?kA ?kF ?kK ?k6 ?k7 ?k8 ?k9 ?kB ?kD ?_ ?c2 ?c3 ?c4; (case kA => exact rfl); (case kF => exact rfl); (case kK => assumption); (case k1 => k_asm); (case k2 => k_asm); (case k3 => k_asm); (case k5 => k_asm); (case k6 => k_is); (case k7 => k_is); (case k8 => ktr_room); (case k9 => exact BindsTo.of_eq rfl); (case kB => exact rfl); (case kD => decide +kernel); (case c2 => exact rfl); (case c3 => exact rfl); (case c4 => exact rfl); k_whole; intro lE hE tkE cellsE fgE envE aE mE fE nE yE bE xE tE; k_cells yE; (try simp only [List.cons_append, List.nil_append, List.append_nil] at nE); (try dsimp only); (try ((show wpAny _ _ _ _ _ _); k_fold))))
  k_steps
  refine Halt.go ?_
  rename Fr _ _ _ _ => F1
  rename News _ _ _ _ => N1
  refine nameF F1 ?_
  intro L1 e1
  subst e1
  refine nameN3 N1 ?_
  intro fA xf cb xb cs xs e1 e2 e3 e4 e5 e6
  subst e1 e4 e6
  clear e2 e3 e5
  k_dflt refine forC_range (n := 8) (by k_asm) (by rfl) (by rfl) (by rfl) (by rfl) (fun m₀ i m rest => Halt (∃ u fs nn objs, m = (fun z => if z = Str.ofString "own" then u else m₀ z) ∧ rest = (fA, PySem.W.listOf (fs.map Value.ref).toArray nn) :: (L1 + 1, xs) :: objs ∧ (∀ p ∈ objs, p.1 ≠ fA) ∧ (∀ p ∈ objs, p.1 ≠ L1 + 1) ∧ OwnsIn s1 objs fs ∧ fs.length ≤ i ∧ (∀ b, b < i → OwnOk s1 b → fs ≠ []))) ?_
  k_steps
  rename Fr _ _ _ _ => F2
  rename News _ _ _ _ => N2
  refine' Halt.go ⟨_, _, _, _, _, _, xb, _, [(fA, PySem.W.listOf #[] 0), (L1 + 1, xs)], rfl, ?r, ?s1, ?s2, ?F, ?N, ?c, ?o, ?j, ?turn, ?done⟩
  case r => k_asm
  case s1 => decide
  case s2 => rfl
  case F => exact F2
  case N => exact news_sub N2 mem_213
  case c => k_asm
  case o => intro p hp; simp only [List.mem_cons, List.not_mem_nil, or_false] at hp; rcases hp with rfl | rfl <;> k_ne
  case j => exact Halt.go ⟨_, [], 0, [], map_id _, rfl, List.forall_mem_nil _, List.forall_mem_nil _, fun _ h => (nomatch h), Nat.le_refl _, fun b hb => absurd hb (Nat.not_lt_zero _)⟩
  case turn =>
    rintro I i t m rest oI oc' h tk E' hi HJ9 hoff hcI hcd F' N'
    refine Mine.letP ?_
    intro G9
    obtain ⟨u, fs, nn, objs, rfl, rfl, ho1, ho2, hown, hfl, hne⟩ := HJ9
    try clear N2 F2
    show wpAny _ _ _ _ _ _
    try dsimp only
    try ((show wpAny _ _ _ _ _ _); k_fold)
    k_steps
    refine Halt.go ?_
    k_dflt (refine LCg.CompSrc.range (n := 3) (by rfl) (by k_asm) (by k_asm) (by assumption) (by decide) (by rfl) (by rw [PySem.sizeLine_eq]; decide) ?_)
    intro g1
    refine kcf_range (ownK s1 i) (fun k t I oI C oC D m₂ ys h tk E' hlo hhi hC hx F' N' off ne hMark => ?_) (fun ys hys => ?_)
    · try ((show wpAny _ _ _ _ _ _); k_fold)
      k_steps
      exact ⟨rfl, _, rfl⟩
    · obtain ⟨t0, t1, t2, rfl⟩ := ints3 hys
      have hoI := (hoff _ List.mem_cons_self).1
      have hsI := (hoff _ (List.mem_cons_of_mem _ List.mem_cons_self)).1
      have hsc := (hoff _ (List.mem_cons_of_mem _ List.mem_cons_self)).2
      have hob : ∀ p ∈ objs, p.1 ≠ I ∧ p.1 ≠ L1 + 1 + 1 := fun p hp => hoff p (List.mem_cons_of_mem _ (List.mem_cons_of_mem _ hp))
      have hoI' : @Ne Nat fA I := hoI
      have hsI' : @Ne Nat (L1 + 1) I := hsI
      k_steps
      refine Halt.go ?_
      k_dflt (refine Mine.sortedK (by k_asm) (by k_asm) (by is_list) (by exact .cons _ _ (.cons _ _ (.cons _ _ .nil))) (by (show (3 : Nat) < 64; decide)) ?_)
      intro dS hS vS nS eS fS nwS lS iS pS sS
      try k_lt lS
      k_steps
      · rename Fr _ _ _ _ => F5
        rename News _ _ _ _ => N5
        rename IntsAre _ _ => hi5
        rename List.Perm _ _ => hp5
        rw [push_refs] at N5
        refine nameV F5 ?_
        intro D1 e1
        subst e1
        have hok : OwnOk s1 i := by
          rename _ = [(0 : Int), 1, 2] => e5
          rw [e5] at hp5
          exact hp5
        refine EndC.next (rest' := (fA, PySem.W.listOf ((fs ++ [D1]).map Value.ref).toArray (nn + 1)) :: (L1 + 1, xs) :: (D1, PySem.W.listOf #[.int (ownK s1 i 0) t0, .int (ownK s1 i 1) t1, .int (ownK s1 i 2) t2] 3) :: objs) F5 N5 (by kcf_all) hcd ?_ trivial ?_
        · refine off_cons hoI' (by k_ne) (off_cons hsI' (by k_ne) (off_cons (by k_ne) (by k_ne) hob))
        · refine Halt.go ⟨_, fs ++ [D1], _, _, map_again _ _ _ _, rfl, off1_cons (by k_ne) ho1, off1_cons (by k_ne) ho2, hown.snoc hi hok, ?_, fun _ _ _ => ?_⟩
          · rw [List.length_append]; exact Nat.succ_le_succ hfl
          · simp
      · rename Fr _ _ _ _ => F5
        rename News _ _ _ _ => N5
        rename List.Pairwise _ _ => hs5
        rename List.Perm _ _ => hp5
        rename ¬ (_ = [(0 : Int), 1, 2]) => e5
        refine EndC.next (rest' := (fA, PySem.W.listOf (fs.map Value.ref).toArray nn) :: (L1 + 1, xs) :: objs) F5 N5 (by kcf_all) hcd ?_ trivial ?_
        · exact off_cons hoI' (by k_ne) (off_cons hsI' (by k_ne) hob)
        · refine Halt.go ⟨_, fs, _, _, map_again _ _ _ _, rfl, ho1, ho2, hown, Nat.le_succ_of_le hfl, fun b hb ho => ?_⟩
          rcases Nat.lt_succ_iff_lt_or_eq.mp hb with hb | rfl
          · exact hne b hb ho
          · exact absurd (perm3 hp5 hs5 ho) e5
  case done =>
    rintro m rest oc' v' h tk hd HJ9 F' N'
    refine Mine.letP ?_
    intro G9
    obtain ⟨u, fs, nn, objs, rfl, rfl, ho1, ho2, hown, hfl, hne⟩ := HJ9
    have hpos : 0 < fs.length := by
      obtain ⟨b, hb, ho⟩ := hgood
      cases fs with
      | nil => exact absurd rfl (hne b hb ho)
      | cons a r => exact Nat.succ_pos _
    have hm0 := fmod_lo y (n := (fs.length : Int)) (by omega)
    have hm1 := fmod_hi y (n := (fs.length : Int)) (by omega)
    show wpAny _ _ _ _ _ _
    try dsimp only
    try ((show wpAny _ _ _ _ _ _); k_fold)
    k_steps
    obtain ⟨b, t0, t1, t2, k, hb, ho, hmem⟩ := hown _ (getD_mem (k := (y.fmod (fs.length : Int)).toNat) (by omega))
    have z := news_ret F N F'.keep N' (List.mem_cons_of_mem _ (List.mem_cons_of_mem _ (List.mem_cons_of_mem _ hmem)))
    exact hret b t0 t1 t2 k _ _ _ hb ho (by k_asm) z.1 z.2 F'.keep
end Mine
end
section
open PySem PySem.Spec PySem.Calls PySem.W PyProof.Rows
namespace Mine
local macro_rules | `(tactic| ke_room) => `(tactic| first | units_room | ((dsimp +zetaDelta only); units_room))
local macro_rules | `(tactic| walk_at "eval ListComp") => `(tactic| (k_here; k_dflt (first
  | (with_reducible show wpAny _ _ (eval (PySem.Expr.ListComp _ [⟨_, _, [], _⟩] _ _) _) _ _ _); refine LCg.ListComp_U (F₀ := by k_asm) (by with_unfolding_all rfl) (by decide) (by rfl) (by decide) (by rfl) ?_
  | (with_reducible show wpAny _ _ (eval (PySem.Expr.ListComp _ [⟨_, _, [_], _⟩] _ _) _) _ _ _); refine LCt.ListComp_T (F₀ := by k_asm) (by with_unfolding_all rfl) (by decide) (by rfl) (by decide) (by rfl) ?_)))
local macro_rules | `(tactic| walk_at "exec Assign cons ListComp") => `(tactic| (k_here; k_dflt (first
  | (with_reducible show wpAny _ _ (exec (PySem.Stmt.Assign _ (PySem.Expr.ListComp _ [⟨_, _, [], _⟩] _ _) _) _) _ _ _); refine LCg.Assign_ListComp_U (F₀ := by k_asm) (by rfl) (by with_unfolding_all rfl) (by with_unfolding_all rfl) (by decide) (by rfl) (by decide) (by rfl) (by rfl) (by rfl) ?_
  | (with_reducible show wpAny _ _ (exec (PySem.Stmt.Assign _ (PySem.Expr.ListComp _ [⟨_, _, [_], _⟩] _ _) _) _) _ _ _); refine LCt.Assign_ListComp_T (F₀ := by k_asm) (by rfl) (by with_unfolding_all rfl) (by with_unfolding_all rfl) (by decide) (by rfl) (by decide) (by rfl) (by rfl) (by rfl) ?_)))
local macro_rules | `(tactic| walk_at "CompSrc") => `(tactic| (k_here; refine Mine.halt ?_))
local macro_rules | `(tactic| walk_at "CompSrcT") => `(tactic| (k_here; refine Mine.halt ?_))
local macro_rules | `(tactic| walk_at "exec For Name Call cons nil") => `(tactic| (k_here; refine Mine.halt ?_))
local macro_rules | `(tactic| walk_at "exec For Name BinOp cons nil") => `(tactic| (k_here; refine Mine.halt ?_))
local macro_rules | `(tactic| walk_at "exec For Name Name cons nil") => `(tactic| (k_here; refine Mine.halt ?_))
local macro_rules | `(tactic| walk_at "subscriptTail") => `(tactic| (k_here; (with_reducible show wpAny _ _ (subscriptTail _ _ (Value.ref _) (Value.int _ _)) _ _ _); (with_unfolding_all refine' item_anyK ?k1 ?k2 ?k3 ?k4 ?k5 ?_ ?k6; (case k1 => is_list); (case k2 => assumption); (case k3 => omega); (case k4 => omega); (case k5 => omega); (case k6 => with_unfolding_all rfl); k_whole); intro _))
local macro_rules | `(tactic| k_all) => `(tactic| assumption)
local macro_rules | `(tactic| walk_at "call ref") => `(tactic| (k_here; refine Mine.halt ?_))
local macro_rules | `(tactic| walk_at "compareOp Eq ref ref") => `(tactic| (k_here; k_dflt (refine' eq_intsK ?k1 ?k2 ?k3 ?k4 ?k5 ?_; (case k1 => is_list); (case k2 => assumption); (case k3 => is_list); (case k4 => repeat' (first | exact IntsAre.nil | refine IntsAre.cons _ _ ?_)); (case k5 => ktr_units); k_whole)))
/-- the walks, as a function -/
def walksL : Nat → List Int → List Int → List Int → List Int → List Int → Bool
  | _, _, _, [], _, _ => true
  | 0, _, _, _ :: _, _, _ => false
  | f + 1, sides, own, h :: hs, free, between => (free ++ between).any fun e => decide ((own.getD h.toNat 0 - sides.getD e.toNat 0).fmod 3 < 2) &&
      (if free.any (· == e) then walksL f sides own hs (free.filter fun x => !decide (x = e)) between else walksL f sides own (e :: hs) free (between.filter fun x => !decide (x = e)))
def walkG (f : Nat) (sides own : List Int) (h : Int) (hs free between : List Int) (e : Int) : Bool := decide ((own.getD h.toNat 0 - sides.getD e.toNat 0).fmod 3 < 2) &&
      (if free.any (· == e) then walksL f sides own hs (free.filter fun x => !decide (x = e)) between else walksL f sides own (e :: hs) free (between.filter fun x => !decide (x = e)))
theorem walkG_free {f : Nat} {sides own : List Int} {h : Int} {hs free between : List Int} {e : Int} (h2 : (own.getD h.toNat 0 - sides.getD e.toNat 0).fmod 3 < 2) (h4 : free.any (· == e) = true) :
    walkG f sides own h hs free between e = walksL f sides own hs (free.filter fun x => !decide (x = e)) between := by
  unfold walkG; rw [decide_eq_true h2, h4]; rfl
theorem walkG_between {f : Nat} {sides own : List Int} {h : Int} {hs free between : List Int} {e : Int} (h2 : (own.getD h.toNat 0 - sides.getD e.toNat 0).fmod 3 < 2) (h4 : free.any (· == e) = false) :
    walkG f sides own h hs free between e = walksL f sides own (e :: hs) free (between.filter fun x => !decide (x = e)) := by
  unfold walkG; rw [decide_eq_true h2, h4]; rfl
theorem walkG_not {f : Nat} {sides own : List Int} {h : Int} {hs free between : List Int} {e : Int} (h2 : ¬ (own.getD h.toNat 0 - sides.getD e.toNat 0).fmod 3 < 2) :
    walkG f sides own h hs free between e = false := by
  unfold walkG; rw [decide_eq_false h2]; rfl
theorem any_snoc {l : List Int} {i : Nat} {k : Int} {g : Int → Bool} (h : (l.take i).any g = false) (hk : l[i]? = some k) (hg : g k = false) : (l.take (i + 1)).any g = false := by
  rw [List.take_add_one, hk, List.any_append, h]; simp [hg]
theorem any_here {l : List Int} {i : Nat} {k : Int} {g : Int → Bool} (hk : l[i]? = some k) (hg : g k = true) : l.any g = true := List.any_eq_true.mpr ⟨k, List.mem_of_getElem? hk, hg⟩
theorem filter_less {l : List Int} {k : Int} (h : k ∈ l) : (l.filter fun x => !decide (x = k)).length < l.length := List.length_filter_lt_length_iff_exists.mpr ⟨k, h, by simp⟩
theorem filter_le (l : List Int) (k : Int) : (l.filter fun x => !decide (x = k)).length ≤ l.length := List.length_filter_le _ _
theorem pick_from1 (l : List Value) : kms_pick l.toArray.toList (some 1) none = l.drop 1 := by
  cases l with
  | nil => rfl
  | cons a l =>
    have h : ¬ ((1 : Int) < 0) := by decide
    simp only [kms_pick, kms_lo, kms_hi, h, if_false, List.length_cons]
    rw [show min (Int.toNat 1) (l.length + 1) = 1 by simp]
    simp
theorem ints_tail {v : List Value} {h : Int} {hs : List Int} (x : IntsAre v (h :: hs)) : IntsAre (v.drop 1) hs := by
  cases x with
  | cons _ _ r => exact r
local macro_rules | `(tactic| walk_at "subscriptTail Name Slice ref ref") => `(tactic| (k_here; (with_reducible show wpAny _ _ (subscriptTail _ (PySem.Expr.Slice _ _ none _) (Value.ref _) (Value.ref _)) _ _ _); k_dflt (refine' kms_slice_lit ?F ?N ?l ?p ?q ?e ?_ ?s ?t ?z; (case F => k_asm); (case N => k_asm); (case l => kmk_list); (case p => kmk_part); (case q => kmk_part); (case e => exact Mine.pick_from1 _); (case s => with_unfolding_all rfl); (case t => kmk_pure); (case z => (simp only [List.size_toArray]; rw [PySem.sizeLine_eq]; omega))); intro D' h' F' N' l1; (try k_lt l1); (try k_sweep)))
theorem walksL_succ (f : Nat) (sides own : List Int) (h : Int) (hs free between : List Int) : walksL (f + 1) sides own (h :: hs) free between = (free ++ between).any (walkG f sides own h hs free between) := rfl
set_option maxRecDepth 100000 in
set_option maxHeartbeats 8000000 in
theorem walks_spec (f : Nat) : ∀ {w : World} {p : Program} {loose : List Str} {mean : ExcName → Option Value} {mg mb : Str → Option Value}
   {dp un : Nat} {gd : Option (List Code)} {cn : Str} {cs : Scope} {a : Addr} {ccd : Value} {cl : List (Str × Addr)} {outer : List Env} {A₀ : Around} {base h₀ : Heap} {L : Addr} {m : Str → Option Value} {s : Shared} {Q E : Value → Shared → Prop} {news : List (Addr × Obj)}
   {l1 l2 l3 l4 l5 : Addr} {v1 v2 v3 v4 v5 : List Value} {s1 s2 s3 s4 s5 : List Int} ,
   Below A₀ base outer h₀ → Fr h₀ L s.heap m → (Mine.hd.heap_39 w.params).In h₀ → News h₀ L s.heap news → Top p loose mean mg mb h₀ → cs.kind = .function →
   dp + (f + 1) < recursionLimit → un + 8 * (f + 10) < cLine →
   s.heap.IsList l1 v1.toArray → IntsAre v1 s1 → s.heap.IsList l2 v2.toArray → IntsAre v2 s2 → s.heap.IsList l3 v3.toArray → IntsAre v3 s3 → s.heap.IsList l4 v4.toArray → IntsAre v4 s4 → s.heap.IsList l5 v5.toArray → IntsAre v5 s5 → s3.length + s5.length ≤ f → s2.length = 3 → 3 ≤ s1.length → s1.length ≤ 6 → s3.length < 100 → (∀ x ∈ s3, 0 ≤ x ∧ x < 3) → (∀ x ∈ s4, 0 ≤ x ∧ x < (s1.length : Int)) → (∀ x ∈ s5, 0 ≤ x ∧ x < 3) → s4.length < 100 → s5.length < 100 →
   (∀ (t : Tok) (h' : Heap) (tk' : Nat), Fr h₀ L h' m → News h₀ L h' news → s.heap.StaysIn h' → Q (.bool (walksL f s1 s2 s3 s4 s5)) { s with heap := h', toks := tk' }) →
   wpAny (model PySem.Challenge.rw_tl0028_01.prog w) (ktrTop dp un gd cn cs L a ccd cl outer) (call (.ref 102) [.ref l1, .ref l2, .ref l3, .ref l4, .ref l5]) Q E s := by
  induction f with
  | zero =>
  intro w p loose mean mg mb dp un gd cn cs a ccd cl outer A₀ base h₀ L m s Q E news l1 l2 l3 l4 l5 v1 v2 v3 v4 v5 s1 s2 s3 s4 s5
  w_top off
  k_fill
  intro B F X N T hk hd hu hL1 hI1 hL2 hI2 hL3 hI3 hL4 hI4 hL5 hI5 hm ho hl0 hl1 hl3 hb3 hb4 hb5 hl4 hl5 hret
  have e3 : s3 = [] := List.length_eq_zero_iff.mp (by omega)
  subst e3
  refine wpAny_call ?_
  k_dflt (first
    | (refine' Mine.enterRL ?k1 ?k2 ?k3 ?k5 ?kA ?kF ?kK ?k6 ?k7 ?k8 ?k9 ?kB ?_ ?c2 ?c3 ?c4 ?c5; (case kA => exact rfl); (case kF => exact rfl); (case kK => assumption); (case k1 => k_asm); (case k2 => k_asm); (case k3 => k_asm); (case k5 => k_asm); (case k6 => k_is); (case k7 => k_is); (case k8 => ktr_room); (case k9 => exact BindsTo.of_eq rfl); (case c5 => decide); (case kB => exact locs rfl); (case c2 => exact rfl); (case c3 => exact rfl); (case c4 => exact rfl); k_whole; intro lE hE tkE fgE envE aE mE fE nE bE xE tE; (try dsimp only); (try ((show wpAny _ _ _ _ _ _); k_fold)))
    | (refine' Mine.enterRCL ?k1 ?k2 ?k3 ?k5 ?kA ?kF ?kK ?k6 ?k7 ?k8 ?k9 ?kB ?kD ?_ ?c2 ?c3 ?c4; (case kA => exact rfl); (case kF => exact rfl); (case kK => assumption); (case k1 => k_asm); (case k2 => k_asm); (case k3 => k_asm); (case k5 => k_asm); (case k6 => k_is); (case k7 => k_is); (case k8 => ktr_room); (case k9 => exact BindsTo.of_eq rfl); (case kB => exact rfl); (case kD => decide +kernel); (case c2 => exact rfl); (case c3 => exact rfl); (case c4 => exact rfl); k_whole; intro lE hE tkE cellsE fgE envE aE mE fE nE yE bE xE tE; k_cells yE; (try simp only [List.cons_append, List.nil_append, List.append_nil] at nE); (try dsimp only); (try ((show wpAny _ _ _ _ _ _); k_fold))))
  k_steps
  exact hret 0 _ _ (by k_asm) (stays_news N (Fr.keep (by assumption))) (Fr.keep (by assumption))
  | succ f ih =>
  intro w p loose mean mg mb dp un gd cn cs a ccd cl outer A₀ base h₀ L m s Q E news l1 l2 l3 l4 l5 v1 v2 v3 v4 v5 s1 s2 s3 s4 s5
  w_top off
  k_fill
  intro B F X N T hk hd hu hL1 hI1 hL2 hI2 hL3 hI3 hL4 hI4 hL5 hI5 hm ho hl0 hl1 hl3 hb3 hb4 hb5 hl4 hl5 hret
  refine wpAny_call ?_
  k_dflt (first
    | (refine' Mine.enterRL ?k1 ?k2 ?k3 ?k5 ?kA ?kF ?kK ?k6 ?k7 ?k8 ?k9 ?kB ?_ ?c2 ?c3 ?c4 ?c5; (case kA => exact rfl); (case kF => exact rfl); (case kK => assumption); (case k1 => k_asm); (case k2 => k_asm); (case k3 => k_asm); (case k5 => k_asm); (case k6 => k_is); (case k7 => k_is); (case k8 => ktr_room); (case k9 => exact BindsTo.of_eq rfl); (case c5 => decide); (case kB => exact locs rfl); (case c2 => exact rfl); (case c3 => exact rfl); (case c4 => exact rfl); k_whole; intro lE hE tkE fgE envE aE mE fE nE bE xE tE; (try dsimp only); (try ((show wpAny _ _ _ _ _ _); k_fold)))
    | (refine' Mine.enterRCL ?k1 ?k2 ?k3 ?k5 ?kA ?kF ?kK ?k6 ?k7 ?k8 ?k9 ?kB ?kD ?_ ?c2 ?c3 ?c4; (case kA => exact rfl); (case kF => exact rfl); (case kK => assumption); (case k1 => k_asm); (case k2 => k_asm); (case k3 => k_asm); (case k5 => k_asm); (case k6 => k_is); (case k7 => k_is); (case k8 => ktr_room); (case k9 => exact BindsTo.of_eq rfl); (case kB => exact rfl); (case kD => decide +kernel); (case c2 => exact rfl); (case c3 => exact rfl); (case c4 => exact rfl); k_whole; intro lE hE tkE cellsE fgE envE aE mE fE nE yE bE xE tE; k_cells yE; (try simp only [List.cons_append, List.nil_append, List.append_nil] at nE); (try dsimp only); (try ((show wpAny _ _ _ _ _ _); k_fold))))
  k_steps
  · rename decide _ = true => hne
    have e3 : s3 = [] := of_decide_eq_true hne
    subst e3
    have ha : walksL (f + 1) s1 s2 [] s4 s5 = true := by rfl
    rw [ha] at hret
    exact hret 0 _ _ (by k_asm) (stays_news N (Fr.keep (by assumption))) (Fr.keep (by assumption))
  · refine Halt.go ?_
    rename decide _ = false => hne
    obtain ⟨h0, hs, rfl⟩ := cons_of hne
    rename Fr _ _ _ _ => F1
    rename News _ _ _ _ => N1
    refine nameF F1 ?_
    intro L1 e1
    subst e1
    refine nameN2 N1 ?_
    intro eA xe cb xb e1 e2 e3 e4
    subst e1 e4
    clear e2 e3
    k_dflt refine forC_list (n := s4.length + s5.length) (by k_asm) (by rfl) (by rfl) (by rfl) (by rfl) ?_
    k_steps
    rename Fr _ _ _ _ => F2
    rename News _ _ _ _ => N2
    rename IntsAre _ _ => hI9
    refine nameN1 N2 ?_
    intro D1 xD e1 e2
    subst e1
    clear e2
    refine nameI hI9 ?_
    intro ws e1
    subst e1
    refine' Halt.go ⟨D1, ws.toArray, xb, _, [(D1, PySem.W.listOf ws.toArray 0)], (fun m₀ i m rest => Halt (∃ u, m = (fun z => if z = Str.ofString "further" then u else m₀ z) ∧ rest = [(D1, PySem.W.listOf ws.toArray 0)] ∧ ((s4 ++ s5).take i).any (walkG f s1 s2 h0 hs s4 s5) = false)), rfl, ?S, ?sz, ?F, ?N, ?c, ?o, ?j, ?turn, ?done⟩
    case S => exact .inr ⟨_, List.mem_cons_self, rfl, _, rfl⟩
    case F => exact F2
    case N => exact news_sub N2 (by kcf_all)
    case sz => rw [List.size_toArray, hI9.length, List.length_append]
    case c => k_asm
    case o => exact off1_cons (by k_ne) (List.forall_mem_nil _)
    case j => exact Halt.go ⟨_, map_id _, rfl, rfl⟩
    case turn =>
      rintro I i v m rest oI oc' h tk E' hi hv HJ9 hoff hcI hcd F' N'
      refine Mine.letP ?_
      intro G9
      obtain ⟨u, rfl, rfl, hany⟩ := HJ9
      obtain ⟨k, t, rfl, hk⟩ := IntsAre.at hI9 i v (by simpa using hv)
      have hkb : 0 ≤ k ∧ k < (s1.length : Int) := (List.mem_append.mp (List.mem_of_getElem? hk)).elim (hb4 k) fun hx => ⟨(hb5 k hx).1, by have := (hb5 k hx).2; omega⟩
      have hhb := hb3 h0 List.mem_cons_self
      have hl1' := hI1.length
      have hDI : @Ne Nat D1 I := (hoff _ List.mem_cons_self).1
      have hhb' : 0 ≤ (h0 :: hs).getD (Int.toNat 0) 0 ∧ (h0 :: hs).getD (Int.toNat 0) 0 < 3 := hhb
      have hl3' : (h0 :: hs).length = hs.length + 1 := rfl
      have hv3 := hI3.length
      have hv4 := hI4.length
      have hv5 := hI5.length
      have hs3 := ints_tail hI3
      show wpAny _ _ _ _ _ _
      try dsimp only
      k_steps
      · rename _ = true => hin
        rename Int.fmod _ 3 < 2 => hlt
        have hwg := walkG_free (f := f) (sides := s1) (own := s2) (h := h0) (hs := hs) (free := s4) (between := s5) (e := k) hlt hin
        refine Halt.go ?_
        k_dflt (refine LCt.CompSrcT.base (by rfl) (by k_asm) (by k_asm) (by assumption) (by (rw [PySem.sizeLine_eq, List.size_toArray]; omega)) ?_)
        intro g1
        refine compT_list (fun x => !decide (x = k)) hI4 (.inl (by assumption)) (by rfl) (by rfl) (by decide) (fun kk t I oI C oC D m₂ ys h tk E' hk hC hx F' N' off ne => ?_) (fun ys hys => ?_)
        · k_steps
          refine ⟨?_, _, _, rfl, by k_asm, by k_asm⟩
          first | rfl | simp
        · have hfl := filter_le s4 k
          k_steps
          refine Halt.go ?_
          skip
          k_dflt (refine' ih ?B ?F ?X ?N ?T ?hk ?hd ?hu ?a1 hI1 ?a2 hI2 ?a3 hs3 ?a4 hys ?a5 hI5 ?m ho hl0 hl1 ?l3 (fun x hx => hb3 x (List.mem_cons_of_mem _ hx)) (fun x hx => hb4 x ((List.mem_filter.mp hx).1)) hb5 ?l4 ?l5 ?ret; (case B => k_asm); (case F => k_asm); (case X => first | k_asm | k_in); (case N => k_asm); (case T => k_asm); (case hk => exact rfl); (case hd => ktr_room); (case hu => ktr_units); (case a1 => is_list); (case a2 => is_list); (case a3 => is_list); (case a4 => is_list); (case a5 => is_list); (case m => (try (simp only [List.length_append, List.length_cons, List.length_nil])); omega); (case l3 => (try (simp only [List.length_append, List.length_cons, List.length_nil])); omega); (case l4 => omega); (case l5 => omega); (case' ret => (intro t9 h9 tk9 F9 N9 S9; (try dsimp only); (try ((show wpAny _ _ _ _ _ _); k_fold)))))
          k_steps
          · rename walksL _ _ _ _ _ _ = true => hr
            have ha : walksL (f + 1) s1 s2 (h0 :: hs) s4 s5 = true := any_here hk (hwg.trans hr)
            rw [ha] at hret
            dsimp only [EndC]
            k_steps
            exact hret 0 _ _ (by k_asm) (stays_news N (Fr.keep (by assumption))) (Fr.keep (by assumption))
          · rename _ = false => hr
            rename Fr _ _ _ _ => F5
            rename News _ _ _ _ => N5
            refine EndC.next (rest' := [(D1, PySem.W.listOf ws.toArray 0)]) F5 N5 (by kcf_all) hcd ?_ (.inr ⟨_, List.mem_cons_self, rfl, _, rfl⟩) (Halt.go ⟨_, map_again _ _ _ _, rfl, any_snoc hany hk (hwg.trans hr)⟩)
            exact off_cons hDI (by k_ne) (List.forall_mem_nil _)
      · rename _ = false => hin
        rename Int.fmod _ 3 < 2 => hlt
        have hwg := walkG_between (f := f) (sides := s1) (own := s2) (h := h0) (hs := hs) (free := s4) (between := s5) (e := k) hlt hin
        have hk5 : k ∈ s5 := (List.mem_append.mp (List.mem_of_getElem? hk)).elim (fun hx => (List.any_eq_false.mp hin k hx (beq_self_eq_true k)).elim) id
        have hfl5 := filter_less hk5
        refine Halt.go ?_
        k_dflt (refine LCt.CompSrcT.base (by rfl) (by k_asm) (by k_asm) (by assumption) (by (rw [PySem.sizeLine_eq, List.size_toArray]; omega)) ?_)
        intro g1
        refine compT_list (fun x => !decide (x = k)) hI5 (.inl (by assumption)) (by rfl) (by rfl) (by decide) (fun kk t I oI C oC D m₂ ys h tk E' hk hC hx F' N' off ne => ?_) (fun ys hys => ?_)
        · k_steps
          refine ⟨?_, _, _, rfl, by k_asm, by k_asm⟩
          first | rfl | simp
        · have hfl := filter_le s5 k
          k_steps
          refine Halt.go ?_
          rename IntsAre _ ([k] ++ hs) => hIk
          k_dflt (refine' ih ?By ?Fy ?Xy ?Ny ?Ty ?hky ?hdy ?huy ?a1y hI1 ?a2y hI2 ?a3y hIk ?a4y hI4 ?a5y hys ?my ho hl0 hl1 ?l3y (List.forall_mem_cons.mpr ⟨hb5 k hk5, fun x hx => hb3 x (List.mem_cons_of_mem _ hx)⟩) hb4 (fun x hx => hb5 x ((List.mem_filter.mp hx).1)) ?l4y ?l5y ?rety; (case By => k_asm); (case Fy => k_asm); (case Xy => first | k_asm | k_in); (case Ny => k_asm); (case Ty => k_asm); (case hky => exact rfl); (case hdy => ktr_room); (case huy => ktr_units); (case a1y => is_list); (case a2y => is_list); (case a3y => is_list); (case a4y => is_list); (case a5y => is_list); (case my => (try (simp only [List.length_append, List.length_cons, List.length_nil])); omega); (case l3y => (try (simp only [List.length_append, List.length_cons, List.length_nil])); omega); (case l4y => omega); (case l5y => omega); (case' rety => (intro t9 h9 tk9 F9 N9 S9; (try dsimp only); (try ((show wpAny _ _ _ _ _ _); k_fold)))))
          k_steps
          · rename walksL _ _ _ _ _ _ = true => hr
            have ha : walksL (f + 1) s1 s2 (h0 :: hs) s4 s5 = true := any_here hk (hwg.trans hr)
            rw [ha] at hret
            dsimp only [EndC]
            k_steps
            exact hret 0 _ _ (by k_asm) (stays_news N (Fr.keep (by assumption))) (Fr.keep (by assumption))
          · rename _ = false => hr
            rename Fr _ _ _ _ => F5
            rename News _ _ _ _ => N5
            refine EndC.next (rest' := [(D1, PySem.W.listOf ws.toArray 0)]) F5 N5 (by kcf_all) hcd ?_ (.inr ⟨_, List.mem_cons_self, rfl, _, rfl⟩) (Halt.go ⟨_, map_again _ _ _ _, rfl, any_snoc hany hk (hwg.trans hr)⟩)
            exact off_cons hDI (by k_ne) (List.forall_mem_nil _)
      · rename ¬ _ => hlt
        rename Fr _ _ _ _ => F5
        rename News _ _ _ _ => N5
        refine EndC.next (rest' := [(D1, PySem.W.listOf ws.toArray 0)]) F5 N5 (by kcf_all) hcd ?_ (.inr ⟨_, List.mem_cons_self, rfl, _, rfl⟩) (Halt.go ⟨_, rfl, rfl, any_snoc hany hk (walkG_not hlt)⟩)
        exact off_cons hDI (by k_ne) (List.forall_mem_nil _)
    case done =>
      rintro m rest oc' v' h tk hd HJ9 F' N'
      refine Mine.letP ?_
      intro G9
      obtain ⟨u, rfl, rfl, hany⟩ := HJ9
      show wpAny _ _ _ _ _ _
      try dsimp only
      k_steps
      have ha : walksL (f + 1) s1 s2 (h0 :: hs) s4 s5 = false := by
        rw [List.take_of_length_le (by rw [List.length_append]; exact Nat.le_refl _)] at hany
        exact hany
      rw [ha] at hret
      exact hret 0 _ _ (by k_asm) (stays_news N (Fr.keep (by assumption))) (Fr.keep (by assumption))
end Mine
end
section
open PySem PySem.Spec PySem.Calls PySem.W PyProof.Rows
namespace Mine
local macro_rules | `(tactic| walk_at "eval ListComp") => `(tactic| (k_here; k_dflt (first
  | (with_reducible show wpAny _ _ (eval (PySem.Expr.ListComp _ [⟨_, _, [], _⟩] _ _) _) _ _ _); refine LCg.ListComp_U (F₀ := by k_asm) (by with_unfolding_all rfl) (by decide) (by rfl) (by decide) (by rfl) ?_
  | (with_reducible show wpAny _ _ (eval (PySem.Expr.ListComp _ [⟨_, _, [_], _⟩] _ _) _) _ _ _); refine LCt.ListComp_T (F₀ := by k_asm) (by with_unfolding_all rfl) (by decide) (by rfl) (by decide) (by rfl) ?_)))
local macro_rules | `(tactic| walk_at "exec Assign cons ListComp") => `(tactic| (k_here; k_dflt (first
  | (with_reducible show wpAny _ _ (exec (PySem.Stmt.Assign _ (PySem.Expr.ListComp _ [⟨_, _, [], _⟩] _ _) _) _) _ _ _); refine LCg.Assign_ListComp_U (F₀ := by k_asm) (by rfl) (by with_unfolding_all rfl) (by with_unfolding_all rfl) (by decide) (by rfl) (by decide) (by rfl) (by rfl) (by rfl) ?_
  | (with_reducible show wpAny _ _ (exec (PySem.Stmt.Assign _ (PySem.Expr.ListComp _ [⟨_, _, [_], _⟩] _ _) _) _) _ _ _); refine LCt.Assign_ListComp_T (F₀ := by k_asm) (by rfl) (by with_unfolding_all rfl) (by with_unfolding_all rfl) (by decide) (by rfl) (by decide) (by rfl) (by rfl) (by rfl) ?_)))
local macro_rules | `(tactic| walk_at "CompSrc") => `(tactic| (k_here; refine Mine.halt ?_))
local macro_rules | `(tactic| walk_at "CompSrcT") => `(tactic| (k_here; refine Mine.halt ?_))

def charAt (ms : List Int) (k : Int) : Nat := if ms.any (· == k) then (65 + k).toNat else (97 + k).toNat
def signAt (ms : List Int) (k : Int) : Str := ⟨#[charAt ms k]⟩
def wordS (ms : List Int) (n : Nat) : Str := PySem.Txt.join (Str.ofString "") ((rangeKs 0 n).map (signAt ms))
set_option maxRecDepth 100000 in
set_option maxHeartbeats 8000000 in
theorem word_spec {w : World} {p : Program} {loose : List Str} {mean : ExcName → Option Value} {mg mb : Str → Option Value}
   {dp un : Nat} {gd : Option (List Code)} {cn : Str} {cs : Scope} {a : Addr} {ccd : Value} {cl : List (Str × Addr)} {outer : List Env} {A₀ : Around} {base h₀ : Heap} {L : Addr} {m : Str → Option Value} {s : Shared} {Q E : Value → Shared → Prop} {news : List (Addr × Obj)}
   {l : Addr} {n : Nat} {u : Tok} {vs : List Value} {ms : List Int} :
   Below A₀ base outer h₀ → Fr h₀ L s.heap m → (Mine.hd.heap_39 w.params).In h₀ → News h₀ L s.heap news → Top p loose mean mg mb h₀ → cs.kind = .function →
   dp + 1 < recursionLimit → un + 8 * 1 < cLine →
   n ≤ 6 → s.heap.IsList l vs.toArray → IntsAre vs ms →
   (∀ (t : Tok) (h' : Heap) (tk' : Nat), Fr h₀ L h' m → News h₀ L h' news → s.heap.StaysIn h' → Q (.str (wordS ms n) t) { s with heap := h', toks := tk' }) →
   wpAny (model PySem.Challenge.rw_tl0028_01.prog w) (ktrTop dp un gd cn cs L a ccd cl outer) (call (.ref 126) [.ref l, .int (n : Int) u]) Q E s := by
  w_top off
  k_fill
  intro B F X N T hk hd hu hn hL hI hret
  refine wpAny_call ?_
  k_dflt (first
    | (refine' Mine.enterRL ?k1 ?k2 ?k3 ?k5 ?kA ?kF ?kK ?k6 ?k7 ?k8 ?k9 ?kB ?_ ?c2 ?c3 ?c4 ?c5; (case kA => exact rfl); (case kF => exact rfl); (case kK => assumption); (case k1 => k_asm); (case k2 => k_asm); (case k3 => k_asm); (case k5 => k_asm); (case k6 => k_is); (case k7 => k_is); (case k8 => ktr_room); (case k9 => exact BindsTo.of_eq rfl); (case c5 => decide); (case kB => exact locs rfl); (case c2 => exact rfl); (case c3 => exact rfl); (case c4 => exact rfl); k_whole; intro lE hE tkE fgE envE aE mE fE nE bE xE tE; (try dsimp only); (try ((show wpAny _ _ _ _ _ _); k_fold)))
    | (refine' Mine.enterRCL ?k1 ?k2 ?k3 ?k5 ?kA ?kF ?kK ?k6 ?k7 ?k8 ?k9 ?kB ?kD ?_ ?c2 ?c3 ?c4; (case kA => exact rfl); (case kF => exact rfl); (case kK => assumption); (case k1 => k_asm); (case k2 => k_asm); (case k3 => k_asm); (case k5 => k_asm); (case k6 => k_is); (case k7 => k_is); (case k8 => ktr_room); (case k9 => exact BindsTo.of_eq rfl); (case kB => exact rfl); (case kD => decide +kernel); (case c2 => exact rfl); (case c3 => exact rfl); (case c4 => exact rfl); k_whole; intro lE hE tkE cellsE fgE envE aE mE fE nE yE bE xE tE; k_cells yE; (try simp only [List.cons_append, List.nil_append, List.append_nil] at nE); (try dsimp only); (try ((show wpAny _ _ _ _ _ _); k_fold))))
  k_steps
  refine Halt.go ?_
  k_dflt (refine LCg.CompSrc.range (n := n) (by rfl) (by k_asm) (by k_asm) (by assumption) (by first | exact small_one (by omega) (by omega) (by omega) (by omega)) (by first | exact rangeSize_nat _ _ | rfl) (by rw [PySem.sizeLine_eq]; omega) ?_)
  intro g1
  refine kct_range (fun k => signAt ms k) (fun k t I oI C oC D m₂ ys h tk E' hlo hhi hC hx F' N' off ne hMark => ?_) (fun ys hc hn5 => ?_)
  · try ((show wpAny _ _ _ _ _ _); k_fold)
    k_steps
    · rename (ms.any _) = true => h1
      rename News _ _ _ _ => N5
      have e : signAt ms k = ⟨#[(65 + k).toNat]⟩ := by unfold signAt charAt; rw [if_pos h1]
      rw [e]
      exact LCg.CompEnd.intro (by k_asm) N5 [_] (by kcf_all) off True.intro ⟨rfl, _, rfl⟩
    · rename (ms.any _) = false => h1
      rename News _ _ _ _ => N5
      have e : signAt ms k = ⟨#[(97 + k).toNat]⟩ := by unfold signAt charAt; rw [if_neg (by rw [h1]; decide)]
      rw [e]
      exact LCg.CompEnd.intro (by k_asm) N5 [_] (by kcf_all) off True.intro ⟨rfl, _, rfl⟩
  · k_steps
    exact hret _ _ _ (by k_asm) (stays_news N (Fr.keep (by assumption))) (Fr.keep (by assumption))
end Mine
end
section
open PySem PySem.Spec PySem.Calls PySem.W PyProof.Rows
namespace Mine
set_option maxRecDepth 100000 in
set_option maxHeartbeats 8000000 in
theorem iseof_spec {w : World} {p : Program} {loose : List Str} {mean : ExcName → Option Value} {mg mb : Str → Option Value}
   {dp un : Nat} {gd : Option (List Code)} {cn : Str} {cs : Scope} {a : Addr} {ccd : Value} {cl : List (Str × Addr)} {outer : List Env} {A₀ : Around} {base h₀ : Heap} {L : Addr} {m : Str → Option Value} {s : Shared} {Q E : Value → Shared → Prop} {news : List (Addr × Obj)}
   {x : Int} {t : Tok} :
   Below A₀ base outer h₀ → Fr h₀ L s.heap m → (Mine.hd.heap_39 w.params).In h₀ → News h₀ L s.heap news → Top p loose mean mg mb h₀ → cs.kind = .function →
   dp + 1 < recursionLimit → un + 8 * 1 < cLine →
   
   (∀ (t : Tok) (h' : Heap) (tk' : Nat), Fr h₀ L h' m → News h₀ L h' news → s.heap.StaysIn h' → Q (.bool (decide (x = 0))) { s with heap := h', toks := tk' }) →
   wpAny (model PySem.Challenge.rw_tl0028_01.prog w) (ktrTop dp un gd cn cs L a ccd cl outer) (call (.ref 73) [.int x t]) Q E s := by
  w_top off
  k_fill
  intro B F X N T hk hd hu hret
  refine wpAny_call ?_
  k_dflt (first
    | (refine' Mine.enterRL ?k1 ?k2 ?k3 ?k5 ?kA ?kF ?kK ?k6 ?k7 ?k8 ?k9 ?kB ?_ ?c2 ?c3 ?c4 ?c5; (case kA => exact rfl); (case kF => exact rfl); (case kK => assumption); (case k1 => k_asm); (case k2 => k_asm); (case k3 => k_asm); (case k5 => k_asm); (case k6 => k_is); (case k7 => k_is); (case k8 => ktr_room); (case k9 => exact BindsTo.of_eq rfl); (case c5 => decide); (case kB => exact locs rfl); (case c2 => exact rfl); (case c3 => exact rfl); (case c4 => exact rfl); k_whole; intro lE hE tkE fgE envE aE mE fE nE bE xE tE; (try dsimp only); (try ((show wpAny _ _ _ _ _ _); k_fold)))
    | (refine' Mine.enterRCL ?k1 ?k2 ?k3 ?k5 ?kA ?kF ?kK ?k6 ?k7 ?k8 ?k9 ?kB ?kD ?_ ?c2 ?c3 ?c4; (case kA => exact rfl); (case kF => exact rfl); (case kK => assumption); (case k1 => k_asm); (case k2 => k_asm); (case k3 => k_asm); (case k5 => k_asm); (case k6 => k_is); (case k7 => k_is); (case k8 => ktr_room); (case k9 => exact BindsTo.of_eq rfl); (case kB => exact rfl); (case kD => decide +kernel); (case c2 => exact rfl); (case c3 => exact rfl); (case c4 => exact rfl); k_whole; intro lE hE tkE cellsE fgE envE aE mE fE nE yE bE xE tE; k_cells yE; (try simp only [List.cons_append, List.nil_append, List.append_nil] at nE); (try dsimp only); (try ((show wpAny _ _ _ _ _ _); k_fold))))
  k_steps
  have e : (x == 0) = decide (x = 0) := by by_cases h : x = 0 <;> simp [h]
  rw [e]
  exact hret 0 _ _ (by k_asm) (stays_news N (Fr.keep (by assumption))) (Fr.keep (by assumption))
set_option maxRecDepth 100000 in
set_option maxHeartbeats 8000000 in
theorem subst_spec {w : World} {p : Program} {loose : List Str} {mean : ExcName → Option Value} {mg mb : Str → Option Value}
   {dp un : Nat} {gd : Option (List Code)} {cn : Str} {cs : Scope} {a : Addr} {ccd : Value} {cl : List (Str × Addr)} {outer : List Env} {A₀ : Around} {base h₀ : Heap} {L : Addr} {m : Str → Option Value} {s : Shared} {Q E : Value → Shared → Prop} {news : List (Addr × Obj)}
   {x y : Str} {t u : Tok} :
   Below A₀ base outer h₀ → Fr h₀ L s.heap m → (Mine.hd.heap_39 w.params).In h₀ → News h₀ L s.heap news → Top p loose mean mg mb h₀ → cs.kind = .function →
   dp + 1 < recursionLimit → un + 8 * 1 < cLine →
   x.length = 1 → y.length = 1 →
   (∀ (t : Tok) (h' : Heap) (tk' : Nat), Fr h₀ L h' m → News h₀ L h' news → s.heap.StaysIn h' → Q (.int (if x = y then 0 else if PySem.Txt.lower x = PySem.Txt.lower y then 1 else 2) t) { s with heap := h', toks := tk' }) →
   wpAny (model PySem.Challenge.rw_tl0028_01.prog w) (ktrTop dp un gd cn cs L a ccd cl outer) (call (.ref 80) [.str x t, .str y u]) Q E s := by
  w_top off
  k_fill
  intro B F X N T hk hd hu hx hy hret
  refine wpAny_call ?_
  k_dflt (first
    | (refine' Mine.enterRL ?k1 ?k2 ?k3 ?k5 ?kA ?kF ?kK ?k6 ?k7 ?k8 ?k9 ?kB ?_ ?c2 ?c3 ?c4 ?c5; (case kA => exact rfl); (case kF => exact rfl); (case kK => assumption); (case k1 => k_asm); (case k2 => k_asm); (case k3 => k_asm); (case k5 => k_asm); (case k6 => k_is); (case k7 => k_is); (case k8 => ktr_room); (case k9 => exact BindsTo.of_eq rfl); (case c5 => decide); (case kB => exact locs rfl); (case c2 => exact rfl); (case c3 => exact rfl); (case c4 => exact rfl); k_whole; intro lE hE tkE fgE envE aE mE fE nE bE xE tE; (try dsimp only); (try ((show wpAny _ _ _ _ _ _); k_fold)))
    | (refine' Mine.enterRCL ?k1 ?k2 ?k3 ?k5 ?kA ?kF ?kK ?k6 ?k7 ?k8 ?k9 ?kB ?kD ?_ ?c2 ?c3 ?c4; (case kA => exact rfl); (case kF => exact rfl); (case kK => assumption); (case k1 => k_asm); (case k2 => k_asm); (case k3 => k_asm); (case k5 => k_asm); (case k6 => k_is); (case k7 => k_is); (case k8 => ktr_room); (case k9 => exact BindsTo.of_eq rfl); (case kB => exact rfl); (case kD => decide +kernel); (case c2 => exact rfl); (case c3 => exact rfl); (case c4 => exact rfl); k_whole; intro lE hE tkE cellsE fgE envE aE mE fE nE yE bE xE tE; k_cells yE; (try simp only [List.cons_append, List.nil_append, List.append_nil] at nE); (try dsimp only); (try ((show wpAny _ _ _ _ _ _); k_fold))))
  k_steps
  · rename (x == y) = true => e1
    rw [if_pos (beq_iff_eq.mp e1)] at hret
    exact hret _ _ _ (by k_asm) (stays_news N (Fr.keep (by assumption))) (Fr.keep (by assumption))
  · rename (x == y) = false => e1
    rename (Txt.lower x == Txt.lower y) = true => e2
    rw [if_neg (beq_eq_false_iff_ne.mp e1), if_pos (beq_iff_eq.mp e2)] at hret
    exact hret _ _ _ (by k_asm) (stays_news N (Fr.keep (by assumption))) (Fr.keep (by assumption))
  · rename (x == y) = false => e1
    rename (Txt.lower x == Txt.lower y) = false => e2
    rw [if_neg (beq_eq_false_iff_ne.mp e1), if_neg (beq_eq_false_iff_ne.mp e2)] at hret
    exact hret _ _ _ (by k_asm) (stays_news N (Fr.keep (by assumption))) (Fr.keep (by assumption))
end Mine
end
section
open PySem PySem.Spec PySem.Calls PySem.W PyProof.Rows
namespace Mine
local macro_rules | `(tactic| kla_enter) => `(tactic| (first | with_reducible assumption | (refine' And.right ?_; first | with_reducible assumption | (refine' And.right ?_; first | with_reducible assumption | (refine' And.right ?_; first | with_reducible assumption | (refine' And.right ?_; first | with_reducible assumption | (refine' And.right ?_; first | with_reducible assumption | (refine' And.right ?_; first | with_reducible assumption | (refine' And.right ?_; first | with_reducible assumption)))))))))
local macro_rules | `(tactic| k_ne) => `(tactic| ((try dsimp only); first | with_reducible assumption | with_reducible first | exact Mine.neP1 | exact Mine.neP2 | exact Mine.neS Mine.neP1 | exact Mine.neS Mine.neP2 | exact Mine.neS (by assumption) | exact Mine.neA (by kla_enter) | exact Mine.neB (by kla_enter) | exact Mine.ltA (by kla_enter) | exact Mine.gtA (by kla_enter)))
local macro_rules | `(tactic| walk_at "eval ListComp") => `(tactic| (k_here; k_dflt (first
  | (with_reducible show wpAny _ _ (eval (PySem.Expr.ListComp _ [⟨_, _, [], _⟩] _ _) _) _ _ _); refine LCg.ListComp_U (F₀ := by k_asm) (by with_unfolding_all rfl) (by decide) (by rfl) (by decide) (by rfl) ?_
  | (with_reducible show wpAny _ _ (eval (PySem.Expr.ListComp _ [⟨_, _, [_], _⟩] _ _) _) _ _ _); refine LCt.ListComp_T (F₀ := by k_asm) (by with_unfolding_all rfl) (by decide) (by rfl) (by decide) (by rfl) ?_)))
local macro_rules | `(tactic| walk_at "exec Assign cons ListComp") => `(tactic| (k_here; k_dflt (first
  | (with_reducible show wpAny _ _ (exec (PySem.Stmt.Assign _ (PySem.Expr.ListComp _ [⟨_, _, [], _⟩] _ _) _) _) _ _ _); refine LCg.Assign_ListComp_U (F₀ := by k_asm) (by rfl) (by with_unfolding_all rfl) (by with_unfolding_all rfl) (by decide) (by rfl) (by decide) (by rfl) (by rfl) (by rfl) ?_
  | (with_reducible show wpAny _ _ (exec (PySem.Stmt.Assign _ (PySem.Expr.ListComp _ [⟨_, _, [_], _⟩] _ _) _) _) _ _ _); refine LCt.Assign_ListComp_T (F₀ := by k_asm) (by rfl) (by with_unfolding_all rfl) (by with_unfolding_all rfl) (by decide) (by rfl) (by decide) (by rfl) (by rfl) (by rfl) ?_)))
local macro_rules | `(tactic| walk_at "CompSrc") => `(tactic| (k_here; refine Mine.halt ?_))
local macro_rules | `(tactic| walk_at "CompSrcT") => `(tactic| (k_here; refine Mine.halt ?_))
local macro_rules | `(tactic| walk_at "exec For Name Call cons nil") => `(tactic| (k_here; refine Mine.halt ?_))
local macro_rules | `(tactic| walk_at "exec For Name BinOp cons nil") => `(tactic| (k_here; refine Mine.halt ?_))
local macro_rules | `(tactic| walk_at "exec For Name Name cons nil") => `(tactic| (k_here; refine Mine.halt ?_))
local macro_rules | `(tactic| k_all) => `(tactic| assumption)
local macro_rules | `(tactic| walk_at "subscriptTail") => `(tactic| (k_here; (with_reducible show wpAny _ _ (subscriptTail _ _ (Value.ref _) (Value.int _ _)) _ _ _); (with_unfolding_all refine' Mine.item_refs ?k1 ?k2 ?k3 ?k4 ?_ ?k6; (case k1 => is_list); (case k2 => omega); (case k3 => omega); (case k4 => omega); (case k6 => with_unfolding_all rfl); k_whole)))
local macro_rules | `(tactic| walk_at "call builtin:len") => `(tactic| (k_here; k_dflt (refine' Mine.len_any ?l ?n ?_; (case l => is_list); (case n => omega)); intro t' tk'))
local macro_rules | `(tactic| walk_at "binaryOp Mult ref int") => `(tactic| (k_here; k_dflt (refine' Mine.mul0K ?F ?N ?l ?lo ?hi ?_; (case F => k_asm); (case N => k_asm); (case l => is_list); (case lo => omega); (case hi => omega)); intro D' h' ws' F' N' l1 hI'; (try k_lt l1); (try k_sweep)))
/-- what Cramer's rule has -/
def crRow (vs : List V3) (ns : List Int) (g : Int) : List Int := (ns.map fun j => exchZ vs [g] [j]) ++ List.replicate ((3 : Int) - (ns.length : Int)).toNat 0
def idRow (k : Int) : List Int := (rangeKs 0 3).map fun m => if m = k then 1 else 0
def crRows (vs : List V3) (gs ns : List Int) : List (List Int) := gs.map (crRow vs ns) ++ (rangeKs (gs.length : Int) (3 - gs.length)).map idRow
def detR (a b c : List Int) : Int := detZ (a.getD 0 0) (a.getD 1 0) (a.getD 2 0) (b.getD 0 0) (b.getD 1 0) (b.getD 2 0) (c.getD 0 0) (c.getD 1 0) (c.getD 2 0)
def cramerZ (vs : List V3) (gs ns : List Int) : Int := let r := crRows vs gs ns; detR (r.getD 0 []) (r.getD 1 []) (r.getD 2 [])
/-- the rows lie on the ledger -/
def RowsIn (objs : List (Addr × Obj)) : List Addr → List (List Int) → Prop
  | [], [] => True
  | a :: as, r :: rs => (∃ ws k, (a, PySem.W.listOf ws.toArray k) ∈ objs ∧ IntsAre ws r) ∧ RowsIn objs as rs
  | _, _ => False
theorem RowsIn.up {objs objs' : List (Addr × Obj)} (hs : ∀ p ∈ objs, p ∈ objs') : ∀ {as : List Addr} {rs : List (List Int)}, RowsIn objs as rs → RowsIn objs' as rs
  | [], [], _ => trivial
  | _ :: _, _ :: _, ⟨⟨ws, k, h1, h2⟩, r⟩ => ⟨⟨ws, k, hs _ h1, h2⟩, r.up hs⟩
  | [], _ :: _, h => h.elim
  | _ :: _, [], h => h.elim
theorem RowsIn.snoc {objs : List (Addr × Obj)} {a : Addr} {ws : List Value} {k : Nat} {r : List Int} (hm : (a, PySem.W.listOf ws.toArray k) ∈ objs) (hi : IntsAre ws r) : ∀ {as : List Addr} {rs : List (List Int)}, RowsIn objs as rs → RowsIn objs (as ++ [a]) (rs ++ [r])
  | [], [], _ => ⟨⟨ws, k, hm, hi⟩, trivial⟩
  | _ :: _, _ :: _, ⟨h, r⟩ => ⟨h, RowsIn.snoc hm hi r⟩
  | [], _ :: _, h => h.elim
  | _ :: _, [], h => h.elim
theorem crRow_length {vs : List V3} {ns : List Int} {g : Int} (h : ns.length ≤ 3) : (crRow vs ns g).length = 3 := by
  unfold crRow; rw [List.length_append, List.length_map, List.length_replicate]; omega
def B40 (x : Int) : Prop := -(2^40) < x ∧ x < 2^40
theorem crRows_ok {vs : List V3} {gs ns : List Int} (hn : ns.length ≤ 3) (hg : gs.length ≤ 3) (hd : ∀ g ∈ gs, ∀ n ∈ ns, -(2^40) < exchZ vs [g] [n] ∧ exchZ vs [g] [n] < 2^40) :
    (crRows vs gs ns).length = 3 ∧ ∀ r ∈ crRows vs gs ns, r.length = 3 ∧ ∀ x ∈ r, B40 x := by
  refine ⟨by unfold crRows; rw [List.length_append, List.length_map, List.length_map, rangeKs_length]; omega, fun r hr => ?_⟩
  unfold crRows at hr
  rcases List.mem_append.mp hr with hr | hr
  · obtain ⟨g, hg', rfl⟩ := List.mem_map.mp hr
    refine ⟨crRow_length hn, fun x hx => ?_⟩
    unfold crRow at hx
    rcases List.mem_append.mp hx with hx | hx
    · obtain ⟨j, hj, rfl⟩ := List.mem_map.mp hx
      exact hd g hg' j hj
    · rw [List.eq_of_mem_replicate hx]; unfold B40; decide
  · obtain ⟨k, _, rfl⟩ := List.mem_map.mp hr
    refine ⟨by unfold idRow; rw [List.length_map, rangeKs_length], fun x hx => ?_⟩
    obtain ⟨m, _, rfl⟩ := List.mem_map.mp hx
    by_cases e : m = k <;> simp only [e, if_true, if_false] <;> unfold B40 <;> decide
theorem ints_of3 {ws : List Value} {x y z : Int} (h : IntsAre ws [x, y, z]) : ∃ t0 t1 t2, ws = [.int x t0, .int y t1, .int z t2] := by
  cases h with
  | cons _ t0 h => cases h with
    | cons _ t1 h => cases h with
      | cons _ t2 h => cases h; exact ⟨t0, t1, t2, rfl⟩
theorem crLe {a b c : Nat} (h1 : a ≤ b + c) (h2 : c < 3 - b) (h3 : b ≤ 3) : a ≤ 16777216 := by omega
theorem RowsIn.three {objs : List (Addr × Obj)} {fs : List Addr} {rs : List (List Int)} (h : RowsIn objs fs rs) (hl : rs.length = 3) (hr : ∀ r ∈ rs, r.length = 3 ∧ ∀ x ∈ r, B40 x) :
    ∃ f0 f1 f2 a0 a1 a2 b0 b1 b2 c0 c1 c2 k0 k1 k2, ∃ t0 t1 t2 t3 t4 t5 t6 t7 t8 : Tok, fs = [f0, f1, f2] ∧ rs = [[a0, a1, a2], [b0, b1, b2], [c0, c1, c2]] ∧
      (f0, PySem.W.listOf #[.int a0 t0, .int a1 t1, .int a2 t2] k0) ∈ objs ∧ (f1, PySem.W.listOf #[.int b0 t3, .int b1 t4, .int b2 t5] k1) ∈ objs ∧ (f2, PySem.W.listOf #[.int c0 t6, .int c1 t7, .int c2 t8] k2) ∈ objs ∧
      B40 a0 ∧ B40 a1 ∧ B40 a2 ∧ B40 b0 ∧ B40 b1 ∧ B40 b2 ∧ B40 c0 ∧ B40 c1 ∧ B40 c2 := by
  obtain ⟨r0, r1, r2, rfl⟩ := three_of hl
  simp only [List.mem_cons, List.not_mem_nil, or_false, forall_eq_or_imp, forall_eq] at hr
  obtain ⟨⟨l0, q0⟩, ⟨l1, q1⟩, l2, q2⟩ := hr
  obtain ⟨a0, a1, a2, rfl⟩ := three_of l0
  obtain ⟨b0, b1, b2, rfl⟩ := three_of l1
  obtain ⟨c0, c1, c2, rfl⟩ := three_of l2
  match fs, h with
  | [f0, f1, f2], ⟨⟨w0, k0, m0, i0⟩, ⟨w1, k1, m1, i1⟩, ⟨w2, k2, m2, i2⟩, _⟩ =>
    obtain ⟨t0, t1, t2, rfl⟩ := ints_of3 i0
    obtain ⟨t3, t4, t5, rfl⟩ := ints_of3 i1
    obtain ⟨t6, t7, t8, rfl⟩ := ints_of3 i2
    exact ⟨f0, f1, f2, a0, a1, a2, b0, b1, b2, c0, c1, c2, k0, k1, k2, t0, t1, t2, t3, t4, t5, t6, t7, t8, rfl, rfl, m0, m1, m2, q0 _ (by simp), q0 _ (by simp), q0 _ (by simp), q1 _ (by simp), q1 _ (by simp), q1 _ (by simp), q2 _ (by simp), q2 _ (by simp), q2 _ (by simp)⟩
theorem RowsIn.length {objs : List (Addr × Obj)} : ∀ {as : List Addr} {rs : List (List Int)}, RowsIn objs as rs → as.length = rs.length
  | [], [], _ => rfl
  | _ :: _, _ :: _, ⟨_, r⟩ => congrArg Nat.succ r.length
  | [], _ :: _, h => h.elim
  | _ :: _, [], h => h.elim
local macro_rules | `(tactic| walk_at "call ref") => `(tactic| (k_here; refine Mine.halt ?_))
set_option maxRecDepth 100000 in
set_option maxHeartbeats 8000000 in
theorem cramer_spec {w : World} {p : Program} {loose : List Str} {mean : ExcName → Option Value} {mg mb : Str → Option Value}
   {dp un : Nat} {gd : Option (List Code)} {cn : Str} {cs : Scope} {a : Addr} {ccd : Value} {cl : List (Str × Addr)} {outer : List Env} {A₀ : Around} {base h₀ : Heap} {L : Addr} {m : Str → Option Value} {s : Shared} {Q E : Value → Shared → Prop} {news : List (Addr × Obj)}
   {ll lg ln : Addr} {as : List Addr} {vs : List V3} {vg vn : List Value} {gs ns : List Int} :
   Below A₀ base outer h₀ → Fr h₀ L s.heap m → (Mine.hd.heap_39 w.params).In h₀ → News h₀ L s.heap news → Top p loose mean mg mb h₀ → cs.kind = .function →
   dp + 4 < recursionLimit → un + 8 * 4 < cLine →
   s.heap.IsList ll (as.map Value.ref).toArray → Tris s.heap as vs → 3 ≤ as.length → as.length ≤ 6 → (∀ v ∈ vs, Small v) → s.heap.IsList lg vg.toArray → IntsAre vg gs → s.heap.IsList ln vn.toArray → IntsAre vn ns → gs.length = ns.length → gs.length ≤ 3 → (∀ g ∈ gs, 0 ≤ g ∧ g < 3) → (∀ n ∈ ns, 0 ≤ n ∧ n < (as.length : Int)) → (∀ g ∈ gs, ∀ n ∈ ns, -(2^40) < exchZ vs [g] [n] ∧ exchZ vs [g] [n] < 2^40) →
   (∀ (t : Tok) (h' : Heap) (tk' : Nat), Fr h₀ L h' m → News h₀ L h' news → s.heap.StaysIn h' → Q (.int (cramerZ vs gs ns) t) { s with heap := h', toks := tk' }) →
   wpAny (model PySem.Challenge.rw_tl0028_01.prog w) (ktrTop dp un gd cn cs L a ccd cl outer) (call (.ref 121) [.ref ll, .ref lg, .ref ln]) Q E s := by
  w_top off
  k_fill
  intro B F X N T hk hd hu hL hT hal hah hsm hLg hIg hLn hIn hgn hg3 hgb hnb hdb hret
  refine wpAny_call ?_
  k_dflt (first
    | (refine' Mine.enterRL ?k1 ?k2 ?k3 ?k5 ?kA ?kF ?kK ?k6 ?k7 ?k8 ?k9 ?kB ?_ ?c2 ?c3 ?c4 ?c5; (case kA => exact rfl); (case kF => exact rfl); (case kK => assumption); (case k1 => k_asm); (case k2 => k_asm); (case k3 => k_asm); (case k5 => k_asm); (case k6 => k_is); (case k7 => k_is); (case k8 => ktr_room); (case k9 => exact BindsTo.of_eq rfl); (case c5 => decide); (case kB => exact locs rfl); (case c2 => exact rfl); (case c3 => exact rfl); (case c4 => exact rfl); k_whole; intro lE hE tkE fgE envE aE mE fE nE bE xE tE; (try dsimp only); (try ((show wpAny _ _ _ _ _ _); k_fold)))
    | (refine' Mine.enterRCL ?k1 ?k2 ?k3 ?k5 ?kA ?kF ?kK ?k6 ?k7 ?k8 ?k9 ?kB ?kD ?_ ?c2 ?c3 ?c4; (case kA => exact rfl); (case kF => exact rfl); (case kK => assumption); (case k1 => k_asm); (case k2 => k_asm); (case k3 => k_asm); (case k5 => k_asm); (case k6 => k_is); (case k7 => k_is); (case k8 => ktr_room); (case k9 => exact BindsTo.of_eq rfl); (case kB => exact rfl); (case kD => decide +kernel); (case c2 => exact rfl); (case c3 => exact rfl); (case c4 => exact rfl); k_whole; intro lE hE tkE cellsE fgE envE aE mE fE nE yE bE xE tE; k_cells yE; (try simp only [List.cons_append, List.nil_append, List.append_nil] at nE); (try dsimp only); (try ((show wpAny _ _ _ _ _ _); k_fold))))
  k_steps
  refine Halt.go ?_
  rename Fr _ _ _ _ => F1
  rename News _ _ _ _ => N1
  refine nameF F1 ?_
  intro L1 e1
  subst e1
  refine nameN4 N1 ?_
  intro rA xr ck xk ci xi cl xl e1 e2 e3 e4 e5 e6 e7 e8
  subst e1 e4 e6 e8
  clear e2 e3 e5 e7
  have hvg := hIg.length
  have hvn := hIn.length
  k_dflt refine forC_list (n := gs.length) (by k_asm) (by rfl) (by rfl) (by rfl) (by rfl) ?_
  k_steps
  rename Fr _ _ _ _ => F2
  rename News _ _ _ _ => N2
  refine' Halt.go ⟨lg, vg.toArray, xi, _, [(rA, PySem.W.listOf #[] 0), (L1 + 1 + 1 + 1, xk), (L1 + 1, xl)], (fun m₀ i m rest => Halt (∃ fs nn objs, m = m₀ ∧ rest = (rA, PySem.W.listOf (fs.map Value.ref).toArray nn) :: (L1 + 1 + 1 + 1, xk) :: (L1 + 1, xl) :: objs ∧ (∀ p ∈ objs, p.1 ≠ rA) ∧ (∀ p ∈ objs, p.1 ≠ L1 + 1 + 1 + 1) ∧ (∀ p ∈ objs, p.1 ≠ L1 + 1) ∧ (∀ p ∈ objs, p.1 ≠ L1 + 1 + 1) ∧ fs.length ≤ i ∧ RowsIn objs fs ((gs.take i).map (crRow vs ns)))), rfl, ?S, ?sz, ?F, ?N, ?c, ?o, ?j, ?turn, ?done⟩
  case S => exact .inl (by assumption)
  case F => exact F2
  case N => exact news_sub N2 (by kcf_all)
  case sz => rw [List.size_toArray, hvg]
  case c => k_asm
  case o => intro p hp; simp only [List.mem_cons, List.not_mem_nil, or_false] at hp; rcases hp with rfl | rfl | rfl <;> k_ne
  case j => exact Halt.go ⟨[], 0, [], rfl, rfl, List.forall_mem_nil _, List.forall_mem_nil _, List.forall_mem_nil _, List.forall_mem_nil _, Nat.le_refl _, trivial⟩
  case turn =>
    rintro I i v m rest oI oc' h tk E' hi hv HJ9 hoff hcI hcd F' N'
    refine Mine.letP ?_
    intro G9
    obtain ⟨fs, nn, objs, rfl, rfl, ho1, ho2, ho3, ho4, hfl, hrows⟩ := HJ9
    obtain ⟨g, t, rfl, hg⟩ := IntsAre.at hIg i v (by simpa using hv)
    have hgb' := hgb g (List.mem_of_getElem? hg)
    try clear N2 F2
    show wpAny _ _ _ _ _ _
    try dsimp only
    try ((show wpAny _ _ _ _ _ _); k_fold)
    k_steps
    refine Halt.go ?_
    k_dflt (refine LCg.CompSrc.base (by rfl) (by k_asm) (by k_asm) (by assumption) (by (rw [PySem.sizeLine_eq, List.size_toArray]; omega)) ?_)
    intro g1
    refine kcf_list (fun j => exchZ vs [g] [j]) hIn (fun k t I oI C oC D m₂ ys h tk E' hk hC hx F' N' off ne hMark => ?_) (fun ys hys => ?_)
    · have hnb' := hnb k hk
      try ((show wpAny _ _ _ _ _ _); k_fold)
      k_steps
      refine Halt.go ?_
      k_dflt (refine Mine.exch_spec (by k_asm) (by k_asm) (by first | k_asm | k_in) (by k_asm) (by k_asm) (by first | exact rfl | assumption) (by ktr_room) (by ktr_units) (by is_list) (by exact Tris.keeps (by assumption) (Fr.keep (by assumption))) (by assumption) (by assumption) (by assumption) (by is_list) (by exact .cons _ _ .nil) (by is_list) (by exact .cons _ _ .nil) (by exact rfl) (by (show 1 ≤ 3; decide)) (by (intro z hz; rw [List.mem_singleton.mp hz]; omega)) (by (intro z hz; rw [List.mem_singleton.mp hz]; omega)) ?_)
      intro t9 h9 tk9 F9 N9 S9
      try dsimp only
      k_steps
    · have hoI : @Ne Nat rA I := (hoff _ List.mem_cons_self).1
      have hkI : @Ne Nat (L1 + 1 + 1 + 1) I := (hoff _ (List.mem_cons_of_mem _ List.mem_cons_self)).1
      have hlI : @Ne Nat (L1 + 1) I := (hoff _ (List.mem_cons_of_mem _ (List.mem_cons_of_mem _ List.mem_cons_self))).1
      have hob : ∀ p ∈ objs, p.1 ≠ I ∧ p.1 ≠ L1 + 1 + 1 := fun p hp => hoff p (List.mem_cons_of_mem _ (List.mem_cons_of_mem _ (List.mem_cons_of_mem _ hp)))
      k_steps
      rename Fr _ _ _ _ => F5
      rename News _ _ _ _ => N5
      rename IntsAre _ (_ ++ _) => hI5
      rw [push_refs] at N5
      rw [hvn] at hI5
      refine nameN1 N5 ?_
      intro D1 x1 e1 e2
      subst e1
      clear e2
      refine nameI hI5 ?_
      intro ws5 e1
      subst e1
      refine EndC.next (rest' := (rA, PySem.W.listOf ((fs ++ [D1]).map Value.ref).toArray (nn + 1)) :: (L1 + 1 + 1 + 1, xk) :: (L1 + 1, xl) :: (D1, PySem.W.listOf ws5.toArray 0) :: objs) F5 N5 (by kcf_all) hcd ?_ (.inl (by assumption)) ?_
      · exact off_cons hoI (by k_ne) (off_cons hkI (by k_ne) (off_cons hlI (by k_ne) (off_cons (by k_ne) (by k_ne) hob)))
      · refine Halt.go ⟨fs ++ [D1], _, _, rfl, rfl, off1_cons (by k_ne) ho1, off1_cons (by k_ne) ho2, off1_cons (by k_ne) ho3, off1_cons (by k_ne) ho4, ?_, ?_⟩
        · rw [List.length_append]; exact Nat.succ_le_succ hfl
        · rw [List.take_add_one, hg, List.map_append]
          exact RowsIn.snoc List.mem_cons_self hI5 (hrows.up fun p hp => List.mem_cons_of_mem _ hp)
  case done =>
    rintro m rest oc' v' h tk hd HJ9 F' N'
    refine Mine.letP ?_
    intro G9
    obtain ⟨fs, nn, objs, rfl, rfl, ho1, ho2, ho3, ho4, hfl, hrows⟩ := HJ9
    rw [List.take_length] at hrows
    have hfl2 := hrows.length
    rw [List.length_map] at hfl2
    show wpAny _ _ _ _ _ _
    try dsimp only
    try ((show wpAny _ _ _ _ _ _); k_fold)
    k_steps
    refine Halt.go ?_
    rename Fr _ _ _ _ => F3
    rename News _ _ _ _ => N3
    k_dflt refine forC_range (n := 3 - gs.length) (by k_asm) (by rfl) (by rfl) (by rfl) (by rfl) (fun m₀ i m rest => Halt (∃ fs nn objs, m = m₀ ∧ rest = (rA, PySem.W.listOf (fs.map Value.ref).toArray nn) :: (L1 + 1 + 1, oc') :: (L1 + 1, xl) :: objs ∧ (∀ p ∈ objs, p.1 ≠ rA) ∧ (∀ p ∈ objs, p.1 ≠ L1 + 1 + 1) ∧ (∀ p ∈ objs, p.1 ≠ L1 + 1) ∧ fs.length ≤ gs.length + i ∧ RowsIn objs fs (gs.map (crRow vs ns) ++ ((rangeKs (gs.length : Int) (3 - gs.length)).take i).map idRow))) ?_
    k_steps
    rename Fr _ _ _ _ => F4
    rename News _ _ _ _ => N4
    rename IsRange _ _ _ _ _ _ _ _ => R4
    rw [hvg] at R4
    refine' Halt.go ⟨_, _, _, _, _, _, xk, _, [(rA, PySem.W.listOf (fs.map Value.ref).toArray nn), (L1 + 1 + 1, oc'), (L1 + 1, xl)] ++ objs, rfl, ?r2, ?s12, ?s22, ?F2, ?N2, ?c2, ?o2, ?j2, ?turn2, ?done2⟩
    case r2 => exact R4
    case s12 => exact small_one (by omega) (by omega) (by omega) (by omega)
    case s22 => first | (rw [rangeSize_nat]; omega) | (have := rangeSize_nat gs.length 3; simp_all; done)
    case F2 => exact F4
    case N2 => exact news_sub N4 (by kcf_all)
    case c2 => k_asm
    case o2 => exact off1_cons (by k_ne) (off1_cons (by k_ne) (off1_cons (by k_ne) ho2))
    case j2 => exact Halt.go ⟨fs, nn, objs, by trivial, by trivial, ho1, ho4, ho3, by omega, by rw [List.take_zero, List.map_nil, List.append_nil]; exact hrows⟩
    case turn2 =>
      rintro I i t m rest oI oc2 h tk E' hi HJ9 hoff hcI hcd F' N'
      refine Mine.letP ?_
      intro G9
      obtain ⟨fs, nn, objs, rfl, rfl, ho1, ho4, ho3, hfl, hrows⟩ := HJ9
      have hfs9 := crLe hfl hi hg3
      try clear N2 F2 N4 F4
      show wpAny _ _ _ _ _ _
      try dsimp only
      try ((show wpAny _ _ _ _ _ _); k_fold)
      k_steps
      refine Halt.go ?_
      k_dflt (refine LCg.CompSrc.range (n := 3) (by rfl) (by k_asm) (by k_asm) (by assumption) (by decide) (by rfl) (by rw [PySem.sizeLine_eq]; decide) ?_)
      intro g1
      refine kcf_range (fun m => if m = (gs.length : Int) + (i : Int) then 1 else 0) (fun k t I oI C oC D m₂ ys h tk E' hlo hhi hC hx F' N' off ne hMark => ?_) (fun ys hys => ?_)
      · try ((show wpAny _ _ _ _ _ _); k_fold)
        k_steps
      · have hoI : @Ne Nat rA I := (hoff _ List.mem_cons_self).1
        have hkI : @Ne Nat (L1 + 1 + 1) I := (hoff _ (List.mem_cons_of_mem _ List.mem_cons_self)).1
        have hlI : @Ne Nat (L1 + 1) I := (hoff _ (List.mem_cons_of_mem _ (List.mem_cons_of_mem _ List.mem_cons_self))).1
        have hob : ∀ p ∈ objs, p.1 ≠ I ∧ p.1 ≠ L1 + 1 + 1 + 1 := fun p hp => hoff p (List.mem_cons_of_mem _ (List.mem_cons_of_mem _ (List.mem_cons_of_mem _ hp)))
        k_steps
        rename Fr _ _ _ _ => F5
        rename News _ _ _ _ => N5
        rw [push_refs] at N5
        refine nameN1 N5 ?_
        intro D1 x1 e1 e2
        subst e1
        clear e2
        refine EndC.next (rest' := (rA, PySem.W.listOf ((fs ++ [D1]).map Value.ref).toArray (nn + 1)) :: (L1 + 1 + 1, oc') :: (L1 + 1, xl) :: (D1, LCg.lst ys) :: objs) F5 N5 (by kcf_all) hcd ?_ trivial ?_
        · exact off_cons hoI (by k_ne) (off_cons hkI (by k_ne) (off_cons hlI (by k_ne) (off_cons (by k_ne) (by k_ne) hob)))
        · refine Halt.go ⟨fs ++ [D1], _, _, by trivial, rfl, off1_cons (by k_ne) ho1, off1_cons (by k_ne) ho4, off1_cons (by k_ne) ho3, ?_, ?_⟩
          · rw [List.length_append]; exact Nat.succ_le_succ hfl
          · have e9 : (rangeKs (gs.length : Int) (3 - gs.length))[i]? = some ((gs.length : Int) + (i : Int)) := by simp [rangeKs, hi]
            rw [List.take_add_one, e9, List.map_append, ← List.append_assoc]
            exact RowsIn.snoc (k := ys.length) List.mem_cons_self hys (hrows.up fun p hp => List.mem_cons_of_mem _ hp)
    case done2 =>
      rintro m rest oc2 v2 h tk hd2 HJ9 F' N'
      refine Mine.letP ?_
      intro G9
      obtain ⟨fs, nn, objs, rfl, rfl, ho1, ho4, ho3, hfl, hrows⟩ := HJ9
      try clear N2 F2 N4 F4
      have hlk : (rangeKs (gs.length : Int) (3 - gs.length)).length = 3 - gs.length := rangeKs_length _ _
      rw [List.take_of_length_le (by omega)] at hrows
      obtain ⟨ok1, ok2⟩ := crRows_ok (vs := vs) (gs := gs) (ns := ns) (by omega) hg3 hdb
      obtain ⟨f0, f1, f2, a0, a1, a2, b0, b1, b2, c0, c1, c2, k0, k1, k2, t0, t1, t2, t3, t4, t5, t6, t7, t8, rfl, hR, m0, m1, m2, q0, q1, q2, q3, q4, q5, q6, q7, q8⟩ := RowsIn.three hrows ok1 ok2
      have hz : cramerZ vs gs ns = detZ a0 a1 a2 b0 b1 b2 c0 c1 c2 := by unfold cramerZ crRows; rw [hR]; rfl
      have hl0 := News.isList N' (List.mem_cons_of_mem _ (List.mem_cons_of_mem _ (List.mem_cons_of_mem _ (List.mem_cons_of_mem _ m0))))
      have hl1 := News.isList N' (List.mem_cons_of_mem _ (List.mem_cons_of_mem _ (List.mem_cons_of_mem _ (List.mem_cons_of_mem _ m1))))
      have hl2 := News.isList N' (List.mem_cons_of_mem _ (List.mem_cons_of_mem _ (List.mem_cons_of_mem _ (List.mem_cons_of_mem _ m2))))
      show wpAny _ _ _ _ _ _
      try dsimp only
      try ((show wpAny _ _ _ _ _ _); k_fold)
      unfold B40 at q0 q1 q2 q3 q4 q5 q6 q7 q8
      obtain ⟨q0, p0⟩ := q0
      obtain ⟨q1, p1⟩ := q1
      obtain ⟨q2, p2⟩ := q2
      obtain ⟨q3, p3⟩ := q3
      obtain ⟨q4, p4⟩ := q4
      obtain ⟨q5, p5⟩ := q5
      obtain ⟨q6, p6⟩ := q6
      obtain ⟨q7, p7⟩ := q7
      obtain ⟨q8, p8⟩ := q8
      rw [hz] at hret
      try ((show wpAny _ _ _ _ _ _); k_fold)
      k_steps
      refine Halt.go ?_
      k_dflt (refine' Mine.det_spec ?B9 ?F9 ?X9 ?N9 ?T9 ?hk9 ?hd9 ?hu9 ?b09 ?b19 ?b29 ?b39 ?b49 ?b59 ?b69 ?b79 ?b89 ?l09 ?l19 ?l29 ?ret9)
      case B9 => k_asm
      case F9 => k_asm
      case X9 => first | k_asm | k_in
      case N9 => k_asm
      case T9 => k_asm
      case hk9 => first | exact rfl | assumption
      case hd9 => ktr_room
      case hu9 => ktr_units
      case l09 => is_list
      case l19 => is_list
      case l29 => is_list
      case b09 => omega
      case b19 => omega
      case b29 => omega
      case b39 => omega
      case b49 => omega
      case b59 => omega
      case b69 => omega
      case b79 => omega
      case b89 => omega
      case ret9 =>
        intro t9 h9 tk9 F9 N9 S9
        try dsimp only
        try ((show wpAny _ _ _ _ _ _); k_fold)
        k_steps
        exact hret _ _ _ (by k_asm) (stays_news N (Fr.keep (by assumption))) (Fr.keep (by assumption))
end Mine
end
section
open PySem PySem.Spec PySem.Calls PySem.W PyProof.Rows
namespace Mine
local macro_rules | `(tactic| walk_at "subscriptTail") => `(tactic| (k_here; (with_reducible show wpAny _ _ (subscriptTail _ _ (Value.ref _) (Value.int _ _)) _ _ _); (with_unfolding_all refine' item_anyK ?k1 ?k2 ?k3 ?k4 ?k5 ?_ ?k6; (case k1 => is_list); (case k2 => assumption); (case k3 => omega); (case k4 => omega); (case k5 => omega); (case k6 => with_unfolding_all rfl); k_whole); intro _))
local macro_rules | `(tactic| k_all) => `(tactic| assumption)
local macro_rules | `(tactic| walk_at "exec For Tuple Call cons nil") => `(tactic| (k_here; refine Mine.halt ?_))
local macro_rules | `(tactic| walk_at "call type:enumerate") => `(tactic| (k_here; refine Mine.halt ?_))
local macro_rules | `(tactic| walk_at "UnrEndW") => `(tactic| (refine Mine.halt ?_))
local macro_rules | `(tactic| walk_at "subscriptTail Name Slice ref ref") => `(tactic| (k_here; refine Mine.halt ?_))
local macro_rules | `(tactic| walk_at "setItem ref int") => `(tactic| (k_here; refine Mine.halt ?_))
set_option maxRecDepth 100000 in
set_option maxHeartbeats 8000000 in
theorem cells_spec {w : World} {p : Program} {loose : List Str} {mean : ExcName → Option Value} {mg mb : Str → Option Value}
   {dp un : Nat} {gd : Option (List Code)} {cn : Str} {cs : Scope} {a : Addr} {ccd : Value} {cl : List (Str × Addr)} {outer : List Env} {A₀ : Around} {base h₀ : Heap} {L : Addr} {m : Str → Option Value} {s : Shared} {Q E : Value → Shared → Prop} {news : List (Addr × Obj)}
   {l1 : Addr} {v1 : List Value} {s1 : List Int} :
   Below A₀ base outer h₀ → Fr h₀ L s.heap m → (Mine.hd.heap_39 w.params).In h₀ → News h₀ L s.heap news → Top p loose mean mg mb h₀ → cs.kind = .function →
   dp + 2 < recursionLimit → un + 8 * 2 < cLine →
   s.heap.IsList l1 v1.toArray → IntsAre v1 s1 → s1.length ≤ 63 →
   (∀ (vs : List Value) (ns : List Int) (k : Nat) (a : Addr) (h' : Heap) (tk' : Nat), IntsAre vs ns → ns.length = 7 → (∀ x ∈ ns, 0 ≤ x ∧ x < 2 ^ 40) → Fr h₀ L h' m → News h₀ L h' ((a, PySem.W.listOf vs.toArray k) :: news) → (∀ p ∈ news, p.1 ≠ a) → s.heap.StaysIn h' → Q (.ref a) { s with heap := h', toks := tk' }) →
   wpAny (model PySem.Challenge.rw_tl0028_01.prog w) (ktrTop dp un gd cn cs L a ccd cl outer) (call (.ref 87) [.ref l1]) Q E s := by
  w_top off
  k_fill
  intro B F X N T hk hd hu hL hI h63 hret
  refine wpAny_call ?_
  k_dflt (first
    | (refine' Mine.enterRL ?k1 ?k2 ?k3 ?k5 ?kA ?kF ?kK ?k6 ?k7 ?k8 ?k9 ?kB ?_ ?c2 ?c3 ?c4 ?c5; (case kA => exact rfl); (case kF => exact rfl); (case kK => assumption); (case k1 => k_asm); (case k2 => k_asm); (case k3 => k_asm); (case k5 => k_asm); (case k6 => k_is); (case k7 => k_is); (case k8 => ktr_room); (case k9 => exact BindsTo.of_eq rfl); (case c5 => decide); (case kB => exact locs rfl); (case c2 => exact rfl); (case c3 => exact rfl); (case c4 => exact rfl); k_whole; intro lE hE tkE fgE envE aE mE fE nE bE xE tE; (try dsimp only); (try ((show wpAny _ _ _ _ _ _); k_fold)))
    | (refine' Mine.enterRCL ?k1 ?k2 ?k3 ?k5 ?kA ?kF ?kK ?k6 ?k7 ?k8 ?k9 ?kB ?kD ?_ ?c2 ?c3 ?c4; (case kA => exact rfl); (case kF => exact rfl); (case kK => assumption); (case k1 => k_asm); (case k2 => k_asm); (case k3 => k_asm); (case k5 => k_asm); (case k6 => k_is); (case k7 => k_is); (case k8 => ktr_room); (case k9 => exact BindsTo.of_eq rfl); (case kB => exact rfl); (case kD => decide +kernel); (case c2 => exact rfl); (case c3 => exact rfl); (case c4 => exact rfl); k_whole; intro lE hE tkE cellsE fgE envE aE mE fE nE yE bE xE tE; k_cells yE; (try simp only [List.cons_append, List.nil_append, List.append_nil] at nE); (try dsimp only); (try ((show wpAny _ _ _ _ _ _); k_fold))))
  have hv1 := hI.length
  k_steps
  refine Halt.go ?_
  rename Fr _ _ _ _ => F1
  with_unfolding_all refine' For_turns F1 ?_
  k_steps
  refine Halt.go ?_
  k_dflt (refine kms_slice_lit (by k_asm) (by k_asm) (by kmk_list) (by kmk_part) (by kmk_part) (by exact Mine.pick_upto _ 14) ?_ (by with_unfolding_all rfl) (by kmk_pure) (by (simp only [List.size_toArray]; rw [PySem.sizeLine_eq]; omega)))
  intro dS hS fS nS lS
  try k_lt lS
  try k_sweep
  k_steps
  refine Halt.go ?_
  rename Fr _ _ _ _ => F2
  rename News _ _ _ _ => N2
  refine nameF F2 ?_
  intro L1 e1
  subst e1
  refine nameN2 N2 ?_
  intro sA xs cA xc e1 e2 e3 e4
  subst e1 e3
  clear e2 e4
  with_unfolding_all refine ktu_enum (vs := v1.take 14) (lo := PySem.W.listOf (v1.take 14).toArray 0) (n := 0) (by rfl) F2 N2 List.mem_cons_self rfl rfl rfl ?_
  intro I hI9
  k_lt hI9
  refine enumRest_of (J := fun m₀ i m news => Halt (∃ u v vs ns nn, m = (fun z => if z = Str.ofString "x" then u else if z = Str.ofString "k" then v else m₀ z) ∧ news = [(sA, PySem.W.listOf (v1.take 14).toArray 0), (cA, PySem.W.listOf vs.toArray nn)] ∧ IntsAre vs ns ∧ ns.length = 7 ∧ ∀ x ∈ ns, 0 ≤ x ∧ x < 200 + (i : Int) * 1000000)) ?_ ?_ ?_
  · refine Halt.go ⟨_, _, _, [21, 13, 66, 189, 26, 40, 1], _, map2_id _ _ _, rfl, by repeat' constructor, rfl, by decide⟩
  · rintro i v m1 news1 T t h1 tk1 hv ⟨u, v', vs, ns, nn, rfl, rfl, hIv, hn7, hb⟩ hT F'
    have hi14 : i < 14 := by
      have := (List.getElem?_eq_some_iff.mp hv).1
      rw [List.length_take] at this
      omega
    rw [List.getElem?_take_of_lt hi14] at hv
    obtain ⟨x, tx, rfl, hx⟩ := IntsAre.at hI i v hv
    refine AllObj.cons fun o1 hc1 => AllObj.cons fun o2 hc2 => AllObj.nil fun N' => ?_
    try dsimp only at hc1 hc2
    try simp only [List.cons_append, List.nil_append] at N'
    try clear N2 F2
    have hv7 := hIv.length
    have hm0 := fmod_lo (i : Int) (n := 7) (by omega)
    have hm1 := fmod_hi (i : Int) (n := 7) (by omega)
    have hx0 := fmod_lo x (n := 1000000) (by omega)
    have hx1 := fmod_hi x (n := 1000000) (by omega)
    have hkk := ints_mem (k := (i : Int).fmod 7) hb (by omega) (by omega)
    k_steps
    refine Halt.go ?_
    k_dflt (refine Mine.set_ints (by k_asm) (by k_asm) (by k_upd) (by omega) (by omega) (by omega) ?_)
    intro hS fS nS
    try k_sweep
    k_steps
    rename Fr _ _ _ _ => F5
    rename News _ _ _ _ => N5
    refine' Halt.go ⟨_, _, _, [_, _], rfl, F5, N5, ?off, ?sub, Halt.go ⟨_, _, _, _, _, map2_again _ _ _ _ _ _ _, rfl, ints_set hIv _ _ _, by rw [List.length_set]; exact hn7, ?b⟩⟩
    case off =>
      intro p hp q hq
      simp only [List.mem_cons, List.not_mem_nil, or_false] at hp hq
      rcases hp with rfl | rfl <;> rcases hq with rfl | rfl <;> k_ne
    case sub => k_subL
    case b =>
      intro y hy
      rcases List.mem_or_eq_of_mem_set hy with hy | rfl
      · have := hb y hy
        omega
      · omega
  · rintro m1 news1 h1 tk1 ⟨u, v', vs, ns, nn, rfl, rfl, hIv, hn7, hb⟩ F' N'
    k_steps
    have hl14 : (v1.take 14).length ≤ 14 := by rw [List.length_take]; omega
    have z := news_ret F N F'.keep N' (List.mem_cons_of_mem _ List.mem_cons_self)
    refine hret vs ns nn cA _ _ hIv hn7 (fun y hy => ?_) (by k_asm) z.1 z.2 F'.keep
    have := hb y hy
    omega
end Mine
end
section
open PySem PySem.Spec PySem.Calls PySem.W PyProof.Rows
namespace Mine
local macro_rules | `(tactic| k_all) => `(tactic| assumption)
local macro_rules | `(tactic| walk_at "call builtin:divmod") => `(tactic| (k_here; k_dflt (refine' Mine.divmodK ?F ?N ?a ?b ?_; (case F => k_asm); (case N => k_asm); (case a => omega); (case b => omega)); intro D' h' tk' t0' t1' F' N' l1; (try k_lt l1); (try k_sweep)))
set_option maxRecDepth 100000 in
set_option maxHeartbeats 8000000 in
theorem d21_spec {w : World} {p : Program} {loose : List Str} {mean : ExcName → Option Value} {mg mb : Str → Option Value}
   {dp un : Nat} {gd : Option (List Code)} {cn : Str} {cs : Scope} {a : Addr} {ccd : Value} {cl : List (Str × Addr)} {outer : List Env} {A₀ : Around} {base h₀ : Heap} {L : Addr} {m : Str → Option Value} {s : Shared} {Q E : Value → Shared → Prop} {news : List (Addr × Obj)}
   {a1 b1 n1 : Int} {t u v : Tok} :
   Below A₀ base outer h₀ → Fr h₀ L s.heap m → (Mine.hd.heap_39 w.params).In h₀ → News h₀ L s.heap news → Top p loose mean mg mb h₀ → cs.kind = .function →
   dp + 1 < recursionLimit → un + 8 * 1 < cLine →
   0 ≤ a1 → a1 < 2 ^ 400 → 0 < b1 → b1 < 2 ^ 200 → 0 ≤ n1 → n1 < 2 ^ 20 →
   (∀ (t0 t1 : Tok) (a : Addr) (h' : Heap) (tk' : Nat), Fr h₀ L h' m → News h₀ L h' ((a, { cls := .type "tuple", data := .seq #[.int (a1.fdiv b1) t0, .int (a1.fmod b1) t1] }) :: news) → (∀ p ∈ news, p.1 ≠ a) → s.heap.StaysIn h' → Q (.ref a) { s with heap := h', toks := tk' }) →
   wpAny (model PySem.Challenge.rw_tl0028_01.prog w) (ktrTop dp un gd cn cs L a ccd cl outer) (call (.ref 21) [.int a1 t, .int b1 u, .int n1 v]) Q E s := by
  w_top off
  k_fill
  intro B F X N T hk hd hu ha0 ha1 hb0 hb1 hn0 hn1 hret
  refine wpAny_call ?_
  k_dflt (first
    | (refine' Mine.enterRL ?k1 ?k2 ?k3 ?k5 ?kA ?kF ?kK ?k6 ?k7 ?k8 ?k9 ?kB ?_ ?c2 ?c3 ?c4 ?c5; (case kA => exact rfl); (case kF => exact rfl); (case kK => assumption); (case k1 => k_asm); (case k2 => k_asm); (case k3 => k_asm); (case k5 => k_asm); (case k6 => k_is); (case k7 => k_is); (case k8 => ktr_room); (case k9 => exact BindsTo.of_eq rfl); (case c5 => decide); (case kB => exact locs rfl); (case c2 => exact rfl); (case c3 => exact rfl); (case c4 => exact rfl); k_whole; intro lE hE tkE fgE envE aE mE fE nE bE xE tE; (try dsimp only); (try ((show wpAny _ _ _ _ _ _); k_fold)))
    | (refine' Mine.enterRCL ?k1 ?k2 ?k3 ?k5 ?kA ?kF ?kK ?k6 ?k7 ?k8 ?k9 ?kB ?kD ?_ ?c2 ?c3 ?c4; (case kA => exact rfl); (case kF => exact rfl); (case kK => assumption); (case k1 => k_asm); (case k2 => k_asm); (case k3 => k_asm); (case k5 => k_asm); (case k6 => k_is); (case k7 => k_is); (case k8 => ktr_room); (case k9 => exact BindsTo.of_eq rfl); (case kB => exact rfl); (case kD => decide +kernel); (case c2 => exact rfl); (case c3 => exact rfl); (case c4 => exact rfl); k_whole; intro lE hE tkE cellsE fgE envE aE mE fE nE yE bE xE tE; k_cells yE; (try simp only [List.cons_append, List.nil_append, List.append_nil] at nE); (try dsimp only); (try ((show wpAny _ _ _ _ _ _); k_fold))))
  have hbits := intBits_le ha0 ha1
  k_steps
  rename News s.heap _ _ _ => N5
  rename Fr s.heap _ _ _ => F6
  have z := news_ret F N F6.keep N5 List.mem_cons_self
  exact hret _ _ _ _ _ (by k_asm) z.1 z.2 F6.keep
end Mine
end
section
open PySem PySem.Spec PySem.Calls PySem.W PyProof.Rows
namespace Mine
local macro_rules | `(tactic| kla_enter) => `(tactic| (first | with_reducible assumption | (refine' And.right ?_; first | with_reducible assumption | (refine' And.right ?_; first | with_reducible assumption | (refine' And.right ?_; first | with_reducible assumption | (refine' And.right ?_; first | with_reducible assumption | (refine' And.right ?_; first | with_reducible assumption | (refine' And.right ?_; first | with_reducible assumption | (refine' And.right ?_; first | with_reducible assumption)))))))))
local macro_rules | `(tactic| k_ne) => `(tactic| ((try dsimp only); first | with_reducible assumption | with_reducible first | exact Mine.neP1 | exact Mine.neP2 | exact Mine.neS Mine.neP1 | exact Mine.neS Mine.neP2 | exact Mine.neS (by assumption) | exact Mine.neA (by kla_enter) | exact Mine.neB (by kla_enter) | exact Mine.ltA (by kla_enter) | exact Mine.gtA (by kla_enter)))
local macro_rules | `(tactic| k_all) => `(tactic| assumption)
local macro_rules | `(tactic| walk_at "binaryOp Mult ref int") => `(tactic| (k_here; k_dflt (refine' Mine.mul0K ?F ?N ?l ?lo ?hi ?_; (case F => k_asm); (case N => k_asm); (case l => is_list); (case lo => omega); (case hi => omega)); intro D' h' ws' F' N' l1 hI'; (try k_lt l1); (try k_sweep)))
local macro_rules | `(tactic| walk_at "call builtin:len") => `(tactic| (k_here; k_dflt (refine' Mine.len_any ?l ?n ?_; (case l => is_list); (case n => omega)); intro t' tk'))
local macro_rules | `(tactic| walk_at "setItem ref int") => `(tactic| (k_here; (with_reducible show wpAny _ _ (setItem (Value.ref _) (Value.int _ _) (Value.int _ _)) _ _ _); k_dflt (refine' Mine.set_ints ?k1 ?k2 ?k3 ?k4 ?k5 ?k6 ?_; (case k1 => k_asm); (case k2 => k_asm); (case k3 => k_upd); (case k4 => omega); (case k5 => omega); (case k6 => omega); k_whole); intro h' F' N'; (try k_sweep)))
local macro_rules | `(tactic| walk_at "binaryOp LShift int int") => `(tactic| (k_here; (with_reducible refine lshift_int ?kbn ?kbs ?_); (case kbn => omega); (case kbs => omega)))
local macro_rules | `(tactic| walk_at "call ref") => `(tactic| (k_here; refine Mine.halt ?_))
local macro_rules | `(tactic| walk_at "exec FunctionDef") => `(tactic| (k_here; refine Mine.halt ?_))
theorem digits_le {b : Nat} {n : Int} (hb : b ≤ 400) (hn : 1 ≤ n) : 0 ≤ ((b : Int) + n - 1).fdiv n ∧ ((b : Int) + n - 1).fdiv n ≤ 400 := by
  rw [Int.fdiv_eq_ediv_of_nonneg _ (by omega)]
  refine ⟨Int.ediv_nonneg (by omega) (by omega), ?_⟩
  have : ((b : Int) + n - 1) / n < 401 := by
    refine Int.ediv_lt_of_lt_mul (by omega) ?_
    have : (401 : Int) * n = 400 * n + n := by omega
    omega
  omega

def InnerSpec (w : World) (n1 : Int) (f1 : Addr) (o1 : Obj) (c1 : Addr) (oc : Obj) (cI cA cN dA : Addr) (xI xA xN : Obj) (k : Nat) : Prop :=
  ∀ {p : Program} {loose : List Str} {mean : ExcName → Option Value} {mg mb : Str → Option Value} {dp un : Nat} {gd : Option (List Code)} {cn : Str} {cs : Scope} {a : Addr} {ccd : Value} {cl : List (Str × Addr)} {outer : List Env} {A₀ : Around} {base h₀ : Heap} {L : Addr} {m : Str → Option Value} {s : Shared} {Q E : Value → Shared → Prop} {news : List (Addr × Obj)}
    {vs : List Value} {ds : List Int} {nn : Nat} {x lo hi : Int} {t u v : Tok},
    Below A₀ base outer h₀ → Fr h₀ L s.heap m → (Mine.hd.heap_39 w.params).In h₀ → News h₀ L s.heap ((f1, o1) :: (c1, oc) :: (cI, xI) :: (cA, xA) :: (cN, xN) :: (dA, PySem.W.listOf vs.toArray nn) :: news) → Top p loose mean mg mb h₀ → cs.kind = .function →
    dp + (k + 1) < recursionLimit → un + 8 * (k + 1) < cLine → IntsAre vs ds → 0 ≤ lo → hi ≤ (ds.length : Int) → ds.length ≤ 400 → hi - lo = (k : Int) → 1 ≤ k → 0 ≤ x → x < 2 ^ (n1.toNat * k) → (∀ p ∈ news, p.1 ≠ dA) →
    (∀ (vs' : List Value) (ds' : List Int) (h' : Heap) (tk' : Nat), IntsAre vs' ds' → ds'.length = ds.length → (∀ j : Nat, ds'.getD j 0 = if lo ≤ (j : Int) ∧ (j : Int) < hi then (x / 2 ^ (n1.toNat * (j - lo.toNat))) % 2 ^ n1.toNat else ds.getD j 0) → Fr h₀ L h' m →
      News h₀ L h' ((f1, o1) :: (c1, oc) :: (cI, xI) :: (cA, xA) :: (cN, xN) :: (dA, PySem.W.listOf vs'.toArray nn) :: news) → Q .none { s with heap := h', toks := tk' }) →
    wpAny (model PySem.Challenge.rw_tl0028_01.prog w) (ktrTop dp un gd cn cs L a ccd cl outer) (call (.ref f1) [.int x t, .int lo u, .int hi v]) Q E s
theorem inner_one {ds : List Int} {x lo hi : Int} {n1 : Int} (h0 : 0 ≤ lo) (h1 : hi ≤ (ds.length : Int)) (e : lo + 1 = hi) (hx0 : 0 ≤ x) (hx1 : x < 2 ^ n1.toNat) (j : Nat) :
    (ds.set lo.toNat x).getD j 0 = if lo ≤ (j : Int) ∧ (j : Int) < hi then (x / 2 ^ (n1.toNat * (j - lo.toNat))) % 2 ^ n1.toNat else ds.getD j 0 := by
  rw [getD_set' _ _ _ _ _ (by omega)]
  by_cases hj : j = lo.toNat
  · rw [if_pos hj, if_pos (by omega), hj, Nat.sub_self, Nat.mul_zero, Int.pow_zero, Int.ediv_one, Int.emod_eq_of_lt hx0 hx1]
  · rw [if_neg hj, if_neg (by omega)]
set_option maxRecDepth 100000 in
set_option maxHeartbeats 1000000 in
theorem i2d_spec {w : World} {p : Program} {loose : List Str} {mean : ExcName → Option Value} {mg mb : Str → Option Value}
   {dp un : Nat} {gd : Option (List Code)} {cn : Str} {cs : Scope} {a : Addr} {ccd : Value} {cl : List (Str × Addr)} {outer : List Env} {A₀ : Around} {base h₀ : Heap} {L : Addr} {m : Str → Option Value} {s : Shared} {Q E : Value → Shared → Prop} {news : List (Addr × Obj)}
   (a1 n1 : Int) (t u : Tok) (ps : Array Value) (cs0 : List (Addr × Obj)) :
   Below A₀ base outer h₀ → Fr h₀ L s.heap m → (Mine.hd.heap_39 w.params).In h₀ → News h₀ L s.heap ((30, tabObj ps) :: (cs0 ++ news)) → Top p loose mean mg mb h₀ → cs.kind = .function →
   dp + 410 < recursionLimit → un + 8 * 410 < cLine →
   CodeHd h₀ 34 30 → (∀ p ∈ cs0 ++ news, p.1 ≠ 30) → 0 ≤ a1 → a1 < 2 ^ 400 → 1 ≤ n1 → n1 ≤ 200 → TabOk ⟨32, 4, 41, 28⟩ (Str.ofString "_int2digits.<locals>.inner") ps cs0 → (∀ q ∈ cs0, ∀ r ∈ news, r.1 ≠ q.1) →
   (∀ (ws : List Value) (ds : List Int) (D : Addr) (h' : Heap) (tk' : Nat) (ps' : Array Value) (cs' : List (Addr × Obj)), IntsAre ws ds → Digits a1 n1 ds → TabOk ⟨32, 4, 41, 28⟩ (Str.ofString "_int2digits.<locals>.inner") ps' cs' → Fr h₀ L h' m → News h₀ L h' ((D, PySem.W.listOf ws.toArray 0) :: (30, tabObj ps') :: (cs' ++ news)) → (∀ p ∈ cs' ++ news, p.1 ≠ D) → (@Ne Nat 30 D) → (∀ p ∈ cs' ++ news, p.1 ≠ 30) → (∀ q ∈ cs', ∀ r ∈ news, r.1 ≠ q.1) → Q (.ref D) { s with heap := h', toks := tk' }) →
   wpAny (model PySem.Challenge.rw_tl0028_01.prog w) (ktrTop dp un gd cn cs L a ccd cl outer) (call (.ref 35) [.int a1 t, .int n1 u]) Q E s := by
  w_top off
  k_fill
  intro B F X N T hk hd hu hC hne ha0 ha1 hn0 hn1 hst hdd hret
  have hbits := intBits_le ha0 ha1
  have hq := digits_le (n := n1) hbits hn0
  refine wpAny_call ?_
  k_dflt (first
    | (refine' Mine.code_defL ?k1 ?k2 ?k3 ?k4 ?k5 ?kA ?kF ?kK ?k6 ?k7 ?k8 ?k9 ?kB ?_ ?c2 ?c3 ?c4 ?c5; (case kA => exact rfl); (case kF => exact rfl); (case kK => assumption); (case k1 => k_asm); (case k2 => k_asm); (case k3 => k_asm); (case k4 => k_asm); (case k5 => k_asm); (case k6 => k_is); (case k7 => k_is); (case k8 => ktr_room); (case k9 => exact BindsTo.of_eq rfl); (case c5 => decide); (case kB => exact locs rfl); (case c2 => exact rfl); (case c3 => exact rfl); (case c4 => exact rfl); k_whole; intro gE lE hE tkE fgE envE aE mE fE nE bE xE tE; (try dsimp only); (try ((show wpAny _ _ _ _ _ _); k_fold)))
    | (refine' Mine.code_defCL ?k1 ?k2 ?k3 ?k4 ?k5 ?kA ?kF ?kK ?k6 ?k7 ?k8 ?k9 ?kB ?kD ?_ ?c2 ?c3 ?c4; (case kA => exact rfl); (case kF => exact rfl); (case kK => assumption); (case k1 => k_asm); (case k2 => k_asm); (case k3 => k_asm); (case k4 => k_asm); (case k5 => k_asm); (case k6 => k_is); (case k7 => k_is); (case k8 => ktr_room); (case k9 => exact BindsTo.of_eq rfl); (case kB => exact rfl); (case kD => decide +kernel); (case c2 => exact rfl); (case c3 => exact rfl); (case c4 => exact rfl); k_whole; intro gE lE hE tkE cellsE fgE envE aE mE fE nE yE bE xE tE l1E; (try k_lt l1E); k_cells yE; (try simp only [List.cons_append, List.nil_append] at nE); (try dsimp only); (try ((show wpAny _ _ _ _ _ _); k_fold))))
  rename Fr _ _ _ _ => F0
  refine nameF F0 ?_
  intro L1 e1
  subst e1
  rename _ ∧ AllLt _ _ => l0
  have hA1 : ∀ p ∈ cs0 ++ news, p.1 ≠ L1 + 1 := fun p hp => Nat.ne_of_lt (Nat.lt_succ_of_lt (allLt_at l0.2 p hp))
  have hA2 : ∀ p ∈ cs0 ++ news, p.1 ≠ L1 + 1 + 1 := fun p hp => Nat.ne_of_lt (Nat.lt_succ_of_lt (Nat.lt_succ_of_lt (allLt_at l0.2 p hp)))
  have hA3 : ∀ p ∈ cs0 ++ news, p.1 ≠ L1 + 1 + 1 + 1 := fun p hp => Nat.ne_of_lt (Nat.lt_succ_of_lt (Nat.lt_succ_of_lt (Nat.lt_succ_of_lt (allLt_at l0.2 p hp))))
  k_steps
  refine Halt.go ?_
  rename IntsAre _ _ => hI5
  rename Fr _ _ _ _ => F1
  rename News _ _ _ _ => N1
  refine nameN5 N1 ?_
  intro dA xd lA xl cI xI cA xA cN xN e1 e2 e3 e4 e5 e6 e7 e8 e9 e10
  subst e1 e3 e5 e6 e7 e8 e9 e10
  clear e2 e4
  k_dflt (refine' nestDef_K ?d0 ?k0 ?a0 ?_; (case d0 => exact rfl); (case k0 => exact rfl); (case a0 => exact rfl))
  refine nameI hI5 ?_
  intro ws0 e1
  subst e1
  have hlt : ∀ p ∈ cs0 ++ news, @LT.lt Nat _ p.1 L1 := allLt_at l0.2
  k_dflt (refine' nestBoth (P := 30) (ps := ps) (cl0 := cs0) (others := (dA, PySem.W.listOf ws0.toArray 0) :: (L1 + 1 + 1 + 1, xI) :: (L1 + 1 + 1, xA) :: (L1 + 1, xN) :: news) ?F ?N ?T ?C ?cd ?st ?ne ?dd ?cl ?_)
  case F => k_asm
  case N =>
    refine news_sub N1 fun p hp => ?_
    simp only [List.mem_cons, List.mem_append] at hp ⊢
    rcases hp with h | h | h | h | h | h | h <;> simp [h]
  case T => k_asm
  case C => exact CodeHd.keeps hC (Fr.keep (by assumption))
  case cd => exact rfl
  case st => exact hst
  case cl => exact rfl
  case ne =>
    intro q hq
    simp only [List.mem_cons, List.mem_append] at hq
    rcases hq with h | h | h | h | h | h
    · exact hne q (List.mem_append_left _ h)
    · rw [h]; k_ne
    · rw [h]; k_ne
    · rw [h]; k_ne
    · rw [h]; k_ne
    · exact hne q (List.mem_append_right _ h)
  case dd =>
    intro q hq r hr
    have hqL := hlt q (List.mem_append_left _ hq)
    simp only [List.mem_cons] at hr
    rcases hr with h | h | h | h | h
    · rw [h]; k_ne
    · rw [h]; k_ne
    · rw [h]; k_ne
    · rw [h]; k_ne
    · exact hdd q hq r h
  intro f1 c1 oc vsC tC ctv doc h2 tk2 F2 N2 hocd hocv hf hc1 hP1 hP2 hcf
  have hA4 : ∀ p ∈ news, p.1 ≠ f1 := fun p hp => hf p (by simp [hp])
  have hA5 : ∀ p ∈ news, p.1 ≠ c1 := fun p hp => hc1 p (by simp [hp])
  have hA6 : @Ne Nat dA f1 := hf _ List.mem_cons_self
  have hA7 : @Ne Nat dA c1 := hc1 _ List.mem_cons_self
  have hA8 : @Ne Nat (L1 + 1 + 1 + 1) f1 := hf _ (List.mem_cons_of_mem _ List.mem_cons_self)
  have hA9 : @Ne Nat (L1 + 1 + 1 + 1) c1 := hc1 _ (List.mem_cons_of_mem _ List.mem_cons_self)
  have hB1 : ∀ p ∈ news, p.1 ≠ L1 + 1 := fun p hp => hA1 p (List.mem_append_right _ hp)
  have hB2 : ∀ p ∈ news, p.1 ≠ L1 + 1 + 1 := fun p hp => hA2 p (List.mem_append_right _ hp)
  have hB3 : ∀ p ∈ news, p.1 ≠ L1 + 1 + 1 + 1 := fun p hp => hA3 p (List.mem_append_right _ hp)
  have hB4 : ∀ p ∈ news, p.1 ≠ dA := fun p hp => by have := hlt p (List.mem_append_right _ hp); k_ne
  have hB5 : ∀ p ∈ news, p.1 ≠ 30 := fun p hp => hne p (List.mem_append_right _ hp)
  clear N1 F1
  refine nameN1 N2 ?_
  intro f1' o1 e1 e2
  cases e1
  have inner : ∀ xI : Obj, xI.data = Data.cell (some (.ref f1)) → ∀ k, InnerSpec w n1 f1 o1 c1 oc (L1 + 1 + 1 + 1) (L1 + 1 + 1) (L1 + 1) dA xI xA xN k := by
    intro xI hxI k
    subst e2
    clear N2 F2 hret B F X N T
    induction k using Nat.strongRecOn with
    | ind k ih =>
    unfold InnerSpec at ih ⊢
    k_fill
    intro p loose mean mg mb dp un gd cn cs a ccd cl outer A₀ base h₀ L m s Q E news vs ds nn x lo hi t u v B F X N T hk hd hu hIv hlo hhi hds hk1 hk2 hx0 hx1 hnd hret
    obtain ⟨hM0, hM1, hM2, hS0, hS1, hSn⟩ := half_facts (lo := lo) (hi := hi) (n1 := n1) hlo (by omega) (by omega) hn0 hn1
    have hbx := bits_shift (((lo + hi).fdiv (2 ^ Int.toNat 1) - lo) * n1).toNat hx0 hx1
    have hnk : n1.toNat * k ≤ 200 * 400 := Nat.mul_le_mul (by omega) (by omega)
    refine wpAny_call ?_
    k_dflt (refine' code_nest ?k1 ?k2 ?k3 ?k4 ?k5 ?kA ?kF ?kK ?k6 ?k7 ?k8 ?k9 ?kB ?_ ?c2 ?c3 ?c4 ?c5)
    case kA => exact rfl
    case kF => exact rfl
    case kK => assumption
    case k1 => k_asm
    case k2 => k_asm
    case k3 => k_asm
    case k4 => k_asm
    case k5 => k_asm
    case k6 => exact List.mem_cons_self
    case k7 => exact codeRec_news N (List.mem_cons_of_mem _ List.mem_cons_self) (by assumption) (by assumption)
    case k8 => ktr_room
    case k9 => exact BindsTo.of_eq rfl
    case c5 => decide
    case kB => exact locs rfl
    case c2 => exact rfl
    case c3 => exact rfl
    case c4 => exact rfl
    intro g' L' h' FG' F' N' B' X' T'
    try dsimp only
    try ((show wpAny _ _ _ _ _ _); k_fold)
    k_steps
    · have e1 : k = 1 := by omega
      subst e1
      rw [Nat.mul_one] at hx1
      refine hret _ _ _ _ (ints_set hIv lo.toNat x t) List.length_set (fun j => inner_one hlo hhi (by assumption) hx0 hx1 j) (by k_asm) ?_
      rename News h₀ L _ _ => N9
      exact N9
    · refine Halt.go ?_
      rename lo + 1 ≠ hi => hne1
      obtain ⟨hM3, hM4⟩ := hM2 hne1
      have xl := low_facts (((lo + hi).fdiv (2 ^ Int.toNat 1) - lo) * n1).toNat hx0
      have xh := high_facts (((lo + hi).fdiv (2 ^ Int.toNat 1) - lo) * n1).toNat (n1.toNat * (hi - (lo + hi).fdiv (2 ^ Int.toNat 1)).toNat) hx0 (by rw [hSn, ← Nat.mul_add]; exact (show k = ((lo + hi).fdiv (2 ^ Int.toNat 1) - lo).toNat + (hi - (lo + hi).fdiv (2 ^ Int.toNat 1)).toNat by omega) ▸ hx1)
      have xl' : Builtin.bitXor x (x.fdiv (2 ^ (((lo + hi).fdiv (2 ^ Int.toNat 1) - lo) * n1).toNat) * 2 ^ (((lo + hi).fdiv (2 ^ Int.toNat 1) - lo) * n1).toNat) < 2 ^ (n1.toNat * ((lo + hi).fdiv (2 ^ Int.toNat 1) - lo).toNat) := by rw [← hSn]; exact xl.2
      k_dflt (refine' ih ((lo + hi).fdiv (2 ^ Int.toNat 1) - lo).toNat ?lta (news := news) (vs := vs) (ds := ds) (nn := nn) ?Ba ?Fa ?Xa ?Na ?Ta ?hka ?hda ?hua hIv ?loa ?hhia ?dsa ?k1a ?k2a ?x0a ?x1a hnd ?reta; (case Ba => k_asm); (case Fa => k_asm); (case Xa => first | k_asm | k_in); (case Ta => k_asm); (case hka => exact rfl); (case hda => ktr_room); (case hua => ktr_units); (case lta => omega); (case Na => first | k_asm | exact news_sub (by assumption) (by kcf_all)); (case loa => omega); (case hhia => omega); (case dsa => omega); (case k1a => omega); (case k2a => omega); (case x0a => exact xl.1); (case x1a => exact xl'))
      intro vs1 ds1 h9 tk9 hI1 hl1 hd1 F9 N9
      try dsimp only
      try ((show wpAny _ _ _ _ _ _); k_fold)
      simp only [bitXor_low hx0] at hd1
      k_steps
      refine Halt.go ?_
      k_dflt (refine' ih (hi - (lo + hi).fdiv (2 ^ Int.toNat 1)).toNat ?ltb (news := news) (vs := vs1) (ds := ds1) (nn := nn) ?Bb ?Fb ?Xb ?Nb ?Tb ?hkb ?hdb ?hub hI1 ?lob ?hhib ?dsb ?k1b ?k2b ?x0b ?x1b hnd ?retb; (case Bb => k_asm); (case Fb => k_asm); (case Xb => first | k_asm | k_in); (case Tb => k_asm); (case hkb => exact rfl); (case hdb => ktr_room); (case hub => ktr_units); (case ltb => omega); (case Nb => first | k_asm | exact news_sub (by assumption) (by kcf_all)); (case lob => omega); (case hhib => omega); (case dsb => omega); (case k1b => omega); (case k2b => omega); (case x0b => exact xh.1); (case x1b => exact xh.2))
      intro vs2 ds2 h10 tk10 hI2 hl2 hd2 F10 N10
      try dsimp only
      try ((show wpAny _ _ _ _ _ _); k_fold)
      k_steps
      refine hret _ _ _ _ hI2 (hl2.trans hl1) (fun j => digits_join hx0 hlo hM3 hM4 hSn hd1 hd2 j) (by k_asm) ?_
      rename News h₀ L _ _ => N19
      exact N19
  obtain ⟨hq0, hq1, hq2⟩ := digN_facts ha0 hn0
  have hl5 : ws0.length = (digN a1 n1).toNat := by rw [hI5.length, List.length_replicate]; rfl
  have hq4 : digN a1 n1 ≤ 400 := hq.2
  k_steps
  · refine Halt.go ?_
    rename a1 ≠ 0 => ha
    have hq3 := hq1 ha
    rename _ = Data.cell (some (Value.ref f1)) => hdI
    have inner' := @inner
    subst e2
    unfold InnerSpec at inner'
    k_dflt (refine' inner' _ hdI ws0.length (news := (30, tabObj #[rawInt 32, rawInt 4, .ref c1]) :: news) (vs := ws0) (ds := List.replicate (digN a1 n1).toNat 0) (nn := 0) ?Bz ?Fz ?Xz ?Nz ?Tz ?hkz ?hdz ?huz hI5 ?loz ?hhiz ?dsz ?k1z ?k2z ha0 ?x1z ?ndz ?retz; (case Bz => k_asm); (case Fz => k_asm); (case Xz => first | k_asm | k_in); (case Tz => k_asm); (case hkz => exact rfl); (case hdz => ktr_room); (case huz => ktr_units); (case Nz => exact news_sub (by assumption) (by kcf_all)); (case loz => omega); (case hhiz => rw [List.length_replicate]; omega); (case dsz => rw [List.length_replicate]; omega); (case k1z => omega); (case k2z => omega); (case x1z => rw [hl5]; exact hq2); (case ndz => exact List.forall_mem_cons.mpr ⟨(by k_ne), hB4⟩))
    intro vs1 ds1 h9 tk9 hI1 hl1 hd1 F9 N9
    try dsimp only
    try ((show wpAny _ _ _ _ _ _); k_fold)
    rw [List.length_replicate] at hl1
    k_steps
    rename News h₀ L _ _ => N19
    refine hret _ ds1 dA _ _ #[rawInt 32, rawInt 4, .ref c1] [(c1, oc)] hI1 (digits_of rfl (by rw [hl5]) hl1 hd1) (.inr ⟨c1, oc, vsC, tC, rfl, rfl, hocd, hocv⟩) (by k_asm) (news_sub N19 (by kcf_all)) (List.forall_mem_cons.mpr ⟨(by k_ne), hB4⟩) (by k_ne) (List.forall_mem_cons.mpr ⟨(by k_ne), hB5⟩) (fun q hq r hr => by rw [List.mem_singleton.mp hq]; exact hA5 r hr)
  · rename a1 = 0 => ha
    rename News h₀ L _ _ => N19
    subst ha
    refine hret _ _ dA _ _ #[rawInt 32, rawInt 4, .ref c1] [(c1, oc)] hI5 (digits_zero _ rfl) (.inr ⟨c1, oc, vsC, tC, rfl, rfl, hocd, hocv⟩) (by k_asm) (news_sub N19 (by kcf_all)) (List.forall_mem_cons.mpr ⟨(by k_ne), hB4⟩) (by k_ne) (List.forall_mem_cons.mpr ⟨(by k_ne), hB5⟩) (fun q hq r hr => by rw [List.mem_singleton.mp hq]; exact hA5 r hr)
end Mine
end
section
open PySem PySem.Spec PySem.Calls PySem.W PyProof.Rows
namespace Mine
local macro_rules | `(tactic| kla_enter) => `(tactic| (first | with_reducible assumption | (refine' And.right ?_; first | with_reducible assumption | (refine' And.right ?_; first | with_reducible assumption | (refine' And.right ?_; first | with_reducible assumption | (refine' And.right ?_; first | with_reducible assumption | (refine' And.right ?_; first | with_reducible assumption | (refine' And.right ?_; first | with_reducible assumption | (refine' And.right ?_; first | with_reducible assumption)))))))))
local macro_rules | `(tactic| k_ne) => `(tactic| ((try dsimp only); first | with_reducible assumption | with_reducible first | exact Mine.neP1 | exact Mine.neP2 | exact Mine.neS Mine.neP1 | exact Mine.neS Mine.neP2 | exact Mine.neS (by assumption) | exact Mine.neA (by kla_enter) | exact Mine.neB (by kla_enter) | exact Mine.ltA (by kla_enter) | exact Mine.gtA (by kla_enter)))
local macro_rules | `(tactic| walk_at "subscriptTail") => `(tactic| (k_here; (with_reducible show wpAny _ _ (subscriptTail _ _ (Value.ref _) (Value.int _ _)) _ _ _); (with_unfolding_all refine' item_anyK ?k1 ?k2 ?k3 ?k4 ?k5 ?_ ?k6; (case k1 => is_list); (case k2 => assumption); (case k3 => omega); (case k4 => omega); (case k5 => omega); (case k6 => with_unfolding_all rfl); k_whole); intro _))
local macro_rules | `(tactic| k_all) => `(tactic| assumption)
local macro_rules | `(tactic| walk_at "call builtin:len") => `(tactic| (k_here; k_dflt (refine' Mine.len_any ?l ?n ?_; (case l => is_list); (case n => omega)); intro t' tk'))
local macro_rules | `(tactic| walk_at "binaryOp LShift int int") => `(tactic| (k_here; (with_reducible refine lshift_int ?kbn ?kbs ?_); (case kbn => omega); (case kbs => omega)))
local macro_rules | `(tactic| walk_at "call ref") => `(tactic| (k_here; refine Mine.halt ?_))
local macro_rules | `(tactic| walk_at "exec FunctionDef") => `(tactic| (k_here; refine Mine.halt ?_))
theorem seg_bits {l : List Int} {lo hi : Nat} {n : Nat} (hn : n ≤ 200) (hl : l.length ≤ 400) (hh : hi ≤ l.length) (h : ∀ d ∈ l, 0 ≤ d ∧ d < 2 ^ n) : Builtin.Int.intBits (dsum n (seg l lo hi)) ≤ 80000 := by
  obtain ⟨a, b⟩ := dsum_bounds (n := n) (l := seg l lo hi) fun d hd => h d (seg_mem hd)
  refine Nat.le_trans (intBits_le a b) ?_
  rw [seg_length hh]
  exact Nat.le_trans (Nat.mul_le_mul hn (show hi - lo ≤ 400 by omega)) (by decide)
def InnerD (w : World) (n1 : Int) (ds : List Int) (f1 : Addr) (o1 : Obj) (c1 : Addr) (oc : Obj) (cI cA cN dA : Addr) (xI xA xN oD : Obj) (k : Nat) : Prop :=
  ∀ {p : Program} {loose : List Str} {mean : ExcName → Option Value} {mg mb : Str → Option Value} {dp un : Nat} {gd : Option (List Code)} {cn : Str} {cs : Scope} {a : Addr} {ccd : Value} {cl : List (Str × Addr)} {outer : List Env} {A₀ : Around} {base h₀ : Heap} {L : Addr} {m : Str → Option Value} {s : Shared} {Q E : Value → Shared → Prop} {news : List (Addr × Obj)}
    {lo hi : Int} {u v : Tok},
    Below A₀ base outer h₀ → Fr h₀ L s.heap m → (Mine.hd.heap_39 w.params).In h₀ → News h₀ L s.heap ((f1, o1) :: (c1, oc) :: (cI, xI) :: (cA, xA) :: (cN, xN) :: (dA, oD) :: news) → Top p loose mean mg mb h₀ → cs.kind = .function →
    dp + (k + 1) < recursionLimit → un + 8 * (k + 1) < cLine → 0 ≤ lo → hi ≤ (ds.length : Int) → hi - lo = (k : Int) → 1 ≤ k →
    (∀ (t' : Tok) (h' : Heap) (tk' : Nat), Fr h₀ L h' m → News h₀ L h' ((f1, o1) :: (c1, oc) :: (cI, xI) :: (cA, xA) :: (cN, xN) :: (dA, oD) :: news) → Q (.int (dsum n1.toNat (seg ds lo.toNat hi.toNat)) t') { s with heap := h', toks := tk' }) →
    wpAny (model PySem.Challenge.rw_tl0028_01.prog w) (ktrTop dp un gd cn cs L a ccd cl outer) (call (.ref f1) [.int lo u, .int hi v]) Q E s
set_option maxRecDepth 100000 in
set_option maxHeartbeats 8000000 in
theorem d2i_spec {w : World} {p : Program} {loose : List Str} {mean : ExcName → Option Value} {mg mb : Str → Option Value}
   {dp un : Nat} {gd : Option (List Code)} {cn : Str} {cs : Scope} {a : Addr} {ccd : Value} {cl : List (Str × Addr)} {outer : List Env} {A₀ : Around} {base h₀ : Heap} {L : Addr} {m : Str → Option Value} {s : Shared} {Q E : Value → Shared → Prop} {news : List (Addr × Obj)}
   (n1 : Int) (u : Tok) (dA : Addr) (vs : List Value) (ds : List Int) (nn : Nat) (ps : Array Value) (cs0 : List (Addr × Obj)) :
   Below A₀ base outer h₀ → Fr h₀ L s.heap m → (Mine.hd.heap_39 w.params).In h₀ → News h₀ L s.heap ((37, tabObj ps) :: (cs0 ++ ((dA, PySem.W.listOf vs.toArray nn) :: news))) → Top p loose mean mg mb h₀ → cs.kind = .function →
   dp + 410 < recursionLimit → un + 8 * 410 < cLine →
   CodeHd h₀ 41 37 → (∀ p ∈ cs0 ++ ((dA, PySem.W.listOf vs.toArray nn) :: news), p.1 ≠ 37) → IntsAre vs ds → (∀ d ∈ ds, 0 ≤ d ∧ d < 2 ^ n1.toNat) → ds.length ≤ 400 → 1 ≤ n1 → n1 ≤ 200 → TabOk ⟨47, 4, 52, 55⟩ (Str.ofString "_digits2int.<locals>.inner") ps cs0 → (∀ q ∈ cs0, ∀ r ∈ (dA, PySem.W.listOf vs.toArray nn) :: news, r.1 ≠ q.1) →
   (∀ (t : Tok) (h' : Heap) (tk' : Nat) (ps' : Array Value) (cs' : List (Addr × Obj)), TabOk ⟨47, 4, 52, 55⟩ (Str.ofString "_digits2int.<locals>.inner") ps' cs' → Fr h₀ L h' m → News h₀ L h' ((37, tabObj ps') :: (cs' ++ ((dA, PySem.W.listOf vs.toArray nn) :: news))) → (∀ p ∈ cs' ++ ((dA, PySem.W.listOf vs.toArray nn) :: news), p.1 ≠ 37) → (∀ q ∈ cs', ∀ r ∈ (dA, PySem.W.listOf vs.toArray nn) :: news, r.1 ≠ q.1) → Q (.int (dsum n1.toNat ds) t) { s with heap := h', toks := tk' }) →
   wpAny (model PySem.Challenge.rw_tl0028_01.prog w) (ktrTop dp un gd cn cs L a ccd cl outer) (call (.ref 42) [.ref dA, .int n1 u]) Q E s := by
  w_top off
  k_fill
  intro B F X N T hk hd hu hC hne hIv hdb hds hn0 hn1 hst hdd hret
  have hvs := hIv.length
  refine wpAny_call ?_
  k_dflt (first
    | (refine' Mine.code_defL ?k1 ?k2 ?k3 ?k4 ?k5 ?kA ?kF ?kK ?k6 ?k7 ?k8 ?k9 ?kB ?_ ?c2 ?c3 ?c4 ?c5; (case kA => exact rfl); (case kF => exact rfl); (case kK => assumption); (case k1 => k_asm); (case k2 => k_asm); (case k3 => k_asm); (case k4 => k_asm); (case k5 => k_asm); (case k6 => k_is); (case k7 => k_is); (case k8 => ktr_room); (case k9 => exact BindsTo.of_eq rfl); (case c5 => decide); (case kB => exact locs rfl); (case c2 => exact rfl); (case c3 => exact rfl); (case c4 => exact rfl); k_whole; intro gE lE hE tkE fgE envE aE mE fE nE bE xE tE; (try dsimp only); (try ((show wpAny _ _ _ _ _ _); k_fold)))
    | (refine' Mine.code_defCL ?k1 ?k2 ?k3 ?k4 ?k5 ?kA ?kF ?kK ?k6 ?k7 ?k8 ?k9 ?kB ?kD ?_ ?c2 ?c3 ?c4; (case kA => exact rfl); (case kF => exact rfl); (case kK => assumption); (case k1 => k_asm); (case k2 => k_asm); (case k3 => k_asm); (case k4 => k_asm); (case k5 => k_asm); (case k6 => k_is); (case k7 => k_is); (case k8 => ktr_room); (case k9 => exact BindsTo.of_eq rfl); (case kB => exact rfl); (case kD => decide +kernel); (case c2 => exact rfl); (case c3 => exact rfl); (case c4 => exact rfl); k_whole; intro gE lE hE tkE cellsE fgE envE aE mE fE nE yE bE xE tE l1E; (try k_lt l1E); k_cells yE; (try simp only [List.cons_append, List.nil_append] at nE); (try dsimp only); (try ((show wpAny _ _ _ _ _ _); k_fold))))
  rename Fr _ _ _ _ => F0
  refine nameF F0 ?_
  intro L1 e1
  subst e1
  rename _ ∧ AllLt _ _ => l0
  have hlt : ∀ p ∈ cs0 ++ ((dA, PySem.W.listOf vs.toArray nn) :: news), @LT.lt Nat _ p.1 L1 := allLt_at l0.2
  have hdA : @LT.lt Nat _ dA L1 := hlt _ (List.mem_append_right _ List.mem_cons_self)
  k_steps
  refine Halt.go ?_
  rename Fr _ _ _ _ => F1
  rename News _ _ _ _ => N1
  refine nameN3 N1 ?_
  intro cI xI cN xN cD xD e1 e2 e3 e4 e5 e6
  subst e1 e2 e3 e4 e5 e6
  k_dflt (refine' nestDef_K ?d0 ?k0 ?a0 ?_; (case d0 => exact rfl); (case k0 => exact rfl); (case a0 => exact rfl))
  k_dflt (refine' nestBoth (P := 37) (ps := ps) (cl0 := cs0) (others := (L1 + 1 + 1 + 1, xI) :: (L1 + 1 + 1, xN) :: (L1 + 1, xD) :: (dA, PySem.W.listOf vs.toArray nn) :: news) ?F ?N ?T ?C ?cd ?st ?ne ?dd ?cl ?_)
  case F => k_asm
  case N =>
    refine news_sub N1 fun p hp => ?_
    simp only [List.mem_cons, List.mem_append] at hp ⊢
    rcases hp with h | h | h | h | h | h | h <;> simp [h]
  case T => k_asm
  case C => exact CodeHd.keeps hC (Fr.keep (by assumption))
  case cd => exact rfl
  case st => exact hst
  case cl => exact rfl
  case ne =>
    intro q hq
    simp only [List.mem_cons, List.mem_append] at hq
    rcases hq with h | h | h | h | h | h
    · exact hne q (List.mem_append_left _ h)
    · rw [h]; k_ne
    · rw [h]; k_ne
    · rw [h]; k_ne
    · exact hne q (List.mem_append_right _ (h ▸ List.mem_cons_self))
    · exact hne q (List.mem_append_right _ (List.mem_cons_of_mem _ h))
  case dd =>
    intro q hq r hr
    have hqL := hlt q (List.mem_append_left _ hq)
    simp only [List.mem_cons] at hr
    rcases hr with h | h | h | h | h
    · rw [h]; k_ne
    · rw [h]; k_ne
    · rw [h]; k_ne
    · exact hdd q hq r (h ▸ List.mem_cons_self)
    · exact hdd q hq r (List.mem_cons_of_mem _ h)
  intro f1 c1 oc vsC tC ctv doc h2 tk2 F2 N2 hocd hocv hf hc1 hP1 hP2 hcf
  have hA4 : ∀ p ∈ news, p.1 ≠ f1 := fun p hp => hf p (by simp [hp])
  have hA5 : ∀ p ∈ news, p.1 ≠ c1 := fun p hp => hc1 p (by simp [hp])
  have hA6 : @Ne Nat dA f1 := hf (dA, PySem.W.listOf vs.toArray nn) (by simp)
  have hA7 : @Ne Nat dA c1 := hc1 (dA, PySem.W.listOf vs.toArray nn) (by simp)
  have hA8 : @Ne Nat (L1 + 1 + 1 + 1) f1 := hf _ List.mem_cons_self
  have hA9 : @Ne Nat (L1 + 1 + 1 + 1) c1 := hc1 _ List.mem_cons_self
  have hB3 : ∀ p ∈ news, p.1 ≠ L1 + 1 + 1 + 1 := fun p hp => by have := hlt p (List.mem_append_right _ (List.mem_cons_of_mem _ hp)); k_ne
  have hB5 : ∀ p ∈ news, p.1 ≠ 37 := fun p hp => hne p (List.mem_append_right _ (List.mem_cons_of_mem _ hp))
  have hB6 : @Ne Nat dA 37 := hne (dA, PySem.W.listOf vs.toArray nn) (by simp)
  clear N1 F1
  refine nameN1 N2 ?_
  intro f1' o1 e1 e2
  cases e1
  have inner : ∀ xI : Obj, xI.data = Data.cell (some (.ref f1)) → ∀ k, InnerD w n1 ds f1 o1 c1 oc (L1 + 1 + 1 + 1) (L1 + 1 + 1) (L1 + 1) dA xI xN xD (PySem.W.listOf vs.toArray nn) k := by
    intro xI hxI k
    subst e2
    clear N2 F2 hret B F X N T
    induction k using Nat.strongRecOn with
    | ind k ih =>
    unfold InnerD at ih ⊢
    k_fill
    intro p loose mean mg mb dp un gd cn cs a ccd cl outer A₀ base h₀ L m s Q E news lo hi u v B F X N T hk hd hu hlo hhi hk1 hk2 hret
    obtain ⟨hM0, hM1, hM2, hS0, hS1, hSn⟩ := half_facts (lo := lo) (hi := hi) (n1 := n1) hlo (by omega) (by omega) hn0 hn1
    have hbx := seg_bits (lo := ((lo + hi).fdiv (2 ^ Int.toNat 1)).toNat) (hi := hi.toNat) (n := n1.toNat) (by omega) hds (by omega) hdb
    refine wpAny_call ?_
    k_dflt (refine' code_nest ?k1 ?k2 ?k3 ?k4 ?k5 ?kA ?kF ?kK ?k6 ?k7 ?k8 ?k9 ?kB ?_ ?c2 ?c3 ?c4 ?c5)
    case kA => exact rfl
    case kF => exact rfl
    case kK => assumption
    case k1 => k_asm
    case k2 => k_asm
    case k3 => k_asm
    case k4 => k_asm
    case k5 => k_asm
    case k6 => exact List.mem_cons_self
    case k7 => exact codeRec_news N (List.mem_cons_of_mem _ List.mem_cons_self) (by assumption) (by assumption)
    case k8 => ktr_room
    case k9 => exact BindsTo.of_eq rfl
    case c5 => decide
    case kB => exact locs rfl
    case c2 => exact rfl
    case c3 => exact rfl
    case c4 => exact rfl
    intro g' L' h' FG' F' N' B' X' T'
    try dsimp only
    try ((show wpAny _ _ _ _ _ _); k_fold)
    k_steps
    · have e1 : dsum n1.toNat (seg ds lo.toNat hi.toNat) = ds.getD lo.toNat 0 := by
        rw [show hi.toNat = lo.toNat + 1 by omega]
        exact seg_one (by omega) _
      rw [e1] at hret
      rename News h₀ L _ _ => N9
      exact hret _ _ _ (by k_asm) N9
    · refine Halt.go ?_
      rename lo + 1 ≠ hi => hne1
      obtain ⟨hM3, hM4⟩ := hM2 hne1
      k_dflt (refine' ih (hi - (lo + hi).fdiv (2 ^ Int.toNat 1)).toNat (by omega) (news := news) ?Ba ?Fa ?Xa ?Na ?Ta ?hka ?hda ?hua ?loa ?hhia ?k1a ?k2a ?reta; (case Ba => k_asm); (case Fa => k_asm); (case Xa => first | k_asm | k_in); (case Ta => k_asm); (case hka => exact rfl); (case hda => ktr_room); (case hua => ktr_units); (case Na => first | k_asm | exact news_sub (by assumption) (by kcf_all)); (case loa => omega); (case hhia => omega); (case k1a => omega); (case k2a => omega))
      intro t9 h9 tk9 F9 N9
      try dsimp only
      try ((show wpAny _ _ _ _ _ _); k_fold)
      k_steps
      refine Halt.go ?_
      k_dflt (refine' ih ((lo + hi).fdiv (2 ^ Int.toNat 1) - lo).toNat (by omega) (news := news) ?Bb ?Fb ?Xb ?Nb ?Tb ?hkb ?hdb ?hub ?lob ?hhib ?k1b ?k2b ?retb; (case Bb => k_asm); (case Fb => k_asm); (case Xb => first | k_asm | k_in); (case Tb => k_asm); (case hkb => exact rfl); (case hdb => ktr_room); (case hub => ktr_units); (case Nb => first | k_asm | exact news_sub (by assumption) (by kcf_all)); (case lob => omega); (case hhib => omega); (case k1b => omega); (case k2b => omega))
      intro t10 h10 tk10 F10 N10
      try dsimp only
      try ((show wpAny _ _ _ _ _ _); k_fold)
      k_steps
      have e1 := seg_join (l := ds) (n := n1.toNat) (S := (((lo + hi).fdiv (2 ^ Int.toNat 1) - lo) * n1).toNat) hlo (show lo ≤ (lo + hi).fdiv (2 ^ Int.toNat 1) by omega) (show (lo + hi).fdiv (2 ^ Int.toNat 1) ≤ hi by omega) hhi hSn
      rw [← e1] at hret
      rename News h₀ L _ _ => N19
      exact hret _ _ _ (by k_asm) N19
  k_steps
  · refine Halt.go ?_
    rename _ = Data.cell (some (Value.ref f1)) => hdI
    have inner' := @inner
    subst e2
    unfold InnerD at inner'
    k_dflt (refine' inner' _ hdI ds.length (news := (37, tabObj #[rawInt 47, rawInt 4, .ref c1]) :: news) ?Bz ?Fz ?Xz ?Nz ?Tz ?hkz ?hdz ?huz ?loz ?hhiz ?k1z ?k2z ?retz; (case Bz => k_asm); (case Fz => k_asm); (case Xz => first | k_asm | k_in); (case Tz => k_asm); (case hkz => exact rfl); (case hdz => ktr_room); (case huz => ktr_units); (case Nz => first | k_asm | exact news_sub (by assumption) (by kcf_all)); (case loz => omega); (case hhiz => omega); (case k1z => omega); (case k2z => omega))
    intro t9 h9 tk9 F9 N9
    try dsimp only
    try ((show wpAny _ _ _ _ _ _); k_fold)
    k_steps
    have e1 : seg ds (0 : Int).toNat ((vs.length : Nat) : Int).toNat = ds := by rw [Int.toNat_natCast, hvs]; exact seg_all ds
    rw [e1]
    rename News h₀ L _ _ => N19
    exact hret _ _ _ #[rawInt 47, rawInt 4, .ref c1] [(c1, oc)] (.inr ⟨c1, oc, vsC, tC, rfl, rfl, hocd, hocv⟩) (by k_asm) (news_sub N19 (by kcf_all)) (List.forall_mem_cons.mpr ⟨(by k_ne), List.forall_mem_cons.mpr ⟨hB6, hB5⟩⟩) (fun q hq r hr => by rw [List.mem_singleton.mp hq]; exact (List.forall_mem_cons.mpr ⟨hA7, hA5⟩ : ∀ r ∈ (dA, PySem.W.listOf vs.toArray nn) :: news, r.1 ≠ c1) r hr)
  · have e0 : ds = [] := List.length_eq_zero_iff.mp (by omega)
    subst e0
    rename News h₀ L _ _ => N19
    exact hret _ _ _ #[rawInt 47, rawInt 4, .ref c1] [(c1, oc)] (.inr ⟨c1, oc, vsC, tC, rfl, rfl, hocd, hocv⟩) (by k_asm) (news_sub N19 (by kcf_all)) (List.forall_mem_cons.mpr ⟨(by k_ne), List.forall_mem_cons.mpr ⟨hB6, hB5⟩⟩) (fun q hq r hr => by rw [List.mem_singleton.mp hq]; exact (List.forall_mem_cons.mpr ⟨hA7, hA5⟩ : ∀ r ∈ (dA, PySem.W.listOf vs.toArray nn) :: news, r.1 ≠ c1) r hr)
end Mine
end
section
open PySem PySem.Spec PySem.Calls PySem.W PyProof.Rows
namespace Mine
local macro_rules | `(tactic| walk_at "pyIter ref") => `(tactic| ((with_reducible show wpAny _ _ (pyIter (Value.ref _)) (fun it s₂ => LoopAtV _ _ _ _ _ _ _ _ _ it s₂) _ _); refine Mine.halt ?_))
local macro_rules | `(tactic| walk_at "exec For Name Call cons nil") => `(tactic| (k_here; (rename Fr _ _ _ _ => lF'); (with_unfolding_all refine' For_invVF lF' ?k1 ?k2 ?_; (case k1 => exact rfl); (case k2 => exact rfl); k_whole)))
local macro_rules | `(tactic| walk_at "exec For Name BinOp cons nil") => `(tactic| (k_here; (rename Fr _ _ _ _ => lF'); (with_unfolding_all refine' For_invVF lF' ?k1 ?k2 ?_; (case k1 => exact rfl); (case k2 => exact rfl); k_whole)))
local macro_rules | `(tactic| walk_at "exec For Name Name cons nil") => `(tactic| (k_here; (rename Fr _ _ _ _ => lF'); (with_unfolding_all refine' For_invVF lF' ?k1 ?k2 ?_; (case k1 => exact rfl); (case k2 => exact rfl); k_whole)))
local macro_rules | `(tactic| k_all) => `(tactic| assumption)
local macro_rules | `(tactic| walk_at "binaryOp LShift int int") => `(tactic| (k_here; (with_reducible refine lshift_int ?kbn ?kbs ?_); (case kbn => omega); (case kbs => omega)))
local macro_rules | `(tactic| walk_at "call ref") => `(tactic| (k_here; refine Mine.halt ?_))
local macro_rules | `(tactic| walk_at "call builtin:list.reverse") => `(tactic| (k_here; refine Mine.halt ?_))
local macro_rules | `(tactic| walk_at "UnrEnd") => `(tactic| (refine Mine.halt ?_))
abbrev pos30 : Pos := ⟨32, 4, 41, 28⟩
abbrev pos37 : Pos := ⟨47, 4, 52, 55⟩
abbrev q30 : Str := Str.ofString "_int2digits.<locals>.inner"
abbrev q37 : Str := Str.ofString "_digits2int.<locals>.inner"
/-- the two code tables, ahead of a ledger -/
def tabL (ps : Array Value) (c30 : List (Addr × Obj)) (qs : Array Value) (c37 news : List (Addr × Obj)) : List (Addr × Obj) := (30, tabObj ps) :: (c30 ++ ((37, tabObj qs) :: (c37 ++ news)))
structure Tabs (ps : Array Value) (c30 : List (Addr × Obj)) (qs : Array Value) (c37 news : List (Addr × Obj)) : Prop where
  t30 : TabOk ⟨32, 4, 41, 28⟩ (Str.ofString "_int2digits.<locals>.inner") ps c30
  t37 : TabOk ⟨47, 4, 52, 55⟩ (Str.ofString "_digits2int.<locals>.inner") qs c37
  n30 : ∀ p ∈ c30 ++ ((37, tabObj qs) :: (c37 ++ news)), p.1 ≠ 30
  d30 : ∀ q ∈ c30, ∀ r ∈ (37, tabObj qs) :: (c37 ++ news), r.1 ≠ q.1
  n37 : ∀ p ∈ c37 ++ news, p.1 ≠ 37
  d37 : ∀ q ∈ c37, ∀ r ∈ news, r.1 ≠ q.1
set_option maxRecDepth 100000 in
set_option maxHeartbeats 8000000 in
theorem dmp_spec {w : World} {p : Program} {loose : List Str} {mean : ExcName → Option Value} {mg mb : Str → Option Value}
   {dp un : Nat} {gd : Option (List Code)} {cn : Str} {cs : Scope} {a : Addr} {ccd : Value} {cl : List (Str × Addr)} {outer : List Env} {A₀ : Around} {base h₀ : Heap} {L : Addr} {m : Str → Option Value} {s : Shared} {Q E : Value → Shared → Prop} {news : List (Addr × Obj)}
   (a1 b1 : Int) (t u : Tok) (ps qs : Array Value) (c30 c37 : List (Addr × Obj)) :
   Below A₀ base outer h₀ → Fr h₀ L s.heap m → (Mine.hd.heap_39 w.params).In h₀ → News h₀ L s.heap ((30, tabObj ps) :: (c30 ++ ((37, tabObj qs) :: (c37 ++ news)))) → Top p loose mean mg mb h₀ → cs.kind = .function →
   dp + 420 < recursionLimit → un + 8 * 420 < cLine →
   CodeHd h₀ 34 30 → CodeHd h₀ 41 37 → Tabs ps c30 qs c37 news → 0 ≤ a1 → a1 < 2 ^ 200 → 0 < b1 → b1 < 2 ^ 150 →
   (∀ (t0 t1 : Tok) (T : Addr) (h' : Heap) (tk' : Nat) (ps' qs' : Array Value) (c30' c37' : List (Addr × Obj)), Tabs ps' c30' qs' c37' news → Fr h₀ L h' m → News h₀ L h' ((T, { cls := .type "tuple", data := .seq #[.int (a1.fdiv b1) t0, .int (a1.fmod b1) t1] }) :: tabL ps' c30' qs' c37' news) → (∀ p ∈ tabL ps' c30' qs' c37' news, p.1 ≠ T) → Q (.ref T) { s with heap := h', toks := tk' }) →
   wpAny (model PySem.Challenge.rw_tl0028_01.prog w) (ktrTop dp un gd cn cs L a ccd cl outer) (call (.ref 49) [.int a1 t, .int b1 u]) Q E s := by
  w_top off
  k_fill
  intro B F X N T hk hd hu hC1 hC2 hT ha0 ha1 hb0 hb1 hret
  have hbits := intBits_le (Int.le_of_lt hb0) hb1
  have hbpos : 1 ≤ Builtin.Int.intBits b1 := by
    unfold Builtin.Int.intBits
    rw [if_neg (by simp; omega)]
    omega
  refine wpAny_call ?_
  k_dflt (first
    | (refine' Mine.code_defL ?k1 ?k2 ?k3 ?k4 ?k5 ?kA ?kF ?kK ?k6 ?k7 ?k8 ?k9 ?kB ?_ ?c2 ?c3 ?c4 ?c5; (case kA => exact rfl); (case kF => exact rfl); (case kK => assumption); (case k1 => k_asm); (case k2 => k_asm); (case k3 => k_asm); (case k4 => k_asm); (case k5 => k_asm); (case k6 => k_is); (case k7 => k_is); (case k8 => ktr_room); (case k9 => exact BindsTo.of_eq rfl); (case c5 => decide); (case kB => exact locs rfl); (case c2 => exact rfl); (case c3 => exact rfl); (case c4 => exact rfl); k_whole; intro gE lE hE tkE fgE envE aE mE fE nE bE xE tE; (try dsimp only); (try ((show wpAny _ _ _ _ _ _); k_fold)))
    | (refine' Mine.code_defCL ?k1 ?k2 ?k3 ?k4 ?k5 ?kA ?kF ?kK ?k6 ?k7 ?k8 ?k9 ?kB ?kD ?_ ?c2 ?c3 ?c4; (case kA => exact rfl); (case kF => exact rfl); (case kK => assumption); (case k1 => k_asm); (case k2 => k_asm); (case k3 => k_asm); (case k4 => k_asm); (case k5 => k_asm); (case k6 => k_is); (case k7 => k_is); (case k8 => ktr_room); (case k9 => exact BindsTo.of_eq rfl); (case kB => exact rfl); (case kD => decide +kernel); (case c2 => exact rfl); (case c3 => exact rfl); (case c4 => exact rfl); k_whole; intro gE lE hE tkE cellsE fgE envE aE mE fE nE yE bE xE tE l1E; (try k_lt l1E); k_cells yE; (try simp only [List.cons_append, List.nil_append] at nE); (try dsimp only); (try ((show wpAny _ _ _ _ _ _); k_fold))))
  k_steps
  refine Halt.go ?_
  k_dflt (refine' i2d_spec _ _ _ _ _ _ ?B ?F ?X ?N ?T ?hk ?hd ?hu ?C hT.n30 ha0 ?a2 ?n0 ?n1 hT.t30 hT.d30 ?ret)
  case B => k_asm
  case F => k_asm
  case X => k_asm
  case N => k_asm
  case T => k_asm
  case hk => exact rfl
  case hd => ktr_room
  case hu => ktr_units
  case C => exact CodeHd.keeps hC1 (Fr.keep (by assumption))
  case a2 => exact Int.lt_trans ha1 (by decide)
  case n0 => omega
  case n1 => omega
  intro ws ds D h5 tk5 ps' c30' hIw hDg hst' F5 N5 hD1 hD2 hn30' hd30'
  try dsimp only
  try ((show wpAny _ _ _ _ _ _); k_fold)
  obtain ⟨hsum, hdig⟩ := digits_dsum hDg ha0 (by omega)
  rw [Int.toNat_natCast] at hsum hdig
  obtain ⟨tl, htl⟩ : ∃ tl, tl = (30, tabObj ps') :: (c30' ++ ((37, tabObj qs) :: (c37 ++ news))) := ⟨_, rfl⟩
  rw [← htl] at N5
  have hDt : ∀ p ∈ tl, p.1 ≠ D := by
    rw [htl]
    exact List.forall_mem_cons.mpr ⟨hD2, hD1⟩
  k_steps
  refine Halt.go ?_
  rename Fr _ _ _ _ => F6
  rename News _ _ _ _ => N6
  refine nameF F6 ?_
  intro L1 e1
  subst e1
  refine nameN2 N6 ?_
  intro I xI qA xq e1 e2 e3 e4
  subst e1 e3
  clear e2 e4
  have hDI : ∀ p ∈ tl, p.1 ≠ I := fun p hp => by
    rename _ ∧ _ ∧ AllLt I _ => lI
    exact Nat.ne_of_lt (allLt_at lI.2.2 p hp)
  have hqt : ∀ p ∈ tl, p.1 ≠ qA := fun p hp => by
    rename D < qA ∧ AllLt qA _ => lI
    exact Nat.ne_of_lt (allLt_at lI.2 p hp)
  have hlen : ds.length ≤ 400 := by
    have h1 := (digits_le (b := Builtin.Int.intBits a1) (n := ((Builtin.Int.intBits b1) : Int)) (Nat.le_trans (intBits_le ha0 ha1) (by decide)) (by omega)).2
    have h2 : (ds.length : Int) ≤ 400 := by
      rw [hDg.1]
      have h3 : digN a1 ((Builtin.Int.intBits b1) : Int) ≤ 400 := h1
      omega
    omega
  have hwl := hIw.length
  with_unfolding_all refine iter_revUnr (vs := ws) (lo := PySem.W.listOf ws.toArray 0) (n := 0) (by rfl) F6 N6 (offI_of ?off) (List.mem_cons_of_mem _ List.mem_cons_self) rfl rfl ?_
  case off => exact List.forall_mem_cons.mpr ⟨(by k_ne), List.forall_mem_cons.mpr ⟨(by k_ne), hDI⟩⟩
  refine revRest_of (J := fun m₀ pre post m news => Halt (∃ u2 u3 tr r qv qds nn, m = (fun z => if z = Str.ofString "r" then some (.int r tr) else if z = Str.ofString "q_digit" then u2 else if z = Str.ofString "a_digit" then u3 else m₀ z) ∧ news = (qA, PySem.W.listOf qv.toArray nn) :: (D, PySem.W.listOf ws.toArray 0) :: tl ∧ IntsAre qv qds ∧ (∀ d ∈ qds, 0 ≤ d ∧ d < 2 ^ (Builtin.Int.intBits b1)) ∧ qds.length = pre.length ∧ 0 ≤ r ∧ r < b1 ∧ dsum (Builtin.Int.intBits b1) qds.reverse * b1 + r = dsum (Builtin.Int.intBits b1) (ds.reverse.take pre.length).reverse)) ?_ ?_ ?_
  · exact Halt.go ⟨_, _, _, 0, [], [], _, map3_id _ _ _ _, rfl, .nil, List.forall_mem_nil _, rfl, Int.le_refl _, hb0, by simp [dsum]⟩
  · rintro pre v post m1 news1 it h1 tk1 hpp HJ9 hic F' N'
    refine Mine.letP ?_
    intro G9
    obtain ⟨u2, u3, tr, r, qv, qds, nn, rfl, rfl, hIq, hqb, hql, hr0, hr1, hinv⟩ := HJ9
    have hv : ws.reverse[pre.length]? = some v := by rw [← hpp]; simp
    obtain ⟨d, td, rfl, hd⟩ := IntsAre.at (ints_reverse hIw) pre.length v hv
    have hqv := hIq.length
    have hpl : pre.length < ds.length := by
      have := (List.getElem?_eq_some_iff.mp hv).1
      rw [List.length_reverse] at this
      omega
    have hdm : d ∈ ds := List.mem_reverse.mp (List.mem_of_getElem? hd)
    obtain ⟨hd0, hd1⟩ := hdig d hdm
    obtain ⟨⟨sq0, sq1⟩, ⟨sr0, sr1⟩, sinv⟩ := long_step (n := (Builtin.Int.intBits b1)) hb0 hr0 hr1 hd0 hd1 hinv
    have hrb := intBits_le hr0 (Int.lt_trans hr1 hb1)
    have hbig := big_lt hr0 (Int.lt_trans hr1 hb1) hbits hd1
    have hbig0 : 0 ≤ r * 2 ^ (Builtin.Int.intBits b1) + d := Int.add_nonneg (Int.mul_nonneg hr0 (by exact_mod_cast Nat.zero_le (2 ^ (Builtin.Int.intBits b1)))) hd0
    clear N6 F6
    show wpAny _ _ _ _ _ _
    try dsimp only
    try ((show wpAny _ _ _ _ _ _); k_fold)
    k_steps
    refine Halt.go ?_
    k_dflt (refine' d21_spec ?Ba ?Fa ?Xa ?Na ?Ta ?hka ?hda ?hua hbig0 hbig hb0 (Int.lt_trans hb1 (by decide)) (by omega) (by omega) ?reta)
    case Ba => k_asm
    case Fa => k_asm
    case Xa => k_asm
    case Na => k_asm
    case Ta => k_asm
    case hka => exact rfl
    case hda => ktr_room
    case hua => ktr_units
    intro t0 t1 T h9 tk9 F9 N9 hT9 S9
    have hTI : @Ne Nat I T := hT9 _ List.mem_cons_self
    have hTq : @Ne Nat qA T := hT9 _ (List.mem_cons_of_mem _ List.mem_cons_self)
    have hTD : @Ne Nat D T := hT9 _ (List.mem_cons_of_mem _ (List.mem_cons_of_mem _ List.mem_cons_self))
    try dsimp only
    try ((show wpAny _ _ _ _ _ _); k_fold)
    k_steps
    refine Halt.go ?_
    rename Fr _ _ _ _ => F10
    rename News _ _ _ _ => N10
    rw [List.push_toArray] at N10
    refine UnrEnd.intro F10 N10 ((qA, PySem.W.listOf (qv ++ [Value.int ((r * 2 ^ ((Builtin.Int.intBits b1 : Nat) : Int).toNat + d).fdiv b1) t0]).toArray (nn + 1)) :: (D, PySem.W.listOf ws.toArray 0) :: tl) (by kcf_all) (List.forall_mem_cons.mpr ⟨(by k_ne), List.forall_mem_cons.mpr ⟨(by k_ne), hDI⟩⟩) ⟨List.mem_cons_of_mem _ List.mem_cons_self, Halt.go ⟨_, _, _, _, _, _, _, map3_again _ _ _ _ _ _ _ _ _ _, rfl, IntsAre.append hIq (.cons _ _ .nil), ?_, ?_, sr0, sr1, ?_⟩⟩
    · intro x hx
      rcases List.mem_append.mp hx with hx | hx
      · exact hqb x hx
      · rw [List.mem_singleton.mp hx]; exact ⟨sq0, sq1⟩
    · rw [List.length_append, List.length_append, hql]; rfl
    · simp only [Int.toNat_natCast]
      have e1 : (qds ++ [(r * 2 ^ (Builtin.Int.intBits b1) + d).fdiv b1]).reverse = (r * 2 ^ (Builtin.Int.intBits b1) + d).fdiv b1 :: qds.reverse := by simp
      have e2 : (ds.reverse.take (pre ++ [Value.int d td]).length).reverse = d :: (ds.reverse.take pre.length).reverse := by
        rw [List.length_append, List.length_singleton, List.take_add_one, hd]; simp
      rw [e1, e2, dsum, dsum]
      exact sinv
  · rintro m1 news1 h1 tk1 HJ9 F' N'
    refine Mine.letP ?_
    intro G9
    obtain ⟨u2, u3, tr, r, qv, qds, nn, rfl, rfl, hIq, hqb, hql, hr0, hr1, hinv⟩ := HJ9
    rw [List.length_reverse, hIw.length, List.take_of_length_le (by rw [List.length_reverse]; exact Nat.le_refl _), List.reverse_reverse, hsum] at hinv
    obtain ⟨eq1, eq2⟩ := long_end hb0 hr0 hr1 hinv
    clear N6 F6
    show wpAny _ _ _ _ _ _
    try dsimp only
    try ((show wpAny _ _ _ _ _ _); k_fold)
    k_steps
    refine Halt.go ?_
    have hqv := hIq.length
    simp only [List.length_reverse] at hql
    k_dflt (refine' kl_reverse (its := qv.toArray) (l := qv.reverse) ?Fb ?Nb ?eb ?Ub ?zb ?_)
    case Fb => k_asm
    case Nb => k_asm
    case eb => simp
    case Ub => k_upd
    case zb => (rw [PySem.sizeLine_eq]; simp only [List.length_reverse] at *; omega)
    intro h9 F9 N9
    k_steps
    refine Halt.go ?_
    have hq0 := hqt
    have hD0 := hDt
    rw [htl] at hq0 hD0
    simp only [List.mem_cons, List.mem_append] at hq0 hD0
    have hmem37 : ∀ q ∈ c37, (q = ((30 : Nat), tabObj ps') ∨ q ∈ c30' ∨ q = ((37 : Nat), tabObj qs) ∨ q ∈ c37 ∨ q ∈ news) := fun q hq => .inr (.inr (.inr (.inl hq)))
    k_dflt (refine' d2i_spec _ _ qA qv.reverse qds.reverse nn qs c37 (news := (D, PySem.W.listOf ws.toArray 0) :: (30, tabObj ps') :: (c30' ++ news)) ?Bc ?Fc ?Xc ?Nc ?Tc ?hkc ?hdc ?huc ?Cc ?nec (ints_reverse hIq) ?dbc ?dsc ?n0c ?n1c hT.t37 ?ddc ?retc)
    case Bc => k_asm
    case Fc => k_asm
    case Xc => k_asm
    case Tc => k_asm
    case hkc => exact rfl
    case hdc => ktr_room
    case huc => ktr_units
    case Cc => exact CodeHd.keeps hC2 (Fr.keep (by assumption))
    case Nc =>
      refine news_sub N9 fun p hp => ?_
      rw [htl]
      simp only [List.mem_cons, List.mem_append] at hp ⊢
      rcases hp with h | h | h | h | h | h | h <;> simp [h]
    case nec =>
      intro p hp
      simp only [List.mem_cons, List.mem_append] at hp
      rcases hp with h | h | h | h | h | h
      · exact hT.n37 p (List.mem_append_left _ h)
      · rw [h]; exact Ne.symm (hq0 _ (.inr (.inr (.inl rfl))))
      · rw [h]; exact Ne.symm (hD0 _ (.inr (.inr (.inl rfl))))
      · rw [h]; (show (30 : Nat) ≠ 37); decide
      · exact Ne.symm (hd30' p h _ List.mem_cons_self)
      · exact hT.n37 p (List.mem_append_right _ h)
    case dbc => exact fun x hx => hqb x (List.mem_reverse.mp hx)
    case dsc => rw [List.length_reverse]; omega
    case n0c => omega
    case n1c => omega
    case ddc =>
      intro q hq r hr
      simp only [List.mem_cons, List.mem_append] at hr
      rcases hr with h | h | h | h | h
      · rw [h]; exact Ne.symm (hq0 q (hmem37 q hq))
      · rw [h]; exact Ne.symm (hD0 q (hmem37 q hq))
      · rw [h]; exact Ne.symm (hn30' q (by simp [hq]))
      · exact Ne.symm (hd30' r h q (by simp [hq]))
      · exact hT.d37 q hq r h
    intro t9 h10 tk10 qs' c37' hst37 F10 N10 hne37' hdd37'
    try dsimp only
    try ((show wpAny _ _ _ _ _ _); k_fold)
    rw [Int.toNat_natCast, eq1]
    k_steps
    rename News h₀ L _ _ => N19
    rename _ ∧ AllLt _ _ => lT
    have hlT := allLt_at lT.2
    have hl37 := lT.1
    rw [← eq2] at hret
    refine hret t9 tr _ _ _ ps' qs' c30' c37' ⟨hst', hst37, ?_, ?_, ?_, ?_⟩ (by k_asm) (news_sub N19 fun p hp => ?_) ?_
    · intro p hp
      simp only [List.mem_cons, List.mem_append] at hp
      rcases hp with h | h | h | h
      · exact hn30' p (List.mem_append_left _ h)
      · rw [h]; (show (37 : Nat) ≠ 30); decide
      · exact Ne.symm (hdd37' p h (30, tabObj ps') (by simp))
      · exact hn30' p (by simp [h])
    · intro q hq r hr
      simp only [List.mem_cons, List.mem_append] at hr
      rcases hr with h | h | h
      · rw [h]; exact hd30' q hq (37, tabObj qs) List.mem_cons_self
      · exact Ne.symm (hdd37' r h q (by simp [hq]))
      · exact hd30' q hq r (by simp [h])
    · intro p hp
      rcases List.mem_append.mp hp with h | h
      · exact hne37' p (by simp [h])
      · exact hne37' p (by simp [h])
    · intro q hq r hr
      exact hdd37' q hq r (by simp [hr])
    · unfold tabL at hp
      simp only [List.mem_cons, List.mem_append] at hp ⊢
      rcases hp with h | h | h | h | h | h <;> simp [h]
    · intro p hp
      unfold tabL at hp
      simp only [List.mem_cons, List.mem_append] at hp
      rcases hp with h | h | h | h | h
      · exact Nat.ne_of_lt (hlT p (by simp [h]))
      · exact Nat.ne_of_lt (hlT p (by simp [h]))
      · rw [h]; exact Nat.ne_of_lt hl37
      · exact Nat.ne_of_lt (hlT p (by simp [h]))
      · exact Nat.ne_of_lt (hlT p (by simp [h]))
end Mine
end
section
open PySem PySem.Spec PySem.Calls PySem.W PyProof.Rows
namespace Mine
local macro_rules | `(tactic| k_all) => `(tactic| assumption)
local macro_rules | `(tactic| walk_at "call ref") => `(tactic| (k_here; refine Mine.halt ?_))
theorem neg_div {a b : Int} (hb : 0 < b) : -((-a - 1).fdiv b) - 1 = a.fdiv b ∧ b + (-((-a - 1).fmod b) - 1) = a.fmod b := by
  rw [Int.fdiv_eq_ediv_of_nonneg _ (Int.le_of_lt hb), Int.fdiv_eq_ediv_of_nonneg _ (Int.le_of_lt hb), Int.fmod_eq_emod_of_nonneg _ (Int.le_of_lt hb), Int.fmod_eq_emod_of_nonneg _ (Int.le_of_lt hb)]
  have h1 := Int.mul_ediv_add_emod (-a - 1) b
  have h2 := Int.emod_nonneg (-a - 1) (Int.ne_of_gt hb)
  have h3 := Int.emod_lt_of_pos (-a - 1) hb
  have e : -((-a - 1) / b) - 1 = a / b ∧ b + (-((-a - 1) % b) - 1) = a % b := by
    have h4 : (-((-a - 1) / b) - 1) * b + (b + (-((-a - 1) % b) - 1)) = a := by
      rw [Int.sub_mul, Int.neg_mul, Int.mul_comm ((-a - 1) / b) b]; omega
    obtain ⟨x, y⟩ := long_end (a := a) hb (by omega) (by omega) h4
    rw [Int.fdiv_eq_ediv_of_nonneg _ (Int.le_of_lt hb)] at x
    rw [Int.fmod_eq_emod_of_nonneg _ (Int.le_of_lt hb)] at y
    exact ⟨x, y⟩
  exact e
theorem drop2 {h₀ h : Heap} {L : Addr} {p q : Addr × Obj} {l : List (Addr × Obj)} (N : News h₀ L h (p :: q :: l)) : News h₀ L h (p :: l) := news_sub N fun r hr => by
  rcases List.mem_cons.mp hr with rfl | hr
  · exact List.mem_cons_self
  · exact List.mem_cons_of_mem _ (List.mem_cons_of_mem _ hr)
theorem neg_neg_div (a b : Int) : (-a).fdiv (-b) = a.fdiv b ∧ -((-a).fmod (-b)) = a.fmod b := by
  have e : (-a).fdiv (-b) = a.fdiv b := Int.neg_fdiv_neg a b
  refine ⟨e, ?_⟩
  rw [Int.fmod_def, Int.fmod_def, e, Int.neg_mul]
  omega
set_option maxRecDepth 100000 in
set_option maxHeartbeats 8000000 in
theorem idm0_spec {w : World} {p : Program} {loose : List Str} {mean : ExcName → Option Value} {mg mb : Str → Option Value}
   {dp un : Nat} {gd : Option (List Code)} {cn : Str} {cs : Scope} {a : Addr} {ccd : Value} {cl : List (Str × Addr)} {outer : List Env} {A₀ : Around} {base h₀ : Heap} {L : Addr} {m : Str → Option Value} {s : Shared} {Q E : Value → Shared → Prop} {news : List (Addr × Obj)}
   (a1 b1 : Int) (t u : Tok) (ps qs : Array Value) (c30 c37 : List (Addr × Obj)) :
   Below A₀ base outer h₀ → Fr h₀ L s.heap m → (Mine.hd.heap_39 w.params).In h₀ → News h₀ L s.heap ((30, tabObj ps) :: (c30 ++ ((37, tabObj qs) :: (c37 ++ news)))) → Top p loose mean mg mb h₀ → cs.kind = .function →
   dp + 425 < recursionLimit → un + 8 * 425 < cLine →
   CodeHd h₀ 34 30 → CodeHd h₀ 41 37 → Tabs ps c30 qs c37 news → 0 ≤ a1 → a1 < 2 ^ 200 → 0 < b1 → b1 < 2 ^ 150 → 
   (∀ (t0 t1 : Tok) (T : Addr) (h' : Heap) (tk' : Nat) (ps' qs' : Array Value) (c30' c37' : List (Addr × Obj)), Tabs ps' c30' qs' c37' news → Fr h₀ L h' m → News h₀ L h' ((T, { cls := .type "tuple", data := .seq #[.int (a1.fdiv b1) t0, .int (a1.fmod b1) t1] }) :: tabL ps' c30' qs' c37' news) → (∀ p ∈ tabL ps' c30' qs' c37' news, p.1 ≠ T) → Q (.ref T) { s with heap := h', toks := tk' }) →
   wpAny (model PySem.Challenge.rw_tl0028_01.prog w) (ktrTop dp un gd cn cs L a ccd cl outer) (call (.ref 56) [.int a1 t, .int b1 u]) Q E s := by
  w_top off
  k_fill
  intro B F X N T hk hd hu hC1 hC2 hT ha0 ha1 hb0 hb1 hret
  refine wpAny_call ?_
  k_dflt (first
    | (refine' Mine.code_defL ?k1 ?k2 ?k3 ?k4 ?k5 ?kA ?kF ?kK ?k6 ?k7 ?k8 ?k9 ?kB ?_ ?c2 ?c3 ?c4 ?c5; (case kA => exact rfl); (case kF => exact rfl); (case kK => assumption); (case k1 => k_asm); (case k2 => k_asm); (case k3 => k_asm); (case k4 => k_asm); (case k5 => k_asm); (case k6 => k_is); (case k7 => k_is); (case k8 => ktr_room); (case k9 => exact BindsTo.of_eq rfl); (case c5 => decide); (case kB => exact locs rfl); (case c2 => exact rfl); (case c3 => exact rfl); (case c4 => exact rfl); k_whole; intro gE lE hE tkE fgE envE aE mE fE nE bE xE tE; (try dsimp only); (try ((show wpAny _ _ _ _ _ _); k_fold)))
    | (refine' Mine.code_defCL ?k1 ?k2 ?k3 ?k4 ?k5 ?kA ?kF ?kK ?k6 ?k7 ?k8 ?k9 ?kB ?kD ?_ ?c2 ?c3 ?c4; (case kA => exact rfl); (case kF => exact rfl); (case kK => assumption); (case k1 => k_asm); (case k2 => k_asm); (case k3 => k_asm); (case k4 => k_asm); (case k5 => k_asm); (case k6 => k_is); (case k7 => k_is); (case k8 => ktr_room); (case k9 => exact BindsTo.of_eq rfl); (case kB => exact rfl); (case kD => decide +kernel); (case c2 => exact rfl); (case c3 => exact rfl); (case c4 => exact rfl); k_whole; intro gE lE hE tkE cellsE fgE envE aE mE fE nE yE bE xE tE l1E; (try k_lt l1E); k_cells yE; (try simp only [List.cons_append, List.nil_append] at nE); (try dsimp only); (try ((show wpAny _ _ _ _ _ _); k_fold))))
  k_steps
  all_goals try (exfalso; omega)
  refine Halt.go ?_
  k_dflt (refine' dmp_spec _ _ _ _ _ _ _ _ ?Ba ?Fa ?Xa ?Na ?Ta ?hka ?hda ?hua ?Ca ?Da hT ha0 ha1 hb0 hb1 ?reta)
  case Ba => k_asm
  case Fa => k_asm
  case Xa => k_asm
  case Na => k_asm
  case Ta => k_asm
  case hka => exact rfl
  case hda => ktr_room
  case hua => ktr_units
  case Ca => exact CodeHd.keeps hC1 (Fr.keep (by assumption))
  case Da => exact CodeHd.keeps hC2 (Fr.keep (by assumption))
  intro t0 t1 T1 h9 tk9 ps' qs' c30' c37' hT' F9 N9 hne9
  try dsimp only
  try ((show wpAny _ _ _ _ _ _); k_fold)
  unfold tabL at N9
  k_steps
  rename News h₀ L _ _ => N19
  exact hret t0 t1 _ _ _ ps' qs' c30' c37' hT' (by k_asm) N19 hne9
set_option maxRecDepth 100000 in
set_option maxHeartbeats 8000000 in
theorem idm1_spec {w : World} {p : Program} {loose : List Str} {mean : ExcName → Option Value} {mg mb : Str → Option Value}
   {dp un : Nat} {gd : Option (List Code)} {cn : Str} {cs : Scope} {a : Addr} {ccd : Value} {cl : List (Str × Addr)} {outer : List Env} {A₀ : Around} {base h₀ : Heap} {L : Addr} {m : Str → Option Value} {s : Shared} {Q E : Value → Shared → Prop} {news : List (Addr × Obj)}
   (a1 b1 : Int) (t u : Tok) (ps qs : Array Value) (c30 c37 : List (Addr × Obj)) :
   Below A₀ base outer h₀ → Fr h₀ L s.heap m → (Mine.hd.heap_39 w.params).In h₀ → News h₀ L s.heap ((30, tabObj ps) :: (c30 ++ ((37, tabObj qs) :: (c37 ++ news)))) → Top p loose mean mg mb h₀ → cs.kind = .function →
   dp + 430 < recursionLimit → un + 8 * 430 < cLine →
   CodeHd h₀ 34 30 → CodeHd h₀ 41 37 → Tabs ps c30 qs c37 news → -(2 ^ 200) < a1 → a1 < 2 ^ 200 → 0 < b1 → b1 < 2 ^ 150 → 
   (∀ (t0 t1 : Tok) (T : Addr) (h' : Heap) (tk' : Nat) (ps' qs' : Array Value) (c30' c37' : List (Addr × Obj)), Tabs ps' c30' qs' c37' news → Fr h₀ L h' m → News h₀ L h' ((T, { cls := .type "tuple", data := .seq #[.int (a1.fdiv b1) t0, .int (a1.fmod b1) t1] }) :: tabL ps' c30' qs' c37' news) → (∀ p ∈ tabL ps' c30' qs' c37' news, p.1 ≠ T) → Q (.ref T) { s with heap := h', toks := tk' }) →
   wpAny (model PySem.Challenge.rw_tl0028_01.prog w) (ktrTop dp un gd cn cs L a ccd cl outer) (call (.ref 56) [.int a1 t, .int b1 u]) Q E s := by
  w_top off
  k_fill
  intro B F X N T hk hd hu hC1 hC2 hT ha0 ha1 hb0 hb1 hret
  by_cases hneg : 0 ≤ a1
  · exact idm0_spec _ _ _ _ _ _ _ _ B F X N T hk (by omega) (by omega) hC1 hC2 hT hneg ha1 hb0 hb1 hret
  refine wpAny_call ?_
  k_dflt (first
    | (refine' Mine.code_defL ?k1 ?k2 ?k3 ?k4 ?k5 ?kA ?kF ?kK ?k6 ?k7 ?k8 ?k9 ?kB ?_ ?c2 ?c3 ?c4 ?c5; (case kA => exact rfl); (case kF => exact rfl); (case kK => assumption); (case k1 => k_asm); (case k2 => k_asm); (case k3 => k_asm); (case k4 => k_asm); (case k5 => k_asm); (case k6 => k_is); (case k7 => k_is); (case k8 => ktr_room); (case k9 => exact BindsTo.of_eq rfl); (case c5 => decide); (case kB => exact locs rfl); (case c2 => exact rfl); (case c3 => exact rfl); (case c4 => exact rfl); k_whole; intro gE lE hE tkE fgE envE aE mE fE nE bE xE tE; (try dsimp only); (try ((show wpAny _ _ _ _ _ _); k_fold)))
    | (refine' Mine.code_defCL ?k1 ?k2 ?k3 ?k4 ?k5 ?kA ?kF ?kK ?k6 ?k7 ?k8 ?k9 ?kB ?kD ?_ ?c2 ?c3 ?c4; (case kA => exact rfl); (case kF => exact rfl); (case kK => assumption); (case k1 => k_asm); (case k2 => k_asm); (case k3 => k_asm); (case k4 => k_asm); (case k5 => k_asm); (case k6 => k_is); (case k7 => k_is); (case k8 => ktr_room); (case k9 => exact BindsTo.of_eq rfl); (case kB => exact rfl); (case kD => decide +kernel); (case c2 => exact rfl); (case c3 => exact rfl); (case c4 => exact rfl); k_whole; intro gE lE hE tkE cellsE fgE envE aE mE fE nE yE bE xE tE l1E; (try k_lt l1E); k_cells yE; (try simp only [List.cons_append, List.nil_append] at nE); (try dsimp only); (try ((show wpAny _ _ _ _ _ _); k_fold))))
  k_steps
  all_goals try (exfalso; omega)
  refine Halt.go ?_
  k_dflt (refine' idm0_spec _ _ _ _ _ _ _ _ ?Ba ?Fa ?Xa ?Na ?Ta ?hka ?hda ?hua ?Ca ?Da hT (by unfold Builtin.bitNot; omega) (by unfold Builtin.bitNot; omega) hb0 hb1 ?reta)
  case Ba => k_asm
  case Fa => k_asm
  case Xa => k_asm
  case Na => k_asm
  case Ta => k_asm
  case hka => exact rfl
  case hda => ktr_room
  case hua => ktr_units
  case Ca => exact CodeHd.keeps hC1 (Fr.keep (by assumption))
  case Da => exact CodeHd.keeps hC2 (Fr.keep (by assumption))
  intro t0 t1 T1 h9 tk9 ps' qs' c30' c37' hT' F9 N9 hne9
  try dsimp only
  try ((show wpAny _ _ _ _ _ _); k_fold)
  unfold tabL at N9
  have hz : Builtin.bitNot ((Builtin.bitNot a1).fdiv b1) = a1.fdiv b1 ∧ b1 + Builtin.bitNot ((Builtin.bitNot a1).fmod b1) = a1.fmod b1 := neg_div hb0
  k_steps
  rename News h₀ L _ _ => N19
  rename _ ∧ _ ∧ AllLt _ _ => lT
  rw [← hz.1, ← hz.2] at hret
  exact hret _ _ _ _ _ ps' qs' c30' c37' hT' (by k_asm) (drop2 N19) fun p hp => Nat.ne_of_lt (allLt_at (l := tabL ps' c30' qs' c37' news) lT.2 p hp)
set_option maxRecDepth 100000 in
set_option maxHeartbeats 8000000 in
theorem idm_spec {w : World} {p : Program} {loose : List Str} {mean : ExcName → Option Value} {mg mb : Str → Option Value}
   {dp un : Nat} {gd : Option (List Code)} {cn : Str} {cs : Scope} {a : Addr} {ccd : Value} {cl : List (Str × Addr)} {outer : List Env} {A₀ : Around} {base h₀ : Heap} {L : Addr} {m : Str → Option Value} {s : Shared} {Q E : Value → Shared → Prop} {news : List (Addr × Obj)}
   (a1 b1 : Int) (t u : Tok) (ps qs : Array Value) (c30 c37 : List (Addr × Obj)) :
   Below A₀ base outer h₀ → Fr h₀ L s.heap m → (Mine.hd.heap_39 w.params).In h₀ → News h₀ L s.heap ((30, tabObj ps) :: (c30 ++ ((37, tabObj qs) :: (c37 ++ news)))) → Top p loose mean mg mb h₀ → cs.kind = .function →
   dp + 435 < recursionLimit → un + 8 * 435 < cLine →
   CodeHd h₀ 34 30 → CodeHd h₀ 41 37 → Tabs ps c30 qs c37 news → -(2 ^ 190) < a1 → a1 < 2 ^ 190 → b1 ≠ 0 → -(2 ^ 140) < b1 → b1 < 2 ^ 140 → 
   (∀ (t0 t1 : Tok) (T : Addr) (h' : Heap) (tk' : Nat) (ps' qs' : Array Value) (c30' c37' : List (Addr × Obj)), Tabs ps' c30' qs' c37' news → Fr h₀ L h' m → News h₀ L h' ((T, { cls := .type "tuple", data := .seq #[.int (a1.fdiv b1) t0, .int (a1.fmod b1) t1] }) :: tabL ps' c30' qs' c37' news) → (∀ p ∈ tabL ps' c30' qs' c37' news, p.1 ≠ T) → Q (.ref T) { s with heap := h', toks := tk' }) →
   wpAny (model PySem.Challenge.rw_tl0028_01.prog w) (ktrTop dp un gd cn cs L a ccd cl outer) (call (.ref 56) [.int a1 t, .int b1 u]) Q E s := by
  w_top off
  k_fill
  intro B F X N T hk hd hu hC1 hC2 hT ha0 ha1 hbz hb0 hb1 hret
  by_cases hpos : 0 < b1
  · exact idm1_spec _ _ _ _ _ _ _ _ B F X N T hk (by omega) (by omega) hC1 hC2 hT (by omega) (by omega) hpos (by omega) hret
  refine wpAny_call ?_
  k_dflt (first
    | (refine' Mine.code_defL ?k1 ?k2 ?k3 ?k4 ?k5 ?kA ?kF ?kK ?k6 ?k7 ?k8 ?k9 ?kB ?_ ?c2 ?c3 ?c4 ?c5; (case kA => exact rfl); (case kF => exact rfl); (case kK => assumption); (case k1 => k_asm); (case k2 => k_asm); (case k3 => k_asm); (case k4 => k_asm); (case k5 => k_asm); (case k6 => k_is); (case k7 => k_is); (case k8 => ktr_room); (case k9 => exact BindsTo.of_eq rfl); (case c5 => decide); (case kB => exact locs rfl); (case c2 => exact rfl); (case c3 => exact rfl); (case c4 => exact rfl); k_whole; intro gE lE hE tkE fgE envE aE mE fE nE bE xE tE; (try dsimp only); (try ((show wpAny _ _ _ _ _ _); k_fold)))
    | (refine' Mine.code_defCL ?k1 ?k2 ?k3 ?k4 ?k5 ?kA ?kF ?kK ?k6 ?k7 ?k8 ?k9 ?kB ?kD ?_ ?c2 ?c3 ?c4; (case kA => exact rfl); (case kF => exact rfl); (case kK => assumption); (case k1 => k_asm); (case k2 => k_asm); (case k3 => k_asm); (case k4 => k_asm); (case k5 => k_asm); (case k6 => k_is); (case k7 => k_is); (case k8 => ktr_room); (case k9 => exact BindsTo.of_eq rfl); (case kB => exact rfl); (case kD => decide +kernel); (case c2 => exact rfl); (case c3 => exact rfl); (case c4 => exact rfl); k_whole; intro gE lE hE tkE cellsE fgE envE aE mE fE nE yE bE xE tE l1E; (try k_lt l1E); k_cells yE; (try simp only [List.cons_append, List.nil_append] at nE); (try dsimp only); (try ((show wpAny _ _ _ _ _ _); k_fold))))
  k_steps
  all_goals try (exfalso; omega)
  refine Halt.go ?_
  k_dflt (refine' idm1_spec _ _ _ _ _ _ _ _ ?Ba ?Fa ?Xa ?Na ?Ta ?hka ?hda ?hua ?Ca ?Da hT (by omega) (by omega) (by omega) (by omega) ?reta)
  case Ba => k_asm
  case Fa => k_asm
  case Xa => k_asm
  case Na => k_asm
  case Ta => k_asm
  case hka => exact rfl
  case hda => ktr_room
  case hua => ktr_units
  case Ca => exact CodeHd.keeps hC1 (Fr.keep (by assumption))
  case Da => exact CodeHd.keeps hC2 (Fr.keep (by assumption))
  intro t0 t1 T1 h9 tk9 ps' qs' c30' c37' hT' F9 N9 hne9
  try dsimp only
  try ((show wpAny _ _ _ _ _ _); k_fold)
  unfold tabL at N9
  have hz := neg_neg_div a1 b1
  k_steps
  rename News h₀ L _ _ => N19
  rename _ ∧ _ ∧ AllLt _ _ => lT
  rw [← hz.1, ← hz.2] at hret
  exact hret _ _ _ _ _ ps' qs' c30' c37' hT' (by k_asm) (drop2 N19) fun p hp => Nat.ne_of_lt (allLt_at (l := tabL ps' c30' qs' c37' news) lT.2 p hp)
end Mine
end
section
open PySem PySem.Spec PySem.Calls PySem.W PyProof.Rows
namespace Mine
abbrev one64 : UInt64 := 4607182418800017408
def hsvH (x : UInt64) : UInt64 := Float64.mul x 4618441417868443648
def hsvI (x : UInt64) : Int := Flt.toInt Float64.truncOf (hsvH x)
def hsvFr (x : UInt64) : UInt64 := Float64.sub (hsvH x) (Float64.ofInt (hsvI x))
def hsvP (v : UInt64) : UInt64 := Float64.mul v (Float64.sub one64 one64)
def hsvQ (x v : UInt64) : UInt64 := Float64.mul v (Float64.sub one64 (Float64.mul one64 (hsvFr x)))
def hsvT (x v : UInt64) : UInt64 := Float64.mul v (Float64.sub one64 (Float64.mul one64 (Float64.sub one64 (hsvFr x))))
def hsvF (x v : UInt64) : UInt64 × UInt64 × UInt64 :=
  if (hsvI x).fmod 6 = 0 then (v, hsvT x v, hsvP v) else if (hsvI x).fmod 6 = 1 then (hsvQ x v, v, hsvP v) else if (hsvI x).fmod 6 = 2 then (hsvP v, v, hsvT x v)
  else if (hsvI x).fmod 6 = 3 then (hsvP v, hsvQ x v, v) else if (hsvI x).fmod 6 = 4 then (hsvT x v, hsvP v, v) else (v, hsvP v, hsvQ x v)
def HsvOk (x : UInt64) : Prop := Float64.isNaN (hsvH x) = false ∧ Float64.isInf (hsvH x) = false ∧ (hsvI x).natAbs < 2 ^ 1000
set_option maxRecDepth 100000 in
set_option maxHeartbeats 8000000 in
theorem hsv_spec {w : World} {p : Program} {loose : List Str} {mean : ExcName → Option Value} {mg mb : Str → Option Value}
   {dp un : Nat} {gd : Option (List Code)} {cn : Str} {cs : Scope} {a : Addr} {ccd : Value} {cl : List (Str × Addr)} {outer : List Env} {A₀ : Around} {base h₀ : Heap} {L : Addr} {m : Str → Option Value} {s : Shared} {Q E : Value → Shared → Prop} {news : List (Addr × Obj)}
   {x v : UInt64} {t u z : Tok} :
   Below A₀ base outer h₀ → Fr h₀ L s.heap m → (Mine.hd.heap_39 w.params).In h₀ → News h₀ L s.heap news → Top p loose mean mg mb h₀ → cs.kind = .function →
   dp + 1 < recursionLimit → un + 8 * 1 < cLine →
   HsvOk x →
   (∀ (t0 t1 t2 : Tok) (a b c : UInt64) (T : Addr) (h' : Heap) (tk' : Nat), hsvF x v = (a, b, c) → Fr h₀ L h' m → News h₀ L h' ((T, { cls := .type "tuple", data := .seq #[.float a t0, .float b t1, .float c t2] }) :: news) → (∀ p ∈ news, p.1 ≠ T) → s.heap.StaysIn h' → Q (.ref T) { s with heap := h', toks := tk' }) →
   wpAny (model PySem.Challenge.rw_tl0028_01.prog w) (ktrTop dp un gd cn cs L a ccd cl outer) (call (.ref 63) [.float x t, .float 4607182418800017408 u, .float v z]) Q E s := by
  w_top off
  k_fill
  intro B F X N T hk hd hu hok hret
  obtain ⟨ok1, ok2, ok3⟩ := hok
  unfold hsvI hsvH at ok3
  unfold hsvH at ok1 ok2
  have hc6 : 0 ≤ (hsvI x).fmod 6 ∧ (hsvI x).fmod 6 < 6 := ⟨fmod_lo _ (by omega), fmod_hi _ (by omega)⟩
  unfold hsvI hsvH at hc6
  refine wpAny_call ?_
  k_dflt (first
    | (refine' Mine.enterRL ?k1 ?k2 ?k3 ?k5 ?kA ?kF ?kK ?k6 ?k7 ?k8 ?k9 ?kB ?_ ?c2 ?c3 ?c4 ?c5; (case kA => exact rfl); (case kF => exact rfl); (case kK => assumption); (case k1 => k_asm); (case k2 => k_asm); (case k3 => k_asm); (case k5 => k_asm); (case k6 => k_is); (case k7 => k_is); (case k8 => ktr_room); (case k9 => exact BindsTo.of_eq rfl); (case c5 => decide); (case kB => exact locs rfl); (case c2 => exact rfl); (case c3 => exact rfl); (case c4 => exact rfl); k_whole; intro lE hE tkE fgE envE aE mE fE nE bE xE tE; (try dsimp only); (try ((show wpAny _ _ _ _ _ _); k_fold)))
    | (refine' Mine.enterRCL ?k1 ?k2 ?k3 ?k5 ?kA ?kF ?kK ?k6 ?k7 ?k8 ?k9 ?kB ?kD ?_ ?c2 ?c3 ?c4; (case kA => exact rfl); (case kF => exact rfl); (case kK => assumption); (case k1 => k_asm); (case k2 => k_asm); (case k3 => k_asm); (case k5 => k_asm); (case k6 => k_is); (case k7 => k_is); (case k8 => ktr_room); (case k9 => exact BindsTo.of_eq rfl); (case kB => exact rfl); (case kD => decide +kernel); (case c2 => exact rfl); (case c3 => exact rfl); (case c4 => exact rfl); k_whole; intro lE hE tkE cellsE fgE envE aE mE fE nE yE bE xE tE; k_cells yE; (try simp only [List.cons_append, List.nil_append, List.append_nil] at nE); (try dsimp only); (try ((show wpAny _ _ _ _ _ _); k_fold))))
  k_steps
  all_goals first
    | (rename (Float64.cmp _ _ == some Ordering.eq) = true => e; exact absurd e (by decide +kernel))
    | (rename Float64.isNaN _ = true => e; rw [ok1] at e; cases e)
    | (rename Float64.isInf _ = true => e; rw [ok2] at e; cases e)
    | (rename _ ≤ Int.natAbs _ => e; exact absurd (Nat.lt_of_le_of_lt e ok3) (by decide +kernel))
    | (rename News s.heap _ _ _ => N5
       rename Fr s.heap _ _ _ => F6
       have z9 := news_ret F N F6.keep N5 List.mem_cons_self
       refine hret _ _ _ _ _ _ _ _ _ ?_ (by k_asm) z9.1 z9.2 F6.keep
       unfold hsvF
       unfold hsvI hsvH
       simp only [*, if_true, if_false]
       rfl)
    | (exfalso; omega)
end Mine
end
section
open PySem PySem.W
namespace Mine
set_option maxHeartbeats 4000000 in
theorem det_mul3 (p0 p1 p2 q0 q1 q2 r0 r1 r2 x0 x1 x2 y0 y1 y2 z0 z1 z2 : Int) :
    detZ (x0*p0+x1*p1+x2*p2) (y0*p0+y1*p1+y2*p2) (z0*p0+z1*p1+z2*p2) (x0*q0+x1*q1+x2*q2) (y0*q0+y1*q1+y2*q2) (z0*q0+z1*q1+z2*q2) (x0*r0+x1*r1+x2*r2) (y0*r0+y1*r1+y2*r2) (z0*r0+z1*r1+z2*r2) = detZ p0 p1 p2 q0 q1 q2 r0 r1 r2 * detZ x0 x1 x2 y0 y1 y2 z0 z1 z2 := by
  unfold detZ
  grind
set_option maxHeartbeats 4000000 in
theorem det_adj (a0 a1 a2 b0 b1 b2 c0 c1 c2 : Int) :
    detZ (b1*c2-b2*c1) (b2*c0-b0*c2) (b0*c1-b1*c0) (c1*a2-c2*a1) (c2*a0-c0*a2) (c0*a1-c1*a0) (a1*b2-a2*b1) (a2*b0-a0*b2) (a0*b1-a1*b0) = detZ a0 a1 a2 b0 b1 b2 c0 c1 c2 * detZ a0 a1 a2 b0 b1 b2 c0 c1 c2 := by
  unfold detZ
  grind
theorem row0 (a0 a1 a2 b0 b1 b2 c0 c1 c2 x0 x1 x2 : Int) : detZ x0 x1 x2 b0 b1 b2 c0 c1 c2 = x0*(b1*c2-b2*c1)+x1*(b2*c0-b0*c2)+x2*(b0*c1-b1*c0) := by unfold detZ; grind
theorem row1 (a0 a1 a2 b0 b1 b2 c0 c1 c2 x0 x1 x2 : Int) : detZ a0 a1 a2 x0 x1 x2 c0 c1 c2 = x0*(c1*a2-c2*a1)+x1*(c2*a0-c0*a2)+x2*(c0*a1-c1*a0) := by unfold detZ; grind
theorem row2 (a0 a1 a2 b0 b1 b2 c0 c1 c2 x0 x1 x2 : Int) : detZ a0 a1 a2 b0 b1 b2 x0 x1 x2 = x0*(a1*b2-a2*b1)+x1*(a2*b0-a0*b2)+x2*(a0*b1-a1*b0) := by unfold detZ; grind
theorem sylv3 (a0 a1 a2 b0 b1 b2 c0 c1 c2 x0 x1 x2 y0 y1 y2 z0 z1 z2 : Int) :
    detZ (detZ x0 x1 x2 b0 b1 b2 c0 c1 c2) (detZ y0 y1 y2 b0 b1 b2 c0 c1 c2) (detZ z0 z1 z2 b0 b1 b2 c0 c1 c2) (detZ a0 a1 a2 x0 x1 x2 c0 c1 c2) (detZ a0 a1 a2 y0 y1 y2 c0 c1 c2) (detZ a0 a1 a2 z0 z1 z2 c0 c1 c2)
      (detZ a0 a1 a2 b0 b1 b2 x0 x1 x2) (detZ a0 a1 a2 b0 b1 b2 y0 y1 y2) (detZ a0 a1 a2 b0 b1 b2 z0 z1 z2) = (detZ a0 a1 a2 b0 b1 b2 c0 c1 c2 * detZ a0 a1 a2 b0 b1 b2 c0 c1 c2) * detZ x0 x1 x2 y0 y1 y2 z0 z1 z2 := by
  rw [row0 a0 a1 a2 b0 b1 b2 c0 c1 c2 x0 x1 x2, row0 a0 a1 a2 b0 b1 b2 c0 c1 c2 y0 y1 y2, row0 a0 a1 a2 b0 b1 b2 c0 c1 c2 z0 z1 z2, row1 a0 a1 a2 b0 b1 b2 c0 c1 c2 x0 x1 x2, row1 a0 a1 a2 b0 b1 b2 c0 c1 c2 y0 y1 y2, row1 a0 a1 a2 b0 b1 b2 c0 c1 c2 z0 z1 z2,
    row2 a0 a1 a2 b0 b1 b2 c0 c1 c2 x0 x1 x2, row2 a0 a1 a2 b0 b1 b2 c0 c1 c2 y0 y1 y2, row2 a0 a1 a2 b0 b1 b2 c0 c1 c2 z0 z1 z2, det_mul3, det_adj]
end Mine
namespace Mine
theorem sylv_a (a0 a1 a2 b0 b1 b2 c0 c1 c2 x0 x1 x2 y0 y1 y2 : Int) :
    (detZ x0 x1 x2 b0 b1 b2 c0 c1 c2) * (detZ a0 a1 a2 y0 y1 y2 c0 c1 c2) - (detZ y0 y1 y2 b0 b1 b2 c0 c1 c2) * (detZ a0 a1 a2 x0 x1 x2 c0 c1 c2) = detZ x0 x1 x2 y0 y1 y2 c0 c1 c2 * detZ a0 a1 a2 b0 b1 b2 c0 c1 c2 := by
  unfold detZ; grind
theorem sylv_b (a0 a1 a2 b0 b1 b2 c0 c1 c2 x0 x1 x2 y0 y1 y2 : Int) :
    (detZ x0 x1 x2 b0 b1 b2 c0 c1 c2) * (detZ a0 a1 a2 b0 b1 b2 y0 y1 y2) - (detZ y0 y1 y2 b0 b1 b2 c0 c1 c2) * (detZ a0 a1 a2 b0 b1 b2 x0 x1 x2) = detZ x0 x1 x2 b0 b1 b2 y0 y1 y2 * detZ a0 a1 a2 b0 b1 b2 c0 c1 c2 := by
  unfold detZ; grind
theorem sylv_c (a0 a1 a2 b0 b1 b2 c0 c1 c2 x0 x1 x2 y0 y1 y2 : Int) :
    (detZ a0 a1 a2 x0 x1 x2 c0 c1 c2) * (detZ a0 a1 a2 b0 b1 b2 y0 y1 y2) - (detZ a0 a1 a2 y0 y1 y2 c0 c1 c2) * (detZ a0 a1 a2 b0 b1 b2 x0 x1 x2) = detZ a0 a1 a2 x0 x1 x2 y0 y1 y2 * detZ a0 a1 a2 b0 b1 b2 c0 c1 c2 := by
  unfold detZ; grind
/-- cramer's rows, once the changed determinants are known -/
theorem cram1 {vs : List V3} {g n : Int} : cramerZ vs [g] [n] = exchZ vs [g] [n] := by
  unfold cramerZ crRows crRow idRow detR
  simp [W.rangeKs, detZ, List.range_succ]
theorem cram2 {vs : List V3} {g h n m : Int} : cramerZ vs [g, h] [n, m] = exchZ vs [g] [n] * exchZ vs [h] [m] - exchZ vs [g] [m] * exchZ vs [h] [n] := by
  unfold cramerZ crRows crRow idRow detR
  simp [W.rangeKs, detZ, List.range_succ]
theorem cram3 {vs : List V3} {g h i n m k : Int} : cramerZ vs [g, h, i] [n, m, k] = detZ (exchZ vs [g] [n]) (exchZ vs [g] [m]) (exchZ vs [g] [k]) (exchZ vs [h] [n]) (exchZ vs [h] [m]) (exchZ vs [h] [k]) (exchZ vs [i] [n]) (exchZ vs [i] [m]) (exchZ vs [i] [k]) := by
  unfold cramerZ crRows crRow idRow detR
  simp [W.rangeKs]
end Mine
namespace Mine
theorem vs_of3 {vs : List V3} (h : 3 ≤ vs.length) : ∃ v0 v1 v2 r, vs = v0 :: v1 :: v2 :: r := by
  match vs, h with
  | v0 :: v1 :: v2 :: r, _ => exact ⟨v0, v1, v2, r, rfl⟩
def Gone (gs : List Int) : Prop := gs = [0] ∨ gs = [1] ∨ gs = [2] ∨ gs = [0, 1] ∨ gs = [0, 2] ∨ gs = [1, 2] ∨ gs = [0, 1, 2]
/-- Cramer's rule and Sylvester's determinant -/
theorem cramer_law {vs : List V3} {gs ns : List Int} (h3 : 3 ≤ vs.length) (hg : Gone gs) (hl : ns.length = gs.length) :
    cramerZ vs gs ns * exchZ vs [] [] = exchZ vs gs ns * exchZ vs [] [] ^ gs.length := by
  obtain ⟨v0, v1, v2, r, rfl⟩ := vs_of3 h3
  obtain ⟨a0, a1, a2⟩ := v0
  obtain ⟨b0, b1, b2⟩ := v1
  obtain ⟨c0, c1, c2⟩ := v2
  rcases hg with rfl | rfl | rfl | rfl | rfl | rfl | rfl
  · match ns, hl with
    | [n], _ => rw [cram1, List.length_singleton, Int.pow_one]
  · match ns, hl with
    | [n], _ => rw [cram1, List.length_singleton, Int.pow_one]
  · match ns, hl with
    | [n], _ => rw [cram1, List.length_singleton, Int.pow_one]
  · match ns, hl with
    | [n, m], _ =>
      rw [cram2]
      generalize hx : (((a0, a1, a2) :: (b0, b1, b2) :: (c0, c1, c2) :: r : List V3)).getD n.toNat (0, 0, 0) = X
      generalize hy : (((a0, a1, a2) :: (b0, b1, b2) :: (c0, c1, c2) :: r : List V3)).getD m.toNat (0, 0, 0) = Y
      have e1 := sylv_a a0 a1 a2 b0 b1 b2 c0 c1 c2 X.1 X.2.1 X.2.2 Y.1 Y.2.1 Y.2.2
      subst hx hy
      have e2 : ∀ p q z : Int, p = q * z → p * z = q * z ^ 2 := fun p q z h => by rw [h]; grind
      exact e2 _ _ _ e1
  · match ns, hl with
    | [n, m], _ =>
      rw [cram2]
      generalize hx : (((a0, a1, a2) :: (b0, b1, b2) :: (c0, c1, c2) :: r : List V3)).getD n.toNat (0, 0, 0) = X
      generalize hy : (((a0, a1, a2) :: (b0, b1, b2) :: (c0, c1, c2) :: r : List V3)).getD m.toNat (0, 0, 0) = Y
      have e1 := sylv_b a0 a1 a2 b0 b1 b2 c0 c1 c2 X.1 X.2.1 X.2.2 Y.1 Y.2.1 Y.2.2
      subst hx hy
      have e2 : ∀ p q z : Int, p = q * z → p * z = q * z ^ 2 := fun p q z h => by rw [h]; grind
      exact e2 _ _ _ e1
  · match ns, hl with
    | [n, m], _ =>
      rw [cram2]
      generalize hx : (((a0, a1, a2) :: (b0, b1, b2) :: (c0, c1, c2) :: r : List V3)).getD n.toNat (0, 0, 0) = X
      generalize hy : (((a0, a1, a2) :: (b0, b1, b2) :: (c0, c1, c2) :: r : List V3)).getD m.toNat (0, 0, 0) = Y
      have e1 := sylv_c a0 a1 a2 b0 b1 b2 c0 c1 c2 X.1 X.2.1 X.2.2 Y.1 Y.2.1 Y.2.2
      subst hx hy
      have e2 : ∀ p q z : Int, p = q * z → p * z = q * z ^ 2 := fun p q z h => by rw [h]; grind
      exact e2 _ _ _ e1
  · match ns, hl with
    | [n, m, k], _ =>
      rw [cram3]
      generalize hx : (((a0, a1, a2) :: (b0, b1, b2) :: (c0, c1, c2) :: r : List V3)).getD n.toNat (0, 0, 0) = X
      generalize hy : (((a0, a1, a2) :: (b0, b1, b2) :: (c0, c1, c2) :: r : List V3)).getD m.toNat (0, 0, 0) = Y
      generalize hz : (((a0, a1, a2) :: (b0, b1, b2) :: (c0, c1, c2) :: r : List V3)).getD k.toNat (0, 0, 0) = Z
      have e1 := sylv3 a0 a1 a2 b0 b1 b2 c0 c1 c2 X.1 X.2.1 X.2.2 Y.1 Y.2.1 Y.2.2 Z.1 Z.2.1 Z.2.2
      subst hx hy hz
      have e2 : ∀ p q z : Int, p = z * z * q → p * z = q * z ^ 3 := fun p q z h => by rw [h]; grind
      exact e2 _ _ _ e1
end Mine
namespace Mine
theorem prod3 {a b c : Int} (ha : 0 ≤ a ∧ a ≤ 128) (hb : 0 ≤ b ∧ b ≤ 128) (hc : 0 ≤ c ∧ c ≤ 128) : 0 ≤ a * b * c ∧ a * b * c ≤ 2097152 := by
  have h1 := Int.mul_nonneg ha.1 hb.1
  have h2 : a * b ≤ 128 * 128 := Int.mul_le_mul ha.2 hb.2 hb.1 (by decide)
  exact ⟨Int.mul_nonneg h1 hc.1, Int.mul_le_mul h2 hc.2 hc.1 (by decide)⟩
def In128 (v : V3) : Prop := (0 ≤ v.1 ∧ v.1 ≤ 128) ∧ (0 ≤ v.2.1 ∧ v.2.1 ≤ 128) ∧ (0 ≤ v.2.2 ∧ v.2.2 ≤ 128)
theorem detV_bound {a b c : V3} (ha : In128 a) (hb : In128 b) (hc : In128 c) : -(2 ^ 24) < detV a b c ∧ detV a b c < 2 ^ 24 := by
  obtain ⟨a0, a1, a2⟩ := a
  obtain ⟨b0, b1, b2⟩ := b
  obtain ⟨c0, c1, c2⟩ := c
  have e : detV (a0, a1, a2) (b0, b1, b2) (c0, c1, c2) = a0*b1*c2 - a0*b2*c1 - a1*b0*c2 + a1*b2*c0 + a2*b0*c1 - a2*b1*c0 := by unfold detV detZ; grind
  rw [e]
  have p1 := prod3 ha.1 hb.2.1 hc.2.2
  have p2 := prod3 ha.1 hb.2.2 hc.2.1
  have p3 := prod3 ha.2.1 hb.1 hc.2.2
  have p4 := prod3 ha.2.1 hb.2.2 hc.1
  have p5 := prod3 ha.2.2 hb.1 hc.2.1
  have p6 := prod3 ha.2.2 hb.2.1 hc.1
  simp only at p1 p2 p3 p4 p5 p6
  omega
theorem exch_bound {vs : List V3} (h : ∀ v ∈ vs, In128 v) (gs ns : List Int) : -(2 ^ 24) < exchZ vs gs ns ∧ exchZ vs gs ns < 2 ^ 24 := by
  have z : In128 (0, 0, 0) := by unfold In128; decide
  have hg : ∀ {l : List V3}, (∀ v ∈ l, In128 v) → ∀ i, In128 (l.getD i (0, 0, 0)) := fun {l} hl i => by
    rw [List.getD_eq_getElem?_getD]
    cases e : l[i]? with
    | none => exact z
    | some v => exact hl v (List.mem_of_getElem? e)
  have hr : ∀ v ∈ exchRows vs gs ns, In128 v := by
    unfold exchRows
    generalize gs.zip ns = l
    have h0 : ∀ v ∈ vs.take 3, In128 v := fun v hv => h v (List.mem_of_mem_take hv)
    revert h0
    generalize vs.take 3 = r
    induction l generalizing r with
    | nil => exact fun h0 => h0
    | cons p l ih =>
      intro h0
      rw [List.foldl_cons]
      refine ih _ fun v hv => ?_
      rcases List.mem_or_eq_of_mem_set hv with hv | rfl
      · exact h0 v hv
      · exact hg h _
  exact detV_bound (hg hr 0) (hg hr 1) (hg hr 2)
end Mine
end
section
open PySem
set_option maxRecDepth 100000
namespace Mine
def hueF (tok : Int) (turn : Int) : UInt64 := Float64.div (Float64.ofInt (tok + 64 * turn)) 4634204016564240384
def valF (v : Int) : UInt64 := Float64.div (Float64.ofInt (1 + v)) 4616189618054758400
def lightI (x : UInt64) : Int := Flt.toInt Float64.truncOf (Float64.mul x (Float64.ofInt 128))
def lightV (tok turn v : Int) : V3 := let r := hsvF (hueF tok turn) (valF v); (lightI r.1, lightI r.2.1, lightI r.2.2)
def baseV (tok : Int) : V3 := lightV tok 0 0
def toks : List Int := [7, 8, 9, 10, 11, 12, 13, 14, 15, 16, 17, 18, 19, 20, 21, 22, 23, 24, 25, 26, 27, 28, 29, 30, 31, 32, 33, 34, 35, 36, 37, 38, 39, 40, 41, 42, 43, 44, 45, 46, 47, 48, 49, 50, 51, 52, 53, 54]
def scale (k : Int) (v : V3) : V3 := (k * v.1, k * v.2.1, k * v.2.2)
/-- a token's light at value one quarter -/
def tokV (t : Int) : V3 := if t < 11 then (32, 3 * t, 0) else if t < 22 then (64 - 3 * t, 32, 0) else if t < 33 then (0, 32, 3 * t - 64) else if t < 43 then (0, 128 - 3 * t, 32) else if t < 54 then (3 * t - 128, 0, 32) else (32, 0, 192 - 3 * t)
def hsvOkB (x : UInt64) : Bool := !Float64.isNaN (hsvH x) && !Float64.isInf (hsvH x) && decide ((hsvI x).natAbs < 1000)
set_option maxHeartbeats 4000000 in
theorem light_table : (toks.all fun t => [0, 1, 2].all fun c => hsvOkB (hueF t c) && [0, 1, 2, 3].all fun v => decide (lightV t c v = scale (v + 1) (tokV t))) = true := by decide +kernel
end Mine
namespace Mine
def tokSide (t : Int) : Int := if t < 22 then 0 else if t < 43 then 1 else 2
set_option maxHeartbeats 8000000 in
theorem det_table : (toks.all fun a => toks.all fun b => !decide (a < b) || toks.all fun c => !decide (b < c) || (decide (detV (tokV a) (tokV b) (tokV c) = 0) == (decide (tokSide a = tokSide b) && decide (tokSide b = tokSide c)))) = true := by decide +kernel
theorem det_sorted {a b c : Int} (ha : a ∈ toks) (hb : b ∈ toks) (hc : c ∈ toks) (hab : a < b) (hbc : b < c) : detV (tokV a) (tokV b) (tokV c) = 0 ↔ tokSide a = tokSide b ∧ tokSide b = tokSide c := by
  have h1 := List.all_eq_true.mp (List.all_eq_true.mp det_table a ha) b hb
  rw [decide_eq_true hab] at h1
  have h2 := List.all_eq_true.mp h1 c hc
  rw [decide_eq_true hbc] at h2
  have h3 : decide (detV (tokV a) (tokV b) (tokV c) = 0) = (decide (tokSide a = tokSide b) && decide (tokSide b = tokSide c)) := beq_iff_eq.mp h2
  rw [← Bool.decide_and] at h3
  exact decide_eq_decide.mp h3
theorem detV_l (u v w : V3) : detV v u w = -detV u v w := by
  unfold detV detZ
  grind
theorem detV_r (u v w : V3) : detV u w v = -detV u v w := by
  unfold detV detZ
  grind
theorem zero_l {u v w : V3} : detV v u w = 0 ↔ detV u v w = 0 := by rw [detV_l u v w]; exact Int.neg_eq_zero
theorem zero_r {u v w : V3} : detV u w v = 0 ↔ detV u v w = 0 := by rw [detV_r u v w]; exact Int.neg_eq_zero
theorem side_l {x y z : Int} : (y = x ∧ x = z) ↔ (x = y ∧ y = z) := ⟨fun h => ⟨h.1.symm, h.1.trans h.2⟩, fun h => ⟨h.1.symm, h.1.trans h.2⟩⟩
theorem side_r {x y z : Int} : (x = z ∧ z = y) ↔ (x = y ∧ y = z) := ⟨fun h => ⟨h.1.trans h.2, h.2.symm⟩, fun h => ⟨h.1.trans h.2, h.2.symm⟩⟩
theorem three_tok {a b c : Int} (ha : a ∈ toks) (hb : b ∈ toks) (hc : c ∈ toks) (hab : a ≠ b) (hac : a ≠ c) (hbc : b ≠ c) : detV (tokV a) (tokV b) (tokV c) = 0 ↔ tokSide a = tokSide b ∧ tokSide b = tokSide c := by
  rcases Int.lt_or_gt_of_ne hab with h1 | h1 <;> rcases Int.lt_or_gt_of_ne hbc with h2 | h2
  · exact det_sorted ha hb hc h1 h2
  · rcases Int.lt_or_gt_of_ne hac with h3 | h3
    · exact (zero_r.symm.trans (det_sorted ha hc hb h3 h2)).trans side_r.symm
    · exact ((zero_r.symm.trans zero_l.symm).trans (det_sorted hc ha hb h3 h1)).trans (side_r.trans side_l).symm
  · rcases Int.lt_or_gt_of_ne hac with h3 | h3
    · exact (zero_l.symm.trans (det_sorted hb ha hc h1 h3)).trans side_l.symm
    · exact ((zero_l.symm.trans zero_r.symm).trans (det_sorted hb hc ha h2 h3)).trans (side_l.trans side_r).symm
  · exact (((zero_l.symm.trans zero_r.symm).trans zero_l.symm).trans (det_sorted hc hb ha h2 h1)).trans ((side_l.trans side_r).trans side_l).symm
theorem detV_scale (x y z : Int) (u v w : V3) : detV (scale x u) (scale y v) (scale z w) = x * y * z * detV u v w := by
  obtain ⟨u0, u1, u2⟩ := u
  obtain ⟨v0, v1, v2⟩ := v
  obtain ⟨w0, w1, w2⟩ := w
  unfold detV scale detZ
  grind
end Mine
end
section
open PySem
set_option maxRecDepth 100000
namespace Mine
/-- all lists of so many sides -/
def allSides : Nat → List (List Int)
  | 0 => [[]]
  | n + 1 => (allSides n).flatMap fun l => [0 :: l, 1 :: l, 2 :: l]
def allThrees (n : Nat) : List (List Int) := ((List.range n).flatMap fun a => (List.range n).flatMap fun b => (List.range n).map fun c => [Int.ofNat a, Int.ofNat b, Int.ofNat c]).filter fun l => decide (l.getD 0 0 < l.getD 1 0 ∧ l.getD 1 0 < l.getD 2 0)
def goneOf (t : List Int) : List Int := [0, 1, 2].filter fun k => !t.any (· == k)
def newOf (t : List Int) : List Int := t.filter fun k => decide (2 < k)
def stayOf (t : List Int) : List Int := t.filter fun k => decide (k < 3)
def okOwn (s : List Int) (b : Nat) : Bool := let o := [ownK s b 0, ownK s b 1, ownK s b 2]; o.any (· == 0) && o.any (· == 1) && o.any (· == 2)
def sameSide (s t : List Int) : Bool := decide (s.getD (t.getD 0 0).toNat 0 = s.getD (t.getD 1 0).toNat 0) && decide (s.getD (t.getD 1 0).toNat 0 = s.getD (t.getD 2 0).toNat 0)
def walkLaw (n : Nat) : Bool := (allSides n).all fun s => sameSide s [0, 1, 2] || (List.range 8).all fun b => !okOwn s b || ((allThrees n).drop 1).all fun t => walksL 6 s [ownK s b 0, ownK s b 1, ownK s b 2] (goneOf t) (newOf t) (stayOf t) == !sameSide s t
set_option maxHeartbeats 2000000 in
theorem walkLaw5 : walkLaw 5 = true := by decide +kernel
end Mine
namespace Mine
set_option maxHeartbeats 8000000 in
theorem walkLaw6 : walkLaw 6 = true := by decide +kernel
end Mine
end
section
open PySem PySem.Spec PySem.Calls PySem.W PyProof.Rows
set_option maxRecDepth 100000
namespace Mine
open LCg
section
variable {prog : Program} {w : World} {A : Around} {E : Value → Shared → Prop} {s : Shared} {h₀ : Heap} {L : Addr} {m : Str → Option Value} {env : Env}
def TupAtL (ax : Addr) (its : Array Value) (news : List (Addr × Obj)) : Prop := ∃ o, (ax, o) ∈ news ∧ o.cls = .type "tuple" ∧ ∃ n, o.data = .seq its n
theorem TupAtL.tup {h : Heap} {ax : Addr} {its : Array Value} {news : List (Addr × Obj)} (x : TupAtL ax its news) (N : News h₀ L h news) : h.IsTuple ax its := by
  obtain ⟨o, hm, r⟩ := x
  exact ⟨o, (N _ hm).1, r⟩
theorem tup_st {ax I : Addr} {its : Array Value} : ∀ i (h h' : Heap) (o : Obj) (nw : List (Addr × Obj)), (h.IsTupleIter I ax i ∧ h.IsTuple ax its) → h.get? I = some o → h'.get? I = some o → (∀ b o, h₀.get? b = some o → h'.get? b = some o) → News h₀ L h' nw → TupAtL ax its nw → (h'.IsTupleIter I ax i ∧ h'.IsTuple ax its) :=
  fun i h h' o nw st e e' _ N S => ⟨by obtain ⟨o', q, r⟩ := st.1; rw [e] at q; cases q; exact ⟨o, e', r⟩, S.tup N⟩
/-- a list is made over a tuple of the ledger -/
theorem ListComp_tup {elt iter : Expr} {x : Str} {px : Pos} {scope : Scope} {cl : List (Str × Addr)} {pos : Pos} {Q : Value → Shared → Prop} (_F₀ : Fr h₀ L s.heap m)
    (hclos : closureFor scope env = pure cl) (hcell : ∀ y ∈ scope.names, y.2 ≠ .cell) (hkind : scope.kind = .function)
    (hnames : ∀ y ∈ scope.names, y.2 = .local → scope.names.lookup y.1 = some .local) (hx : scope.names.lookup x = some .local) (hh : A.handled = none)
    (h : wpAny (model prog w) A (eval iter env) (fun xv s₁ => Halt (∃ ax its news, xv = .ref ax ∧ Fr h₀ L s₁.heap m ∧ News h₀ L s₁.heap news ∧ TupAtL ax its news ∧ its.size ≤ sizeLine ∧
      ∀ g, CompRest prog w A h₀ L m env elt x scope cl { s₁ with heap := g } (TupAtL ax its) (fun i v => its[i]? = some v) (FinE h₀ L m { s₁ with heap := g } Q) its.size 0 [] news)) E s)
    (hs : ∀ x, foldedSetIterable iter env x = pure x := by intro _; rfl) :
    wpAny (model prog w) A (eval (.ListComp elt [⟨.Name x px, iter, [], 0⟩] scope pos) env) Q E s := by
  rw [eval_ListComp]
  refine wpAny_comprehension_free (use := none) rfl hs hclos hkind hnames (wpAny_mono h (fun xv s₁ h₁ => ?_) fun _ _ e => e)
  obtain ⟨ax, its, news, rfl, F, N, S, hsz, R⟩ := h₁
  have hl := S.tup N
  have hlt : ax < s₁.heap.objs.size := by obtain ⟨_, e, _⟩ := hl; exact Heap.lt_size e
  refine wpAny_pyIter_tuple hl ?_
  have up : ∀ b o, s₁.heap.get? b = some o → (s₁.heap.push { cls := .type "tuple_iterator", data := .fields #[.ref ax, .int 0 0] }).get? b = some o := fun b o e => Heap.get?_push_of_some _ e
  refine block_U (Walks.tuple hh s₁.heap.objs.size ax (Nat.ne_of_lt hlt) its) hsz (fun i h st => by obtain ⟨o, e, _⟩ := st.1; exact ⟨o, e⟩) tup_st hcell hkind hx ⟨⟨_, Heap.get?_push_size _ rfl, rfl, rfl⟩, hl.push _⟩ (fun b hb => ?_)
    (F.keeps up) (N.grown up) (Nat.ne_of_lt F.ns.lt) (next_is_new F) (fun p hp => Nat.ne_of_lt (Heap.lt_size (N p hp).1)) S (R _) ?_
  · show b < (s₁.heap.push _).objs.size
    rw [Heap.size_push]
    rcases List.mem_cons.mp hb with rfl | hb
    · exact Nat.lt_succ_self _
    · rw [List.mem_singleton.mp hb]; exact Nat.lt_succ_of_lt hlt
  · intro D C h tk m' ys news' F' N' o1 hn hC₀ hD₀ hCL hDL hCD offC fin
    refine ⟨m', hn, fun h'' hs'' => fin D h'' tk (F'.change hs'' hCL hC₀) (fun p hp => ?_) o1⟩
    refine ⟨hs''.extBut _ _ ?_ (N' p hp).1, (N' p hp).2⟩
    rcases List.mem_cons.mp hp with rfl | hp
    · exact Ne.symm hCD
    · exact offC p hp
end
end Mine
end
section
open PySem PySem.Spec PySem.Calls PySem.W PyProof.Rows
namespace Mine
def tokStr : Int → String
  | 7 => "("
  | 8 => ")"
  | 9 => "["
  | 10 => "]"
  | 11 => ":"
  | 12 => ","
  | 13 => ";"
  | 14 => "+"
  | 15 => "-"
  | 16 => "*"
  | 17 => "/"
  | 18 => "|"
  | 19 => "&"
  | 20 => "<"
  | 21 => ">"
  | 22 => "="
  | 23 => "."
  | 24 => "%"
  | 25 => "{"
  | 26 => "}"
  | 27 => "=="
  | 28 => "!="
  | 29 => "<="
  | 30 => ">="
  | 31 => "~"
  | 32 => "^"
  | 33 => "<<"
  | 34 => ">>"
  | 35 => "**"
  | 36 => "+="
  | 37 => "-="
  | 38 => "*="
  | 39 => "/="
  | 40 => "%="
  | 41 => "&="
  | 42 => "|="
  | 43 => "^="
  | 44 => "<<="
  | 45 => ">>="
  | 46 => "**="
  | 47 => "//"
  | 48 => "//="
  | 49 => "@"
  | 50 => "@="
  | 51 => "->"
  | 52 => "..."
  | 53 => ":="
  | 54 => "!"
  | _ => ""
def wordOf (t : Int) : Str := Str.ofString (Mine.tokStr t)
set_option maxRecDepth 100000 in
set_option maxHeartbeats 8000000 in
theorem word_tok (prm : Params) : ∀ t ∈ toks, ∃ tk, nsIn (Mine.hd.heap_39 prm) 64 (wordOf t) = some (some (.int t tk)) := by
  unfold toks
  simp only [List.forall_mem_cons, List.not_mem_nil, false_implies, implies_true, and_true]
  refine ⟨⟨_, by with_unfolding_all rfl⟩, ⟨_, by with_unfolding_all rfl⟩, ⟨_, by with_unfolding_all rfl⟩, ⟨_, by with_unfolding_all rfl⟩, ⟨_, by with_unfolding_all rfl⟩, ⟨_, by with_unfolding_all rfl⟩, ⟨_, by with_unfolding_all rfl⟩, ⟨_, by with_unfolding_all rfl⟩, ⟨_, by with_unfolding_all rfl⟩, ⟨_, by with_unfolding_all rfl⟩, ⟨_, by with_unfolding_all rfl⟩, ⟨_, by with_unfolding_all rfl⟩, ⟨_, by with_unfolding_all rfl⟩, ⟨_, by with_unfolding_all rfl⟩, ⟨_, by with_unfolding_all rfl⟩, ⟨_, by with_unfolding_all rfl⟩, ⟨_, by with_unfolding_all rfl⟩, ⟨_, by with_unfolding_all rfl⟩, ⟨_, by with_unfolding_all rfl⟩, ⟨_, by with_unfolding_all rfl⟩, ⟨_, by with_unfolding_all rfl⟩, ⟨_, by with_unfolding_all rfl⟩, ⟨_, by with_unfolding_all rfl⟩, ⟨_, by with_unfolding_all rfl⟩, ⟨_, by with_unfolding_all rfl⟩, ⟨_, by with_unfolding_all rfl⟩, ⟨_, by with_unfolding_all rfl⟩, ⟨_, by with_unfolding_all rfl⟩, ⟨_, by with_unfolding_all rfl⟩, ⟨_, by with_unfolding_all rfl⟩, ⟨_, by with_unfolding_all rfl⟩, ⟨_, by with_unfolding_all rfl⟩, ⟨_, by with_unfolding_all rfl⟩, ⟨_, by with_unfolding_all rfl⟩, ⟨_, by with_unfolding_all rfl⟩, ⟨_, by with_unfolding_all rfl⟩, ⟨_, by with_unfolding_all rfl⟩, ⟨_, by with_unfolding_all rfl⟩, ⟨_, by with_unfolding_all rfl⟩, ⟨_, by with_unfolding_all rfl⟩, ⟨_, by with_unfolding_all rfl⟩, ⟨_, by with_unfolding_all rfl⟩, ⟨_, by with_unfolding_all rfl⟩, ⟨_, by with_unfolding_all rfl⟩, ⟨_, by with_unfolding_all rfl⟩, ⟨_, by with_unfolding_all rfl⟩, ⟨_, by with_unfolding_all rfl⟩, ⟨_, by with_unfolding_all rfl⟩⟩
section
variable {w : World} {A : Around} {E : Value → Shared → Prop} {s : Shared} {h₀ : Heap} {L : Addr} {m : Str → Option Value} {prog : Program}
/-- the number of an operator's word -/
theorem dictTok {value slice : PySem.Expr} {t : Int} {u : Tok} {Q : Value → Shared → Prop} (F : Fr h₀ L s.heap m) (X₀ : (Mine.hd.heap_39 w.params).In h₀) (ht : t ∈ toks) (h : ∀ tk tk', Q (.int t tk) { s with toks := tk' })
    (hs : subscripted slice false (.ref 64) (.str (wordOf t) u) = operate [.ref 64, .str (wordOf t) u] (getItem (.ref 64) (.str (wordOf t) u)) := by with_unfolding_all rfl) :
    wpAny (model prog w) A (subscriptTail value slice (.ref 64) (.str (wordOf t) u)) Q E s := by
  obtain ⟨tk, e⟩ := word_tok w.params t ht
  refine' topItem_K F X₀ ?l ?k e (h tk _) hs
  case l => with_unfolding_all rfl
  case k => k_keys
end
end Mine
end
section
open PySem PySem.Spec PySem.Calls PySem.W PyProof.Rows
namespace Mine
set_option maxRecDepth 100000
inductive WordsAre : List Value → List Int → Prop
  | nil : WordsAre [] []
  | cons (t : Int) (u : Tok) {ws : List Value} {ts : List Int} : WordsAre ws ts → WordsAre (.str (wordOf t) u :: ws) (t :: ts)
theorem WordsAre.length {ws : List Value} {ts : List Int} (h : WordsAre ws ts) : ws.length = ts.length := by
  induction h with
  | nil => rfl
  | cons t u h ih => exact congrArg Nat.succ ih
/-- a word is taken out -/
theorem WordsAre.cut {ws : List Value} {ts : List Int} (h : WordsAre ws ts) : ∀ k, k < ts.length → ∃ p q u, kl_cut ws k = some (p, .str (wordOf (ts.getD k 0)) u, q) ∧ WordsAre (p ++ q) (ts.eraseIdx k) := by
  induction h with
  | nil => exact fun k hk => absurd hk (Nat.not_lt_zero _)
  | @cons t u ws ts h ih =>
    intro k hk
    cases k with
    | zero => exact ⟨[], ws, u, rfl, h⟩
    | succ k =>
      obtain ⟨p, q, u', e, h'⟩ := ih k (Nat.lt_of_succ_lt_succ hk)
      refine ⟨.str (wordOf t) u :: p, q, u', ?_, .cons t u h'⟩
      unfold kl_cut
      rw [e]
      rfl
def rowSel {α : Type} (x : Int) (a b c : α) : α := if x = 0 then a else if x = 1 then b else c
theorem rowAddr {r0 r1 r2 : Addr} {x : Int} (h0 : 0 ≤ x) (h3 : x < 3) : [r0, r1, r2].getD x.toNat 0 = rowSel x r0 r1 r2 := by
  have : x = 0 ∨ x = 1 ∨ x = 2 := by omega
  rcases this with rfl | rfl | rfl <;> rfl
section
variable {w : World} {A : Around} {E : Value → Shared → Prop} {s : Shared} {h₀ : Heap} {L : Addr} {m : Str → Option Value} {prog : Program} {news : List (Addr × Obj)}
theorem itemRow {value slice : PySem.Expr} {l r0 r1 r2 : Addr} {k : Int} {u : Tok} {Q : Value → Shared → Prop} (hl : s.heap.IsList l #[.ref r0, .ref r1, .ref r2]) (h0 : 0 ≤ k) (h1 : k < 3)
    (h : Q (.ref (rowSel k r0 r1 r2)) s) (hs : subscripted slice false (.ref l) (.int k u) = operate [.ref l, .int k u] (getItem (.ref l) (.int k u)) := by with_unfolding_all rfl) :
    wpAny (model prog w) A (subscriptTail value slice (.ref l) (.int k u)) Q E s :=
  item_refs (as := [r0, r1, r2]) hl h0 h1 (by omega) (by rw [rowAddr h0 h1]; exact h) hs
theorem lenRow {r0 r1 r2 : Addr} {w0 w1 w2 : List Value} {T0 T1 T2 : List Int} {k0 k1 k2 : Nat} {x : Int} {Q : Value → Shared → Prop} (N : News h₀ L s.heap news)
    (m2 : (r2, PySem.W.listOf w2.toArray k2) ∈ news) (m1 : (r1, PySem.W.listOf w1.toArray k1) ∈ news) (m0 : (r0, PySem.W.listOf w0.toArray k0) ∈ news) (a0 : WordsAre w0 T0) (a1 : WordsAre w1 T1) (a2 : WordsAre w2 T2)
    (hx0 : 0 ≤ x) (hx3 : x < 3) (hf : (rowSel x T0 T1 T2).length < 2 ^ 60) (h : ∀ t tk, Q (.int ((rowSel x T0 T1 T2).length : Int) t) { s with toks := tk }) : wpAny (model prog w) A (call (.builtin "len") [.ref (rowSel x r0 r1 r2)]) Q E s := by
  have : x = 0 ∨ x = 1 ∨ x = 2 := by omega
  rcases this with rfl | rfl | rfl
  · refine len_any (vs := w0) (News.isList N m0) (by rw [a0.length]; exact hf) (by rw [a0.length]; exact h)
  · refine len_any (vs := w1) (News.isList N m1) (by rw [a1.length]; exact hf) (by rw [a1.length]; exact h)
  · refine len_any (vs := w2) (News.isList N m2) (by rw [a2.length]; exact hf) (by rw [a2.length]; exact h)
theorem methRow {r0 r1 r2 : Addr} {w0 w1 w2 : List Value} {k0 k1 k2 : Nat} {x : Int} {pl : Sem Bool} {Q : Value × List Value → Shared → Prop} (N : News h₀ L s.heap news)
    (m2 : (r2, PySem.W.listOf w2.toArray k2) ∈ news) (m1 : (r1, PySem.W.listOf w1.toArray k1) ∈ news) (m0 : (r0, PySem.W.listOf w0.toArray k0) ∈ news)
    (hx0 : 0 ≤ x) (hx3 : x < 3) (h : Q (.builtin "list.pop", [.ref (rowSel x r0 r1 r2)]) s) : wpAny (model prog w) A (getMethod (.ref (rowSel x r0 r1 r2)) (PySem.Str.ofString "pop") pl) Q E s := by
  have : x = 0 ∨ x = 1 ∨ x = 2 := by omega
  rcases this with rfl | rfl | rfl
  · exact kl_method N m0 PySem.F.slot_list_pop PySem.F.type_list_pop h
  · exact kl_method N m1 PySem.F.slot_list_pop PySem.F.type_list_pop h
  · exact kl_method N m2 PySem.F.slot_list_pop PySem.F.type_list_pop h
theorem popIdx {i : Int} {n : Nat} (h0 : 0 ≤ i) (h1 : i < n) : seqIndex? i n = some i.toNat := by
  unfold seqIndex?
  simp only [show ¬ i < 0 by omega, if_false]
  rw [if_pos (by simp; omega)]
theorem popFit {i : Int} (h0 : 0 ≤ i) (h1 : i < 100) : Builtin.List.listFitsIndex i = true := by
  unfold Builtin.List.listFitsIndex
  simp
  omega
theorem rowLen {x : Int} {T0 T1 T2 : List Int} {n : Nat} (h0 : n ≤ T0.length) (h1 : n ≤ T1.length) (h2 : n ≤ T2.length) : n ≤ (rowSel x T0 T1 T2).length := by
  unfold rowSel
  by_cases e : x = 0
  · rw [if_pos e]; exact h0
  · rw [if_neg e]
    by_cases e : x = 1
    · rw [if_pos e]; exact h1
    · rw [if_neg e]; exact h2
theorem updApp {d : Addr} {o o' : Obj} {l l' : List (Addr × Obj)} (u : Upd d o o' l l') : ∀ {pre : List (Addr × Obj)}, (∀ p ∈ pre, p.1 ≠ d) → Upd d o o' (pre ++ l) (pre ++ l')
  | [], _ => u
  | _ :: _, h => .tail (h _ List.mem_cons_self) (updApp u fun p hp => h p (List.mem_cons_of_mem _ hp))
def cutIf (x j : Int) (T : List Int) (i : Int) : List Int := if x = j then T.eraseIdx i.toNat else T
theorem popRow {pre post : List (Addr × Obj)} {r0 r1 r2 : Addr} {w0 w1 w2 : List Value} {T0 T1 T2 : List Int} {k0 k1 k2 : Nat} {x i : Int} {v : Tok} {Q : Value → Shared → Prop} (F : Fr h₀ L s.heap m)
    (N : News h₀ L s.heap (pre ++ (r2, PySem.W.listOf w2.toArray k2) :: (r1, PySem.W.listOf w1.toArray k1) :: (r0, PySem.W.listOf w0.toArray k0) :: post)) (a0 : WordsAre w0 T0) (a1 : WordsAre w1 T1) (a2 : WordsAre w2 T2)
    (hx0 : 0 ≤ x) (hx3 : x < 3) (hi0 : 0 ≤ i) (hi : i < (rowSel x T0 T1 T2).length) (hf : (rowSel x T0 T1 T2).length < 100)
    (d01 : @Ne Nat r0 r1) (d02 : @Ne Nat r0 r2) (d12 : @Ne Nat r1 r2) (p0 : ∀ p ∈ pre, p.1 ≠ r0 ∧ p.1 ≠ r1 ∧ p.1 ≠ r2) (q0 : ∀ p ∈ post, p.1 ≠ r0 ∧ p.1 ≠ r1 ∧ p.1 ≠ r2)
    (h : ∀ u h' w0' w1' w2' k0' k1' k2', WordsAre w0' (cutIf x 0 T0 i) → WordsAre w1' (cutIf x 1 T1 i) → WordsAre w2' (cutIf x 2 T2 i) → Fr h₀ L h' m →
      News h₀ L h' (pre ++ (r2, PySem.W.listOf w2'.toArray k2') :: (r1, PySem.W.listOf w1'.toArray k1') :: (r0, PySem.W.listOf w0'.toArray k0') :: post) → Q (.str (wordOf ((rowSel x T0 T1 T2).getD i.toNat 0)) u) { s with heap := h' }) :
    wpAny (model prog w) A (call (.builtin "list.pop") [.ref (rowSel x r0 r1 r2), .int i v]) Q E s := by
  have : x = 0 ∨ x = 1 ∨ x = 2 := by omega
  rcases this with rfl | rfl | rfl
  · have hi' : i < T0.length := hi
    have hf' : T0.length < 100 := hf
    obtain ⟨p, q, u, e, hw⟩ := a0.cut i.toNat (by omega)
    refine kl_popAt (n := k0) (its := w0.toArray) (D := r0) F N (popFit hi0 (by omega)) (popIdx hi0 (by rw [List.size_toArray, a0.length]; exact hi')) e (news' := pre ++ (r2, PySem.W.listOf w2.toArray k2) :: (r1, PySem.W.listOf w1.toArray k1) :: (r0, PySem.W.listOf (p ++ q).toArray (k0 + 1)) :: post) ?_ (by show w0.length ≤ _; rw [PySem.sizeLine_eq, a0.length]; omega) fun h' F' N' => h u h' _ _ _ _ _ _ hw a1 a2 F' N'
    exact updApp (.tail (Ne.symm d02) (.tail (Ne.symm d01) (.head fun p hp => (q0 p hp).1))) fun p hp => (p0 p hp).1
  · have hi' : i < T1.length := hi
    have hf' : T1.length < 100 := hf
    obtain ⟨p, q, u, e, hw⟩ := a1.cut i.toNat (by omega)
    refine kl_popAt (n := k1) (its := w1.toArray) (D := r1) F N (popFit hi0 (by omega)) (popIdx hi0 (by rw [List.size_toArray, a1.length]; exact hi')) e (news' := pre ++ (r2, PySem.W.listOf w2.toArray k2) :: (r1, PySem.W.listOf (p ++ q).toArray (k1 + 1)) :: (r0, PySem.W.listOf w0.toArray k0) :: post) ?_ (by show w1.length ≤ _; rw [PySem.sizeLine_eq, a1.length]; omega) fun h' F' N' => h u h' _ _ _ _ _ _ a0 hw a2 F' N'
    exact updApp (.tail (Ne.symm d12) (.head (List.forall_mem_cons.mpr ⟨d01, fun p hp => (q0 p hp).2.1⟩))) fun p hp => (p0 p hp).2.1
  · have hi' : i < T2.length := hi
    have hf' : T2.length < 100 := hf
    obtain ⟨p, q, u, e, hw⟩ := a2.cut i.toNat (by omega)
    refine kl_popAt (n := k2) (its := w2.toArray) (D := r2) F N (popFit hi0 (by omega)) (popIdx hi0 (by rw [List.size_toArray, a2.length]; exact hi')) e (news' := pre ++ (r2, PySem.W.listOf (p ++ q).toArray (k2 + 1)) :: (r1, PySem.W.listOf w1.toArray k1) :: (r0, PySem.W.listOf w0.toArray k0) :: post) ?_ (by show w2.length ≤ _; rw [PySem.sizeLine_eq, a2.length]; omega) fun h' F' N' => h u h' _ _ _ _ _ _ a0 a1 hw F' N'
    exact updApp (.head (List.forall_mem_cons.mpr ⟨d12, List.forall_mem_cons.mpr ⟨d02, fun p hp => (q0 p hp).2.2⟩⟩)) fun p hp => (p0 p hp).2.2
end
/-- the picks: a token and one more than its quarter -/
abbrev Pick := Int × Int
def sideOf (p : Pick) : Int := tokSide p.1
def lightOf (p : Pick) : V3 := scale p.2 (tokV p.1)
def rowOk (x : Int) (T : List Int) (ps : List Pick) : Prop := T.Nodup ∧ ∀ t ∈ T, t ∈ toks ∧ tokSide t = x ∧ t ∉ ps.map Prod.fst
structure PalInv (i : Nat) (T0 T1 T2 : List Int) (ps : List Pick) : Prop where
  len : ps.length = i
  l0 : 12 ≤ T0.length + i
  l1 : 12 ≤ T1.length + i
  l2 : 12 ≤ T2.length + i
  u0 : T0.length < 100
  u1 : T1.length < 100
  u2 : T2.length < 100
  m0 : rowOk 0 T0 ps
  m1 : rowOk 1 T1 ps
  m2 : rowOk 2 T2 ps
  pt : ∀ p ∈ ps, p.1 ∈ toks ∧ 1 ≤ p.2 ∧ p.2 ≤ 4
  pn : (ps.map Prod.fst).Nodup
  alike : ∀ x : Int, ∀ r, ps.map sideOf ≠ x :: x :: x :: r
theorem rowOk_cut {x j i : Int} {T : List Int} {ps : List Pick} {t mu : Int} (h : rowOk j T ps) (hi0 : 0 ≤ i) (ht : x = j → i < T.length ∧ t = T.getD i.toNat 0) (hs : tokSide t = x) : rowOk j (cutIf x j T i) (ps ++ [(t, mu)]) := by
  unfold cutIf
  by_cases e : x = j
  · rw [if_pos e]
    obtain ⟨hi, rfl⟩ := ht e
    refine ⟨h.1.eraseIdx _, fun t' ht' => ?_⟩
    obtain ⟨h1, h2, h3⟩ := h.2 t' (List.mem_of_mem_eraseIdx ht')
    refine ⟨h1, h2, ?_⟩
    rw [List.map_append, List.mem_append]
    rintro (h4 | h4)
    · exact h3 h4
    · have h5 : t' = T.getD i.toNat 0 := by simpa using h4
      rw [List.getD_eq_getElem?_getD, List.getElem?_eq_getElem (by omega)] at h5
      simp only [Option.getD_some] at h5
      obtain ⟨n, hn, hne, he⟩ := List.mem_eraseIdx_iff_getElem.mp ht'
      have hp := List.pairwise_iff_getElem.mp h.1
      rcases Nat.lt_or_gt_of_ne hne with h6 | h6
      · exact hp _ _ _ _ h6 (he.trans h5)
      · exact hp _ _ _ _ h6 (he.trans h5).symm
  · rw [if_neg e]
    refine ⟨h.1, fun t' ht' => ?_⟩
    obtain ⟨h1, h2, h3⟩ := h.2 t' ht'
    refine ⟨h1, h2, ?_⟩
    rw [List.map_append, List.mem_append]
    rintro (h4 | h4)
    · exact h3 h4
    · have h5 : t' = t := by simpa using h4
      rw [h5, hs] at h2
      exact e h2
theorem cut_len {x j i : Int} {T : List Int} : (cutIf x j T i).length ≤ T.length ∧ T.length ≤ (cutIf x j T i).length + 1 := by
  unfold cutIf
  by_cases e : x = j
  · rw [if_pos e, List.length_eraseIdx]
    split <;> omega
  · rw [if_neg e]; omega
theorem sel_at {x : Int} {T0 T1 T2 : List Int} {ps : List Pick} (m0 : rowOk 0 T0 ps) (m1 : rowOk 1 T1 ps) (m2 : rowOk 2 T2 ps) (h0 : 0 ≤ x) (h3 : x < 3) : rowOk x (rowSel x T0 T1 T2) ps := by
  have : x = 0 ∨ x = 1 ∨ x = 2 := by omega
  rcases this with rfl | rfl | rfl
  · exact m0
  · exact m1
  · exact m2
theorem getD_mem' {T : List Int} {k : Nat} (h : k < T.length) : T.getD k 0 ∈ T := by
  rw [List.getD_eq_getElem?_getD, List.getElem?_eq_getElem h]
  exact List.getElem_mem h
theorem PalInv.step {i : Nat} {T0 T1 T2 : List Int} {ps : List Pick} (h : PalInv i T0 T1 T2 ps) {x k mu : Int} (hx0 : 0 ≤ x) (hx3 : x < 3) (hk0 : 0 ≤ k) (hk : k < (rowSel x T0 T1 T2).length) (hmu : 1 ≤ mu ∧ mu ≤ 4) (hal : i = 2 → ps.map sideOf ≠ [x, x]) :
    PalInv (i + 1) (cutIf x 0 T0 k) (cutIf x 1 T1 k) (cutIf x 2 T2 k) (ps ++ [((rowSel x T0 T1 T2).getD k.toNat 0, mu)]) := by
  obtain ⟨t1, t2, t3⟩ := (sel_at h.m0 h.m1 h.m2 hx0 hx3).2 _ (getD_mem' (k := k.toNat) (by omega))
  have c0 := cut_len (x := x) (j := 0) (i := k) (T := T0)
  have c1 := cut_len (x := x) (j := 1) (i := k) (T := T1)
  have c2 := cut_len (x := x) (j := 2) (i := k) (T := T2)
  have l0 := h.l0
  have l1 := h.l1
  have l2 := h.l2
  have u0 := h.u0
  have u1 := h.u1
  have u2 := h.u2
  refine ⟨?_, by omega, by omega, by omega, by omega, by omega, by omega, rowOk_cut h.m0 hk0 (fun e => ?_) t2, rowOk_cut h.m1 hk0 (fun e => ?_) t2, rowOk_cut h.m2 hk0 (fun e => ?_) t2, ?_, ?_, ?_⟩
  · rw [List.length_append, h.len]; rfl
  · subst e; exact ⟨hk, rfl⟩
  · subst e; exact ⟨hk, rfl⟩
  · subst e; exact ⟨hk, rfl⟩
  · intro p hp
    rcases List.mem_append.mp hp with hp | hp
    · exact h.pt p hp
    · rw [List.mem_singleton.mp hp]; exact ⟨t1, hmu⟩
  · rw [List.map_append, List.nodup_append]
    refine ⟨h.pn, List.nodup_cons.mpr ⟨List.not_mem_nil, List.nodup_nil⟩, fun a ha b hb => ?_⟩
    rw [List.map_cons, List.map_nil, List.mem_singleton] at hb
    rintro rfl
    exact t3 (by rw [← show a = (rowSel x T0 T1 T2).getD k.toNat 0 from hb]; exact ha)
  · intro y r e
    rw [List.map_append, List.map_cons, List.map_nil] at e
    have hl := h.len
    match ps, hl with
    | [], _ => simp at e
    | [a], _ => simp at e
    | [a, b], hl =>
      simp only [List.map_cons, List.map_nil, List.cons_append, List.nil_append, List.cons.injEq] at e
      refine hal hl.symm ?_
      obtain ⟨e1, e2, e3, _⟩ := e
      have e4 : y = x := by rw [← e3]; exact t2
      simp only [List.map_cons, List.map_nil, e1, e2, e4]
    | a :: b :: c :: ps', _ =>
      simp only [List.map_cons, List.cons_append, List.cons.injEq] at e
      obtain ⟨e1, e2, e3, e4⟩ := e
      refine h.alike y (ps'.map sideOf) ?_
      simp only [List.map_cons, e1, e2, e3]
theorem pal_zero : PalInv 0 [7, 8, 9, 10, 11, 12, 13, 14, 15, 16, 17, 18, 19, 20, 21] [22, 23, 24, 25, 26, 27, 28, 29, 30, 31, 32, 33, 34, 35, 36, 37, 38, 39, 40, 41, 42] [43, 44, 45, 46, 47, 48, 49, 50, 51, 52, 53, 54] [] := by
  refine ⟨rfl, by decide, by decide, by decide, by decide, by decide, by decide, ⟨by decide, by decide⟩, ⟨by decide, by decide⟩, ⟨by decide, by decide⟩, fun _ h => (nomatch h), List.nodup_nil, fun _ _ h => (nomatch h)⟩
/-- the lights lie on the ledger -/
def LightsIn (objs : List (Addr × Obj)) : List Addr → List V3 → Prop
  | [], [] => True
  | a :: as, v :: vs => (∃ t0 t1 t2 k, (a, PySem.W.listOf #[.int v.1 t0, .int v.2.1 t1, .int v.2.2 t2] k) ∈ objs) ∧ LightsIn objs as vs
  | _, _ => False
theorem LightsIn.up {objs objs' : List (Addr × Obj)} (hs : ∀ p ∈ objs, p ∈ objs') : ∀ {as : List Addr} {vs : List V3}, LightsIn objs as vs → LightsIn objs' as vs
  | [], [], _ => trivial
  | _ :: _, _ :: _, ⟨⟨t0, t1, t2, k, h⟩, r⟩ => ⟨⟨t0, t1, t2, k, hs _ h⟩, r.up hs⟩
  | [], _ :: _, h => h.elim
  | _ :: _, [], h => h.elim
theorem LightsIn.snoc {objs : List (Addr × Obj)} {a : Addr} {v : V3} {t0 t1 t2 : Tok} {k : Nat} (hm : (a, PySem.W.listOf #[.int v.1 t0, .int v.2.1 t1, .int v.2.2 t2] k) ∈ objs) : ∀ {as : List Addr} {vs : List V3}, LightsIn objs as vs → LightsIn objs (as ++ [a]) (vs ++ [v])
  | [], [], _ => ⟨⟨t0, t1, t2, k, hm⟩, trivial⟩
  | _ :: _, _ :: _, ⟨h, r⟩ => ⟨h, LightsIn.snoc hm r⟩
  | [], _ :: _, h => h.elim
  | _ :: _, [], h => h.elim
theorem LightsIn.length {objs : List (Addr × Obj)} : ∀ {as : List Addr} {vs : List V3}, LightsIn objs as vs → as.length = vs.length
  | [], [], _ => rfl
  | _ :: _, _ :: _, ⟨_, r⟩ => congrArg Nat.succ r.length
  | [], _ :: _, h => h.elim
  | _ :: _, [], h => h.elim
theorem LightsIn.tris {h₀ h : Heap} {L : Addr} {objs : List (Addr × Obj)} (N : News h₀ L h objs) {as : List Addr} {vs : List V3} (x : LightsIn objs as vs) : Tris h as vs := by
  refine ⟨x.length, ?_⟩
  induction as generalizing vs with
  | nil => exact fun i hi => absurd hi (Nat.not_lt_zero _)
  | cons a as ih =>
    match vs, x with
    | v :: vs, ⟨⟨t0, t1, t2, k, hm⟩, r⟩ =>
      intro i hi
      cases i with
      | zero => exact ⟨t0, t1, t2, News.isList N hm⟩
      | succ i => exact ih r i (Nat.lt_of_succ_lt_succ hi)
theorem map5 {a b c d e : Str} {m m₀ : Str → Option Value} (h : ∀ z, z ≠ a → z ≠ b → z ≠ c → z ≠ d → z ≠ e → m z = m₀ z) : ∃ u1 u2 u3 u4 u5, m = fun z => if z = a then u1 else if z = b then u2 else if z = c then u3 else if z = d then u4 else if z = e then u5 else m₀ z := by
  refine ⟨m a, m b, m c, m d, m e, funext fun z => ?_⟩
  by_cases h1 : z = a
  · rw [if_pos h1, h1]
  · rw [if_neg h1]
    by_cases h2 : z = b
    · rw [if_pos h2, h2]
    · rw [if_neg h2]
      by_cases h3 : z = c
      · rw [if_pos h3, h3]
      · rw [if_neg h3]
        by_cases h4 : z = d
        · rw [if_pos h4, h4]
        · rw [if_neg h4]
          by_cases h5 : z = e
          · rw [if_pos h5, h5]
          · rw [if_neg h5]
            exact h z h1 h2 h3 h4 h5
theorem not_over {n : Int} (h0 : 0 ≤ n) (h : n < 200) : ¬ Flt.Over n := by
  obtain ⟨k, rfl⟩ := Int.eq_ofNat_of_zero_le h0
  have : ∀ k : Nat, k < 200 → ¬ Flt.Over (k : Int) := by decide +kernel
  exact this k (by omega)
theorem toks_bd {t : Int} (h : t ∈ toks) : 7 ≤ t ∧ t ≤ 54 := by
  have : ∀ t ∈ toks, (7 : Int) ≤ t ∧ t ≤ 54 := by decide
  exact this t h
def litOkB (x : UInt64) : Bool := !Float64.isNaN (Float64.mul x (Float64.ofInt 128)) && !Float64.isInf (Float64.mul x (Float64.ofInt 128)) && decide ((lightI x).natAbs < 1000)
set_option maxHeartbeats 4000000 in
theorem light_ok : (toks.all fun t => [0, 1, 2].all fun c => [0, 1, 2, 3].all fun v => let r := hsvF (hueF t c) (valF v); litOkB r.1 && litOkB r.2.1 && litOkB r.2.2) = true := by decide +kernel
def LitOk (x : UInt64) : Prop := Float64.isNaN (Float64.mul x (Float64.ofInt 128)) = false ∧ Float64.isInf (Float64.mul x (Float64.ofInt 128)) = false ∧ (lightI x).natAbs < 2 ^ 1000
theorem litOk_of {x : UInt64} (h : litOkB x = true) : LitOk x := by
  unfold litOkB at h
  simp only [Bool.and_eq_true, Bool.not_eq_true', decide_eq_true_eq] at h
  exact ⟨h.1.1, h.1.2, Nat.lt_of_lt_of_le h.2 (Nat.le_trans (by decide : 1000 ≤ 2 ^ 10) (Nat.pow_le_pow_right (by decide) (by decide)))⟩
theorem litOk_tok {t c v : Int} {a b d : UInt64} (ht : t ∈ toks) (hc0 : 0 ≤ c) (hc : c < 3) (hv0 : 0 ≤ v) (hv : v < 4) (e : hsvF (hueF t c) (valF v) = (a, b, d)) : LitOk a ∧ LitOk b ∧ LitOk d := by
  have h1 := List.all_eq_true.mp light_ok t ht
  have h2 := List.all_eq_true.mp h1 c (by simp; omega)
  have h3 := List.all_eq_true.mp h2 v (by simp; omega)
  simp only [e, Bool.and_eq_true] at h3
  exact ⟨litOk_of h3.1.1, litOk_of h3.1.2, litOk_of h3.2⟩
/-- what stands at a place of the three -/
theorem tri_at {a b c : UInt64} {t0 t1 t2 : Tok} {i : Nat} {v : Value} (h : (#[.float a t0, .float b t1, .float c t2] : Array Value)[i]? = some v) (P : UInt64 → Prop) (ha : P a) (hb : P b) (hc : P c) :
    ∃ x t, v = .float x t ∧ P x ∧ [lightI a, lightI b, lightI c][i]? = some (lightI x) := by
  match i, h with
  | 0, h => cases h; exact ⟨_, _, rfl, ha, rfl⟩
  | 1, h => cases h; exact ⟨_, _, rfl, hb, rfl⟩
  | 2, h => cases h; exact ⟨_, _, rfl, hc, rfl⟩
  | n + 3, h => simp at h
theorem hsvOk_tok {t c : Int} (ht : t ∈ toks) (hc0 : 0 ≤ c) (hc : c < 3) : HsvOk (hueF t c) := by
  have h1 := List.all_eq_true.mp light_table t ht
  have h2 := List.all_eq_true.mp h1 c (by simp; omega)
  have h3 := (Bool.and_eq_true_iff.mp h2).1
  unfold hsvOkB at h3
  simp only [Bool.and_eq_true, Bool.not_eq_true', decide_eq_true_eq] at h3
  exact ⟨h3.1.1, h3.1.2, Nat.lt_of_lt_of_le h3.2 (Nat.le_trans (by decide : 1000 ≤ 2 ^ 10) (Nat.pow_le_pow_right (by decide) (by decide)))⟩
theorem lightV_tok {t c v : Int} (ht : t ∈ toks) (hc0 : 0 ≤ c) (hc : c < 3) (hv0 : 0 ≤ v) (hv : v < 4) : lightV t c v = scale (v + 1) (tokV t) := by
  have h1 := List.all_eq_true.mp light_table t ht
  have h2 := List.all_eq_true.mp h1 c (by simp; omega)
  have h3 := List.all_eq_true.mp (Bool.and_eq_true_iff.mp h2).2 v (by simp; omega)
  exact of_decide_eq_true h3
end Mine
end
section
open PySem PySem.Spec PySem.Calls PySem.W PyProof.Rows
namespace Mine
local macro_rules | `(tactic| walk_at "exec For Name Call cons nil") => `(tactic| (k_here; refine Mine.halt ?_))
local macro_rules | `(tactic| walk_at "exec For Name BinOp cons nil") => `(tactic| (k_here; refine Mine.halt ?_))
local macro_rules | `(tactic| walk_at "exec For Name Name cons nil") => `(tactic| (k_here; refine Mine.halt ?_))
local macro_rules | `(tactic| walk_at "subscriptTail") => `(tactic| (k_here; (with_reducible show wpAny _ _ (subscriptTail _ _ (Value.ref _) (Value.int _ _)) _ _ _); (with_unfolding_all refine' item_anyK ?k1 ?k2 ?k3 ?k4 ?k5 ?_ ?k6; (case k1 => is_list); (case k2 => assumption); (case k3 => omega); (case k4 => omega); (case k5 => omega); (case k6 => with_unfolding_all rfl); k_whole); intro _))
local macro_rules | `(tactic| k_all) => `(tactic| assumption)
local macro_rules | `(tactic| walk_at "call builtin:str.split") => `(tactic| (k_here; (refine PySem.W.KSpl.split0 (by k_asm) (by k_asm) ?_ (by kspl_size)); (intro D' l' h' k' e' a' F' N' l1); (try k_lt l1); clear a'))
local macro_rules | `(tactic| walk_at "pyIter ref") => `(tactic| (refine Mine.halt ?_))
local macro_rules | `(tactic| walk_at "subscriptTail") => `(tactic| (k_here; (with_reducible show wpAny _ _ (subscriptTail _ _ (Value.ref _) (Value.int _ _)) _ _ _); (with_unfolding_all refine' Mine.itemRow ?k1 ?k2 ?k3 ?_ ?k6; (case k1 => is_list); (case k2 => omega); (case k3 => omega); (case k6 => with_unfolding_all rfl); k_whole)))
local macro_rules | `(tactic| walk_at "subscriptTail") => `(tactic| (k_here; (with_reducible show wpAny _ _ (subscriptTail _ _ (Value.ref 64) (Value.str (Mine.wordOf _) _)) _ _ _); (refine' Mine.dictTok ?F ?X ?t ?_ ?hs; (case F => k_asm); (case X => k_asm); (case t => assumption); (case hs => with_unfolding_all rfl)); intro tk9 tk8))
local macro_rules | `(tactic| walk_at "call builtin:len") => `(tactic| (k_here; refine Mine.halt ?_))
local macro_rules | `(tactic| walk_at "getMethod ref") => `(tactic| (k_here; (with_reducible show wpAny _ _ (getMethod (Value.ref (Mine.rowSel _ _ _ _)) _ _) _ _ _); refine Mine.halt ?_))
local macro_rules | `(tactic| walk_at "call builtin:list.pop") => `(tactic| (k_here; refine Mine.halt ?_))
local macro_rules | `(tactic| walk_at "call ref") => `(tactic| (k_here; refine Mine.halt ?_))
local macro_rules | `(tactic| walk_at "eval ListComp") => `(tactic| (k_here; refine Mine.halt ?_))
local macro_rules | `(tactic| walk_at "exec If") => `(tactic| (k_here; refine Mine.halt ?_))
local macro_rules | `(tactic| walk_at "compareOp Eq ref ref") => `(tactic| (k_here; refine Mine.halt ?_))
local macro_rules | `(tactic| walk_at "eval Compare Name Name") => `(tactic| (k_here; refine Mine.halt ?_))
theorem words_of {l : List (Str × Tok)} {ts : List Int} {ws : List Str} (e : l.map (·.1) = ws) (h : ws = ts.map wordOf) : WordsAre (strValues l) ts := by
  subst h
  induction ts generalizing l with
  | nil =>
    cases l with
    | nil => exact .nil
    | cons a l => simp at e
  | cons t ts ih =>
    cases l with
    | nil => simp at e
    | cons a l =>
      obtain ⟨x, u⟩ := a
      simp only [List.map_cons, List.cons.injEq] at e
      obtain ⟨rfl, e⟩ := e
      exact .cons t u (ih e)
theorem news_off {h₀ h h' : Heap} {L L' : Addr} {news own : List (Addr × Obj)} (N : News h₀ L h news) (N' : News h L' h' own) : ∀ p ∈ news, ∀ q ∈ own, p.1 ≠ q.1 := fun p hp q hq e => by
  have h1 := (N p hp).1
  have h2 := (N' q hq).2.2
  rw [e, h2] at h1
  cases h1
theorem Fr.rename2 {h₀ h : Heap} {L : Addr} {x : Str} {u v : Option Value} {m : Str → Option Value} (F : Fr h₀ L h (fun z => if z = x then u else (fun z => if z = x then v else m z) z)) : Fr h₀ L h (fun z => if z = x then u else m z) := by
  have e := map_again x u v m
  rwa [e] at F
theorem nameM {h₀ h : Heap} {L : Addr} {x : Str} {v : Option Value} {m : Str → Option Value} {P : Prop} (F : Fr h₀ L h (fun z => if z = x then v else m z)) (k : ∀ m', m' = m → Fr h₀ L h (fun z => if z = x then v else m' z) → P) : P := k m rfl F
theorem nameL {h₀ h : Heap} {L : Addr} {l : List (Addr × Obj)} {P : Prop} (N : News h₀ L h l) (k : ∀ l', l' = l → News h₀ L h l' → P) : P := k l rfl N
def SideEnd (s₀ : Shared) (h₀ : Heap) (L : Addr) (m : Str → Option Value) (news : List (Addr × Obj)) (P : Int → Prop) (f : Flow) (s' : Shared) : Prop :=
  ∃ sd t h' tk', f = .next ∧ s' = { s₀ with heap := h', toks := tk' } ∧ P sd ∧ Fr h₀ L h' (fun z => if z = Str.ofString "side" then some (.int sd t) else m z) ∧ News h₀ L h' news
theorem nameN6 {h₀ h : Heap} {L a b c d e f : Addr} {x y z : Obj} {w2 w1 w0 : List Value} {k2 k1 k0 : Nat} {r : List (Addr × Obj)} {P : Prop} (N : News h₀ L h ((a, x) :: (b, y) :: (c, z) :: (d, PySem.W.listOf w2.toArray k2) :: (e, PySem.W.listOf w1.toArray k1) :: (f, PySem.W.listOf w0.toArray k0) :: r))
    (k : ∀ a' b' c' d' e' f' w2' w1' w0' k2' k1' k0', a' = a → b' = b → c' = c → d' = d → e' = e → f' = f → w2' = w2 → w1' = w1 → w0' = w0 → k2' = k2 → k1' = k1 → k0' = k0 → News h₀ L h ((a', x) :: (b', y) :: (c', z) :: (d', PySem.W.listOf w2'.toArray k2') :: (e', PySem.W.listOf w1'.toArray k1') :: (f', PySem.W.listOf w0'.toArray k0') :: r) → P) : P := k a b c d e f w2 w1 w0 k2 k1 k0 rfl rfl rfl rfl rfl rfl rfl rfl rfl rfl rfl rfl N
set_option maxRecDepth 100000 in
set_option maxHeartbeats 8000000 in
theorem pal_spec {w : World} {p : Program} {loose : List Str} {mean : ExcName → Option Value} {mg mb : Str → Option Value}
   {dp un : Nat} {gd : Option (List Code)} {cn : Str} {cs : Scope} {a : Addr} {ccd : Value} {cl : List (Str × Addr)} {outer : List Env} {A₀ : Around} {base h₀ : Heap} {L : Addr} {m : Str → Option Value} {s : Shared} {Q E : Value → Shared → Prop} {news : List (Addr × Obj)}
   {l1 : Addr} {v1 : List Value} {s1 : List Int} {n : Nat} {u : Tok} :
   Below A₀ base outer h₀ → Fr h₀ L s.heap m → (Mine.hd.heap_39 w.params).In h₀ → News h₀ L s.heap news → Top p loose mean mg mb h₀ → cs.kind = .function →
   dp + 20 < recursionLimit → un + 8 * 20 < cLine →
   s.heap.IsList l1 v1.toArray → IntsAre v1 s1 → s1.length = 7 → (∀ x ∈ s1, 0 ≤ x ∧ x < 2 ^ 40) → Halt (5 ≤ n ∧ n ≤ 6) →
   (∀ (ps : List Pick) (sv : List Value) (as : List Addr) (n1 n2 nT : Nat) (objs : List (Addr × Obj)) (T sA lA : Addr) (h' : Heap) (tk' : Nat), ps.length = n → (∀ p ∈ ps, p.1 ∈ toks ∧ 1 ≤ p.2 ∧ p.2 ≤ 4) → (ps.map Prod.fst).Nodup → (∀ x : Int, ∀ r, ps.map sideOf ≠ x :: x :: x :: r) → IntsAre sv (ps.map sideOf) → LightsIn objs as (ps.map lightOf) →
      Fr h₀ L h' m → News h₀ L h' ((T, { cls := .type "tuple", data := .seq #[.ref sA, .ref lA] nT }) :: (sA, PySem.W.listOf sv.toArray n1) :: (lA, PySem.W.listOf (as.map Value.ref).toArray n2) :: (objs ++ news)) →
      (∀ p ∈ news, ∀ q ∈ (T, ({ cls := .type "tuple", data := .seq #[.ref sA, .ref lA] nT } : Obj)) :: (sA, PySem.W.listOf sv.toArray n1) :: (lA, PySem.W.listOf (as.map Value.ref).toArray n2) :: objs, p.1 ≠ q.1) → s.heap.StaysIn h' → Q (.ref T) { s with heap := h', toks := tk' }) →
   wpAny (model PySem.Challenge.rw_tl0028_01.prog w) (ktrTop dp un gd cn cs L a ccd cl outer) (call (.ref 92) [.ref l1, .int (n : Int) u]) Q E s := by
  w_top off
  k_fill
  intro B F X N T hk hd hu hL hI h7 hb hn hret
  have h7' : s1.length = 7 := h7
  refine wpAny_call ?_
  k_dflt (first
    | (refine' Mine.enterRL ?k1 ?k2 ?k3 ?k5 ?kA ?kF ?kK ?k6 ?k7 ?k8 ?k9 ?kB ?_ ?c2 ?c3 ?c4 ?c5; (case kA => exact rfl); (case kF => exact rfl); (case kK => assumption); (case k1 => k_asm); (case k2 => k_asm); (case k3 => k_asm); (case k5 => k_asm); (case k6 => k_is); (case k7 => k_is); (case k8 => ktr_room); (case k9 => exact BindsTo.of_eq rfl); (case c5 => decide); (case kB => exact locs rfl); (case c2 => exact rfl); (case c3 => exact rfl); (case c4 => exact rfl); k_whole; intro lE hE tkE fgE envE aE mE fE nE bE xE tE; (try dsimp only); (try ((show wpAny _ _ _ _ _ _); k_fold)))
    | (refine' Mine.enterRCL ?k1 ?k2 ?k3 ?k5 ?kA ?kF ?kK ?k6 ?k7 ?k8 ?k9 ?kB ?kD ?_ ?c2 ?c3 ?c4; (case kA => exact rfl); (case kF => exact rfl); (case kK => assumption); (case k1 => k_asm); (case k2 => k_asm); (case k3 => k_asm); (case k5 => k_asm); (case k6 => k_is); (case k7 => k_is); (case k8 => ktr_room); (case k9 => exact BindsTo.of_eq rfl); (case kB => exact rfl); (case kD => decide +kernel); (case c2 => exact rfl); (case c3 => exact rfl); (case c4 => exact rfl); k_whole; intro lE hE tkE cellsE fgE envE aE mE fE nE yE bE xE tE; k_cells yE; (try simp only [List.cons_append, List.nil_append, List.append_nil] at nE); (try dsimp only); (try ((show wpAny _ _ _ _ _ _); k_fold))))
  k_steps
  refine Halt.go ?_
  rename Fr _ _ _ _ => F1
  rename News _ _ _ _ => N1
  refine nameF F1 ?_
  intro L1 e1
  subst e1
  refine nameN6 N1 ?_
  intro lA sA wA r2 r1 r0 w2 w1 w0 k2 k1 k0 e1 e2 e3 e4 e5 e6 e7 e8 e9 e10 e11 e12 N2
  subst e1 e2 e3 e4 e5 e6
  rename List.map _ _ = Txt.words _ => q2
  have a2 : WordsAre w2 [43, 44, 45, 46, 47, 48, 49, 50, 51, 52, 53, 54] := by rw [e7]; exact words_of q2 (by decide +kernel)
  clear q2
  rename List.map _ _ = Txt.words _ => q1
  have a1 : WordsAre w1 [22, 23, 24, 25, 26, 27, 28, 29, 30, 31, 32, 33, 34, 35, 36, 37, 38, 39, 40, 41, 42] := by rw [e8]; exact words_of q1 (by decide +kernel)
  clear q1
  rename List.map _ _ = Txt.words _ => q0
  have a0 : WordsAre w0 [7, 8, 9, 10, 11, 12, 13, 14, 15, 16, 17, 18, 19, 20, 21] := by rw [e9]; exact words_of q0 (by decide +kernel)
  clear q0
  clear e7 e8 e9 e10 e11 e12 N1
  with_unfolding_all refine' For_invVF F1 ?k1 ?k2 ?_
  case k1 => exact rfl
  case k2 => exact rfl
  k_whole
  k_steps
  refine Halt.go ?_
  rename Fr _ _ _ _ => F3
  rename News _ _ _ _ => N3
  rename IsRange _ _ _ _ _ _ _ _ => R3
  obtain ⟨hn5, hn6⟩ : 5 ≤ n ∧ n ≤ 6 := hn
  with_unfolding_all refine iter_rangeUnr (n := n) (by rfl) R3 (by first | exact small_one (by omega) (by omega) (by omega) (by omega)) (by first | exact rangeSize_nat _ _ | rfl) F3 N3 ?_
  repeat (rename Fr s.heap L1 _ _ => e0; clear e0)
  repeat (rename News s.heap L1 _ _ => e0; clear e0)
  intro I hI
  k_lt hI
  refine rangeRest_of (J := fun m₀ i m rest => Halt (∃ T0 T1 T2 w0 w1 w2 k0 k1 k2 ps sv as n1 n2 objs,
    (∀ z, z ≠ Str.ofString "k" → z ≠ Str.ofString "side" → z ≠ Str.ofString "word" → z ≠ Str.ofString "hue" → z ≠ Str.ofString "value" → m z = m₀ z) ∧
    rest = (lA, PySem.W.listOf (as.map Value.ref).toArray n1) :: (sA, PySem.W.listOf sv.toArray n2) :: (wA, PySem.W.listOf #[.ref r0, .ref r1, .ref r2] 0) :: (r2, PySem.W.listOf w2.toArray k2) :: (r1, PySem.W.listOf w1.toArray k1) :: (r0, PySem.W.listOf w0.toArray k0) :: objs ∧
    WordsAre w0 T0 ∧ WordsAre w1 T1 ∧ WordsAre w2 T2 ∧ IntsAre sv (ps.map sideOf) ∧ LightsIn objs as (ps.map lightOf) ∧ PalInv i T0 T1 T2 ps ∧
    (∀ p ∈ objs, p.1 ≠ I) ∧ (∀ p ∈ objs, p.1 ≠ lA) ∧ (∀ p ∈ objs, p.1 ≠ sA) ∧ (∀ p ∈ objs, p.1 ≠ r0 ∧ p.1 ≠ r1 ∧ p.1 ≠ r2))) ?_ ?_ ?_
  · exact Halt.go ⟨_, _, _, w0, w1, w2, k0, k1, k2, [], [], [], _, _, [], fun _ _ _ _ _ _ => rfl, rfl, a0, a1, a2, .nil, trivial, pal_zero, List.forall_mem_nil _, List.forall_mem_nil _, List.forall_mem_nil _, List.forall_mem_nil _⟩
  · clear a0 a1 a2 w0 w1 w2 k0 k1 k2
    rintro i m1 news1 t1 h1 tk1 hi HJ9 F' N'
    refine Mine.letP ?_
    intro G9
    obtain ⟨T0, T1, T2, w0, w1, w2, k0, k1, k2, ps, sv, as, n1, n2, objs, hm, rfl, a0, a1, a2, hsv, hli, hinv, oI, oL, oS, oR⟩ := HJ9
    obtain ⟨u1, u2, u3, u4, u5, rfl⟩ := map5 hm
    have hc := ints_mem (k := 0 + (i : Int)) hb (by omega) (by omega)
    have hm0 := fmod_lo (s1.getD (0 + (i : Int)).toNat 0) (n := 3) (by omega)
    have hm1 := fmod_hi (s1.getD (0 + (i : Int)).toNat 0) (n := 3) (by omega)
    have hl := hinv.len
    have hsl := hsv.length
    have hal := hli.length
    rw [List.length_map] at hsl hal
    have hT0 := hinv.l0
    have hT1 := hinv.l1
    have hT2 := hinv.l2
    have hU0 := hinv.u0
    have hU1 := hinv.u1
    have hU2 := hinv.u2
    show wpAny _ _ _ _ _ _
    try dsimp only
    try ((show wpAny _ _ _ _ _ _); k_fold)
    k_steps
    refine Halt.go ?_
    rename Fr _ _ _ _ => F5
    rename News _ _ _ _ => N5
    refine nameM F5 ?_
    intro m5 em5 F6
    refine nameL N5 ?_
    intro led eled N6
    refine wpAny_mono (Q := SideEnd s s.heap L1 m5 led (fun sd => 0 ≤ sd ∧ sd < 3 ∧ (i = 2 → ps.map sideOf ≠ [sd, sd]))) ?_ ?_ fun _ _ x => x
    · subst em5 eled
      clear F6 N6
      refine wpAny_If ?_
      k_steps
      · refine Halt.go ?_
        rename News _ _ _ _ => N8
        rename (0 + (i : Int)) = 2 => e8
        k_dflt refine eq_intsK (ns := ps.map sideOf) (ms := [_, _]) (News.isList N8 (List.mem_cons_of_mem _ (List.mem_cons_of_mem _ (List.mem_cons_of_mem _ List.mem_cons_self)))) hsv (News.isList N8 List.mem_cons_self) (.cons _ _ (.cons _ _ .nil)) ?_ ?_
        · ((dsimp +zetaDelta only); ktr_units)
        · have hz0 := fmod_lo ((s1.getD (0 + (i : Int)).toNat 0).fmod 3 + 1) (n := 3) (by omega)
          have hz1 := fmod_hi ((s1.getD (0 + (i : Int)).toNat 0).fmod 3 + 1) (n := 3) (by omega)
          k_steps
          · rename Fr _ _ _ _ => F9
            rename News _ _ _ _ => N9
            rename List.map sideOf ps = _ => e9
            have hne : ((s1.getD (0 + (i : Int)).toNat 0).fmod 3 + 1).fmod 3 ≠ (s1.getD (0 + (i : Int)).toNat 0).fmod 3 := by
              have h3 : (s1.getD (0 + (i : Int)).toNat 0).fmod 3 = 0 ∨ (s1.getD (0 + (i : Int)).toNat 0).fmod 3 = 1 ∨ (s1.getD (0 + (i : Int)).toNat 0).fmod 3 = 2 := by omega
              rcases h3 with h3 | h3 | h3 <;> rw [h3] <;> decide
            refine ⟨_, _, _, _, rfl, rfl, ⟨hz0, hz1, fun _ => ?_⟩, Fr.rename2 F9, news_sub N9 fun q hq => List.mem_cons_of_mem _ hq⟩
            rw [e9]
            intro e10
            injection e10 with e10 _
            exact hne e10.symm
          · rename Fr _ _ _ _ => F9
            rename News _ _ _ _ => N9
            rename ¬ (List.map sideOf ps = _) => e9
            exact ⟨_, _, _, _, rfl, rfl, ⟨hm0, hm1, fun _ => e9⟩, F9, news_sub N9 fun q hq => List.mem_cons_of_mem _ hq⟩
      · rename Fr _ _ _ _ => F8
        rename News _ _ _ _ => N8
        rename ¬ ((0 : Int) + (i : Int) = 2) => e8
        refine ⟨_, _, _, _, rfl, rfl, ⟨hm0, hm1, fun e => ?_⟩, F8, N8⟩
        exact absurd (by rw [e]; rfl) e8
    · rintro fl s5 HJ9
      refine Mine.letP ?_
      intro G9
      obtain ⟨sd, t5, h5, tk5, rfl, rfl, ⟨hs0, hs3, hsn⟩, F7, N7⟩ := HJ9
      subst em5 eled
      clear F5 F6 N5 N6
      show wpAny _ _ _ _ _ _
      try dsimp only
      try ((show wpAny _ _ _ _ _ _); k_fold)
      k_steps
      refine Halt.go ?_
      have hsel := rowLen (x := sd) (n := 5) (T0 := T0) (T1 := T1) (T2 := T2) (by omega) (by omega) (by omega)
      have hsU : (rowSel sd T0 T1 T2).length < 100 := by unfold rowSel; split <;> (try split) <;> omega
      have hq0 := fmod_lo ((s1.getD (0 + (i : Int)).toNat 0).fdiv 3) (n := ((rowSel sd T0 T1 T2).length : Int)) (by omega)
      have hq1 := fmod_hi ((s1.getD (0 + (i : Int)).toNat 0).fdiv 3) (n := ((rowSel sd T0 T1 T2).length : Int)) (by omega)
      have hc0 := fmod_lo ((s1.getD (0 + (i : Int)).toNat 0).fdiv 63) (n := 3) (by omega)
      have hc1 := fmod_hi ((s1.getD (0 + (i : Int)).toNat 0).fdiv 63) (n := 3) (by omega)
      have hv0 := fmod_lo ((s1.getD (0 + (i : Int)).toNat 0).fdiv 189) (n := 4) (by omega)
      have hv1 := fmod_hi ((s1.getD (0 + (i : Int)).toNat 0).fdiv 189) (n := 4) (by omega)
      rename News _ _ _ _ => N8
      refine methRow N8 (by k_mem) (by k_mem) (by k_mem) hs0 hs3 ?_
      k_steps
      refine Halt.go ?_
      rename News _ _ _ _ => N8
      refine lenRow N8 (by k_mem) (by k_mem) (by k_mem) a0 a1 a2 hs0 hs3 (by omega) ?_
      intro tl9 tk9
      k_steps
      refine Halt.go ?_
      rename News _ _ _ _ => N9
      rename Fr _ _ _ _ => F9
      refine popRow (pre := [_, _, _, _]) F9 N9 a0 a1 a2 hs0 hs3 hq0 hq1 hsU (by k_ne) (by k_ne) (by k_ne) ?_ oR ?_
      · intro q hq
        simp only [List.mem_cons, List.not_mem_nil, or_false] at hq
        rcases hq with rfl | rfl | rfl | rfl <;> refine ⟨?_, ?_, ?_⟩ <;> k_ne
      intro u9 h9 w0' w1' w2' k0' k1' k2' b0 b1 b2 F10 N10
      clear F9 N9
      try simp only [List.cons_append, List.nil_append] at N10
      have hpin := (sel_at hinv.m0 hinv.m1 hinv.m2 hs0 hs3).2 _ (getD_mem' (k := (((s1.getD (0 + (i : Int)).toNat 0).fdiv 3).fmod ((rowSel sd T0 T1 T2).length : Int)).toNat) (by omega))
      generalize htok : (rowSel sd T0 T1 T2).getD (((s1.getD (0 + (i : Int)).toNat 0).fdiv 3).fmod ((rowSel sd T0 T1 T2).length : Int)).toNat 0 = tok at hpin ⊢
      obtain ⟨ht1, ht2, ht3⟩ := hpin
      have htb := toks_bd ht1
      have hov1 := not_over (n := tok + 64 * ((s1.getD (0 + (i : Int)).toNat 0).fdiv 63).fmod 3) (by omega) (by omega)
      have hov2 := not_over (n := 1 + ((s1.getD (0 + (i : Int)).toNat 0).fdiv 189).fmod 4) (by omega) (by omega)
      k_steps
      all_goals try (exfalso; first | exact hov1 (by assumption) | exact hov2 (by assumption) | (rename Float64.isZero _ = true => ez; exact absurd ez (by decide +kernel)))
      refine Halt.go ?_
      k_dflt refine ListComp_tup (_F₀ := by k_asm) (by with_unfolding_all rfl) (by decide) (by rfl) (by decide) (by rfl) (by rfl) ?_
      k_steps
      refine Halt.go ?_
      k_dflt (refine' Mine.hsv_spec ?B9 ?F9 ?X9 ?N9 ?T9 ?hk9 ?hd9 ?hu9 (hsvOk_tok ht1 hc0 hc1) ?ret9)
      case B9 => k_asm
      case F9 => k_asm
      case X9 => k_asm
      case N9 => k_asm
      case T9 => k_asm
      case hk9 => exact rfl
      case hd9 => ktr_room
      case hu9 => ktr_units
      intro t90 t91 t92 fa fb fc T9 h91 tk91 hF9 F9 N9 off9 S9
      have hlv : lightV tok (((s1.getD (0 + (i : Int)).toNat 0).fdiv 63).fmod 3) (((s1.getD (0 + (i : Int)).toNat 0).fdiv 189).fmod 4) = (lightI fa, lightI fb, lightI fc) := by
        unfold lightV
        rw [show hsvF (hueF tok (((s1.getD (0 + (i : Int)).toNat 0).fdiv 63).fmod 3)) (valF (((s1.getD (0 + (i : Int)).toNat 0).fdiv 189).fmod 4)) = _ from hF9]
      obtain ⟨ok1, ok2, ok3⟩ := litOk_tok ht1 hc0 hc1 hv0 hv1 hF9
      rw [lightV_tok ht1 hc0 hc1 hv0 hv1] at hlv
      dsimp only
      refine Halt.go ⟨T9, #[.float fa t90, .float fb t91, .float fc t92], _, rfl, F9, N9, ⟨_, List.mem_cons_self, rfl, _, rfl⟩, by show 3 ≤ _; rw [PySem.sizeLine_eq]; decide, fun g => ?_⟩
      refine nameL N9 ?_
      intro led eled N10
      rw [← eled]
      have hTin : TupAtL T9 #[.float fa t90, .float fb t91, .float fc t92] led := ⟨_, by rw [eled]; exact List.mem_cons_self, rfl, _, rfl⟩
      refine compRest_of (J := fun i ys nw => nw = led ∧ IntsAre ys ([lightI fa, lightI fb, lightI fc].take i)) ⟨rfl, .nil⟩ ?_ ?_
      · rintro j ys nw v I2 oI2 C oC D2 m₂ h2 tk2 E' hj ⟨rfl, hys⟩ hv hC hx F' N' off ne
        obtain ⟨x, tx, rfl, ⟨okx1, okx2, okx3⟩, hx9⟩ := tri_at hv LitOk ok1 ok2 ok3
        have hov3 := not_over (n := 128) (by decide) (by decide)
        unfold lightI at okx3
        clear N9 N10 F9
        try ((show wpAny _ _ _ _ _ _); k_fold)
        k_steps
        refine LCg.CompEnd.intro (by assumption) (by assumption) nw (by kcf_all) off hTin ⟨rfl, ?_⟩
        rw [List.take_add_one, hx9]
        exact IntsAre.append hys (.cons _ _ .nil)
      · rintro ys nw ⟨rfl, hys⟩ D2 h2 tk2 F' N' off
        dsimp only
        subst eled
        clear N9 N10 F9
        rw [List.take_of_length_le (by exact Nat.le_refl 3)] at hys
        obtain ⟨q0, q1, q2, rfl⟩ := ints_of3 hys
        have fI : @Ne Nat I T9 := off9 _ List.mem_cons_self
        have fl : @Ne Nat lA T9 := off9 _ (List.mem_cons_of_mem _ List.mem_cons_self)
        have gT : @Ne Nat T9 D2 := off.1
        have gI : @Ne Nat I D2 := off.2.1
        have gl : @Ne Nat lA D2 := off.2.2.1
        have gs : @Ne Nat sA D2 := off.2.2.2.1
        have fs : @Ne Nat sA T9 := off9 _ (List.mem_cons_of_mem _ (List.mem_cons_of_mem _ List.mem_cons_self))
        k_steps
        rename Fr _ _ _ _ => F12
        rename News _ _ _ _ => N12
        rw [push_refs, List.push_toArray] at N12
        have hst := hinv.step (mu := ((s1.getD (0 + (i : Int)).toNat 0).fdiv 189).fmod 4 + 1) hs0 hs3 hq0 hq1 ⟨by omega, by omega⟩ hsn
        rw [htok] at hst
        have oR' : ∀ p ∈ (D2, LCg.lst [Value.int (lightI fa) q0, Value.int (lightI fb) q1, Value.int (lightI fc) q2]) :: objs, p.1 ≠ r0 ∧ p.1 ≠ r1 ∧ p.1 ≠ r2 := List.forall_mem_cons.mpr ⟨⟨Ne.symm off.2.2.2.2.2.2.2.1, Ne.symm off.2.2.2.2.2.2.1, Ne.symm off.2.2.2.2.2.1⟩, oR⟩
        refine UnrEnd.intro F12 N12 ((lA, PySem.W.listOf ((as ++ [D2]).map Value.ref).toArray (n1 + 1)) :: (sA, PySem.W.listOf (sv ++ [Value.int sd t5]).toArray (n2 + 1)) :: (wA, PySem.W.listOf #[Value.ref r0, Value.ref r1, Value.ref r2] 0) :: (r2, PySem.W.listOf w2'.toArray k2') :: (r1, PySem.W.listOf w1'.toArray k1') :: (r0, PySem.W.listOf w0'.toArray k0') :: (D2, LCg.lst [Value.int (lightI fa) q0, Value.int (lightI fb) q1, Value.int (lightI fc) q2]) :: objs) (by kcf_all) ?_ ?_
        · exact off1_cons (by k_ne) (off1_cons (by k_ne) (off1_cons (by k_ne) (off1_cons (by k_ne) (off1_cons (by k_ne) (off1_cons (by k_ne) (off1_cons (Ne.symm gI) oI))))))
        · refine Halt.go ⟨_, _, _, w0', w1', w2', k0', k1', k2', ps ++ [(tok, ((s1.getD (0 + (i : Int)).toNat 0).fdiv 189).fmod 4 + 1)], _, as ++ [D2], _, _, _, fun z h1 h2 h3 h4 h5 => ?_, rfl, b0, b1, b2, ?_, ?_, hst, off1_cons (Ne.symm gI) oI, off1_cons (Ne.symm gl) oL, off1_cons (Ne.symm gs) oS, oR'⟩
          · simp only [h1, h2, h3, h4, h5, if_false]
          · rw [List.map_append]
            refine IntsAre.append hsv ?_
            rw [show [(tok, ((s1.getD (0 + (i : Int)).toNat 0).fdiv 189).fmod 4 + 1)].map sideOf = [sd] by rw [← ht2]; rfl]
            exact .cons _ _ .nil
          · rw [List.map_append]
            refine LightsIn.snoc (k := 3) (t0 := q0) (t1 := q1) (t2 := q2) (v := lightOf (tok, ((s1.getD (0 + (i : Int)).toNat 0).fdiv 189).fmod 4 + 1)) ?_ (hli.up fun q hq => List.mem_cons_of_mem _ hq)
            rw [show lightOf (tok, ((s1.getD (0 + (i : Int)).toNat 0).fdiv 189).fmod 4 + 1) = (lightI fa, lightI fb, lightI fc) from hlv]
            exact List.mem_cons_self
  · clear a0 a1 a2 w0 w1 w2 k0 k1 k2
    rintro m1 news1 h1 tk1 HJ9 F' N'
    refine Mine.letP ?_
    intro G9
    obtain ⟨T0, T1, T2, w0, w1, w2, k0, k1, k2, ps, sv, as, n1, n2, objs, hm, rfl, a0, a1, a2, hsv, hli, hinv, oI, oL, oS, oR⟩ := HJ9
    obtain ⟨u1, u2, u3, u4, u5, rfl⟩ := map5 hm
    show wpAny _ _ _ _ _ _
    try dsimp only
    try ((show wpAny _ _ _ _ _ _); k_fold)
    k_steps
    rename Fr s.heap _ _ _ => F12
    rename News s.heap _ _ _ => N12
    have N13 : News s.heap L1 _ ((_, _) :: (sA, PySem.W.listOf sv.toArray n2) :: (lA, PySem.W.listOf (as.map Value.ref).toArray n1) :: objs) := news_sub N12 (by kcf_all)
    exact hret ps sv as _ _ _ objs _ sA lA _ _ hinv.len hinv.pt hinv.pn hinv.alike hsv hli (by k_asm) (news_up F N (Fr.keep F12) N13) (news_off N N13) (Fr.keep F12)
end Mine
end
section
open PySem PySem.Spec PySem.Calls PySem.W PyProof.Rows
set_option maxRecDepth 100000
namespace Mine
section
variable {prog : Program} {w : World} {A₀ A : Around} {s : Shared} {base h₀ : Heap} {outer : List Env} {L : Addr} {m : Str → Option Value} {env : Env}
  {R : Result → Shared → Prop} {name qual : Str} {params : Arguments} {body : List Stmt} {scope : Scope} {cl : List (Str × Addr)} {dV kV doc pm cdv ct oc : Value} {an od : Option Addr} {osl : Array (Option Value)} {fo : Obj} {f : Addr} {args : Args} {binds : List (Str × Value)}
  {K : Frag} {p : Program} {loose : List Str} {mean : ExcName → Option Value} {mg mb : Str → Option Value}
/-- a def with cells is entered, the heap without the tables its base, the tables its ledger -/
theorem enterTC (tabs : List (Addr × Obj)) (B : Below A₀ base outer h₀) (F : Fr h₀ L s.heap m) (X₀ : K.In h₀) (N : News h₀ L s.heap tabs) (T : Top p loose mean mg mb h₀) (hA : A.frames = some (env :: outer)) (hf : env.frame = some L) (hke : env.scope.kind = .function)
    (ho : K.lookup f = some ⟨oc, od, .func (fnOf name qual params body scope dV kV doc pm an cdv ct), osl⟩) (hcd : codeIn K cdv qual = true) (hroom : A.depth < recursionLimit)
    (hbind : BindsTo s (fnOf name qual params body scope dV kV doc pm an cdv ct) args binds) (hkind : (binds.all fun y => scope.names.lookup y.1 == some .local || scope.names.lookup y.1 == some .cell) = true)
    (hnd : ((cellsFrom 0 scope.names []).map (·.1)).Nodup)
    (h : ∀ g L' h₁ tk cells, (∀ b o, s.heap.get? b = some o → b ∉ tabs.map (·.1) → g.get? b = some o) → h₀.StaysIn g → Fr h₀ L g m → let env' := envOfC qual scope L' f cdv; let A' := A.deeper env'; let M' : Str → Option Value := bindL env'.kindOf binds fun _ => none; Fr g L' h₁ M' → News g L' h₁ (cells ++ tabs) →
      CellsAre (bindC env'.kindOf binds fun _ => none) (cellsFrom (L' + 1) scope.names []) cells → Below A base (env :: outer) g → K.In g → Top p loose mean mg mb g → (∀ p ∈ tabs, p.1 < L') →
      wpAny (model prog w) A' (execs body env')
        (fun fl s' => LeaveK h₀ L m g R (match fl with | .ret v => v | _ => .none) s')
        (fun e s' => wpAny (model prog w) A' (leaving env' e) (fun _ s'' => R (.error e) s'') (fun e' s'' => R (.error e') s'') s')
        ⟨h₁, s.gens, s.drawn, tk, s.os⟩)
    (hco : scope.isCoroutine = false) (hgen : scope.isGenerator = false) (hk : scope.kind = .function) : codeAny (model prog w) A (.call (.ref f) args) R s := by
  obtain ⟨FG, BG, st, lv⟩ := groundX (R := R) B F N hA hf hke
  refine codeAny_call_function (fd := fnOf name qual params body scope dV kV doc pm an cdv ct) hroom ((X₀.keeps F.keep) _ _ ho) rfl hco hgen rfl (codeRec_of (X₀.keeps F.keep) hcd) (hbind _ _ _ _ ?_)
  refine wpAny_newFunctionEnv_cells hk (kindsX hkind _) fun env' he s' x => ?_
  subst he
  refine ⟨(T.nolimit.keeps F.keep).keeps x.toInCall.keep, codeAny_func ?_⟩
  obtain ⟨h₁, tk, rfl, _⟩ := x.done
  have hk₁ := x.toInCall.keep
  obtain ⟨cells, NC, Y⟩ := Cl.news (h₀ := s.heap) (Nat.le_refl _) fun n c hm => ⟨x.cell n c (lookup_of_mem_nodup (cellsFrom_names scope.names 0 (s.heap.objs.size + 1) [] [] rfl ▸ hnd) hm), x.above n c hm⟩
  have NT : News (hideAll s.heap (tabs.map (·.1))) s.heap.objs.size h₁ (cells ++ tabs) := fun q hq => by
    rcases List.mem_append.mp hq with hq | hq
    · refine ⟨(NC q hq).1, (NC q hq).2.1, ?_⟩
      rcases hv : (hideAll s.heap (tabs.map (·.1))).get? q.1 with _ | o
      · exact hv
      · exact absurd (of_hideAll _ hv) (by rw [(NC q hq).2.2]; exact fun x => nomatch x)
    · exact ⟨hk₁ _ _ (N q hq).1, Nat.ne_of_lt (Heap.lt_size (N q hq).1), hideAll_none _ (List.mem_map_of_mem hq)⟩
  exact wpAny_mono (h _ s.heap.objs.size h₁ tk cells (fun b o e n => hideAll_get _ e n) st FG ⟨x.toInCall.ns, fun b o e => hk₁ b o (of_hideAll _ e), Nat.le_of_eq (hideAll_size _ _)⟩ NT Y BG (X₀.keeps st) (T.keeps st) fun q hq => Heap.lt_size (N q hq).1) (fun fl s' hl => lv _ _ hl) fun _ _ y => y
end
theorem tabs_nil {ps qs : Array Value} {c30 c37 news : List (Addr × Obj)} (h : Tabs ps c30 qs c37 news) : Tabs ps c30 qs c37 [] := by
  refine ⟨h.t30, h.t37, fun p hp => h.n30 p ?_, fun q hq r hr => h.d30 q hq r ?_, fun p hp => h.n37 p ?_, fun q hq r hr => nomatch hr⟩ <;> simp only [List.mem_append, List.mem_cons, List.append_nil] at * <;> grind
theorem tabs_sub {ps qs : Array Value} {c30 c37 news : List (Addr × Obj)} : ∀ p ∈ tabL ps c30 qs c37 [], p ∈ tabL ps c30 qs c37 news := fun p hp => by
  unfold tabL at *
  simp only [List.mem_append, List.mem_cons, List.append_nil] at *
  grind
/-- with a rest that is off the tables -/
theorem tabs_with {ps qs : Array Value} {c30 c37 news : List (Addr × Obj)} (h : Tabs ps c30 qs c37 []) (ho : ∀ p ∈ news, ∀ q ∈ tabL ps c30 qs c37 [], p.1 ≠ q.1) : Tabs ps c30 qs c37 news := by
  unfold tabL at ho
  refine ⟨h.t30, h.t37, fun p hp => ?_, fun q hq r hr => ?_, fun p hp => ?_, fun q hq r hr => ho r hr q (by simp [hq])⟩
  · rcases List.mem_append.mp hp with hp | hp
    · exact h.n30 p (by simp [hp])
    · rcases List.mem_cons.mp hp with rfl | hp
      · exact h.n30 _ (by simp)
      · rcases List.mem_append.mp hp with hp | hp
        · exact h.n30 p (by simp [hp])
        · exact ho p hp (30, tabObj ps) (by simp)
  · rcases List.mem_cons.mp hr with rfl | hr
    · exact h.d30 q hq _ (by simp)
    · rcases List.mem_append.mp hr with hr | hr
      · exact h.d30 q hq r (by simp [hr])
      · exact ho r hr q (by simp [hq])
  · rcases List.mem_append.mp hp with hp | hp
    · exact h.n37 p (by simp [hp])
    · exact ho p hp (37, tabObj qs) (by simp)
theorem tabs_join {h₀ h : Heap} {L : Addr} {ps qs : Array Value} {c30 c37 news : List (Addr × Obj)} (N : News h₀ L h (tabL ps c30 qs c37 [])) (N' : News h₀ L h news) : News h₀ L h (tabL ps c30 qs c37 news) := fun p hp => by
  unfold tabL at *
  simp only [List.mem_append, List.mem_cons] at hp
  rcases hp with hp | hp | hp | hp | hp
  · exact N p (by simp [hp])
  · exact N p (by simp [hp])
  · exact N p (by simp [hp])
  · exact N p (by simp [hp])
  · exact N' p hp
/-- after a call that had the tables alone for its ledger -/
theorem tabs_back {h₀ g h h' : Heap} {L L' : Addr} {m m' : Str → Option Value} {ps qs ps' qs' : Array Value} {c30 c37 c30' c37' news : List (Addr × Obj)} (N : News h₀ L h news) (ht : Tabs ps c30 qs c37 news) (_F : Fr h₀ L h m)
    (keep : ∀ b o, h.get? b = some o → b ∉ (tabL ps c30 qs c37 []).map (·.1) → g.get? b = some o) (F' : Fr g L' h' m') (N' : News g L' h' (tabL ps' c30' qs' c37' [])) (ht' : Tabs ps' c30' qs' c37' []) :
    Tabs ps' c30' qs' c37' news ∧ News h₀ L h' news := by
  have hg : ∀ p ∈ news, g.get? p.1 = some p.2 := fun p hp => keep _ _ (N p hp).1 (fun hm => by
    obtain ⟨q, hq, e⟩ := List.mem_map.mp hm
    unfold tabL at hq
    simp only [List.mem_append, List.mem_cons, List.append_nil] at hq
    rcases hq with rfl | hq | rfl | hq
    · exact ht.n30 p (by simp [hp]) e.symm
    · exact ht.d30 q hq p (by simp [hp]) e.symm
    · exact ht.n37 p (by simp [hp]) e.symm
    · exact ht.d37 q hq p hp e.symm)
  refine ⟨tabs_with ht' fun p hp q hq e => ?_, fun p hp => ⟨F'.keep _ _ (hg p hp), (N p hp).2⟩⟩
  have h1 := hg p hp
  rw [e, (N' q hq).2.2] at h1
  cases h1
end Mine
end
section
open PySem PySem.Spec PySem.Calls PySem.W PyProof.Rows
namespace Mine
local macro_rules | `(tactic| kla_enter) => `(tactic| (first | with_reducible assumption | (refine' And.right ?_; first | with_reducible assumption | (refine' And.right ?_; first | with_reducible assumption | (refine' And.right ?_; first | with_reducible assumption | (refine' And.right ?_; first | with_reducible assumption | (refine' And.right ?_; first | with_reducible assumption | (refine' And.right ?_; first | with_reducible assumption | (refine' And.right ?_; first | with_reducible assumption)))))))))
local macro_rules | `(tactic| k_ne) => `(tactic| ((try dsimp only); first | with_reducible assumption | with_reducible first | exact Mine.neP1 | exact Mine.neP2 | exact Mine.neS Mine.neP1 | exact Mine.neS Mine.neP2 | exact Mine.neS (by assumption) | exact Mine.neA (by kla_enter) | exact Mine.neB (by kla_enter) | exact Mine.ltA (by kla_enter) | exact Mine.gtA (by kla_enter)))
local macro_rules | `(tactic| walk_at "eval ListComp") => `(tactic| (k_here; k_dflt (first
  | (with_reducible show wpAny _ _ (eval (PySem.Expr.ListComp _ [⟨_, _, [], _⟩] _ _) _) _ _ _); refine LCg.ListComp_U (F₀ := by k_asm) (by with_unfolding_all rfl) (by decide) (by rfl) (by decide) (by rfl) ?_
  | (with_reducible show wpAny _ _ (eval (PySem.Expr.ListComp _ [⟨_, _, [_], _⟩] _ _) _) _ _ _); refine LCt.ListComp_T (F₀ := by k_asm) (by with_unfolding_all rfl) (by decide) (by rfl) (by decide) (by rfl) ?_)))
local macro_rules | `(tactic| walk_at "exec Assign cons ListComp") => `(tactic| (k_here; k_dflt (first
  | (with_reducible show wpAny _ _ (exec (PySem.Stmt.Assign _ (PySem.Expr.ListComp _ [⟨_, _, [], _⟩] _ _) _) _) _ _ _); refine LCg.Assign_ListComp_U (F₀ := by k_asm) (by rfl) (by with_unfolding_all rfl) (by with_unfolding_all rfl) (by decide) (by rfl) (by decide) (by rfl) (by rfl) (by rfl) ?_
  | (with_reducible show wpAny _ _ (exec (PySem.Stmt.Assign _ (PySem.Expr.ListComp _ [⟨_, _, [_], _⟩] _ _) _) _) _ _ _); refine LCt.Assign_ListComp_T (F₀ := by k_asm) (by rfl) (by with_unfolding_all rfl) (by with_unfolding_all rfl) (by decide) (by rfl) (by decide) (by rfl) (by rfl) (by rfl) ?_)))
local macro_rules | `(tactic| walk_at "CompSrc") => `(tactic| (k_here; refine Mine.halt ?_))
local macro_rules | `(tactic| walk_at "CompSrcT") => `(tactic| (k_here; refine Mine.halt ?_))
local macro_rules | `(tactic| walk_at "subscriptTail") => `(tactic| (k_here; (with_reducible show wpAny _ _ (subscriptTail _ _ (Value.ref _) (Value.int _ _)) _ _ _); (with_unfolding_all refine' item_anyK ?k1 ?k2 ?k3 ?k4 ?k5 ?_ ?k6; (case k1 => is_list); (case k2 => assumption); (case k3 => omega); (case k4 => omega); (case k5 => omega); (case k6 => with_unfolding_all rfl); k_whole); intro _))
section
open PyProof.V PySem.SeqAt
variable {prog : Program} {w : World} {A : Around} {E : Value → Shared → Prop} {s : Shared}
theorem reads_tup2 {h : Heap} {a : Addr} {x y : Int} {t u : Tok} (ht : h.IsTuple a #[.int x t, .int y u]) : Reads h (.ref a) (.tuple [.int x, .int y]) [] := by
  obtain ⟨o, ho, hc, n, hd⟩ := ht
  exact Reads.tuple ho hc hd (by simpa using readsAll_of_ints (.cons x t (.cons y u .nil)))
theorem shaped_tup2 (x y : Int) : shaped (.tuple [.int x, .int y]) = true := by
  show (PyData.canLay0 (.tuple [.int x, .int y]) && decide (PyData.depth (.tuple [.int x, .int y]) ≤ 64)) = true
  simp [PyData.canLay0, PyData.canLayAll0, PyData.depth, PyData.depthAll]
theorem neTup {a b : Addr} {x y x' y' : Int} {t u t' u' : Tok} {Q : Value → Shared → Prop} (ha : s.heap.IsTuple a #[.int x t, .int y u]) (hb : s.heap.IsTuple b #[.int x' t', .int y' u']) (hu : A.units + 64 < cLine)
    (h : Q (.bool (!(decide (x = x') && decide (y = y')))) s) : wpAny (model prog w) A (compareOp .NotEq (.ref a) (.ref b)) Q E s :=
  ne_dataH_same (reads_tup2 ha) (reads_tup2 hb) (shaped_tup2 x y) (shaped_tup2 x' y') hu (by simp [noMix, noMixAll]) (by simp only [PySem.Spec.same, PySem.Spec.sameAll, Bool.and_true]; exact h)
end
theorem tabs_fields {ps qs : Array Value} {c30 c37 news : List (Addr × Obj)} (h : Tabs ps c30 qs c37 news) : ∀ q ∈ tabL ps c30 qs c37 [], ∃ vs, q.2.data = .fields vs := by
  have hk : ∀ {pos : Pos} {qual : Str} {ps : Array Value} {cs : List (Addr × Obj)}, TabOk pos qual ps cs → ∀ q ∈ cs, ∃ vs, q.2.data = .fields vs := fun {pos qual ps cs} ht q hq => by
    rcases ht with ⟨_, rfl⟩ | ⟨c', oc, vs, t, _, rfl, hd, _⟩
    · cases hq
    · rw [List.mem_singleton.mp hq]; exact ⟨vs, hd⟩
  intro q hq
  unfold tabL at hq
  simp only [List.mem_append, List.mem_cons, List.append_nil] at hq
  rcases hq with rfl | hq | rfl | hq
  · exact ⟨_, rfl⟩
  · exact hk h.t30 q hq
  · exact ⟨_, rfl⟩
  · exact hk h.t37 q hq
/-- lists and cells are off the tables -/
theorem off_fields {h₀ h : Heap} {L : Addr} {own tl : List (Addr × Obj)} (N : News h₀ L h (own ++ tl)) (ht : ∀ q ∈ tl, ∃ vs, q.2.data = .fields vs) (ho : ∀ p ∈ own, ∀ vs, p.2.data ≠ .fields vs) : ∀ p ∈ own, ∀ q ∈ tl, p.1 ≠ q.1 := fun p hp q hq e => by
  have h1 := (N p (List.mem_append_left _ hp)).1
  have h2 := (N q (List.mem_append_right _ hq)).1
  rw [e, h2] at h1
  obtain ⟨vs, hv⟩ := ht q hq
  exact ho p hp vs (by rw [← Option.some.inj h1]; exact hv)
theorem pow_bd {b : Int} (h : -(2 ^ 24) < b ∧ b < 2 ^ 24) {k : Nat} (hk : k ≤ 3) : (b ^ k).natAbs ≤ 2 ^ 72 := by
  rw [Int.natAbs_pow]
  refine Nat.le_trans (Nat.pow_le_pow_left (show b.natAbs ≤ 2 ^ 24 by omega) k) ?_
  exact Nat.le_trans (Nat.pow_le_pow_right (by decide) hk) (by decide)
theorem divide {e b : Int} (he : -(2 ^ 24) < e ∧ e < 2 ^ 24) (h : -(2 ^ 24) < b ∧ b < 2 ^ 24) (hb : b ≠ 0) {k : Nat} (hk : k ≤ 3) :
    (-(2 ^ 190) < e * b ^ k ∧ e * b ^ k < 2 ^ 190) ∧ (b ^ k ≠ 0 ∧ -(2 ^ 140) < b ^ k ∧ b ^ k < 2 ^ 140) ∧ (e * b ^ k).fdiv (b ^ k) = e ∧ (e * b ^ k).fmod (b ^ k) = 0 := by
  have h1 := pow_bd h hk
  have h2 : (e * b ^ k).natAbs ≤ 2 ^ 96 := by
    rw [Int.natAbs_mul]
    exact Nat.le_trans (Nat.mul_le_mul (show e.natAbs ≤ 2 ^ 24 by omega) h1) (by decide)
  have h3 : b ^ k ≠ 0 := Int.pow_ne_zero hb
  exact ⟨by omega, ⟨h3, by omega⟩, Int.mul_fdiv_cancel _ h3, Int.mul_fmod_left _ _⟩
theorem nameApp10 {h₀ h : Heap} {L : Addr} {p0 p1 p2 p3 p4 p5 p6 p7 p8 p9 : Addr × Obj} {tl : List (Addr × Obj)} {P : Prop} (N : News h₀ L h (p0 :: p1 :: p2 :: p3 :: p4 :: p5 :: p6 :: p7 :: p8 :: p9 :: tl))
    (k : ∀ own, own = [p0, p1, p2, p3, p4, p5, p6, p7, p8, p9] → News h₀ L h (own ++ tl) → P) : P := k _ rfl N
theorem small_of {vs : List V3} (h : ∀ v ∈ vs, In128 v) : ∀ v ∈ vs, Small v := fun v hv => by
  have := h v hv
  unfold In128 at this
  unfold Small
  omega
theorem gone_len {gs : List Int} (h : Gone gs) : 1 ≤ gs.length ∧ gs.length ≤ 3 := by
  unfold Gone at h
  rcases h with rfl | rfl | rfl | rfl | rfl | rfl | rfl <;> decide
theorem len_wordS (ms : List Int) (n : Nat) : (wordS ms n).length = n := by
  unfold wordS
  rw [PySem.W.KT.join_ones]
  · rw [List.length_map, rangeKs_length]
  · intro a ha
    obtain ⟨k, _, rfl⟩ := List.mem_map.mp ha
    rfl
local macro_rules | `(tactic| k_all) => `(tactic| assumption)
local macro_rules | `(tactic| walk_at "call ref") => `(tactic| (k_here; refine Mine.halt ?_))
local macro_rules | `(tactic| walk_at "compareOp NotEq ref ref") => `(tactic| (k_here; refine Mine.halt ?_))
local macro_rules | `(tactic| walk_at "subscriptTail Name Name str int") => `(tactic| (k_here; (refine PySem.W.KXi.item (Mine.len_wordS _ _) (by omega) (by omega) (by omega) ?_); intro kxiE))
local macro_rules | `(tactic| walk_at "call builtin:sum") => `(tactic| (k_here; refine Mine.halt ?_))
local macro_rules | `(tactic| walk_at "call builtin:len") => `(tactic| (k_here; k_dflt (refine' Mine.len_any ?l ?n ?_; (case l => is_list); (case n => omega)); intro t' tk'))
local macro_rules | `(tactic| walk_at "binaryOp Pow int int") => `(tactic| (k_here; refine Mine.halt ?_))
def signCost (x y : Str) : Int := if x = y then 0 else if PySem.Txt.lower x = PySem.Txt.lower y then 1 else 2
def costAt (ts : List Int) (n : Nat) (k : Int) : Int := signCost (PySem.Txt.item (wordS [0, 1, 2] n) k) (PySem.Txt.item (wordS ts n) k)
structure ThreeOk (n : Nat) (t : List Int) : Prop where
  gone : Gone (goneOf t)
  len : (newOf t).length = (goneOf t).length
  nb : ∀ x ∈ newOf t, 0 ≤ x ∧ x < (n : Int)
  sb : ∀ x ∈ stayOf t, 0 ≤ x ∧ x < 3
  gb : ∀ x ∈ goneOf t, 0 ≤ x ∧ x < 3
  l3 : t.length = 3
  five : (goneOf t).length + (stayOf t).length ≤ 6
  cost : ((rangeKs 0 n).map (costAt t n)).sum = 2 * ((newOf t).length : Int)
def decGone (gs : List Int) : Decidable (Gone gs) := by unfold Gone; infer_instance
def threeOkB (n : Nat) (t : List Int) : Bool := @decide (Gone (goneOf t)) (decGone _) && decide ((newOf t).length = (goneOf t).length) && (newOf t).all (fun x => decide (0 ≤ x ∧ x < (n : Int))) && (stayOf t).all (fun x => decide (0 ≤ x ∧ x < 3)) && (goneOf t).all (fun x => decide (0 ≤ x ∧ x < 3)) && decide (t.length = 3) && decide ((goneOf t).length + (stayOf t).length ≤ 6) && decide (((rangeKs 0 n).map (costAt t n)).sum = 2 * ((newOf t).length : Int))
theorem three5 : (((allThrees 5).drop 1).all (threeOkB 5)) = true := by decide +kernel
theorem three6 : (((allThrees 6).drop 1).all (threeOkB 6)) = true := by decide +kernel
theorem threeOk_of {n : Nat} {t : List Int} (h : threeOkB n t = true) : ThreeOk n t := by
  unfold threeOkB at h
  simp only [Bool.and_eq_true, decide_eq_true_eq, List.all_eq_true] at h
  exact ⟨h.1.1.1.1.1.1.1, h.1.1.1.1.1.1.2, h.1.1.1.1.1.2, h.1.1.1.1.2, h.1.1.1.2, h.1.1.2, h.1.2, h.2⟩
set_option maxRecDepth 100000 in
set_option maxHeartbeats 8000000 in
theorem hold_spec {w : World} {p : Program} {loose : List Str} {mean : ExcName → Option Value} {mg mb : Str → Option Value}
   {dp un : Nat} {gd : Option (List Code)} {cn : Str} {cs : Scope} {a : Addr} {ccd : Value} {cl : List (Str × Addr)} {outer : List Env} {A₀ : Around} {base h₀ : Heap} {L : Addr} {m : Str → Option Value} {s : Shared} {Q E : Value → Shared → Prop} {news : List (Addr × Obj)}
   (ls ll lo lt : Addr) (as : List Addr) (vs : List V3) (sv ov tv : List Value) (ss os ts : List Int) (n : Nat) (ps qs : Array Value) (c30 c37 : List (Addr × Obj)) :
   Below A₀ base outer h₀ → Fr h₀ L s.heap m → (Mine.hd.heap_39 w.params).In h₀ → News h₀ L s.heap (tabL ps c30 qs c37 news) → Top p loose mean mg mb h₀ → cs.kind = .function →
   dp + 440 < recursionLimit → un + 8 * 440 < cLine →
   CodeHd h₀ 34 30 → CodeHd h₀ 41 37 → Tabs ps c30 qs c37 news → s.heap.IsList ls sv.toArray → IntsAre sv ss → s.heap.IsList ll (as.map Value.ref).toArray → Tris s.heap as vs → s.heap.IsList lo ov.toArray → IntsAre ov os → s.heap.IsList lt tv.toArray → IntsAre tv ts → (∀ p ∈ tabL ps c30 qs c37 [], p.1 ∉ ls :: ll :: lo :: lt :: as) → 3 ≤ n → n ≤ 6 → ss.length = n ∧ as.length = n → (∀ v ∈ vs, In128 v) → os.length = 3 → ThreeOk n ts → exchZ vs [] [] ≠ 0 → walksL 6 ss os (goneOf ts) (newOf ts) (stayOf ts) = !decide (exchZ vs (goneOf ts) (newOf ts) = 0) → 
   (∀ (h' : Heap) (tk' : Nat) (ps' qs' : Array Value) (c30' c37' : List (Addr × Obj)), Tabs ps' c30' qs' c37' news → Fr h₀ L h' m → News h₀ L h' (tabL ps' c30' qs' c37' news) → Q (.bool true) { s with heap := h', toks := tk' }) →
   wpAny (model PySem.Challenge.rw_tl0028_01.prog w) (ktrTop dp un gd cn cs L a ccd cl outer) (call (.ref 131) [.ref ls, .ref ll, .ref lo, .ref lt]) Q E s := by
  w_top off
  k_fill
  intro B F X N T hk hd hu hC1 hC2 hT hLs hIs hLl hTl hLo hIo hLt hIt hoff hn3 hn6 has hvs hol hok hbase hlaw hret
  have N0 : News h₀ L s.heap (tabL ps c30 qs c37 []) := news_sub N tabs_sub
  refine wpAny_call ?_
  k_dflt (refine' Mine.enterTC (tabL ps c30 qs c37 []) ?k1 ?k2 ?k3 ?k4 ?k5 ?kA ?kF ?kK ?k6 ?k7 ?k8 ?k9 ?kB ?kD ?_ ?c2 ?c3 ?c4; (case kA => exact rfl); (case kF => exact rfl); (case kK => assumption); (case k1 => k_asm); (case k2 => k_asm); (case k3 => k_asm); (case k4 => exact N0); (case k5 => k_asm); (case k6 => k_is); (case k7 => k_is); (case k8 => ktr_room); (case k9 => exact BindsTo.of_eq rfl); (case kB => exact rfl); (case kD => decide +kernel); (case c2 => exact rfl); (case c3 => exact rfl); (case c4 => exact rfl))
  k_whole
  intro g L1 h1 tk1 cells hkeep hst FG' envE aE mE F1 N1 Y' B' X' T' hlt
  have hoff2 : ∀ b, b ∈ ls :: ll :: lo :: lt :: as → b ∉ (tabL ps c30 qs c37 []).map (·.1) := fun b hb hm => by
    obtain ⟨q, hq, e⟩ := List.mem_map.mp hm
    exact hoff q hq (e ▸ hb)
  have gLs : g.IsList ls sv.toArray := by obtain ⟨o, e, r⟩ := hLs; exact ⟨o, hkeep _ _ e (hoff2 _ (by simp)), r⟩
  have gLl : g.IsList ll (as.map Value.ref).toArray := by obtain ⟨o, e, r⟩ := hLl; exact ⟨o, hkeep _ _ e (hoff2 _ (by simp)), r⟩
  have gLo : g.IsList lo ov.toArray := by obtain ⟨o, e, r⟩ := hLo; exact ⟨o, hkeep _ _ e (hoff2 _ (by simp)), r⟩
  have gLt : g.IsList lt tv.toArray := by obtain ⟨o, e, r⟩ := hLt; exact ⟨o, hkeep _ _ e (hoff2 _ (by simp)), r⟩
  have gTl : Tris g as vs := ⟨hTl.1, fun i hi => by
    obtain ⟨t0, t1, t2, o, e, r⟩ := hTl.2 i hi
    exact ⟨t0, t1, t2, o, hkeep _ _ e (hoff2 _ (by simp only [List.mem_cons]; exact .inr (.inr (.inr (.inr (getD_mem hi)))))), r⟩⟩
  have gC1 : CodeHd g 34 30 := CodeHd.keeps hC1 hst
  have gC2 : CodeHd g 41 37 := CodeHd.keeps hC2 hst
  have hTl' := hTl
  clear hLs hLl hLo hLt hTl hoff2
  k_cells Y'
  try simp only [List.cons_append, List.nil_append, List.append_nil] at N1
  try dsimp only
  try ((show wpAny _ _ _ _ _ _); k_fold)
  obtain ⟨tl, htl⟩ : ∃ tl, tl = tabL ps c30 qs c37 [] := ⟨_, rfl⟩
  rw [← htl] at N1 hlt
  have hvs' := hIs.length
  have hvt := hIt.length
  have hc1 : ∀ p ∈ tl, p.1 ≠ L1 + 1 := fun p hp => Nat.ne_of_lt (Nat.lt_succ_of_lt (hlt p hp))
  have hc2 : ∀ p ∈ tl, p.1 ≠ L1 + 1 + 1 := fun p hp => Nat.ne_of_lt (Nat.lt_succ_of_lt (Nat.lt_succ_of_lt (hlt p hp)))
  have hc3 : ∀ p ∈ tl, p.1 ≠ L1 + 1 + 1 + 1 := fun p hp => Nat.ne_of_lt (Nat.lt_succ_of_lt (Nat.lt_succ_of_lt (Nat.lt_succ_of_lt (hlt p hp))))
  have ht3 := hok.l3
  k_steps
  refine Halt.go ?_
  k_dflt (refine LCt.CompSrcT.range (n := 3) (by rfl) (by k_asm) (by k_asm) (by assumption) (by decide) (by rfl) (by rw [PySem.sizeLine_eq]; decide) ?_)
  intro g1
  refine compT_range (fun x => !ts.any (· == x)) trivial (by rfl) (by rfl) (by decide) (fun kk t I oI C oC D m₂ ys h tk E' hk hC hx F' N' off ne => ?_) (fun ys1 hys1 => ?_)
  · try ((show wpAny _ _ _ _ _ _); k_fold)
    k_steps
    exact ⟨by first | rfl | simp, _, _, rfl, by k_asm, by k_asm⟩
  have e1 : (rangeKs 0 3).filter (fun x => !ts.any (· == x)) = goneOf ts := rfl
  rw [e1] at hys1
  clear e1
  k_steps
  refine Halt.go ?_
  k_dflt (refine LCt.CompSrcT.base (by rfl) (by k_asm) (by k_asm) (by assumption) (by (rw [PySem.sizeLine_eq, List.size_toArray]; omega)) ?_)
  intro g2
  refine compT_list (fun x => decide (2 < x)) hIt (.inl (by assumption)) (by rfl) (by rfl) (by decide) (fun kk t I oI C oC D m₂ ys h tk E' hk hC hx F' N' off ne => ?_) (fun ys2 hys2 => ?_)
  · try ((show wpAny _ _ _ _ _ _); k_fold)
    k_steps
    exact ⟨by first | rfl | simp, _, _, rfl, by k_asm, by k_asm⟩
  k_steps
  refine Halt.go ?_
  k_dflt (refine LCt.CompSrcT.base (by rfl) (by k_asm) (by k_asm) (by assumption) (by (rw [PySem.sizeLine_eq, List.size_toArray]; omega)) ?_)
  intro g3
  rw [show ts.filter (fun x => decide (2 < x)) = newOf ts from rfl] at hys2
  refine compT_list (fun x => decide (x < 3)) hIt (.inl (by assumption)) (by rfl) (by rfl) (by decide) (fun kk t I oI C oC D m₂ ys h tk E' hk hC hx F' N' off ne => ?_) (fun ys3 hys3 => ?_)
  · try ((show wpAny _ _ _ _ _ _); k_fold)
    k_steps
    exact ⟨by first | rfl | simp, _, _, rfl, by k_asm, by k_asm⟩
  rw [show ts.filter (fun x => decide (x < 3)) = stayOf ts from rfl] at hys3
  k_steps
  refine Halt.go ?_
  k_dflt (refine Mine.word_spec (by k_asm) (by k_asm) (by first | k_asm | k_in) (by k_asm) (by k_asm) (by first | exact rfl | assumption) (by ktr_room) (by ktr_units) (by omega) (by is_list) (by first | assumption | exact .cons _ _ (.cons _ _ (.cons _ _ .nil))) ?_)
  intro t9 h9 tk9 F9 N9 S9
  try dsimp only
  try ((show wpAny _ _ _ _ _ _); k_fold)
  k_steps
  refine Halt.go ?_
  k_dflt (refine' Mine.word_spec ?B2 ?F2 ?X2 ?N2 ?T2 ?hk2 ?hd2 ?hu2 ?hn2 ?hL2 hIt ?ret2)
  case hL2 => is_list
  case hn2 => omega
  case B2 => k_asm
  case F2 => k_asm
  case X2 => k_asm
  case N2 => k_asm
  case T2 => k_asm
  case hk2 => exact rfl
  case hd2 => ktr_room
  case hu2 => ktr_units
  intro t9 h9 tk9 F9 N9 S9
  try dsimp only
  try ((show wpAny _ _ _ _ _ _); k_fold)
  k_steps
  refine Halt.go ?_
  k_dflt (refine LCg.CompSrc.range (n := n) (by rfl) (by k_asm) (by k_asm) (by assumption) (by first | exact small_one (by omega) (by omega) (by omega) (by omega)) (by rw [show (sv.length : Int) = (n : Int) by omega]; first | exact rangeSize_nat _ _ | rfl) (by rw [PySem.sizeLine_eq]; omega) ?_)
  intro g4
  refine kcf_range (fun k => costAt ts n k) (fun k t I oI C oC D m₂ ys h tk E' hlo hhi hC hx F' N' off ne hMark => ?_) (fun ys4 hys4 => ?_)
  · try ((show wpAny _ _ _ _ _ _); k_fold)
    have hns : sv.length = n := hvs'.trans has.1
    k_steps
    refine Halt.go ?_
    k_dflt (refine' Mine.subst_spec ?B5 ?F5 ?X5 ?N5 ?T5 ?hk5 ?hd5 ?hu5 ?hx5 ?hy5 ?ret5)
    case B5 => k_asm
    case F5 => k_asm
    case X5 => k_asm
    case N5 => k_asm
    case T5 => k_asm
    case hk5 => exact rfl
    case hd5 => ktr_room
    case hu5 => ktr_units
    case hx5 => assumption
    case hy5 => assumption
    intro t5 h5 tk5 F5 N5 S5
    try dsimp only
    rw [hns]
    k_steps
    exact ⟨rfl, _, rfl⟩
  · k_steps
    refine Halt.go ?_
    k_dflt (refine' sumK ?k0 ?k1 ?k2 ?k3 hys4 ?_; (case k0 => with_unfolding_all rfl); (case k1 => k_asm); (case k2 => k_asm); (case k3 => is_list))
    rw [show (List.map (fun k => costAt ts n k) (rangeKs 0 n)).sum = 2 * ((newOf ts).length : Int) from hok.cost]
    intro h6 tk6 t6 F6 N6
    have hgl := gone_len hok.gone
    have hnl := hok.len
    have hy1 := hys1.length
    have hy2 := hys2.length
    have hy3 := hys3.length
    k_steps
    · exfalso; omega
    refine Halt.go ?_
    k_dflt (refine' Mine.exch_spec ?B6 ?F6 ?X6 ?N6 ?T6 ?hk6 ?hd6 ?hu6 ?hL6 ?hT6 ?hal6 ?hah6 (small_of hvs) ?hLg6 .nil ?hLn6 .nil rfl ?hg36 (List.forall_mem_nil _) (List.forall_mem_nil _) ?ret6)
    case B6 => k_asm
    case F6 => k_asm
    case X6 => k_asm
    case N6 => k_asm
    case T6 => k_asm
    case hk6 => exact rfl
    case hd6 => ktr_room
    case hu6 => ktr_units
    case hL6 => is_list
    case hT6 => exact Tris.keeps gTl (Fr.keep (by assumption))
    case hal6 => omega
    case hah6 => omega
    case hLg6 => is_list
    case hLn6 => is_list
    case hg36 => (show 0 ≤ 3; decide)
    intro t6 h6 tk6 F6 N6 S6
    try dsimp only
    try ((show wpAny _ _ _ _ _ _); k_fold)
    k_steps
    refine Halt.go ?_
    k_dflt (refine' Mine.cramer_spec ?B7 ?F7 ?X7 ?N7 ?T7 ?hk7 ?hd7 ?hu7 ?hL7 ?hT7 ?hal7 ?hah7 (small_of hvs) ?hLg7 hys1 ?hLn7 hys2 hok.len.symm ?hg37 hok.gb ?hnb7 ?hdb7 ?ret7)
    case B7 => k_asm
    case F7 => k_asm
    case X7 => k_asm
    case N7 => k_asm
    case T7 => k_asm
    case hk7 => exact rfl
    case hd7 => ktr_room
    case hu7 => ktr_units
    case hL7 => is_list
    case hT7 => exact Tris.keeps gTl (Fr.keep (by assumption))
    case hal7 => omega
    case hah7 => omega
    case hLg7 => is_list
    case hLn7 => is_list
    case hg37 => omega
    case hnb7 => (rw [has.2]; exact hok.nb)
    case hdb7 => (intro q _ r _; have := exch_bound hvs [q] [r]; omega)
    intro t7 h7 tk7 F7 N7 S7
    try dsimp only
    try ((show wpAny _ _ _ _ _ _); k_fold)
    have hbb := exch_bound hvs [] []
    obtain ⟨hb1, hb2⟩ := id hbb
    have hee := exch_bound hvs (goneOf ts) (newOf ts)
    have hfd : (2 * ((newOf ts).length : Int)).fdiv 2 = ((newOf ts).length : Int) := by rw [Int.mul_comm]; exact Int.mul_fdiv_cancel _ (by decide)
    k_steps
    refine Halt.go ?_
    refine pow_int_small (by rw [hfd]; omega) (by rw [hfd]; omega) (by omega) ?_
    rw [hfd, Int.toNat_natCast, cramer_law (by rw [← hTl'.1]; omega) hok.gone hok.len, hok.len]
    obtain ⟨⟨v1, v2⟩, ⟨v3, v4, v5⟩, v6, v7⟩ := divide hee hbb hbase (k := (goneOf ts).length) (by omega)
    k_steps
    refine Halt.go ?_
    rename News g _ _ _ => N9
    have hlen5 : (goneOf ts).length + (stayOf ts).length ≤ 6 := hok.five
    refine nameApp10 N9 ?_
    intro own hown N10
    have hoff10 : ∀ p ∈ own, ∀ q ∈ tl, p.1 ≠ q.1 := off_fields N10 (by rw [htl]; exact tabs_fields hT) (by
      rw [hown]
      simp only [List.forall_mem_cons, List.not_mem_nil, false_implies, implies_true, and_true]
      refine ⟨?_, ?_, ?_, ?_, ?_, ?_, ?_, ?_, ?_, ?_⟩ <;> intro vs h <;> first | (cases h; done) | (have h' := h.symm.trans (c := Data.cell _) (by assumption); cases h'; done))
    k_dflt (refine' idm_spec (news := own) _ _ _ _ ps qs c30 c37 ?B9 ?F9 ?X9 ?N9 ?T9 ?hk9 ?hd9 ?hu9 gC1 gC2 (tabs_with (tabs_nil hT) (by rw [← htl]; exact hoff10)) v1 v2 v3 v4 v5 ?ret9)
    case B9 => k_asm
    case F9 => k_asm
    case X9 => k_asm
    case N9 => exact news_sub N10 (fun p hp => by rw [htl]; unfold tabL; simp only [List.mem_append, List.mem_cons, List.append_nil] at *; grind)
    case T9 => k_asm
    case hk9 => exact rfl
    case hd9 => ktr_room
    case hu9 => ktr_units
    intro t90 t91 T9 h9 tk9 ps' qs' c30' c37' hT' F11 N11 hne9
    rw [v6, v7] at N11
    obtain ⟨tl2, htl2⟩ : ∃ tl2, tl2 = tabL ps' c30' qs' c37' [] := ⟨_, rfl⟩
    have N12 : News g L1 h9 ((T9, { cls := .type "tuple", data := .seq #[.int (exchZ vs (goneOf ts) (newOf ts)) t90, .int 0 t91] }) :: (own ++ tl2)) := news_sub N11 (fun p hp => by rw [htl2] at hp; unfold tabL at *; simp only [List.mem_append, List.mem_cons, List.append_nil] at *; grind)
    clear N11 N10 N9
    rw [hown] at N12
    simp only [List.cons_append, List.nil_append] at N12
    try dsimp only
    try ((show wpAny _ _ _ _ _ _); k_fold)
    k_steps
    refine Halt.go ?_
    k_dflt (refine' Mine.exch_spec ?B8 ?F8 ?X8 ?N8 ?T8 ?hk8 ?hd8 ?hu8 ?hL8 ?hT8 ?hal8 ?hah8 (small_of hvs) ?hLg8 hys1 ?hLn8 hys2 hok.len.symm ?hg38 hok.gb ?hnb8 ?ret8)
    case B8 => k_asm
    case F8 => k_asm
    case X8 => k_asm
    case N8 => k_asm
    case T8 => k_asm
    case hk8 => exact rfl
    case hd8 => ktr_room
    case hu8 => ktr_units
    case hL8 => is_list
    case hT8 => exact Tris.keeps gTl (Fr.keep (by assumption))
    case hal8 => omega
    case hah8 => omega
    case hLg8 => is_list
    case hLn8 => is_list
    case hg38 => omega
    case hnb8 => (rw [has.2]; exact hok.nb)
    intro t8 h8 tk8 F8 N8 S8
    try dsimp only
    try ((show wpAny _ _ _ _ _ _); k_fold)
    k_steps
    refine Halt.go ?_
    rename News g _ _ _ => N13
    refine neTup (x := exchZ vs (goneOf ts) (newOf ts)) (y := 0) (x' := exchZ vs (goneOf ts) (newOf ts)) (y' := 0) ⟨_, (N13 (_, _) (by k_mem)).1, rfl, _, rfl⟩ ⟨_, (N13 (_, _) (by k_mem)).1, rfl, _, rfl⟩ ?_ ?_
    · ((dsimp +zetaDelta only); ktr_units)
    rw [decide_eq_true rfl, decide_eq_true rfl]
    k_steps
    refine Halt.go ?_
    k_dflt (refine' Mine.iseof_spec ?Ba ?Fa ?Xa ?Na ?Ta ?hka ?hda ?hua  ?reta)
    case Ba => k_asm
    case Fa => k_asm
    case Xa => k_asm
    case Na => k_asm
    case Ta => k_asm
    case hka => exact rfl
    case hda => ktr_room
    case hua => ktr_units
    intro ta ha tka Fa Na Sa
    try dsimp only
    try ((show wpAny _ _ _ _ _ _); k_fold)
    k_steps
    refine Halt.go ?_
    k_dflt (refine' Mine.walks_spec 6 ?Bb ?Fb ?Xb ?Nb ?Tb ?hkb ?hdb ?hub ?l1 hIs ?l2 hIo ?l3 hys1 ?l4 hys2 ?l5 hys3 ?w1 hol ?w2 ?w3 ?w4 hok.gb ?w5 hok.sb ?w6 ?w7 ?retb)
    case Bb => k_asm
    case Fb => k_asm
    case Xb => k_asm
    case Nb => k_asm
    case Tb => k_asm
    case hkb => exact rfl
    case hdb => ktr_room
    case hub => ktr_units
    case l1 => is_list
    case l2 => is_list
    case l3 => is_list
    case l4 => is_list
    case l5 => is_list
    case w1 => omega
    case w2 => omega
    case w3 => omega
    case w4 => omega
    case w5 => (rw [has.1]; exact hok.nb)
    case w6 => omega
    case w7 => omega
    intro tb hb tkb Fb Nb Sb
    try dsimp only
    try ((show wpAny _ _ _ _ _ _); k_fold)
    rw [hlaw]
    k_steps
    rw [show (decide (exchZ vs (goneOf ts) (newOf ts) = 0) != !decide (exchZ vs (goneOf ts) (newOf ts) = 0)) = true by cases decide (exchZ vs (goneOf ts) (newOf ts) = 0) <;> rfl]
    rename News h₀ L hb _ => N19
    have hsub : ∀ p ∈ tabL ps' c30' qs' c37' [], p ∈ tl2 := fun p hp => by rw [htl2]; exact hp
    have N20 : News h₀ L hb (tabL ps' c30' qs' c37' []) := fun p hp => N19 p (by simp only [List.mem_cons]; simp only [hsub p hp, or_true])
    have N21 : News g L1 hb (tabL ps' c30' qs' c37' []) := fun p hp => Nb p (by simp only [List.mem_cons]; simp only [hsub p hp, or_true])
    have N22 : News h₀ L s.heap news := fun p hp => N p (by unfold tabL; simp [hp])
    obtain ⟨hTb, hNb⟩ := tabs_back N22 hT F hkeep Fb N21 (tabs_nil hT')
    exact hret _ _ ps' qs' c30' c37' hTb (by k_asm) (tabs_join N20 hNb)
end Mine
end
section
open PySem
set_option maxRecDepth 100000
namespace Mine
def exchIdx (gs ns : List Int) : List Int := (gs.zip ns).foldl (fun r p => r.set p.1.toNat p.2) [0, 1, 2]
theorem foldl_set_map (f : Int → V3) (ps : List (Int × Int)) : ∀ l : List Int, ps.foldl (fun r p => r.set p.1.toNat (f p.2)) (l.map f) = (ps.foldl (fun r p => r.set p.1.toNat p.2) l).map f := by
  induction ps with
  | nil => exact fun _ => rfl
  | cons p ps ih =>
    intro l
    rw [List.foldl_cons, List.foldl_cons, ← ih, List.map_set]
def vAt (vs : List V3) (j : Int) : V3 := vs.getD j.toNat (0, 0, 0)
theorem exchRows_idx {vs : List V3} (h : 3 ≤ vs.length) (gs ns : List Int) : exchRows vs gs ns = (exchIdx gs ns).map (vAt vs) := by
  unfold exchRows exchIdx
  rw [← foldl_set_map]
  match vs, h with
  | v0 :: v1 :: v2 :: vs', _ => rfl
def idxOkB (n : Nat) (t : List Int) : Bool := decide ((exchIdx (goneOf t) (newOf t)).Perm t) && decide (t.Nodup) && t.all (fun x => decide (0 ≤ x ∧ x < (n : Int))) && decide (t.length = 3)
theorem idx5 : ((allThrees 5).all (idxOkB 5)) = true := by decide +kernel
theorem idx6 : ((allThrees 6).all (idxOkB 6)) = true := by decide +kernel
theorem tok128 : (toks.all fun t => decide ((0 ≤ (tokV t).1 ∧ (tokV t).1 ≤ 32) ∧ (0 ≤ (tokV t).2.1 ∧ (tokV t).2.1 ≤ 32) ∧ (0 ≤ (tokV t).2.2 ∧ (tokV t).2.2 ≤ 32))) = true := by decide +kernel
theorem light128 {p : Pick} (ht : p.1 ∈ toks) (h1 : 1 ≤ p.2) (h4 : p.2 ≤ 4) : In128 (lightOf p) := by
  have h := of_decide_eq_true (List.all_eq_true.mp tok128 p.1 ht)
  unfold In128 lightOf scale
  dsimp only
  have hp : p.2 = 1 ∨ p.2 = 2 ∨ p.2 = 3 ∨ p.2 = 4 := by omega
  rcases hp with e | e | e | e <;> rw [e] <;> omega
/-- the picks -/
structure PalOk (n : Nat) (ps : List Pick) : Prop where
  len : ps.length = n
  pt : ∀ p ∈ ps, p.1 ∈ toks ∧ 1 ≤ p.2 ∧ p.2 ≤ 4
  pn : (ps.map Prod.fst).Nodup
  al : ∀ x : Int, ∀ r, ps.map sideOf ≠ x :: x :: x :: r
def pAt (ps : List Pick) (j : Int) : Pick := ps.getD j.toNat (0, 0)
theorem vAt_map {ps : List Pick} {j : Int} (h0 : 0 ≤ j) (h1 : j < ps.length) : vAt (ps.map lightOf) j = lightOf (pAt ps j) := by
  unfold vAt pAt
  have hj : j.toNat < ps.length := by omega
  rw [List.getD_eq_getElem?_getD, List.getD_eq_getElem?_getD, List.getElem?_map, List.getElem?_eq_getElem hj]
  rfl
theorem sAt_map {ps : List Pick} {j : Int} (h0 : 0 ≤ j) (h1 : j < ps.length) : (ps.map sideOf).getD j.toNat 0 = tokSide (pAt ps j).1 := by
  unfold pAt
  have hj : j.toNat < ps.length := by omega
  rw [List.getD_eq_getElem?_getD, List.getD_eq_getElem?_getD, List.getElem?_map, List.getElem?_eq_getElem hj]
  rfl
theorem pAt_mem {ps : List Pick} {j : Int} (h0 : 0 ≤ j) (h1 : j < ps.length) : pAt ps j ∈ ps := by
  unfold pAt
  have hj : j.toNat < ps.length := by omega
  rw [List.getD_eq_getElem?_getD, List.getElem?_eq_getElem hj]
  exact List.getElem_mem hj
theorem pAt_ne {ps : List Pick} (hn : (ps.map Prod.fst).Nodup) {i j : Int} (h0 : 0 ≤ i) (h1 : i < ps.length) (h2 : 0 ≤ j) (h3 : j < ps.length) (hij : i ≠ j) : (pAt ps i).1 ≠ (pAt ps j).1 := by
  intro e
  have hi : i.toNat < ps.length := by omega
  have hj : j.toNat < ps.length := by omega
  unfold pAt at e
  rw [List.getD_eq_getElem?_getD, List.getD_eq_getElem?_getD, List.getElem?_eq_getElem hi, List.getElem?_eq_getElem hj] at e
  simp only [Option.getD_some] at e
  have hp := List.pairwise_iff_getElem.mp hn
  rcases Nat.lt_or_gt_of_ne (show i.toNat ≠ j.toNat by omega) with h | h
  · exact hp i.toNat j.toNat (by rw [List.length_map]; exact hi) (by rw [List.length_map]; exact hj) h (by rw [List.getElem_map, List.getElem_map]; exact e)
  · exact hp j.toNat i.toNat (by rw [List.length_map]; exact hj) (by rw [List.length_map]; exact hi) h (by rw [List.getElem_map, List.getElem_map]; exact e.symm)
/-- nought if and only if all three are of one row -/
theorem det_zero {n : Nat} {ps : List Pick} (h : PalOk n ps) {a b c : Int} (ha : 0 ≤ a ∧ a < n) (hb : 0 ≤ b ∧ b < n) (hc : 0 ≤ c ∧ c < n) (hab : a ≠ b) (hac : a ≠ c) (hbc : b ≠ c) :
    detV (vAt (ps.map lightOf) a) (vAt (ps.map lightOf) b) (vAt (ps.map lightOf) c) = 0 ↔ tokSide (pAt ps a).1 = tokSide (pAt ps b).1 ∧ tokSide (pAt ps b).1 = tokSide (pAt ps c).1 := by
  have hl := h.len
  have ha' : a < ps.length := by omega
  have hb' : b < ps.length := by omega
  have hc' : c < ps.length := by omega
  rw [vAt_map ha.1 ha', vAt_map hb.1 hb', vAt_map hc.1 hc']
  unfold lightOf
  rw [detV_scale]
  have ta := h.pt _ (pAt_mem ha.1 ha')
  have tb := h.pt _ (pAt_mem hb.1 hb')
  have tc := h.pt _ (pAt_mem hc.1 hc')
  rw [← three_tok ta.1 tb.1 tc.1 (pAt_ne h.pn ha.1 ha' hb.1 hb' hab) (pAt_ne h.pn ha.1 ha' hc.1 hc' hac) (pAt_ne h.pn hb.1 hb' hc.1 hc' hbc)]
  have hp : (pAt ps a).2 * (pAt ps b).2 * (pAt ps c).2 ≠ 0 := Int.mul_ne_zero (Int.mul_ne_zero (by omega) (by omega)) (by omega)
  constructor
  · intro e
    rcases Int.mul_eq_zero.mp e with e | e
    · exact absurd e hp
    · exact e
  · intro e
    rw [e, Int.mul_zero]
theorem all3 {α β : Type} (f : α → β) (x y z : α) : (f x = f y ∧ f y = f z) ↔ ∀ p ∈ [x, y, z], ∀ q ∈ [x, y, z], f p = f q := by
  constructor
  · intro h
    have k : ∀ p ∈ [x, y, z], f p = f x := List.forall_mem_cons.mpr ⟨rfl, List.forall_mem_cons.mpr ⟨h.1.symm, List.forall_mem_cons.mpr ⟨(h.1.trans h.2).symm, List.forall_mem_nil _⟩⟩⟩
    exact fun p hp q hq => (k p hp).trans (k q hq).symm
  · exact fun h => ⟨h x (.head _) y (.tail _ (.head _)), h y (.tail _ (.head _)) z (.tail _ (.tail _ (.head _)))⟩
theorem exch_same {n : Nat} {ps : List Pick} (h : PalOk n ps) (hn : 3 ≤ n) {t : List Int} (ht : idxOkB n t = true) : decide (exchZ (ps.map lightOf) (goneOf t) (newOf t) = 0) = sameSide (ps.map sideOf) t := by
  unfold idxOkB at ht
  simp only [Bool.and_eq_true, decide_eq_true_eq, List.all_eq_true] at ht
  obtain ⟨⟨⟨hperm, hnod⟩, hbd⟩, hl3⟩ := ht
  obtain ⟨a, b, c, rfl⟩ := three_of hl3
  have hj3 : (exchIdx (goneOf [a, b, c]) (newOf [a, b, c])).length = 3 := hperm.length_eq
  have hz : exchZ (ps.map lightOf) (goneOf [a, b, c]) (newOf [a, b, c]) = (let r := (exchIdx (goneOf [a, b, c]) (newOf [a, b, c])).map (vAt (ps.map lightOf)); detV (r.getD 0 (0,0,0)) (r.getD 1 (0,0,0)) (r.getD 2 (0,0,0))) := by
    unfold exchZ
    rw [exchRows_idx (by rw [List.length_map, h.len]; exact hn)]
  obtain ⟨x, y, z, hxyz⟩ := three_of hj3
  rw [hxyz] at hz hperm
  rw [hz]
  show decide (detV (vAt (ps.map lightOf) x) (vAt (ps.map lightOf) y) (vAt (ps.map lightOf) z) = 0) = _
  have hnod' : [x, y, z].Nodup := hperm.nodup_iff.mpr hnod
  have hbx := hbd x (hperm.mem_iff.mp (by simp))
  have hby := hbd y (hperm.mem_iff.mp (by simp))
  have hbz := hbd z (hperm.mem_iff.mp (by simp))
  have hba := hbd a (by simp)
  have hbb := hbd b (by simp)
  have hbc := hbd c (by simp)
  simp only [List.nodup_cons, List.mem_cons, List.not_mem_nil, or_false, not_or] at hnod'
  have hl := h.len
  unfold sameSide
  rw [← Bool.decide_and]
  refine decide_eq_decide.mpr ?_
  rw [det_zero h hbx hby hbz hnod'.1.1 hnod'.1.2 hnod'.2.1]
  show _ ↔ (ps.map sideOf).getD a.toNat 0 = (ps.map sideOf).getD b.toNat 0 ∧ (ps.map sideOf).getD b.toNat 0 = (ps.map sideOf).getD c.toNat 0
  rw [sAt_map hba.1 (by omega), sAt_map hbb.1 (by omega), sAt_map hbc.1 (by omega)]
  exact (all3 (fun j => tokSide (pAt ps j).1) x y z).trans (Iff.trans ⟨fun k p hp q hq => k p (hperm.mem_iff.mpr hp) q (hperm.mem_iff.mpr hq), fun k p hp q hq => k p (hperm.mem_iff.mp hp) q (hperm.mem_iff.mp hq)⟩ (all3 (fun j => tokSide (pAt ps j).1) a b c).symm)
theorem allSides_mem : ∀ (n : Nat) (s : List Int), s.length = n → (∀ x ∈ s, x = 0 ∨ x = 1 ∨ x = 2) → s ∈ allSides n
  | 0, [], _, _ => by simp [allSides]
  | n + 1, x :: s, hl, hb => by
    have ih := allSides_mem n s (Nat.succ.inj hl) fun y hy => hb y (List.mem_cons_of_mem _ hy)
    unfold allSides
    refine List.mem_flatMap.mpr ⟨s, ih, ?_⟩
    rcases hb x List.mem_cons_self with rfl | rfl | rfl <;> simp
theorem okOwn_of {s : List Int} {b : Nat} (h : OwnOk s b) : okOwn s b = true := by
  unfold okOwn
  have h0 := h.mem_iff (a := 0)
  have h1 := h.mem_iff (a := 1)
  have h2 := h.mem_iff (a := 2)
  simp only [List.mem_cons, List.not_mem_nil, or_false, true_or, or_true, true_iff] at h0 h1 h2
  simp only [List.any_cons, List.any_nil, Bool.or_false, Bool.and_eq_true, Bool.or_eq_true, beq_iff_eq]
  have sw : ∀ {x a b c : Int}, (x = a ∨ x = b ∨ x = c) → (a = x ∨ b = x ∨ c = x) := fun h => h.imp Eq.symm (Or.imp Eq.symm Eq.symm)
  first
    | exact ⟨⟨sw h0, sw h1⟩, sw h2⟩
    | exact ⟨⟨by omega, by omega⟩, by omega⟩
/-- all that one turn of the law wants -/
structure TurnOk (n : Nat) (ps : List Pick) (b : Nat) (t : List Int) : Prop where
  three : ThreeOk n t
  base : exchZ (ps.map lightOf) [] [] ≠ 0
  lights : ∀ v ∈ ps.map lightOf, In128 v
  law : walksL 6 (ps.map sideOf) [ownK (ps.map sideOf) b 0, ownK (ps.map sideOf) b 1, ownK (ps.map sideOf) b 2] (goneOf t) (newOf t) (stayOf t) = !decide (exchZ (ps.map lightOf) (goneOf t) (newOf t) = 0)
theorem turn_ok {n : Nat} {ps : List Pick} (h5 : 5 ≤ n) (h6 : n ≤ 6) (h : PalOk n ps) {b : Nat} (hb : b < 8) (ho : OwnOk (ps.map sideOf) b) {t : List Int} (ht : t ∈ (allThrees n).drop 1) : TurnOk n ps b t := by
  have hn : n = 5 ∨ n = 6 := by omega
  have hidx : ∀ r ∈ allThrees n, idxOkB n r = true := by
    rcases hn with rfl | rfl
    · exact List.all_eq_true.mp idx5
    · exact List.all_eq_true.mp idx6
  have h012 : [0, 1, 2] ∈ allThrees n := by
    rcases hn with rfl | rfl <;> decide
  have hb0 := exch_same h (by omega) (hidx _ h012)
  have hsame : sameSide (ps.map sideOf) [0, 1, 2] = false := by
    have hl := h.len
    match ps, hl with
    | [], e => simp at e; omega
    | [_], e => simp at e; omega
    | [_, _], e => simp at e; omega
    | p :: q :: r :: ps', _ =>
      have := h.al (sideOf r) (ps'.map sideOf)
      unfold sameSide
      show (decide (sideOf p = sideOf q) && decide (sideOf q = sideOf r)) = false
      by_cases e1 : sideOf p = sideOf q
      · by_cases e2 : sideOf q = sideOf r
        · exact absurd (by simp only [List.map_cons, e1, e2]) this
        · simp [e2]
      · simp [e1]
  have hside : ps.map sideOf ∈ allSides n := allSides_mem n _ (by rw [List.length_map, h.len]) fun x hx => by
    obtain ⟨p, _, rfl⟩ := List.mem_map.mp hx
    unfold sideOf tokSide
    split <;> (try split) <;> simp
  have hw : walkLaw n = true := by
    rcases hn with rfl | rfl
    · exact walkLaw5
    · exact walkLaw6
  refine ⟨?_, ?_, ?_, ?_⟩
  · refine threeOk_of ?_
    rcases hn with rfl | rfl
    · exact List.all_eq_true.mp three5 t ht
    · exact List.all_eq_true.mp three6 t ht
  · intro e
    rw [hsame] at hb0
    exact absurd (show exchZ (ps.map lightOf) (goneOf [0, 1, 2]) (newOf [0, 1, 2]) = 0 from e) (of_decide_eq_false hb0)
  · intro v hv
    obtain ⟨p, hp, rfl⟩ := List.mem_map.mp hv
    have := h.pt p hp
    exact light128 this.1 this.2.1 this.2.2
  · rw [exch_same h (by omega) (hidx t (List.mem_of_mem_drop ht))]
    unfold walkLaw at hw
    have h1 := List.all_eq_true.mp hw _ hside
    rw [hsame, Bool.false_or] at h1
    have h2 := List.all_eq_true.mp h1 b (List.mem_range.mpr hb)
    rw [okOwn_of ho, Bool.not_true, Bool.false_or] at h2
    exact eq_of_beq (List.all_eq_true.mp h2 t ht)
end Mine
end
section
open PySem PySem.Spec PySem.Calls PySem.W PyProof.Rows
set_option maxRecDepth 100000
namespace Mine
open LCg
section
variable {prog : Program} {w : World} {A : Around} {E : Value → Shared → Prop} {s : Shared} {h₀ : Heap} {L : Addr} {m : Str → Option Value} {env : Env}
/-- three clauses over ranges -/
abbrev gens3 (xa xb xc : Str) (pa pb pc : Pos) (i1 i2 i3 : PySem.Expr) : List Comprehension := [⟨.Name xa pa, i1, [], 0⟩, ⟨.Name xb pb, i2, [], 0⟩, ⟨.Name xc pc, i3, [], 0⟩]
def innerAt (e : PySem.Expr) (d : Nat) (i : PySem.Expr) (acc : Value) (env : Env) (T : Sem Fin) : Sem Fin :=
  eval i env >>= fun x => standAt i.pos >>= fun _ => foldedSetIterable i env x >>= fun x => holding [x] (pyIter x) >>= fun it => runOwn (.compStart e d it acc env) env >>= fun _ => T
def innerEmit (elt : PySem.Expr) (acc : Value) (env : Env) (T : Sem Fin) : Sem Fin := (eval elt env >>= fun x => call (.builtin "list.append") [acc, x] >>= fun _ => (pure () : Sem Unit)) >>= fun _ => T
def turnForm (e : PySem.Expr) (d : Nat) (x : Str) (px pos : Pos) (it acc : Value) (env : Env) (inner : Sem Fin → Sem Fin) : Sem Fin :=
  standAt pos >>= fun _ => pyNext it >>= fun r => match r with
    | none => pure (.done .next)
    | some v => letOwnedTupleGo (.Name x px) it v >>= fun _ => assign (.Name x px) env v >>= fun _ => inner (again (.compLoop e d it acc env))
section
variable {elt i1 i2 i3 : PySem.Expr} {xa xb xc : Str} {pa pb pc pos : Pos} {scope : Scope} {it acc : Value}
theorem turn0 : compTurn (.ListComp elt (gens3 xa xb xc pa pb pc i1 i2 i3) scope pos) 0 it acc env = turnForm (.ListComp elt (gens3 xa xb xc pa pb pc i1 i2 i3) scope pos) 0 xa pa i1.pos it acc env (innerAt (.ListComp elt (gens3 xa xb xc pa pb pc i1 i2 i3) scope pos) 1 i2 acc env) := by
  rfl
theorem turn1 : compTurn (.ListComp elt (gens3 xa xb xc pa pb pc i1 i2 i3) scope pos) 1 it acc env = turnForm (.ListComp elt (gens3 xa xb xc pa pb pc i1 i2 i3) scope pos) 1 xb pb i2.pos it acc env (innerAt (.ListComp elt (gens3 xa xb xc pa pb pc i1 i2 i3) scope pos) 2 i3 acc env) := by
  rfl
theorem turn2 : compTurn (.ListComp elt (gens3 xa xb xc pa pb pc i1 i2 i3) scope pos) 2 it acc env = turnForm (.ListComp elt (gens3 xa xb xc pa pb pc i1 i2 i3) scope pos) 2 xc pc i3.pos it acc env (innerEmit elt acc env) := by
  rfl
end
/-- a clause over a range: the state -/
def ClEnd (h₀ : Heap) (L : Addr) (m : Str → Option Value) (s₀ : Shared) (I : Addr) (oI : Obj) (C : Addr) (J : (Str → Option Value) → List (Addr × Obj) → Prop) (s' : Shared) : Prop :=
  ∃ h tk m₂ rest oC, s' = { s₀ with heap := h, toks := tk } ∧ NsObj oC m₂ ∧ Fr h₀ L h m ∧ News h₀ L h ((I, oI) :: (C, oC) :: rest) ∧ (∀ p ∈ rest, p.1 ≠ I ∧ p.1 ≠ C) ∧ J m₂ rest
theorem rangeLoop {elt : PySem.Expr} {gens : List Comprehension} {scope : Scope} {spos px pos : Pos} {d : Nat} {x : Str} {acc : Value} {inner : Sem Fin → Sem Fin} {R : Result → Shared → Prop} {I C : Addr} {a : Int} {n : Nat} {oC : Obj} {m0 : Str → Option Value} {rest0 : List (Addr × Obj)}
    (hturn : compTurn (.ListComp elt gens scope spos) d (.ref I) acc env = turnForm (.ListComp elt gens scope spos) d x px pos (.ref I) acc env inner)
    (hh : A.handled = none) (hx : env.kindOf x = some .local) (hp : (env.scope.kind == .class || (env.scope.kind == .module && env.locals != env.globals)) = false) (hC : env.locals = C)
    (F : Fr h₀ L s.heap m) (N : News h₀ L s.heap ((I, itR a n) :: (C, oC) :: rest0)) (ho : NsObj oC m0) (hIC : @Ne Nat I C) (hoff : ∀ p ∈ rest0, p.1 ≠ I ∧ p.1 ≠ C)
    (J : Nat → (Str → Option Value) → List (Addr × Obj) → Prop) (h0 : J 0 m0 rest0)
    (turn : ∀ i m₂ rest oC t h tk (E' : Value → Shared → Prop) (T : Sem Fin) (QQ : Fin → Shared → Prop), i < n → J i m₂ rest → NsObj oC (fun z => if z = x then some (.int (a + (i : Int)) t) else m₂ z) → Fr h₀ L h m →
      News h₀ L h ((I, itR (a + ((i + 1 : Nat) : Int)) ((n : Int) - ((i + 1 : Nat) : Int))) :: (C, oC) :: rest) → (∀ p ∈ rest, p.1 ≠ I ∧ p.1 ≠ C) →
      (∀ s', ClEnd h₀ L m s I (itR (a + ((i + 1 : Nat) : Int)) ((n : Int) - ((i + 1 : Nat) : Int))) C (J (i + 1)) s' → wpAny (model prog w) A T QQ E' s') → wpAny (model prog w) A (inner T) QQ E' { s with heap := h, toks := tk })
    (done : ∀ m₂ rest oC h tk, J n m₂ rest → NsObj oC m₂ → Fr h₀ L h m → News h₀ L h ((C, oC) :: rest) → (∀ p ∈ rest, p.1 ≠ C) → R (.ok .next) { s with heap := h, toks := tk }) :
    codeAny (model prog w) A (.compLoop (.ListComp elt gens scope spos) d (.ref I) acc env) R s := by
  have W := range_walks (prog := prog) (w := w) (A := A) (I := I) hh a n
  have zI := N (I, itR a n) List.mem_cons_self
  have zC := N (C, oC) (List.mem_cons_of_mem _ List.mem_cons_self)
  have hIL : L ≠ I := Ne.symm zI.2.1
  have hI₀ := zI.2.2
  have hCL := zC.2.1
  have hC₀ := zC.2.2
  refine codeAny_loop (by rfl)
    (fun k s' => ∃ i h tk m₂ oC rest, s' = { s with heap := h, toks := tk } ∧ i ≤ n ∧ k = n + 1 - i ∧ NsObj oC m₂ ∧ Fr h₀ L h m ∧ News h₀ L h ((I, itR (a + (i : Int)) ((n : Int) - (i : Int))) :: (C, oC) :: rest) ∧ (∀ p ∈ rest, p.1 ≠ I ∧ p.1 ≠ C) ∧ J i m₂ rest) ?_ (n + 1)
    ⟨0, s.heap, s.toks, m0, oC, rest0, rfl, Nat.zero_le _, rfl, ho, F, by simpa using N, hoff, h0⟩
  rintro k s' ⟨i, h, tk, m₂, oC, rest, rfl, hi, rfl, hoC, F', N', hoff', hJ⟩
  show wpAny _ _ ((compTurn (.ListComp elt gens scope spos) d (.ref I) acc env).onRaise (fun x => do noteFrame x env; theTreesLotGoes x)) _ _ _
  refine wpAny_noted ?_
  rw [hturn]
  unfold turnForm
  refine wpAny_bind (wpAny_standAt (wpAny_bind ?_))
  have hst : IsRangeIter h I (a + (i : Nat) * 1) ((n : Int) - (i : Nat)) 1 := by
    have q : h.get? I = some (itR (a + (i : Int)) ((n : Int) - (i : Int))) := (N' (I, itR (a + (i : Int)) ((n : Int) - (i : Int))) List.mem_cons_self).1
    show h.get? I = some _
    rw [q, Int.mul_one]; rfl
  by_cases hlt : i < n
  · refine W.item i _ _ _ hlt hst fun v h₂ tk₂ hPv hst₂ hk₂ => ?_
    obtain ⟨t, rfl⟩ := hPv
    refine wpAny_bind (wpAny_pure ?_)
    have F₂ : Fr h₀ L h₂ m := fr_but F' hk₂ hIL hI₀
    have gC : h₂.get? C = some oC := hk₂ _ _ (by simpa using Ne.symm hIC) (N' (C, oC) (List.mem_cons_of_mem _ List.mem_cons_self)).1
    subst hC
    refine wpAny_bind (wpAny_assign_Name (wpAny_storeName_local hx (hoC.ns gC) (fun h₃ hn₃ hs₃ => ?_) hp))
    obtain ⟨oC₃, heC, hoC₃⟩ := ns_obj hn₃
    have hst₃ : IsRangeIter h₃ I (a + ((i + 1 : Nat) : Int) * 1) ((n : Int) - ((i + 1 : Nat) : Int)) 1 := hs₃.extBut _ _ hIC hst₂
    have F₃ : Fr h₀ L h₃ m := F₂.change hs₃ hCL hC₀
    have N₃ : News h₀ L h₃ ((I, itR (a + ((i + 1 : Nat) : Int)) ((n : Int) - ((i + 1 : Nat) : Int))) :: (env.locals, oC₃) :: rest) := fun p hp => by
      rcases List.mem_cons.mp hp with rfl | hp
      · refine ⟨?_, zI.2⟩
        have q : h₃.get? I = some _ := hst₃
        rw [q, Int.mul_one]; rfl
      · rcases List.mem_cons.mp hp with rfl | hp
        · exact ⟨heC, hCL, hC₀⟩
        · have z := N' p (List.mem_cons_of_mem _ (List.mem_cons_of_mem _ hp))
          refine ⟨hs₃.extBut _ _ (hoff' p hp).2 (hk₂ _ _ (by simpa using (hoff' p hp).1) z.1), z.2⟩
    refine turn i m₂ rest oC₃ t h₃ _ _ _ _ hlt hJ hoC₃ F₃ N₃ hoff' fun s₄ h₄ => ?_
    obtain ⟨h₄, tk₄, m₄, rest₄, oC₄, rfl, ho₄, F₄, N₄, hoff₄, hJ₄⟩ := h₄
    exact wpAny_pure ⟨rfl, n + 1 - (i + 1), by omega, i + 1, h₄, tk₄, m₄, oC₄, rest₄, rfl, hlt, rfl, ho₄, F₄, N₄, hoff₄, hJ₄⟩
  · obtain rfl : i = n := Nat.le_antisymm hi (Nat.not_lt.mp hlt)
    refine W.done _ _ _ hst fun h₂ tk₂ hk₂ => wpAny_pure ?_
    refine done m₂ rest oC h₂ tk₂ hJ hoC (fr_but F' hk₂ hIL hI₀) (fun p hp => ?_) fun p hp => (hoff' p hp).2
    have z := N' p (List.mem_cons_of_mem _ hp)
    refine ⟨hk₂ _ _ ?_ z.1, z.2⟩
    rcases List.mem_cons.mp hp with rfl | hp
    · simpa using Ne.symm hIC
    · simpa using (hoff' p hp).1
/-- the clause after -/
theorem innerAt_range {elt : PySem.Expr} {xa xb xc : Str} {pa pb pc : Pos} {i1 i2 i3 : PySem.Expr} {scope : Scope} {spos : Pos} {d : Nat} (_F₀ : Fr h₀ L s.heap m) (hd : d = 1 ∨ d = 2) {acc : Value} {i : PySem.Expr} (Q : Shared → Prop) {T : Sem Fin} {QQ : Fin → Shared → Prop} (hT : ∀ s', Q s' → wpAny (model prog w) A T QQ E s') (hs : ∀ x, foldedSetIterable i env x = pure x)
    (h : wpAny (model prog w) A (eval i env) (fun xv s₁ => Halt (∃ r a b t u v n rest, xv = .ref r ∧ Fr h₀ L s₁.heap m ∧ News h₀ L s₁.heap rest ∧ IsRange s₁.heap r a b 1 t u v ∧ Builtin.Range.small a b 1 = true ∧ Builtin.Range.rangeSize a b 1 = ((n : Nat) : Int) ∧
      (∀ I h₂ (R : Result → Shared → Prop), Fr h₀ L h₂ m → News h₀ L h₂ ((I, itR a n) :: rest) → (∀ p ∈ rest, p.1 ≠ I) → (∀ s', Q s' → R (.ok .next) s') → codeAny (model prog w) A (.compLoop (.ListComp elt (gens3 xa xb xc pa pb pc i1 i2 i3) scope spos) d (.ref I) acc env) R { s₁ with heap := h₂ }))) E s) :
    wpAny (model prog w) A (innerAt (.ListComp elt (gens3 xa xb xc pa pb pc i1 i2 i3) scope spos) d i acc env T) QQ E s := by
  unfold innerAt
  refine wpAny_bind (wpAny_mono h (fun xv s₁ h₁ => ?_) fun _ _ e => e)
  obtain ⟨r, a, b, t, u, v, n, rest, rfl, F, N, hr, hsm, hn, k⟩ := h₁
  refine wpAny_bind (wpAny_standAt (wpAny_bind (wpAny_of_eq (hs _) (wpAny_bind (wpAny_holding (wpAny_pyIter_range hr hsm ?_))))))
  have hIt : IsRangeIter (s₁.heap.push { cls := .type "range_iterator", data := .fields #[rawInt a, rawInt n, rawInt 1] }) s₁.heap.objs.size a n 1 := Heap.get?_push_size _ rfl
  have up : ∀ b o, s₁.heap.get? b = some o → (s₁.heap.push (itR a n)).get? b = some o := fun b o e => Heap.get?_push_of_some _ e
  rw [hn]
  refine wpAny_bind (wpAny_runOwn ?_)
  rw [Around.mark_none]
  have hR := k s₁.heap.objs.size (s₁.heap.push (itR a n)) (fun r s' => match r with | .ok f => wpAny (model prog w) A T QQ E s' | .error e => cameBackBy (model prog w) A env E e s') (F.keeps up) (fun p hp => by
      rcases List.mem_cons.mp hp with rfl | hp
      · exact ⟨Heap.get?_push_size _ rfl, Ne.symm (Nat.ne_of_lt F.ns.lt), next_is_new F⟩
      · exact ⟨up _ _ (N p hp).1, (N p hp).2⟩) (fun p hp => Nat.ne_of_lt (Heap.lt_size (N p hp).1)) (fun s' q => hT s' q)
  refine codeAny_of_tree ?_
  rcases hd with rfl | rfl
  · show wpAny _ _ ((compStart (.ListComp elt (gens3 xa xb xc pa pb pc i1 i2 i3) scope spos) 1 (.ref s₁.heap.objs.size) acc env).onRaise (fun x => do noteFrame x env; standAt theWindowsPlace)) _ _ _
    refine wpAny_notedAt ?_
    unfold compStart
    show wpAny _ _ (ask >>= _) _ _ _
    refine wpAny_bind (wpAny_askSetting (wpAny_ite ?_))
    split
    · first
        | exact wpAny_bind (wpAny_pure (wpAny_pure (And.intro rfl hR)))
        | exact wpAny_pure (And.intro rfl hR)
    · refine wpAny_bind (wpAny_rule ?_)
      show wpAny _ _ (standAt i2.pos >>= _) _ _ _
      exact wpAny_bind (wpAny_standAt (wpAny_bind (wpAny_pyIter_rangeiter hIt (wpAny_pure (And.intro rfl hR)))))
  · show wpAny _ _ ((compStart (.ListComp elt (gens3 xa xb xc pa pb pc i1 i2 i3) scope spos) 2 (.ref s₁.heap.objs.size) acc env).onRaise (fun x => do noteFrame x env; standAt theWindowsPlace)) _ _ _
    refine wpAny_notedAt ?_
    unfold compStart
    show wpAny _ _ (ask >>= _) _ _ _
    refine wpAny_bind (wpAny_askSetting (wpAny_ite ?_))
    split
    · first
        | exact wpAny_bind (wpAny_pure (wpAny_pure (And.intro rfl hR)))
        | exact wpAny_pure (And.intro rfl hR)
    · refine wpAny_bind (wpAny_rule ?_)
      show wpAny _ _ (standAt i3.pos >>= _) _ _ _
      exact wpAny_bind (wpAny_standAt (wpAny_bind (wpAny_pyIter_rangeiter hIt (wpAny_pure (And.intro rfl hR)))))
/-- a name gets what three clauses make -/
theorem Assign_Comp3 {elt i1 i2 i3 : PySem.Expr} {xa xb xc y : Str} {pa pb pc py : Pos} {scope : Scope} {cl : List (Str × Addr)} {pos spos : Pos} {Q : Flow → Shared → Prop} (_F₀ : Fr h₀ L s.heap m) (hLe : env.locals = L)
    (hsw : swapsWith (.ListComp elt (gens3 xa xb xc pa pb pc i1 i2 i3) scope pos) (some (.Name y py)) spos.line env = pure true)
    (hclos : closureFor scope env = pure cl) (hcell : ∀ z ∈ scope.names, z.2 ≠ .cell) (hkind : scope.kind = .function)
    (hnames : ∀ z ∈ scope.names, z.2 = .local → scope.names.lookup z.1 = some .local)
    (hy : env.kindOf y = some .local) (hp : (env.scope.kind == .class || (env.scope.kind == .module && env.locals != env.globals)) = false) (hh : A.handled = none)
    (h : wpAny (model prog w) A (eval i1 env) (fun xv s₁ => Halt (∃ r a b t u v n news, ∃ P : Addr → List (Addr × Obj) → Prop, xv = .ref r ∧ Fr h₀ L s₁.heap m ∧ News h₀ L s₁.heap news ∧ IsRange s₁.heap r a b 1 t u v ∧ Builtin.Range.small a b 1 = true ∧ Builtin.Range.rangeSize a b 1 = ((n : Nat) : Int) ∧
      (∀ I C D h₂ tk oC m0 (R : Result → Shared → Prop), Fr h₀ L h₂ m → News h₀ L h₂ ((I, itR a n) :: (C, oC) :: (D, PySem.W.listOf #[] 0) :: news) → NsObj oC m0 → (@Ne Nat I C) → (@Ne Nat I D) → (@Ne Nat C D) → Off3 I C D news →
        (∀ h tk m₂ oC all, Fr h₀ L h m → News h₀ L h ((C, oC) :: all) → NsObj oC m₂ → (∀ p ∈ all, p.1 ≠ C) → P D all → R (.ok .next) { s₁ with heap := h, toks := tk }) →
        codeAny (model prog w) A (.compLoop (.ListComp elt (gens3 xa xb xc pa pb pc i1 i2 i3) scope pos) 0 (.ref I) (.ref D) (compEnvC scope cl C env)) R { s₁ with heap := h₂, toks := tk }) ∧
      (∀ D h tk all, Fr h₀ L h (fun z => if z = y then some (.ref D) else m z) → News h₀ L h all → P D all → Q .next { s₁ with heap := h, toks := tk }))) E s)
    (hs : ∀ x, foldedSetIterable i1 env x = pure x := by intro _; rfl) :
    wpAny (model prog w) A (exec (.Assign [.Name y py] (.ListComp elt (gens3 xa xb xc pa pb pc i1 i2 i3) scope pos) spos) env) Q E s := by
  subst hLe
  rw [exec_Assign_Name_used _ _ _ _ hsw]
  refine wpAny_bind (wpAny_standAt (wpAny_bind ?_))
  show wpAny _ A (do let _ ← comprehension (.ListComp elt (gens3 xa xb xc pa pb pc i1 i2 i3) scope pos) scope env _ (newList []) false (eval i1 env) (some (assign (.Name y py) env))) _ _ s
  refine wpAny_bind (wpAny_mono (wpAny_comprehension_free (use := some (assign (.Name y py) env)) (Q := fun _ s' => Q .next s') rfl hs hclos hkind hnames
    (wpAny_mono h (fun xv s₁ h₁ => ?_) fun _ _ e => e)) (fun _ s' hq => wpAny_pure (wpAny_pure hq)) fun _ _ e => e)
  obtain ⟨r, a, b, t, u, v, n, news, P, rfl, F, N, hr, hsm, hn, loop, fin⟩ := h₁
  refine wpAny_pyIter_range hr hsm ?_
  rw [hn]
  have up : ∀ b o, s₁.heap.get? b = some o → (s₁.heap.push (itR a n)).get? b = some o := fun b o e => Heap.get?_push_of_some _ e
  have hit : (s₁.heap.push (itR a n)).get? s₁.heap.objs.size = some (itR a n) := Heap.get?_push_size _ rfl
  show wpAny _ A (newList []) _ _ { s₁ with heap := s₁.heap.push (itR a n) }
  refine wpAny_newObj_type (wpAny_newFunctionEnv hcell (by intro y hy; simp at hy) (fun h₁ hns₁ hsb₁ => ?_) hkind)
  dsimp only at hns₁ hsb₁ ⊢
  generalize hH1 : s₁.heap.push (itR a n) = H1 at up hit hns₁ hsb₁ ⊢
  have hz1 : H1.objs.size = s₁.heap.objs.size + 1 := by rw [← hH1, Heap.size_push]
  generalize hH2 : H1.push { cls := .type "list", dict := none, data := .seq ([] : List Value).toArray } = H2 at hns₁ hsb₁ ⊢
  have hz2 : H2.objs.size = H1.objs.size + 1 := by rw [← hH2, Heap.size_push]
  have up2 : ∀ b o, H1.get? b = some o → H2.get? b = some o := fun b o e => hH2 ▸ Heap.get?_push_of_some _ e
  have hacc : H2.get? H1.objs.size = some (PySem.W.listOf #[] 0) := hH2 ▸ Heap.get?_push_size _ rfl
  have old : ∀ b o, b < H2.objs.size → H2.get? b = some o → h₁.get? b = some o := fun b o hb e => hsb₁.extBut b o (Nat.ne_of_lt hb) (Heap.get?_push_of_some _ e)
  have fresh : ∀ c, s₁.heap.objs.size ≤ c → h₀.get? c = none := fun c hc => by
    cases e : h₀.get? c with
    | none => rfl
    | some o' => exact absurd (Heap.lt_size (F.keep c o' e)) (Nat.not_lt.mpr hc)
  obtain ⟨oC, heC, hoC⟩ := ns_obj hns₁
  have all : ∀ b o, s₁.heap.get? b = some o → h₁.get? b = some o := fun b o e => old b o (Nat.lt_of_lt_of_le (Heap.lt_size e) (by omega)) (up2 _ _ (up _ _ e))
  have hLlt : env.locals < s₁.heap.objs.size := F.ns.lt
  have NN : News h₀ env.locals h₁ ((s₁.heap.objs.size, itR a n) :: (H2.objs.size, oC) :: (H1.objs.size, PySem.W.listOf #[] 0) :: news) := fun p hp => by
    rcases List.mem_cons.mp hp with rfl | hp
    · exact ⟨old _ _ (by show s₁.heap.objs.size < H2.objs.size; omega) (up2 _ _ hit), Ne.symm (Nat.ne_of_lt hLlt), fresh _ (Nat.le_refl _)⟩
    · rcases List.mem_cons.mp hp with rfl | hp
      · exact ⟨heC, Ne.symm (Nat.ne_of_lt (Nat.lt_of_lt_of_le hLlt (by omega))), fresh _ (by show s₁.heap.objs.size ≤ H2.objs.size; omega)⟩
      · rcases List.mem_cons.mp hp with rfl | hp
        · exact ⟨old _ _ (by show H1.objs.size < H2.objs.size; omega) hacc, Ne.symm (Nat.ne_of_lt (Nat.lt_of_lt_of_le hLlt (by omega))), fresh _ (by show s₁.heap.objs.size ≤ H1.objs.size; omega)⟩
        · exact ⟨all _ _ (N p hp).1, (N p hp).2⟩
  have key := loop s₁.heap.objs.size H2.objs.size H1.objs.size h₁ (s₁.toks + ([] : List (Str × Value)).length) oC _ (compPost (model prog w) A E (some (assign (.Name y py) env)) (fun _ s' => Q .next s') (.ref H1.objs.size) H2.objs.size) (F.keeps all) NN hoC
    (Nat.ne_of_lt (by omega)) (Nat.ne_of_lt (by omega)) (Ne.symm (Nat.ne_of_lt (by omega))) (Off3.of fun p hp => by
      have := Heap.lt_size (N p hp).1
      exact ⟨Nat.ne_of_lt this, Nat.ne_of_lt (Nat.lt_of_lt_of_le this (by omega)), Nat.ne_of_lt (Nat.lt_of_lt_of_le this (by omega))⟩) ?_
  · refine codeAny_compStart_list key (wpAny_pyIter_rangeiter (x := a) (left := n) (step := 1) ?_ key)
    exact (NN _ List.mem_cons_self).1
  · intro h' tk' m₂ oC' all' F' N' ho' hoff' hP
    show wpAny _ A (assign (.Name y py) env (.ref H1.objs.size)) _ _ _
    refine wpAny_assign_Name (wpAny_storeName_local hy F'.ns (fun h₂ hn₂ hs₂ => ?_) hp)
    have hL₀ : h₀.get? env.locals = none := Heap.get?_none_of_le F'.above
    have F₂ : Fr h₀ env.locals h₂ (fun z => if z = y then some (.ref H1.objs.size) else m z) := ⟨hn₂, fun b o e => hs₂.extBut b o (fun q => by rw [q, hL₀] at e; cases e) (F'.keep b o e), F'.above⟩
    have zC := N' (H2.objs.size, oC') List.mem_cons_self
    refine ⟨m₂, (ho'.ns zC.1).sameBut hs₂ zC.2.1, fun h'' hs'' => fin H1.objs.size h'' _ all' (F₂.change hs'' zC.2.1 zC.2.2) (fun p hp => ?_) hP⟩
    have zp := N' p (List.mem_cons_of_mem _ hp)
    have z : h₂.get? p.1 = some p.2 := hs₂.extBut _ _ zp.2.1 zp.1
    exact ⟨hs''.extBut _ _ (hoff' p hp) z, zp.2⟩
end
end Mine
end
section
open PySem PySem.Spec PySem.Calls PySem.W PyProof.Rows
set_option maxRecDepth 100000
namespace Mine
open LCg LCt
section
variable {prog : Program} {w : World} {A : Around} {s : Shared} {h₀ : Heap} {L : Addr} {m : Str → Option Value} {env : Env}
/-- the test has said no -/
def NoneEnd (h₀ : Heap) (L : Addr) (m : Str → Option Value) (s₀ : Shared) (I : Addr) (oI : Obj) (C : Addr) (oC : Obj) (D : Addr) (S J : List (Addr × Obj) → Prop) (ok : Bool) (s' : Shared) : Prop :=
  ok = false ∧ ∃ h' tk' nw', s' = { s₀ with heap := h', toks := tk' } ∧ Fr h₀ L h' m ∧ News h₀ L h' ((I, oI) :: (C, oC) :: (D, lst []) :: nw') ∧ Off3 I C D nw' ∧ S nw' ∧ J nw'
/-- a comprehension whose test keeps nothing -/
theorem compT_none {ct elt : PySem.Expr} {x : Str} {scope : Scope} {cl : List (Str × Addr)} {S : List (Addr × Obj) → Prop} {P : Nat → Value → Prop} {Fin : List Value → List (Addr × Obj) → Prop} {n : Nat} {news : List (Addr × Obj)} (J : Nat → List (Addr × Obj) → Prop) (h0 : J 0 news)
    (turn : ∀ i nw v I oI C oC D m₂ h tk (E' : Value → Shared → Prop), i < n → J i nw → P i v → NsObj oC m₂ → m₂ x = some v → Fr h₀ L h m → News h₀ L h ((I, oI) :: (C, oC) :: (D, lst []) :: nw) → Off3 I C D nw → ((@Ne Nat I C) ∧ (@Ne Nat I D) ∧ (@Ne Nat C D)) →
      wpAny (model prog w) A (isTrue ct (compEnvC scope cl C env) (eval ct (compEnvC scope cl C env))) (NoneEnd h₀ L m s I oI C oC D S (J (i + 1))) E' { s with heap := h, toks := tk })
    (fin : ∀ nw, J n nw → Fin [] nw) : CompRestT prog w A h₀ L m env ct elt x scope cl s S P Fin n 0 [] news := by
  have key : ∀ (j i : Nat) (nw : List (Addr × Obj)), i + j = n → J i nw → CompRestT prog w A h₀ L m env ct elt x scope cl s S P Fin j i [] nw := by
    intro j
    induction j with
    | zero =>
      intro i nw hi hJ
      have e : i = n := by omega
      subst e
      exact CompRestT.zero (fin nw hJ)
    | succ j ih =>
      intro i nw hi hJ
      refine CompRestT.succ ?_
      intro v I oI C oC D m₂ h tk E' hv hC hx F N off ne
      refine wpAny_mono (turn i nw v I oI C oC D m₂ h tk E' (by omega) hJ hv hC hx F N off ne) (fun ok s' hq => ?_) fun _ _ e => e
      obtain ⟨rfl, h', tk', nw', rfl, F', N', off', hS, hJ'⟩ := hq
      simp only [Bool.false_eq_true, if_false]
      exact CompEnd.intro F' N' nw' (fun _ hp => hp) off' hS (ih (i + 1) nw' (by omega) hJ')
  exact key n 0 news (by omega) h0
end
theorem pick_from (as : List Addr) : kms_pick (as.map Value.ref).toArray.toList (some (1 : Int)) none = (as.drop 1).map Value.ref := by
  have h : ¬ ((1 : Int) < 0) := by omega
  simp only [kms_pick, kms_lo, kms_hi, h, if_false]
  cases as with
  | nil => simp
  | cons a r => simp [List.take_of_length_le]
theorem tabs_off {ps qs : Array Value} {c30 c37 news : List (Addr × Obj)} (h : Tabs ps c30 qs c37 news) : ∀ p ∈ news, ∀ q ∈ tabL ps c30 qs c37 [], p.1 ≠ q.1 := fun p hp q hq => by
  unfold tabL at hq
  simp only [List.mem_append, List.mem_cons, List.append_nil] at hq
  rcases hq with rfl | hq | rfl | hq
  · exact h.n30 p (by simp [hp])
  · exact h.d30 q hq p (by simp [hp])
  · exact h.n37 p (by simp [hp])
  · exact h.d37 q hq p hp
theorem tabs_sub' {ps qs : Array Value} {c30 c37 news news' : List (Addr × Obj)} (h : Tabs ps c30 qs c37 news) (hs : ∀ p ∈ news', p ∈ news) : Tabs ps c30 qs c37 news' :=
  tabs_with (tabs_nil h) fun p hp q hq => tabs_off h p (hs p hp) q hq
theorem tabs_add {ps qs : Array Value} {c30 c37 news more : List (Addr × Obj)} (h : Tabs ps c30 qs c37 news) (ho : ∀ p ∈ more, ∀ q ∈ tabL ps c30 qs c37 [], p.1 ≠ q.1) : Tabs ps c30 qs c37 (more ++ news) :=
  tabs_with (tabs_nil h) fun p hp q hq => (List.mem_append.mp hp).elim (fun hp => ho p hp q hq) fun hp => tabs_off h p hp q hq
theorem tabL_mem {ps qs : Array Value} {c30 c37 news : List (Addr × Obj)} {p : Addr × Obj} : p ∈ tabL ps c30 qs c37 news ↔ p ∈ tabL ps c30 qs c37 [] ∨ p ∈ news := by
  unfold tabL
  simp only [List.mem_append, List.mem_cons, List.append_nil]
  grind
theorem lights_mem {objs : List (Addr × Obj)} : ∀ {as : List Addr} {vs : List V3}, LightsIn objs as vs → ∀ a ∈ as, ∃ o, (a, o) ∈ objs
  | [], [], _, _, h => nomatch h
  | a :: as, v :: vs, ⟨⟨t0, t1, t2, k, hm⟩, r⟩, b, hb => by
    rcases List.mem_cons.mp hb with rfl | hb
    · exact ⟨_, hm⟩
    · exact lights_mem r b hb
  | [], _ :: _, h, _, _ => h.elim
  | _ :: _, [], h, _, _ => h.elim
theorem RowsIn.at {objs : List (Addr × Obj)} : ∀ {as : List Addr} {rs : List (List Int)}, RowsIn objs as rs → ∀ (i : Nat) (a : Addr), as[i]? = some a → ∃ r ws k, rs[i]? = some r ∧ (a, PySem.W.listOf ws.toArray k) ∈ objs ∧ IntsAre ws r
  | [], [], _, i, a, h => by simp at h
  | a :: as, r :: rs, ⟨⟨ws, k, h1, h2⟩, t⟩, i, b, h => by
    cases i with
    | zero => cases h; exact ⟨r, ws, k, rfl, h1, h2⟩
    | succ i => exact RowsIn.at t i b (by simpa using h)
  | [], _ :: _, h, _, _, _ => h.elim
  | _ :: _, [], h, _, _, _ => h.elim
end Mine
end
section
open PySem PySem.Spec PySem.Calls PySem.W PyProof.Rows
namespace Mine
local macro_rules | `(tactic| walk_at "eval ListComp") => `(tactic| (k_here; k_dflt (first
  | (with_reducible show wpAny _ _ (eval (PySem.Expr.ListComp _ [⟨_, _, [], _⟩] _ _) _) _ _ _); refine LCg.ListComp_U (F₀ := by k_asm) (by with_unfolding_all rfl) (by decide) (by rfl) (by decide) (by rfl) ?_
  | (with_reducible show wpAny _ _ (eval (PySem.Expr.ListComp _ [⟨_, _, [_], _⟩] _ _) _) _ _ _); refine LCt.ListComp_T (F₀ := by k_asm) (by with_unfolding_all rfl) (by decide) (by rfl) (by decide) (by rfl) ?_)))
local macro_rules | `(tactic| walk_at "exec Assign cons ListComp") => `(tactic| (k_here; k_dflt (first
  | (with_reducible show wpAny _ _ (exec (PySem.Stmt.Assign _ (PySem.Expr.ListComp _ [⟨_, _, [], _⟩] _ _) _) _) _ _ _); refine LCg.Assign_ListComp_U (F₀ := by k_asm) (by rfl) (by with_unfolding_all rfl) (by with_unfolding_all rfl) (by decide) (by rfl) (by decide) (by rfl) (by rfl) (by rfl) ?_
  | (with_reducible show wpAny _ _ (exec (PySem.Stmt.Assign _ (PySem.Expr.ListComp _ [⟨_, _, [_], _⟩] _ _) _) _) _ _ _); refine LCt.Assign_ListComp_T (F₀ := by k_asm) (by rfl) (by with_unfolding_all rfl) (by with_unfolding_all rfl) (by decide) (by rfl) (by decide) (by rfl) (by rfl) (by rfl) ?_)))
local macro_rules | `(tactic| walk_at "CompSrc") => `(tactic| (k_here; refine Mine.halt ?_))
local macro_rules | `(tactic| walk_at "CompSrcT") => `(tactic| (k_here; refine Mine.halt ?_))
local macro_rules | `(tactic| walk_at "subscriptTail") => `(tactic| (k_here; (with_reducible show wpAny _ _ (subscriptTail _ _ (Value.ref _) (Value.int _ _)) _ _ _); (with_unfolding_all refine' item_anyK ?k1 ?k2 ?k3 ?k4 ?k5 ?_ ?k6; (case k1 => is_list); (case k2 => assumption); (case k3 => omega); (case k4 => omega); (case k5 => omega); (case k6 => with_unfolding_all rfl); k_whole); intro _))
local macro_rules | `(tactic| k_all) => `(tactic| assumption)
local macro_rules | `(tactic| walk_at "call ref") => `(tactic| (k_here; refine Mine.halt ?_))
theorem isListE {h₀ h : Heap} {L q : Addr} {news : List (Addr × Obj)} {vs : List Value} {n : Nat} {o : Obj} (N : News h₀ L h news) (ho : o = PySem.W.listOf vs.toArray n) (hq : (q, o) ∈ news) : h.IsList q vs.toArray := News.isList N (ho ▸ hq)
theorem nameG {g h : Heap} {L : Addr} {m : Str → Option Value} {P : Prop} (F : Fr g L h m) (k : ∀ g' L' h' m', g' = g → L' = L → h' = h → m' = m → Fr g' L' h' m' → P) : P := k g L h m rfl rfl rfl rfl F
def SizeEnd (s₀ : Shared) (h₀ : Heap) (L : Addr) (m : Str → Option Value) (news : List (Addr × Obj)) (v : Value) (s' : Shared) : Prop :=
  ∃ (n : Nat) (t : Tok) (h' : Heap) (tk' : Nat), v = .int (n : Int) t ∧ s' = { s₀ with heap := h', toks := tk' } ∧ 5 ≤ n ∧ n ≤ 6 ∧ Fr h₀ L h' m ∧ News h₀ L h' news
def NeA (a b : Nat) : Prop := a ≠ b
theorem NeA.l {a b : Nat} (h : NeA a b) : @Ne Nat a b := h
theorem NeA.r {a b : Nat} (h : NeA b a) : @Ne Nat a b := Ne.symm h
theorem offC {X a : Addr} {x : Obj} {r : List (Addr × Obj)} {R : Prop} (h : ∀ p ∈ (a, x) :: r, p.1 ≠ X) (k : (∀ p ∈ r, p.1 ≠ X) → R) : NeA a X ∧ R := ⟨h (a, x) (.head _), k fun p hp => h p (.tail _ hp)⟩
theorem offN {X a : Addr} {x : Obj} {r : List (Addr × Obj)} (h : ∀ p ∈ (a, x) :: r, p.1 ≠ X) : NeA a X := h (a, x) (.head _)
theorem off6 {X a b c d e f : Addr} {x y z u v t : Obj} {r : List (Addr × Obj)} (h : ∀ p ∈ (a, x) :: (b, y) :: (c, z) :: (d, u) :: (e, v) :: (f, t) :: r, p.1 ≠ X) : (NeA a X) ∧ (NeA b X) ∧ (NeA c X) ∧ (NeA d X) ∧ (NeA e X) ∧ NeA f X :=
  offC h fun h => offC h fun h => offC h fun h => offC h fun h => offC h fun h => offN h
theorem off7 {X a b c d e f g : Addr} {x y z u v t w : Obj} {r : List (Addr × Obj)} (h : ∀ p ∈ (a, x) :: (b, y) :: (c, z) :: (d, u) :: (e, v) :: (f, t) :: (g, w) :: r, p.1 ≠ X) : (NeA a X) ∧ (NeA b X) ∧ (NeA c X) ∧ (NeA d X) ∧ (NeA e X) ∧ (NeA f X) ∧ NeA g X :=
  offC h fun h => offC h fun h => offC h fun h => offC h fun h => offC h fun h => offC h fun h => offN h
theorem news_mid {h₀ h : Heap} {L : Addr} {p1 p2 p3 q1 q2 q3 q4 q5 q6 q7 : Addr × Obj} {objs : List (Addr × Obj)} (N : News h₀ L h (p1 :: p2 :: p3 :: (objs ++ [q1, q2, q3, q4, q5, q6, q7]))) : News h₀ L h (p1 :: p2 :: p3 :: q1 :: q2 :: q3 :: q4 :: q5 :: q6 :: q7 :: objs) := news_sub N fun p hp => by
  simp only [List.mem_cons, List.mem_append, List.not_mem_nil, or_false] at *
  grind
theorem off_mid {p1 p2 p3 q1 q2 q3 q4 q5 q6 q7 : Addr × Obj} {objs : List (Addr × Obj)} (h : ∀ p ∈ [q1, q2, q3, q4, q5, q6, q7], ∀ q ∈ p1 :: p2 :: p3 :: objs, p.1 ≠ q.1) :
    (∀ p ∈ [q1, q2, q3, q4, q5, q6, q7], p.1 ≠ p1.1) ∧ (∀ p ∈ [q1, q2, q3, q4, q5, q6, q7], p.1 ≠ p2.1) ∧ (∀ p ∈ [q1, q2, q3, q4, q5, q6, q7], p.1 ≠ p3.1) ∧ (∀ p ∈ objs, p.1 ≠ q1.1) ∧ (∀ p ∈ objs, p.1 ≠ q2.1) ∧ (∀ p ∈ objs, p.1 ≠ q3.1) ∧ (∀ p ∈ objs, p.1 ≠ q4.1) ∧ (∀ p ∈ objs, p.1 ≠ q5.1) ∧ (∀ p ∈ objs, p.1 ≠ q6.1) ∧ (∀ p ∈ objs, p.1 ≠ q7.1) :=
  ⟨fun p hp => h p hp p1 (by simp), fun p hp => h p hp p2 (by simp), fun p hp => h p hp p3 (by simp), fun p hp e => h q1 (by simp) p (by simp [hp]) e.symm, fun p hp e => h q2 (by simp) p (by simp [hp]) e.symm, fun p hp e => h q3 (by simp) p (by simp [hp]) e.symm,
    fun p hp e => h q4 (by simp) p (by simp [hp]) e.symm, fun p hp e => h q5 (by simp) p (by simp [hp]) e.symm, fun p hp e => h q6 (by simp) p (by simp [hp]) e.symm, fun p hp e => h q7 (by simp) p (by simp [hp]) e.symm⟩
theorem off9 {X a b c d e f g i j : Addr} {x y z u v t w o q : Obj} {r : List (Addr × Obj)} (h : ∀ p ∈ (a, x) :: (b, y) :: (c, z) :: (d, u) :: (e, v) :: (f, t) :: (g, w) :: (i, o) :: (j, q) :: r, p.1 ≠ X) :
    (NeA a X) ∧ (NeA b X) ∧ (NeA c X) ∧ (NeA d X) ∧ (NeA e X) ∧ (NeA f X) ∧ (NeA g X) ∧ (NeA i X) ∧ (NeA j X) ∧ ∀ p ∈ r, p.1 ≠ X :=
  offC h fun h => offC h fun h => offC h fun h => offC h fun h => offC h fun h => offC h fun h => offC h fun h => offC h fun h => offC h fun h => h
theorem off10 {X a b c d e f g i j k : Addr} {x y z u v t w o q l : Obj} {r : List (Addr × Obj)} (h : ∀ p ∈ (a, x) :: (b, y) :: (c, z) :: (d, u) :: (e, v) :: (f, t) :: (g, w) :: (i, o) :: (j, q) :: (k, l) :: r, p.1 ≠ X) :
    (NeA a X) ∧ (NeA b X) ∧ (NeA c X) ∧ (NeA d X) ∧ (NeA e X) ∧ (NeA f X) ∧ (NeA g X) ∧ (NeA i X) ∧ (NeA j X) ∧ (NeA k X) ∧ ∀ p ∈ r, p.1 ≠ X :=
  offC h fun h => offC h fun h => offC h fun h => offC h fun h => offC h fun h => offC h fun h => offC h fun h => offC h fun h => offC h fun h => offC h fun h => h
theorem nameC11 {h₀ h : Heap} {L : Addr} {p1 p2 p3 p4 p5 q1 q2 : Addr × Obj} {a4 a3 a2 a1 : Addr} {o4 o3 o2 o1 : Obj} {objs : List (Addr × Obj)} {P : Prop} (N : News h₀ L h (p1 :: p2 :: p3 :: p4 :: p5 :: (a4, o4) :: (a3, o3) :: (a2, o2) :: (a1, o1) :: q1 :: q2 :: objs))
    (k : ∀ o4' o3' o2' o1', o4' = o4 → o3' = o3 → o2' = o2 → o1' = o1 → News h₀ L h (p1 :: p3 :: p4 :: (a4, o4') :: (a3, o3') :: (a2, o2') :: (a1, o1') :: q1 :: q2 :: objs) → P) : P :=
  k o4 o3 o2 o1 rfl rfl rfl rfl (news_sub N fun p hp => by simp only [List.mem_cons] at *; grind)
def rowE (a j k : Nat) : List Int := [(0 : Int) + (a : Int), (0 : Int) + (a : Int) + 1 + (j : Int), (0 : Int) + (a : Int) + 1 + (j : Int) + 1 + (k : Int)]
def rowC (n a j : Nat) : List (List Int) := (List.range (n - (a + 1 + j + 1))).map (rowE a j)
def rowB (n a : Nat) : List (List Int) := (List.range (n - (a + 1))).flatMap (rowC n a)
def rowsTo (n i : Nat) : List (List Int) := (List.range i).flatMap (rowB n)
theorem rowsTo_succ (n i : Nat) : rowsTo n (i + 1) = rowsTo n i ++ rowB n i := by unfold rowsTo; rw [List.range_succ, List.flatMap_append]; simp
theorem rowB_succ (n i j : Nat) : (List.range (j + 1)).flatMap (rowC n i) = (List.range j).flatMap (rowC n i) ++ rowC n i j := by rw [List.range_succ, List.flatMap_append]; simp
theorem rowC_succ (i j k : Nat) : (List.range (k + 1)).map (rowE i j) = (List.range k).map (rowE i j) ++ [rowE i j k] := by rw [List.range_succ, List.map_append]; rfl
theorem rows5 : rowsTo 5 5 = allThrees 5 := by decide +kernel
theorem rows6 : rowsTo 6 6 = allThrees 6 := by decide +kernel
theorem innerEmit_of {prog : Program} {w : World} {A : Around} {elt : PySem.Expr} {env : Env} {acc : Value} {T : Sem Fin} {QQ : Fin → Shared → Prop} {E : Value → Shared → Prop} {s : Shared}
    (h : wpAny (model prog w) A (eval elt env) (fun x s' => wpAny (model prog w) A (call (.builtin "list.append") [acc, x]) (fun _ s'' => wpAny (model prog w) A T QQ E s'') E s') E s) : wpAny (model prog w) A (innerEmit elt acc env T) QQ E s := by
  unfold innerEmit
  exact wpAny_bind (wpAny_bind (wpAny_mono h (fun x s' h' => wpAny_bind (wpAny_mono h' (fun _ s'' h'' => wpAny_pure h'') fun _ _ e => e)) fun _ _ e => e))
theorem offLED (P : Addr → Prop) {D R0 : Addr} {x x' xr : Obj} {e1 e2 e3 e4 e5 e6 e7 e8 e9 : Addr × Obj} {tl : List (Addr × Obj)} (h : ∀ p ∈ (D, x) :: e1 :: e2 :: e3 :: e4 :: e5 :: e6 :: e7 :: e8 :: e9 :: tl, P p.1) (hR : P R0) :
    ∀ p ∈ (D, x') :: e1 :: e2 :: e3 :: e4 :: e5 :: e6 :: e7 :: e8 :: e9 :: (R0, xr) :: tl, P p.1 := by
  simp only [List.forall_mem_cons] at *
  exact ⟨h.1, h.2.1, h.2.2.1, h.2.2.2.1, h.2.2.2.2.1, h.2.2.2.2.2.1, h.2.2.2.2.2.2.1, h.2.2.2.2.2.2.2.1, h.2.2.2.2.2.2.2.2.1, h.2.2.2.2.2.2.2.2.2.1, hR, h.2.2.2.2.2.2.2.2.2.2⟩
theorem join_eval {prog : Program} {w : World} {A : Around} {x : PySem.Expr} {env : Env} {Q : Value → Shared → Prop} {E : Value → Shared → Prop} {s : Shared} {h₀ : Heap} {L : Addr} {m : Str → Option Value} {led : List (Addr × Obj)} (_F : Fr h₀ L s.heap m) (_N : News h₀ L s.heap led)
    (h : wpAny (model prog w) A (eval x env) (SizeEnd s h₀ L m led) E s) (k : ∀ (n : Nat) t h' tk', 5 ≤ n → n ≤ 6 → Fr h₀ L h' m → News h₀ L h' led → Q (.int (n : Int) t) { s with heap := h', toks := tk' }) : wpAny (model prog w) A (eval x env) Q E s :=
  wpAny_mono h (fun v s' ⟨n, t, h', tk', e1, e2, h5, h6, F, N⟩ => by subst e1 e2; exact k n t h' tk' h5 h6 F N) fun _ _ x => x
theorem nameS {tabs : List (Addr × Addr)} {s : Shared} {P : Prop} (_ : TabsAt tabs s.heap) (k : ∀ s', s' = s → P) : P := k s rfl
def ownOkB (s : List Int) (b : Nat) : Bool := decide ([0, 1, 2].Perm [ownK s b 0, ownK s b 1, ownK s b 2])
def sidesOkB (x y z : Int) : Bool := (decide (x = y) && decide (y = z)) || (List.range 8).any fun b => ownOkB [x, y, z] b
theorem good3 : ([0, 1, 2].all fun x => [0, 1, 2].all fun y => [0, 1, 2].all fun z => sidesOkB x y z) = true := by
  decide +kernel
theorem tokSide_bd (t : Int) : 0 ≤ tokSide t ∧ tokSide t < 3 := by unfold tokSide; split <;> (try split) <;> omega
theorem own_good {ps : List Pick} (hl : 3 ≤ ps.length) (hal : ∀ x : Int, ∀ r, ps.map sideOf ≠ x :: x :: x :: r) : ∃ b, b < 8 ∧ OwnOk (ps.map sideOf) b := by
  match ps, hl with
  | p :: q :: r :: ps', _ =>
    have hp := tokSide_bd p.1
    have hq := tokSide_bd q.1
    have hr := tokSide_bd r.1
    have h1 := List.all_eq_true.mp good3 (sideOf p) (by unfold sideOf; simp; omega)
    have h2 := List.all_eq_true.mp h1 (sideOf q) (by unfold sideOf; simp; omega)
    have h3 := List.all_eq_true.mp h2 (sideOf r) (by unfold sideOf; simp; omega)
    unfold sidesOkB at h3
    rcases Bool.or_eq_true_iff.mp h3 with h4 | h4
    · simp only [Bool.and_eq_true, decide_eq_true_eq] at h4
      exact absurd (by simp only [List.map_cons, h4.1, h4.2]) (hal (sideOf r) (ps'.map sideOf))
    · obtain ⟨b, hb, ho⟩ := List.any_eq_true.mp h4
      unfold ownOkB at ho
      have hq9 := of_decide_eq_true ho
      exact ⟨b, List.mem_range.mp hb, hq9⟩
local macro_rules | `(tactic| k_ne) => `(tactic| first | exact Mine.NeA.l (by assumption) | exact Mine.NeA.r (by assumption))
local macro_rules | `(tactic| walk_at "exec Assign cons ListComp") => `(tactic| (k_here; (with_reducible show wpAny _ _ (exec (PySem.Stmt.Assign _ (PySem.Expr.ListComp _ [_, _, _] _ _) _) _) _ _ _); refine Mine.halt ?_))
local macro_rules | `(tactic| walk_at "subscriptTail Name Slice ref ref") => `(tactic| (k_here; refine Mine.halt ?_))
local macro_rules | `(tactic| walk_at "compareOp Eq ref ref") => `(tactic| (k_here; refine Mine.halt ?_))
local macro_rules | `(tactic| walk_at "GrownAll") => `(tactic| (refine Mine.halt ?_))
local macro_rules | `(tactic| walk_at "eval IfExp") => `(tactic| (k_here; refine Mine.halt ?_))
set_option maxRecDepth 100000 in
set_option maxHeartbeats 8000000 in
theorem law_all : PySem.Challenge.rw_tl0028_01.Holds := by
  refine Mine.hd ?_
  delta Mine.lawD
  show WalkO _ _ _ _ _ (DefRec.mk _ _ _ _ _) _ _
  k_go0
  rename TabsAt _ _ => hTabs
  refine nameS hTabs ?_
  intro s1 es1
  subst es1
  refine letEnv ?_
  intro env' A'
  (show wpAny _ _ _ _ _ _); k_fold
  rename Fr _ _ _ _ => F00
  refine letM F00 ?_
  clear F00
  intro M' F'
  k_steps
  refine Halt.go ?_
  rename IntsAre _ _ => gI
  have h63 := gI.length
  k_dflt (refine' Mine.cells_spec ?B1 ?F1 ?X1 ?N1 ?T1 ?hk1 ?hd1 ?hu1 ?hL1 gI ?hl1 ?ret1)
  case B1 => k_asm
  case F1 => k_asm
  case X1 => k_asm
  case N1 => k_asm
  case T1 => k_asm
  case hk1 => exact rfl
  case hd1 => ktr_room
  case hu1 => ktr_units
  case hL1 => is_list
  case hl1 => omega
  intro cv cns ck cA h1 tk1 hcI hc7 hcb F1 N1 hcA S1
  obtain ⟨qa1, qa2, qa3, qa4, qa5, qa6⟩ := off6 hcA
  clear hcA
  try dsimp only
  try ((show wpAny _ _ _ _ _ _); k_fold)
  k_steps
  refine Halt.go ?_
  refine join_eval (by k_asm) (by k_asm) ?_ ?_
  · refine IfExp_ ?_
    k_steps
    · exact ⟨5, _, _, _, rfl, rfl, by decide, by decide, by k_asm, by k_asm⟩
    · exact ⟨6, _, _, _, rfl, rfl, by decide, by decide, by k_asm, by k_asm⟩
  intro n t5 h5 tk5 hn5 hn6 F5 N5
  try dsimp only
  try ((show wpAny _ _ _ _ _ _); k_fold)
  k_steps
  refine Halt.go ?_
  rename _ = Data.cell (some (Value.int (n : Int) _)) => dcS
  rename Fr (ghostOf _ _) _ _ _ => F6
  rename News (ghostOf _ _) _ _ _ => N6
  k_dflt (refine' Mine.pal_spec ?B2 ?F2 ?X2 ?N2 ?T2 ?hk2 ?hd2 ?hu2 ?hL2 hcI hc7 hcb (Halt.go ⟨hn5, hn6⟩) ?ret2)
  case B2 => k_asm
  case F2 => k_asm
  case X2 => k_asm
  case N2 => k_asm
  case T2 => k_asm
  case hk2 => exact rfl
  case hd2 => ktr_room
  case hu2 => ktr_units
  case hL2 => is_list
  intro ps sv as ns nl nT objs T2 sA lA h2 tk2 hpl hpt hpn hal hsv hli F7 N7 hoff7 S7
  try dsimp only
  try ((show wpAny _ _ _ _ _ _); k_fold)
  have N8 := news_mid N7
  obtain ⟨oT, os, ol, oo⟩ := off_mid hoff7
  obtain ⟨b0, b1, b2, b3, b4, b5, b6⟩ := off7 oT
  obtain ⟨c0, c1, c2, c3, c4, c5, c6⟩ := off7 os
  obtain ⟨d0, d1, d2, d3, d4, d5, d6⟩ := off7 ol
  obtain ⟨e0, e1, e2, e3, e4, e5, e6⟩ := oo
  clear N7 F6 N6 hoff7
  k_steps
  refine Halt.go ?_
  have hsl := hsv.length
  rw [List.length_map] at hsl
  have hc6 := ints_mem (k := 6) hcb (by omega) (by omega)
  k_dflt (refine' Mine.own_spec ?B3 ?F3 ?X3 ?N3 ?T3 ?hk3 ?hd3 ?hu3 ?hL3 hsv ?h33 ?h36 (own_good (by omega) hal) hc6.1 ?ret3)
  case B3 => k_asm
  case F3 => k_asm
  case X3 => k_asm
  case N3 => k_asm
  case T3 => k_asm
  case hk3 => exact rfl
  case hd3 => ktr_room
  case hu3 => ktr_units
  case hL3 => is_list
  case h33 => rw [List.length_map]; omega
  case h36 => rw [List.length_map]; omega
  intro b t30 t31 t32 k3 oA h3 tk3 hb8 hown F9 N9 hoA S9
  try dsimp only
  try ((show wpAny _ _ _ _ _ _); k_fold)
  obtain ⟨f1, f2, f3, f4, f5, f6, f7, f8, f9, f10, f11⟩ := off10 hoA
  clear hoA
  k_steps
  refine Halt.go ?_
  rename News (ghostOf _ _) _ _ _ => N10
  refine nameC11 N10 ?_
  intro o4 o3 o2 o1 eo4 eo3 eo2 eo1 N11
  subst eo4 eo3 eo2 eo1
  clear N10
  obtain ⟨oo, hoo⟩ : ∃ oo, oo = PySem.W.listOf #[.int (ownK (List.map sideOf ps) b 0) t30, .int (ownK (List.map sideOf ps) b 1) t31, .int (ownK (List.map sideOf ps) b 2) t32] k3 := ⟨_, rfl⟩
  obtain ⟨so, hso⟩ : ∃ so, so = PySem.W.listOf sv.toArray ns := ⟨_, rfl⟩
  obtain ⟨lo, hlo⟩ : ∃ lo, lo = PySem.W.listOf (List.map Value.ref as).toArray nl := ⟨_, rfl⟩
  rw [← hoo, ← hso, ← hlo] at N11
  k_dflt refine Assign_Comp3 (_F₀ := by k_asm) (by rfl) (by with_unfolding_all rfl) (by with_unfolding_all rfl) (by decide) (by rfl) (by decide) (by rfl) (by rfl) (by rfl) ?_
  k_steps
  have hob7 : ∀ p ∈ objs, p.1 ≠ 37 ∧ p.1 ≠ 30 := fun p hp => ⟨e5 p hp, e6 p hp⟩
  rename IsRange _ _ _ _ _ _ _ _ => R10
  rename Fr (ghostOf _ _) _ _ _ => F10
  rename News (ghostOf _ _) _ _ _ => N10
  refine' Halt.go ⟨_, _, _, _, _, _, n, _, (fun D all => ∃ fs k tl, all = (D, PySem.W.listOf (List.map Value.ref fs).toArray k) :: (oA, oo) :: (sA, so) :: (lA, lo) :: (s1.heap.objs.size + 1 + 1 + 1 + 1, o4) :: (s1.heap.objs.size + 1 + 1 + 1, o3) :: (s1.heap.objs.size + 1 + 1, o2) :: (s1.heap.objs.size + 1, o1) :: (37, tabObj #[]) :: (30, tabObj #[]) :: tl ∧ RowsIn tl fs (rowsTo n n) ∧ (∀ p ∈ objs, p ∈ tl) ∧ (∀ p ∈ tl, p.1 ≠ 37 ∧ p.1 ≠ 30) ∧ NeA 37 D ∧ NeA 30 D ∧ fs.length ≤ 300), rfl, F10, N10, R10, ?sm, ?sz, ?loop, ?fin⟩
  case sm => exact small_one (by omega) (by omega) (by omega) (by omega)
  case sz => exact rangeSize_nat 0 n
  case loop =>
    intro I C D h4 tk4 oC m0 R F4 N4 ho4 hIC hID hCD hoff4 kR
    have offm := LCg.Off3.mem hoff4
    obtain ⟨g1, g2, g3, g4, g5, g6, g7, g8, g9, g10⟩ := off9 (fun p hp => (offm p hp).2.2)
    clear N10 F10
    have nIC : NeA I C := hIC
    have nID : NeA I D := hID
    have nCD : NeA C D := hCD
    clear hIC hID hCD
    refine rangeLoop (n := n) (C := C) turn0 (by rfl) (by rfl) (by rfl) rfl F4 N4 ho4 nIC (List.forall_mem_cons.mpr ⟨⟨NeA.r nID, NeA.r nCD⟩, fun p hp => ⟨(offm p hp).1, (offm p hp).2.1⟩⟩)
      (fun i m₂ rest => Halt (∃ fs k tl, rest = (D, PySem.W.listOf (List.map Value.ref fs).toArray k) :: (oA, oo) :: (sA, so) :: (lA, lo) :: (s1.heap.objs.size + 1 + 1 + 1 + 1, o4) :: (s1.heap.objs.size + 1 + 1 + 1, o3) :: (s1.heap.objs.size + 1 + 1, o2) :: (s1.heap.objs.size + 1, o1) :: (37, tabObj #[]) :: (30, tabObj #[]) :: tl ∧ RowsIn tl fs (rowsTo n i) ∧ (∀ p ∈ objs, p ∈ tl) ∧ (∀ p ∈ tl, p.1 ≠ D) ∧ (∀ p ∈ tl, p.1 ≠ 37 ∧ p.1 ≠ 30) ∧ fs.length ≤ 36 * i)) ?_ ?_ ?_
    · exact Halt.go ⟨[], 0, objs, rfl, trivial, fun _ h => h, g10, hob7, Nat.le_refl _⟩
    · rintro i m₂ rest oC' t h tk E' T QQ hi HJ9 hoC F' N' hoff' hT
      refine Mine.letP ?_
      intro G9
      obtain ⟨fs, k, tl, rfl, hrows, hobj, hDt, hTt, hfl⟩ := HJ9
      obtain ⟨m3, hm3⟩ : ∃ m3, m3 = (fun z => if z = Str.ofString "a" then some (Value.int (0 + (i : Int)) t) else m₂ z) := ⟨_, rfl⟩
      rw [← hm3] at hoC
      have hxa : m3 (Str.ofString "a") = some (Value.int (0 + (i : Int)) t) := by rw [hm3]; simp
      clear hm3 N4 F4
      show wpAny _ _ _ _ _ _
      try dsimp only
      try ((show wpAny _ _ _ _ _ _); k_fold)
      refine innerAt_range F' (.inl rfl) _ hT (by intro _; rfl) ?_
      try ((show wpAny _ _ _ _ _ _); k_fold)
      k_steps
      rename IsRange _ _ _ _ _ _ _ _ => R1
      rename Fr (ghostOf _ _) _ _ _ => F1
      rename News (ghostOf _ _) _ _ _ => N1
      have hI1 : ∀ p ∈ (D, PySem.W.listOf (List.map Value.ref fs).toArray k) :: (oA, oo) :: (sA, so) :: (lA, lo) :: (s1.heap.objs.size + 1 + 1 + 1 + 1, o4) :: (s1.heap.objs.size + 1 + 1 + 1, o3) :: (s1.heap.objs.size + 1 + 1, o2) :: (s1.heap.objs.size + 1, o1) :: (37, tabObj #[]) :: (30, tabObj #[]) :: tl, p.1 ≠ I := fun p hp => (hoff' p hp).1
      have hC1 : ∀ p ∈ (D, PySem.W.listOf (List.map Value.ref fs).toArray k) :: (oA, oo) :: (sA, so) :: (lA, lo) :: (s1.heap.objs.size + 1 + 1 + 1 + 1, o4) :: (s1.heap.objs.size + 1 + 1 + 1, o3) :: (s1.heap.objs.size + 1 + 1, o2) :: (s1.heap.objs.size + 1, o1) :: (37, tabObj #[]) :: (30, tabObj #[]) :: tl, p.1 ≠ C := fun p hp => (hoff' p hp).2
      have hl1 : (0 : Int) + (i : Int) + 1 = ((i + 1 : Nat) : Int) := by omega
      refine Halt.go ⟨_, _, _, _, _, _, n - (i + 1), _, rfl, F1, N1, R1, small_one (by omega) (by omega) (by omega) (by omega), by rw [rangeSize_nat]; omega, fun I2 h2 R2 F2 N2 off2 kR2 => ?_⟩
      have nI2C : NeA I2 C := Ne.symm (off2 (C, oC') (by simp))
      have nI2I : NeA I2 I := Ne.symm (off2 (I, itR (0 + ((i + 1 : Nat) : Int)) ((n : Int) - ((i + 1 : Nat) : Int))) (by simp))
      refine rangeLoop (n := n - (i + 1)) (C := C) turn1 (by rfl) (by rfl) (by rfl) rfl F2 (news_sub N2 (by kcf_all)) hoC nI2C (rest0 := (I, itR (0 + ((i + 1 : Nat) : Int)) ((n : Int) - ((i + 1 : Nat) : Int))) :: (D, PySem.W.listOf (List.map Value.ref fs).toArray k) :: (oA, oo) :: (sA, so) :: (lA, lo) :: (s1.heap.objs.size + 1 + 1 + 1 + 1, o4) :: (s1.heap.objs.size + 1 + 1 + 1, o3) :: (s1.heap.objs.size + 1 + 1, o2) :: (s1.heap.objs.size + 1, o1) :: (37, tabObj #[]) :: (30, tabObj #[]) :: tl)
        (List.forall_mem_cons.mpr ⟨⟨NeA.r nI2I, nIC⟩, fun p hp => ⟨off2 p (List.mem_cons_of_mem _ (List.mem_cons_of_mem _ hp)), hC1 p hp⟩⟩)
        (fun j m₂ rest => Halt (m₂ (Str.ofString "a") = some (Value.int (0 + (i : Int)) t) ∧ ∃ fs k tl, rest = (I, itR (0 + ((i + 1 : Nat) : Int)) ((n : Int) - ((i + 1 : Nat) : Int))) :: (D, PySem.W.listOf (List.map Value.ref fs).toArray k) :: (oA, oo) :: (sA, so) :: (lA, lo) :: (s1.heap.objs.size + 1 + 1 + 1 + 1, o4) :: (s1.heap.objs.size + 1 + 1 + 1, o3) :: (s1.heap.objs.size + 1 + 1, o2) :: (s1.heap.objs.size + 1, o1) :: (37, tabObj #[]) :: (30, tabObj #[]) :: tl ∧ RowsIn tl fs (rowsTo n i ++ (List.range j).flatMap (rowC n i)) ∧ (∀ p ∈ objs, p ∈ tl) ∧ (∀ p ∈ tl, p.1 ≠ D) ∧ (∀ p ∈ tl, p.1 ≠ 37 ∧ p.1 ≠ 30) ∧ (∀ p ∈ (D, PySem.W.listOf (List.map Value.ref fs).toArray k) :: (oA, oo) :: (sA, so) :: (lA, lo) :: (s1.heap.objs.size + 1 + 1 + 1 + 1, o4) :: (s1.heap.objs.size + 1 + 1 + 1, o3) :: (s1.heap.objs.size + 1 + 1, o2) :: (s1.heap.objs.size + 1, o1) :: (37, tabObj #[]) :: (30, tabObj #[]) :: tl, p.1 ≠ I) ∧ fs.length ≤ 36 * i + 6 * j)) ?_ ?_ ?_
      · exact Halt.go ⟨hxa, fs, k, tl, rfl, by simpa using hrows, hobj, hDt, hTt, hI1, by omega⟩
      · try clear hxa
        try clear hrows
        try clear hobj
        try clear hDt
        try clear hI1
        try clear hC1
        try clear hfl
        try clear F1
        try clear N1
        try clear R1
        try clear F2
        try clear N2
        try clear F'
        try clear N'
        try clear hoff'
        try clear hT
        try clear kR2
        try clear off2
        try clear hoC
        rintro j m₂ rest oC' tb h tk E' T QQ hj HJ9 hoC F' N' hoff' hT
        refine Mine.letP ?_
        intro G9
        obtain ⟨hxa', fs, k, tl, rfl, hrows, hobj, hDt, hTt, hI1, hfl⟩ := HJ9
        obtain ⟨m4, hm4⟩ : ∃ m4, m4 = (fun z => if z = Str.ofString "b" then some (Value.int (0 + (i : Int) + 1 + (j : Int)) tb) else m₂ z) := ⟨_, rfl⟩
        rw [← hm4] at hoC
        have hxa : m4 (Str.ofString "a") = some (Value.int (0 + (i : Int)) t) := by rw [hm4, ← hxa']; exact if_neg (by decide)
        have hxb : m4 (Str.ofString "b") = some (Value.int (0 + (i : Int) + 1 + (j : Int)) tb) := by rw [hm4]; simp
        clear hm4 hxa'
        show wpAny _ _ _ _ _ _
        try dsimp only
        try ((show wpAny _ _ _ _ _ _); k_fold)
        refine innerAt_range F' (.inr rfl) _ hT (by intro _; rfl) ?_
        try ((show wpAny _ _ _ _ _ _); k_fold)
        k_steps
        rename IsRange _ _ _ _ _ _ _ _ => R1
        rename Fr (ghostOf _ _) _ _ _ => F1
        rename News (ghostOf _ _) _ _ _ => N1
        have hl2 : (0 : Int) + (i : Int) + 1 + (j : Int) + 1 = ((i + 1 + j + 1 : Nat) : Int) := by omega
        refine Halt.go ⟨_, _, _, _, _, _, n - (i + 1 + j + 1), _, rfl, F1, N1, R1, small_one (by omega) (by omega) (by omega) (by omega), by rw [rangeSize_nat]; omega, fun I3 h2 R2 F2 N2 off2 kR2 => ?_⟩
        have hI2 : ∀ p ∈ (I, itR (0 + ((i + 1 : Nat) : Int)) ((n : Int) - ((i + 1 : Nat) : Int))) :: (D, PySem.W.listOf (List.map Value.ref fs).toArray k) :: (oA, oo) :: (sA, so) :: (lA, lo) :: (s1.heap.objs.size + 1 + 1 + 1 + 1, o4) :: (s1.heap.objs.size + 1 + 1 + 1, o3) :: (s1.heap.objs.size + 1 + 1, o2) :: (s1.heap.objs.size + 1, o1) :: (37, tabObj #[]) :: (30, tabObj #[]) :: tl, p.1 ≠ I2 := fun p hp => (hoff' p hp).1
        have hC1 : ∀ p ∈ (D, PySem.W.listOf (List.map Value.ref fs).toArray k) :: (oA, oo) :: (sA, so) :: (lA, lo) :: (s1.heap.objs.size + 1 + 1 + 1 + 1, o4) :: (s1.heap.objs.size + 1 + 1 + 1, o3) :: (s1.heap.objs.size + 1 + 1, o2) :: (s1.heap.objs.size + 1, o1) :: (37, tabObj #[]) :: (30, tabObj #[]) :: tl, p.1 ≠ C := fun p hp => (hoff' p (List.mem_cons_of_mem _ hp)).2
        have nI3C : NeA I3 C := Ne.symm (off2 (C, oC') (by simp))
        have nI3I2 : NeA I3 I2 := Ne.symm (off2 (I2, itR (0 + (i : Int) + 1 + ((j + 1 : Nat) : Int)) (((n - (i + 1) : Nat) : Int) - ((j + 1 : Nat) : Int))) (by simp))
        have nI3I : NeA I3 I := Ne.symm (off2 (I, itR (0 + ((i + 1 : Nat) : Int)) ((n : Int) - ((i + 1 : Nat) : Int))) (by simp))
        refine rangeLoop (n := n - (i + 1 + j + 1)) (C := C) turn2 (by rfl) (by rfl) (by rfl) rfl F2 (news_sub N2 (by kcf_all)) hoC nI3C (rest0 := (I2, itR (0 + (i : Int) + 1 + ((j + 1 : Nat) : Int)) (((n - (i + 1) : Nat) : Int) - ((j + 1 : Nat) : Int))) :: (I, itR (0 + ((i + 1 : Nat) : Int)) ((n : Int) - ((i + 1 : Nat) : Int))) :: (D, PySem.W.listOf (List.map Value.ref fs).toArray k) :: (oA, oo) :: (sA, so) :: (lA, lo) :: (s1.heap.objs.size + 1 + 1 + 1 + 1, o4) :: (s1.heap.objs.size + 1 + 1 + 1, o3) :: (s1.heap.objs.size + 1 + 1, o2) :: (s1.heap.objs.size + 1, o1) :: (37, tabObj #[]) :: (30, tabObj #[]) :: tl)
          (List.forall_mem_cons.mpr ⟨⟨NeA.r nI3I2, nI2C⟩, List.forall_mem_cons.mpr ⟨⟨NeA.r nI3I, nIC⟩, fun p hp => ⟨off2 p (List.mem_cons_of_mem _ (List.mem_cons_of_mem _ (List.mem_cons_of_mem _ hp))), hC1 p hp⟩⟩⟩)
          (fun q m₂ rest => Halt (m₂ (Str.ofString "a") = some (Value.int (0 + (i : Int)) t) ∧ m₂ (Str.ofString "b") = some (Value.int (0 + (i : Int) + 1 + (j : Int)) tb) ∧ ∃ fs k tl, rest = (I2, itR (0 + (i : Int) + 1 + ((j + 1 : Nat) : Int)) (((n - (i + 1) : Nat) : Int) - ((j + 1 : Nat) : Int))) :: (I, itR (0 + ((i + 1 : Nat) : Int)) ((n : Int) - ((i + 1 : Nat) : Int))) :: (D, PySem.W.listOf (List.map Value.ref fs).toArray k) :: (oA, oo) :: (sA, so) :: (lA, lo) :: (s1.heap.objs.size + 1 + 1 + 1 + 1, o4) :: (s1.heap.objs.size + 1 + 1 + 1, o3) :: (s1.heap.objs.size + 1 + 1, o2) :: (s1.heap.objs.size + 1, o1) :: (37, tabObj #[]) :: (30, tabObj #[]) :: tl ∧ RowsIn tl fs ((rowsTo n i ++ (List.range j).flatMap (rowC n i)) ++ (List.range q).map (rowE i j)) ∧ (∀ p ∈ objs, p ∈ tl) ∧ (∀ p ∈ tl, p.1 ≠ D) ∧ (∀ p ∈ tl, p.1 ≠ 37 ∧ p.1 ≠ 30) ∧ (∀ p ∈ (D, PySem.W.listOf (List.map Value.ref fs).toArray k) :: (oA, oo) :: (sA, so) :: (lA, lo) :: (s1.heap.objs.size + 1 + 1 + 1 + 1, o4) :: (s1.heap.objs.size + 1 + 1 + 1, o3) :: (s1.heap.objs.size + 1 + 1, o2) :: (s1.heap.objs.size + 1, o1) :: (37, tabObj #[]) :: (30, tabObj #[]) :: tl, p.1 ≠ I) ∧ (∀ p ∈ (I, itR (0 + ((i + 1 : Nat) : Int)) ((n : Int) - ((i + 1 : Nat) : Int))) :: (D, PySem.W.listOf (List.map Value.ref fs).toArray k) :: (oA, oo) :: (sA, so) :: (lA, lo) :: (s1.heap.objs.size + 1 + 1 + 1 + 1, o4) :: (s1.heap.objs.size + 1 + 1 + 1, o3) :: (s1.heap.objs.size + 1 + 1, o2) :: (s1.heap.objs.size + 1, o1) :: (37, tabObj #[]) :: (30, tabObj #[]) :: tl, p.1 ≠ I2) ∧ fs.length ≤ 36 * i + 6 * j + q)) ?_ ?_ ?_
        · exact Halt.go ⟨hxa, hxb, fs, k, tl, rfl, by simpa using hrows, hobj, hDt, hTt, hI1, hI2, by omega⟩
        · (try clear hxa); (try clear hxb); (try clear hrows); (try clear hobj); (try clear hDt); (try clear hI1); (try clear hI2); (try clear hC1); (try clear hfl); (try clear F1); (try clear N1); (try clear R1); (try clear F2); (try clear N2); (try clear F'); (try clear N'); (try clear hoff'); (try clear hT); (try clear kR2); (try clear off2); (try clear hoC)
          rintro q m₂ rest oC' tc h tk E' T QQ hq HJ9 hoC F' N' hoff' hT
          refine Mine.letP ?_
          intro G9
          obtain ⟨hxa', hxb', fs, k, tl, rfl, hrows, hobj, hDt, hTt, hI1, hI2, hfl⟩ := HJ9
          obtain ⟨m5, hm5⟩ : ∃ m5, m5 = (fun z => if z = Str.ofString "c" then some (Value.int (0 + (i : Int) + 1 + (j : Int) + 1 + (q : Int)) tc) else m₂ z) := ⟨_, rfl⟩
          rw [← hm5] at hoC
          have hxa : m5 (Str.ofString "a") = some (Value.int (0 + (i : Int)) t) := by rw [hm5, ← hxa']; exact if_neg (by decide)
          have hxb : m5 (Str.ofString "b") = some (Value.int (0 + (i : Int) + 1 + (j : Int)) tb) := by rw [hm5, ← hxb']; exact if_neg (by decide)
          have hxc : m5 (Str.ofString "c") = some (Value.int (0 + (i : Int) + 1 + (j : Int) + 1 + (q : Int)) tc) := by rw [hm5]; simp
          clear hm5 hxa' hxb'
          have nDI3 : NeA D I3 := (hoff' _ (List.mem_cons_of_mem _ (List.mem_cons_of_mem _ List.mem_cons_self))).1
          have nDI2 : NeA D I2 := hI2 _ (List.mem_cons_of_mem _ List.mem_cons_self)
          have nDI : NeA D I := hI1 _ List.mem_cons_self
          show wpAny _ _ _ _ _ _
          try dsimp only
          try ((show wpAny _ _ _ _ _ _); k_fold)
          refine innerEmit_of ?_
          try ((show wpAny _ _ _ _ _ _); k_fold)
          k_steps
          rename Fr (ghostOf _ _) _ _ _ => F8
          rename News (ghostOf _ _) _ _ _ => N8
          refine nameN1 N8 ?_
          intro R0 xr er1 er2
          subst er1
          clear er2
          have nR1 : @Ne Nat R0 I3 := by (rename _ ∧ _ ∧ _ ∧ _ ∧ _ ∧ _ => lR0); refine PySem.W.neN ?_; (try dsimp only); omega
          have nR2 : @Ne Nat R0 C := by (rename _ ∧ _ ∧ _ ∧ _ ∧ _ ∧ _ => lR0); refine PySem.W.neN ?_; (try dsimp only); omega
          have nR3 : @Ne Nat R0 I2 := by (rename _ ∧ _ ∧ _ ∧ _ ∧ _ ∧ _ => lR0); refine PySem.W.neN ?_; (try dsimp only); omega
          have nR4 : @Ne Nat R0 I := by (rename _ ∧ _ ∧ _ ∧ _ ∧ _ ∧ _ => lR0); refine PySem.W.neN ?_; (try dsimp only); omega
          have nR5 : @Ne Nat R0 D := by (rename _ ∧ _ ∧ _ ∧ _ ∧ _ ∧ _ => lR0); refine PySem.W.neN ?_; (try dsimp only); omega
          have nR6 : @Ne Nat R0 37 := by (rename _ ∧ _ ∧ _ ∧ _ ∧ _ ∧ _ => lR0); refine PySem.W.neN ?_; (try dsimp only); omega
          have nR7 : @Ne Nat R0 30 := by (rename _ ∧ _ ∧ _ ∧ _ ∧ _ ∧ _ => lR0); refine PySem.W.neN ?_; (try dsimp only); omega
          rw [push_refs] at N8
          refine hT _ ⟨_, _, m5, (I2, itR (0 + (i : Int) + 1 + ((j + 1 : Nat) : Int)) (((n - (i + 1) : Nat) : Int) - ((j + 1 : Nat) : Int))) :: (I, itR (0 + ((i + 1 : Nat) : Int)) ((n : Int) - ((i + 1 : Nat) : Int))) :: (D, PySem.W.listOf (List.map Value.ref (fs ++ [R0])).toArray (k + 1)) :: (oA, oo) :: (sA, so) :: (lA, lo) :: (s1.heap.objs.size + 1 + 1 + 1 + 1, o4) :: (s1.heap.objs.size + 1 + 1 + 1, o3) :: (s1.heap.objs.size + 1 + 1, o2) :: (s1.heap.objs.size + 1, o1) :: (37, tabObj #[]) :: (30, tabObj #[]) :: (R0, PySem.W.listOf #[.int (0 + (i : Int)) t, .int (0 + (i : Int) + 1 + (j : Int)) tb, .int (0 + (i : Int) + 1 + (j : Int) + 1 + (q : Int)) tc] 0) :: tl, oC', rfl, hoC, F8, news_sub N8 (by kcf_all), List.forall_mem_cons.mpr ⟨hoff' _ List.mem_cons_self, List.forall_mem_cons.mpr ⟨hoff' _ (List.mem_cons_of_mem _ List.mem_cons_self), offLED (fun a => a ≠ I3 ∧ a ≠ C) (fun p hp => hoff' p (List.mem_cons_of_mem _ (List.mem_cons_of_mem _ hp))) ⟨nR1, nR2⟩⟩⟩,
            Halt.go ⟨hxa, hxb, fs ++ [R0], k + 1, _, rfl, ?_, fun p hp => List.mem_cons_of_mem _ (hobj p hp), List.forall_mem_cons.mpr ⟨nR5, hDt⟩, List.forall_mem_cons.mpr ⟨⟨nR6, nR7⟩, hTt⟩, offLED (fun a => a ≠ I) hI1 nR4, List.forall_mem_cons.mpr ⟨hI2 _ List.mem_cons_self, offLED (fun a => a ≠ I2) (fun p hp => hI2 p (List.mem_cons_of_mem _ hp)) nR3⟩, ?_⟩⟩
          · rw [rowC_succ, ← List.append_assoc]
            exact RowsIn.snoc (k := 0) (ws := [_, _, _]) List.mem_cons_self (.cons _ _ (.cons _ _ (.cons _ _ .nil))) (hrows.up fun p hp => List.mem_cons_of_mem _ hp)
          · rw [List.length_append, List.length_singleton]; omega
        · intro m₂ rest oC h tk hJ ho F' N' hoffC
          obtain ⟨hxa', hxb', fs, k, tl, rfl, hrows, hobj, hDt, hTt, hI1, hI2, hfl⟩ := hJ
          refine kR2 _ ⟨h, tk, m₂, (I, itR (0 + ((i + 1 : Nat) : Int)) ((n : Int) - ((i + 1 : Nat) : Int))) :: (D, PySem.W.listOf (List.map Value.ref fs).toArray k) :: (oA, oo) :: (sA, so) :: (lA, lo) :: (s1.heap.objs.size + 1 + 1 + 1 + 1, o4) :: (s1.heap.objs.size + 1 + 1 + 1, o3) :: (s1.heap.objs.size + 1 + 1, o2) :: (s1.heap.objs.size + 1, o1) :: (37, tabObj #[]) :: (30, tabObj #[]) :: tl, oC, rfl, ho, F', news_sub N' (by kcf_all), fun p hp => ⟨hI2 p hp, hoffC p (List.mem_cons_of_mem _ hp)⟩, Halt.go ⟨hxa', fs, k, tl, rfl, ?_, hobj, hDt, hTt, hI1, by omega⟩⟩
          rw [rowB_succ, ← List.append_assoc]; exact hrows
      · intro m₂ rest oC h tk hJ ho F' N' hoffC
        obtain ⟨hxa', fs, k, tl, rfl, hrows, hobj, hDt, hTt, hI1, hfl⟩ := hJ
        refine kR2 _ ⟨h, tk, m₂, (D, PySem.W.listOf (List.map Value.ref fs).toArray k) :: (oA, oo) :: (sA, so) :: (lA, lo) :: (s1.heap.objs.size + 1 + 1 + 1 + 1, o4) :: (s1.heap.objs.size + 1 + 1 + 1, o3) :: (s1.heap.objs.size + 1 + 1, o2) :: (s1.heap.objs.size + 1, o1) :: (37, tabObj #[]) :: (30, tabObj #[]) :: tl, oC, rfl, ho, F', news_sub N' (by kcf_all), fun p hp => ⟨hI1 p hp, hoffC p (List.mem_cons_of_mem _ hp)⟩, Halt.go ⟨fs, k, tl, rfl, ?_, hobj, hDt, hTt, by omega⟩⟩
        rw [rowsTo_succ]; exact hrows
    · intro m₂ rest oC h tk hJ ho F' N' hoffC
      obtain ⟨fs, k, tl, rfl, hrows, hobj, hDt, hTt, hfl⟩ := hJ
      exact kR h tk m₂ oC _ F' N' ho hoffC ⟨fs, k, tl, rfl, hrows, hobj, hTt, g8, g9, by omega⟩
  case fin =>
    rintro D h4 tk4 all F4 N4 HJ9
    refine Mine.letP ?_
    intro G9
    obtain ⟨fs, k, tl, rfl, hrows, hobj, hTt, nD37, nD30, hfl⟩ := HJ9
    clear N10 F10 R10
    show wpAny _ _ _ _ _ _
    try dsimp only
    try ((show wpAny _ _ _ _ _ _); k_fold)
    k_steps
    refine Halt.go ?_
    k_dflt (refine kms_slice_lit (by k_asm) (by k_asm) (by kmk_list) (by kmk_part) (by kmk_part) (by exact Mine.pick_from _) ?_ (by with_unfolding_all rfl) (by kmk_pure) (by (simp only [List.size_toArray, List.length_map]; rw [PySem.sizeLine_eq]; omega)))
    intro dS hS fS nS lS
    try k_lt lS
    try k_sweep
    k_steps
    refine Halt.go ?_
    rename Fr (ghostOf _ _) _ _ _ => F11
    rename News (ghostOf _ _) _ _ _ => N11
    refine nameN1 N11 ?_
    intro S1 xs es1 es2
    subst es1
    clear es2
    have hpal : PalOk n ps := ⟨hpl, hpt, hpn, hal⟩
    have hrowsE : rowsTo n n = allThrees n := by
      have hn : n = 5 ∨ n = 6 := by omega
      rcases hn with rfl | rfl
      · exact rows5
      · exact rows6
    rw [hrowsE] at hrows
    have hE : ∀ p ∈ ([(S1, PySem.W.listOf (List.map Value.ref (List.drop 1 fs)).toArray 0), (D, PySem.W.listOf (List.map Value.ref fs).toArray k), (oA, oo), (sA, so), (lA, lo), (s1.heap.objs.size + 1 + 1 + 1 + 1, o4), (s1.heap.objs.size + 1 + 1 + 1, o3), (s1.heap.objs.size + 1 + 1, o2), (s1.heap.objs.size + 1, o1)] : List (Addr × Obj)), p.1 ≠ 37 ∧ p.1 ≠ 30 := by
      rename _ ∧ _ ∧ _ ∧ _ ∧ _ ∧ _ => lR0
      have hz := hTabs
      simp only [List.forall_mem_cons, List.not_mem_nil, false_implies, implies_true, and_true]
      refine ⟨⟨?_, ?_⟩, ⟨?_, ?_⟩, ⟨?_, ?_⟩, ⟨?_, ?_⟩, ⟨?_, ?_⟩, ⟨?_, ?_⟩, ⟨?_, ?_⟩, ⟨?_, ?_⟩, ⟨?_, ?_⟩⟩ <;> first | exact NeA.r (by assumption) | (refine PySem.W.neN ?_; (try dsimp only); omega)
    k_dflt (refine LCt.CompSrcT.ledger (its := (List.map Value.ref (List.drop 1 fs)).toArray) (by rfl) F11 N11 List.mem_cons_self (by rw [List.size_toArray, List.length_map, List.length_drop, PySem.sizeLine_eq]; omega) ?_)
    intro g1
    refine compT_none (fun i nw => Halt (∃ pa qa c30 c37 tt, nw = (S1, PySem.W.listOf (List.map Value.ref (List.drop 1 fs)).toArray 0) :: (D, PySem.W.listOf (List.map Value.ref fs).toArray k) :: (oA, oo) :: (sA, so) :: (lA, lo) :: (s1.heap.objs.size + 1 + 1 + 1 + 1, o4) :: (s1.heap.objs.size + 1 + 1 + 1, o3) :: (s1.heap.objs.size + 1 + 1, o2) :: (s1.heap.objs.size + 1, o1) :: tt ∧ (∀ p, p ∈ tt ↔ p ∈ tabL pa c30 qa c37 tl) ∧ Tabs pa c30 qa c37 (([(S1, PySem.W.listOf (List.map Value.ref (List.drop 1 fs)).toArray 0), (D, PySem.W.listOf (List.map Value.ref fs).toArray k), (oA, oo), (sA, so), (lA, lo), (s1.heap.objs.size + 1 + 1 + 1 + 1, o4), (s1.heap.objs.size + 1 + 1 + 1, o3), (s1.heap.objs.size + 1 + 1, o2), (s1.heap.objs.size + 1, o1)] : List (Addr × Obj)) ++ tl))) ?_ ?_ ?_
    · refine Halt.go ⟨#[], #[], [], [], (37, tabObj #[]) :: (30, tabObj #[]) :: tl, rfl, fun p => ?_, ⟨.inl ⟨rfl, rfl⟩, .inl ⟨rfl, rfl⟩, fun p hp => ?_, fun q hq => (nomatch hq), fun p hp => ?_, fun q hq => (nomatch hq)⟩⟩
      · unfold tabL
        simp only [List.mem_cons, List.nil_append]
        grind
      · rcases List.mem_cons.mp hp with rfl | hp
        · show (37 : Nat) ≠ 30
          decide
        · rcases List.mem_append.mp (show p ∈ ([(S1, PySem.W.listOf (List.map Value.ref (List.drop 1 fs)).toArray 0), (D, PySem.W.listOf (List.map Value.ref fs).toArray k), (oA, oo), (sA, so), (lA, lo), (s1.heap.objs.size + 1 + 1 + 1 + 1, o4), (s1.heap.objs.size + 1 + 1 + 1, o3), (s1.heap.objs.size + 1 + 1, o2), (s1.heap.objs.size + 1, o1)] : List (Addr × Obj)) ++ tl from hp) with hp | hp
          · exact (hE p hp).2
          · exact (hTt p hp).2
      · rcases List.mem_append.mp (show p ∈ ([(S1, PySem.W.listOf (List.map Value.ref (List.drop 1 fs)).toArray 0), (D, PySem.W.listOf (List.map Value.ref fs).toArray k), (oA, oo), (sA, so), (lA, lo), (s1.heap.objs.size + 1 + 1 + 1 + 1, o4), (s1.heap.objs.size + 1 + 1 + 1, o3), (s1.heap.objs.size + 1 + 1, o2), (s1.heap.objs.size + 1, o1)] : List (Addr × Obj)) ++ tl from hp) with hp | hp
        · exact (hE p hp).1
        · exact (hTt p hp).1
    · clear F11 N11 hE
      rintro i nw v I oI C oC D2 m₂ h tk E' hi HJ9 hv hC hx F' N' off ne
      refine Mine.letP ?_
      intro G9
      obtain ⟨pa, qa, c30, c37, tt, rfl, htt, hT⟩ := HJ9
      have hv' : ∃ f, v = .ref f ∧ fs[1 + i]? = some f := by
        rw [List.getElem?_toArray, List.getElem?_map, List.getElem?_drop] at hv
        cases e : fs[1 + i]? with
        | none => rw [e] at hv; cases hv
        | some f => rw [e] at hv; cases hv; exact ⟨f, rfl, rfl⟩
      obtain ⟨f, rfl, hf⟩ := hv'
      obtain ⟨r, ws, kk, hr, hm, hIr⟩ := RowsIn.at hrows (1 + i) f hf
      have hrm : r ∈ (allThrees n).drop 1 := List.mem_of_getElem? (i := i) (by rw [List.getElem?_drop]; exact hr)
      have hturn := turn_ok hn5 hn6 hpal hb8 hown hrm
      have nIC : NeA I C := ne.1
      have nID : NeA I D2 := ne.2.1
      have nCD : NeA C D2 := ne.2.2
      have offm := LCg.Off3.mem off
      clear ne
      show wpAny _ _ _ _ _ _
      try dsimp only
      try ((show wpAny _ _ _ _ _ _); k_fold)
      have hin : ∀ p, p ∈ ([(S1, PySem.W.listOf (List.map Value.ref (List.drop 1 fs)).toArray 0), (D, PySem.W.listOf (List.map Value.ref fs).toArray k), (oA, oo), (sA, so), (lA, lo), (s1.heap.objs.size + 1 + 1 + 1 + 1, o4), (s1.heap.objs.size + 1 + 1 + 1, o3), (s1.heap.objs.size + 1 + 1, o2), (s1.heap.objs.size + 1, o1)] : List (Addr × Obj)) ++ tl → p ∈ (S1, PySem.W.listOf (List.map Value.ref (List.drop 1 fs)).toArray 0) :: (D, PySem.W.listOf (List.map Value.ref fs).toArray k) :: (oA, oo) :: (sA, so) :: (lA, lo) :: (s1.heap.objs.size + 1 + 1 + 1 + 1, o4) :: (s1.heap.objs.size + 1 + 1 + 1, o3) :: (s1.heap.objs.size + 1 + 1, o2) :: (s1.heap.objs.size + 1, o1) :: tt := fun p hp => by
        rcases List.mem_append.mp hp with hp | hp
        · simp only [List.mem_cons, List.not_mem_nil, or_false] at hp ⊢
          grind
        · have := (htt p).mpr (tabL_mem.mpr (.inr hp))
          simp only [List.mem_cons]
          simp only [this, or_true]
      have hinT : ∀ p, p ∈ tabL pa c30 qa c37 [] → p ∈ (S1, PySem.W.listOf (List.map Value.ref (List.drop 1 fs)).toArray 0) :: (D, PySem.W.listOf (List.map Value.ref fs).toArray k) :: (oA, oo) :: (sA, so) :: (lA, lo) :: (s1.heap.objs.size + 1 + 1 + 1 + 1, o4) :: (s1.heap.objs.size + 1 + 1 + 1, o3) :: (s1.heap.objs.size + 1 + 1, o2) :: (s1.heap.objs.size + 1, o1) :: tt := fun p hp => by
        have := (htt p).mpr (tabL_mem.mpr (.inl hp))
        simp only [List.mem_cons]
        simp only [this, or_true]
      have hTa : Tabs pa c30 qa c37 (([(I, oI), (C, oC), (D2, LCg.lst [])] : List (Addr × Obj)) ++ (([(S1, PySem.W.listOf (List.map Value.ref (List.drop 1 fs)).toArray 0), (D, PySem.W.listOf (List.map Value.ref fs).toArray k), (oA, oo), (sA, so), (lA, lo), (s1.heap.objs.size + 1 + 1 + 1 + 1, o4), (s1.heap.objs.size + 1 + 1 + 1, o3), (s1.heap.objs.size + 1 + 1, o2), (s1.heap.objs.size + 1, o1)] : List (Addr × Obj)) ++ tl)) := tabs_add hT fun p hp q hq => by
        have := offm q (hinT q hq)
        simp only [List.mem_cons, List.not_mem_nil, or_false] at hp
        rcases hp with rfl | rfl | rfl
        · exact Ne.symm this.1
        · exact Ne.symm this.2.1
        · exact Ne.symm this.2.2
      k_steps
      refine Halt.go ?_
      rename News (ghostOf _ _) _ _ _ => N12
      have N13 : News (ghostOf s1.heap [(41, 37), (34, 30)]) s1.heap.objs.size _ (tabL pa c30 qa c37 (([(I, oI), (C, oC), (D2, LCg.lst [])] : List (Addr × Obj)) ++ (([(S1, PySem.W.listOf (List.map Value.ref (List.drop 1 fs)).toArray 0), (D, PySem.W.listOf (List.map Value.ref fs).toArray k), (oA, oo), (sA, so), (lA, lo), (s1.heap.objs.size + 1 + 1 + 1 + 1, o4), (s1.heap.objs.size + 1 + 1 + 1, o3), (s1.heap.objs.size + 1 + 1, o2), (s1.heap.objs.size + 1, o1)] : List (Addr × Obj)) ++ tl))) := news_sub N12 (fun p hp => by
        rcases tabL_mem.mp hp with hp | hp
        · exact List.mem_cons_of_mem _ (List.mem_cons_of_mem _ (List.mem_cons_of_mem _ (hinT p hp)))
        · rcases List.mem_append.mp hp with hp | hp
          · simp only [List.mem_cons, List.not_mem_nil, or_false] at hp
            rcases hp with rfl | rfl | rfl <;> simp
          · exact List.mem_cons_of_mem _ (List.mem_cons_of_mem _ (List.mem_cons_of_mem _ (hin p hp))))
      have Ntl : News (ghostOf s1.heap [(41, 37), (34, 30)]) s1.heap.objs.size _ tl := news_sub N12 (fun p hp => List.mem_cons_of_mem _ (List.mem_cons_of_mem _ (List.mem_cons_of_mem _ (hin p (List.mem_append_right _ hp)))))
      k_dflt (refine' Mine.hold_spec sA lA oA f as (List.map lightOf ps) sv [.int (ownK (List.map sideOf ps) b 0) t30, .int (ownK (List.map sideOf ps) b 1) t31, .int (ownK (List.map sideOf ps) b 2) t32] ws (List.map sideOf ps) [ownK (List.map sideOf ps) b 0, ownK (List.map sideOf ps) b 1, ownK (List.map sideOf ps) b 2] r n pa qa c30 c37 ?B5 ?F5 ?X5 N13 ?T5 ?hk5 ?hd5 ?hu5 ?c15 ?c25 hTa ?ls5 hsv ?ll5 ?tr5 ?lo5 (.cons _ _ (.cons _ _ (.cons _ _ .nil))) (News.isList Ntl hm) hIr ?off5 (by omega) hn6 ?len5 hturn.lights rfl hturn.three hturn.base hturn.law ?ret5)
      case B5 => k_asm
      case F5 => k_asm
      case X5 => k_asm
      case T5 => k_asm
      case hk5 => exact rfl
      case hd5 => ktr_room
      case hu5 => ktr_units
      case c15 => assumption
      case c25 => assumption
      case ls5 => exact isListE N12 hso (by k_mem)
      case ll5 => exact isListE N12 hlo (by k_mem)
      case lo5 => exact isListE N12 hoo (by k_mem)
      case tr5 => exact LightsIn.tris (news_sub Ntl hobj) hli
      case len5 => exact ⟨by rw [List.length_map, hpl], by rw [hli.length, List.length_map, hpl]⟩
      case off5 =>
        intro p hp hm9
        have hto := fun (a : Addr) (o : Obj) (ha : (a, o) ∈ ([(S1, PySem.W.listOf (List.map Value.ref (List.drop 1 fs)).toArray 0), (D, PySem.W.listOf (List.map Value.ref fs).toArray k), (oA, oo), (sA, so), (lA, lo), (s1.heap.objs.size + 1 + 1 + 1 + 1, o4), (s1.heap.objs.size + 1 + 1 + 1, o3), (s1.heap.objs.size + 1 + 1, o2), (s1.heap.objs.size + 1, o1)] : List (Addr × Obj)) ++ tl) => tabs_off hT (a, o) ha p hp
        simp only [List.mem_cons] at hm9
        rcases hm9 with e | e | e | e | e
        · exact hto sA _ (List.mem_append_left _ (.tail _ (.tail _ (.tail _ (.head _))))) e.symm
        · exact hto lA _ (List.mem_append_left _ (.tail _ (.tail _ (.tail _ (.tail _ (.head _)))))) e.symm
        · exact hto oA _ (List.mem_append_left _ (.tail _ (.tail _ (.head _)))) e.symm
        · exact hto f _ (List.mem_append_right _ hm) e.symm
        · obtain ⟨o, ho⟩ := lights_mem hli _ e
          exact hto p.1 o (List.mem_append_right _ (hobj _ ho)) rfl
      intro h9 tk9 pa' qa' c30' c37' hT' F13 N14
      try dsimp only
      try ((show wpAny _ _ _ _ _ _); k_fold)
      k_steps
      refine ⟨rfl, _, _, (S1, PySem.W.listOf (List.map Value.ref (List.drop 1 fs)).toArray 0) :: (D, PySem.W.listOf (List.map Value.ref fs).toArray k) :: (oA, oo) :: (sA, so) :: (lA, lo) :: (s1.heap.objs.size + 1 + 1 + 1 + 1, o4) :: (s1.heap.objs.size + 1 + 1 + 1, o3) :: (s1.heap.objs.size + 1 + 1, o2) :: (s1.heap.objs.size + 1, o1) :: tabL pa' c30' qa' c37' tl, rfl, by k_asm, news_sub N14 (fun p hp => ?_), LCg.Off3.of (fun p hp => ?_), .inr ⟨_, List.mem_cons_self, rfl, _, rfl⟩, Halt.go ⟨pa', qa', c30', c37', _, rfl, fun p => Iff.rfl, tabs_sub' hT' fun p hp => List.mem_append_right _ hp⟩⟩
      · refine tabL_mem.mpr ?_
        rcases List.mem_cons.mp hp with rfl | hp
        · exact .inr (List.mem_append_left _ (.head _))
        rcases List.mem_cons.mp hp with rfl | hp
        · exact .inr (List.mem_append_left _ (.tail _ (.head _)))
        rcases List.mem_cons.mp hp with rfl | hp
        · exact .inr (List.mem_append_left _ (.tail _ (.tail _ (.head _))))
        rcases List.mem_append.mp (show p ∈ ([(S1, PySem.W.listOf (List.map Value.ref (List.drop 1 fs)).toArray 0), (D, PySem.W.listOf (List.map Value.ref fs).toArray k), (oA, oo), (sA, so), (lA, lo), (s1.heap.objs.size + 1 + 1 + 1 + 1, o4), (s1.heap.objs.size + 1 + 1 + 1, o3), (s1.heap.objs.size + 1 + 1, o2), (s1.heap.objs.size + 1, o1)] : List (Addr × Obj)) ++ tabL pa' c30' qa' c37' tl from hp) with hp | hp
        · exact .inr (List.mem_append_right _ (List.mem_append_left _ hp))
        · rcases tabL_mem.mp hp with hp | hp
          · exact .inl hp
          · exact .inr (List.mem_append_right _ (List.mem_append_right _ hp))
      · rcases List.mem_append.mp (show p ∈ ([(S1, PySem.W.listOf (List.map Value.ref (List.drop 1 fs)).toArray 0), (D, PySem.W.listOf (List.map Value.ref fs).toArray k), (oA, oo), (sA, so), (lA, lo), (s1.heap.objs.size + 1 + 1 + 1 + 1, o4), (s1.heap.objs.size + 1 + 1 + 1, o3), (s1.heap.objs.size + 1 + 1, o2), (s1.heap.objs.size + 1, o1)] : List (Addr × Obj)) ++ tabL pa' c30' qa' c37' tl from hp) with hp | hp
        · exact offm p (hin p (List.mem_append_left _ hp))
        · rcases tabL_mem.mp hp with hp | hp
          · exact ⟨Ne.symm (tabs_off hT' (I, oI) (List.mem_append_left _ (.head _)) p hp), Ne.symm (tabs_off hT' (C, oC) (List.mem_append_left _ (.tail _ (.head _))) p hp), Ne.symm (tabs_off hT' (D2, LCg.lst []) (List.mem_append_left _ (.tail _ (.tail _ (.head _)))) p hp)⟩
          · exact offm p (hin p (List.mem_append_right _ hp))
    · rintro nw HJ9 D3 h tk F' N' off
      refine Mine.letP ?_
      intro G9
      obtain ⟨pa, qa, c30, c37, tt, rfl, htt, hT⟩ := HJ9
      clear F11 N11
      show wpAny _ _ _ _ _ _
      try dsimp only
      try ((show wpAny _ _ _ _ _ _); k_fold)
      try dsimp only
      k_steps
      refine Halt.go ?_
      rename News (ghostOf _ _) _ _ _ => N16
      k_dflt refine eq_intsK (ns := []) (ms := []) (News.isList (n := 0) (items := ([] : List Value).toArray) N16 (by k_mem)) .nil (News.isList (n := 0) (items := ([] : List Value).toArray) N16 (by k_mem)) .nil (by ((dsimp +zetaDelta only); ktr_units)) ?_
      rw [decide_eq_true rfl]
      have hm30 : (((30 : Nat), tabObj pa) : Addr × Obj) ∈ tt := (htt _).mpr (by unfold tabL; exact .head _)
      have hm37 : (((37 : Nat), tabObj qa) : Addr × Obj) ∈ tt := (htt _).mpr (by unfold tabL; exact .tail _ (List.mem_append_right _ (.head _)))
      have hgr : GrownAll [(41, 37), (34, 30)] _ := ⟨GrownAt.of (ps := qa) N16 (by simp only [List.mem_cons]; simp only [hm37, or_true]), GrownAt.of (ps := pa) N16 (by simp only [List.mem_cons]; simp only [hm30, or_true]), trivial⟩
      k_steps
      exact hgr
end Mine
end
set_option maxRecDepth 100000 in
set_option maxHeartbeats 8000000 in
theorem PySem.Challenge.cw_tl0028_01_holds : PySem.Challenge.rw_tl0028_01.Holds := by
  exact Mine.law_all
