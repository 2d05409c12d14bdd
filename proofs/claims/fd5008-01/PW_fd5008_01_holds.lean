import PyProof.Rows.All
import Wide.All
import OpenK.AllK
import Wide.FinOn
import PySem.Challenge.RW_fd5008_01
-- part KSpec
section
open PySem PySem.W
namespace Mine
def fnAt (i : Nat) : Option Stmt := PySem.Challenge.pw_fd5008_01.main.body[i]?
def fnIn (i j : Nat) : Option Stmt := match PySem.Challenge.pw_fd5008_01.main.body[i]? with
  | some (.ClassDef _ _ _ b _ _ _ _ _ _ _) => b[j]?
  | _ => none
def fd (s : Option Stmt) (nm qn : Str) (g : Addr) (cl : List (Str × Addr)) (dV kV doc pm : Value) (an : Option Addr) (cd ct : Value) (bi : Addr) : FuncData := match s with
  | some (.FunctionDef _ a b _ _ _ sc _ _ _) => { name := nm, qualname := qn, params := a, body := .stmts b, scope := sc, globals := g, closure := cl, defaults := dV, kwdefaults := kV, doc := doc, pyModule := pm, annotations := an, code := cd, closureTuple := ct, builtins := bi }
  | _ => default
def KT : Params → Frag := fun P =>
  (nat_lit 2, ⟨.none, none, (.dict #[] 0), #[]⟩) ::
  (nat_lit 3, ⟨(.type "dict"), none, (.dict #[⟨PyData.keyHash P (Str.ofString "__name__"), (.str (Str.ofString "__name__") 165), (.str (Str.ofString "law_fd5008_01") 595)⟩, ⟨PyData.keyHash P (Str.ofString "__doc__"), (.str (Str.ofString "__doc__") 166), .none⟩, ⟨PyData.keyHash P (Str.ofString "__package__"), (.str (Str.ofString "__package__") 167), .none⟩, ⟨PyData.keyHash P (Str.ofString "__loader__"), (.str (Str.ofString "__loader__") 168), (.builtin "__main__.__loader__#opaque")⟩, ⟨PyData.keyHash P (Str.ofString "__spec__"), (.str (Str.ofString "__spec__") 169), .none⟩, ⟨PyData.keyHash P (Str.ofString "__annotations__"), (.str (Str.ofString "__annotations__") 170), (.ref 6)⟩, ⟨PyData.keyHash P (Str.ofString "__builtins__"), (.str (Str.ofString "__builtins__") 171), (.ref 4)⟩, ⟨PyData.keyHash P (Str.ofString "__file__"), (.str (Str.ofString "__file__") 173), (.str (Str.ofString "/claim/cut.py") 172)⟩, ⟨PyData.keyHash P (Str.ofString "__cached__"), (.str (Str.ofString "__cached__") 174), .none⟩, ⟨PyData.keyHash P (Str.ofString "_wall"), (.str (Str.ofString "_wall") 193), (.ref 21)⟩, ⟨PyData.keyHash P (Str.ofString "_WallAttr"), (.str (Str.ofString "_WallAttr") 233), (.ref 46)⟩, ⟨PyData.keyHash P (Str.ofString "ASCII_CTRL"), (.str (Str.ofString "ASCII_CTRL") 379), (.ref 67)⟩, ⟨PyData.keyHash P (Str.ofString "ILLEGAL_BASIC_STR_CHARS"), (.str (Str.ofString "ILLEGAL_BASIC_STR_CHARS") 383), (.ref 72)⟩, ⟨PyData.keyHash P (Str.ofString "ILLEGAL_MULTILINE_BASIC_STR_CHARS"), (.str (Str.ofString "ILLEGAL_MULTILINE_BASIC_STR_CHARS") 389), (.ref 77)⟩, ⟨PyData.keyHash P (Str.ofString "ILLEGAL_MULTILINE_LITERAL_STR_CHARS"), (.str (Str.ofString "ILLEGAL_MULTILINE_LITERAL_STR_CHARS") 390), (.ref 77)⟩, ⟨PyData.keyHash P (Str.ofString "TOML_WS"), (.str (Str.ofString "TOML_WS") 396), (.ref 78)⟩, ⟨PyData.keyHash P (Str.ofString "TOML_WS_AND_NEWLINE"), (.str (Str.ofString "TOML_WS_AND_NEWLINE") 400), (.ref 86)⟩, ⟨PyData.keyHash P (Str.ofString "digits"), (.str (Str.ofString "digits") 402), (.str (Str.ofString "0123456789") 401)⟩, ⟨PyData.keyHash P (Str.ofString "hexdigits"), (.str (Str.ofString "hexdigits") 407), (.str (Str.ofString "0123456789abcdefABCDEF") 406)⟩, ⟨PyData.keyHash P (Str.ofString "HEXDIGIT_CHARS"), (.str (Str.ofString "HEXDIGIT_CHARS") 452), (.ref 87)⟩, ⟨PyData.keyHash P (Str.ofString "MappingProxyType"), (.str (Str.ofString "MappingProxyType") 456), (.type "mappingproxy")⟩, ⟨PyData.keyHash P (Str.ofString "BASIC_STR_ESCAPE_REPLACEMENTS"), (.str (Str.ofString "BASIC_STR_ESCAPE_REPLACEMENTS") 480), (.ref 93)⟩, ⟨PyData.keyHash P (Str.ofString "TOMLDecodeError"), (.str (Str.ofString "TOMLDecodeError") 498), (.ref 103)⟩, ⟨PyData.keyHash P (Str.ofString "skip_chars"), (.str (Str.ofString "skip_chars") 507), (.ref 113)⟩, ⟨PyData.keyHash P (Str.ofString "skip_until"), (.str (Str.ofString "skip_until") 519), (.ref 120)⟩, ⟨PyData.keyHash P (Str.ofString "parse_basic_str_escape"), (.str (Str.ofString "parse_basic_str_escape") 531), (.ref 128)⟩, ⟨PyData.keyHash P (Str.ofString "parse_basic_str_escape_multiline"), (.str (Str.ofString "parse_basic_str_escape_multiline") 539), (.ref 135)⟩, ⟨PyData.keyHash P (Str.ofString "parse_hex_char"), (.str (Str.ofString "parse_hex_char") 550), (.ref 142)⟩, ⟨PyData.keyHash P (Str.ofString "parse_multiline_str"), (.str (Str.ofString "parse_multiline_str") 562), (.ref 149)⟩, ⟨PyData.keyHash P (Str.ofString "parse_basic_str"), (.str (Str.ofString "parse_basic_str") 577), (.ref 156)⟩, ⟨PyData.keyHash P (Str.ofString "suffixed_err"), (.str (Str.ofString "suffixed_err") 587), (.ref 163)⟩, ⟨PyData.keyHash P (Str.ofString "is_unicode_scalar_value"), (.str (Str.ofString "is_unicode_scalar_value") 594), (.ref 170)⟩, ⟨PyData.keyHash P (Str.ofString "_law_MARK"), (.str (Str.ofString "_law_MARK") 600), (.ref 171)⟩, ⟨PyData.keyHash P (Str.ofString "_law_MARKED"), (.str (Str.ofString "_law_MARKED") 604), (.ref 172)⟩, ⟨PyData.keyHash P (Str.ofString "_law_FEED"), (.str (Str.ofString "_law_FEED") 608), (.ref 173)⟩, ⟨PyData.keyHash P (Str.ofString "_law_ESCAPED"), (.str (Str.ofString "_law_ESCAPED") 612), (.ref 174)⟩, ⟨PyData.keyHash P (Str.ofString "_law_LETTER"), (.str (Str.ofString "_law_LETTER") 616), (.ref 175)⟩, ⟨PyData.keyHash P (Str.ofString "_law_SLASH"), (.str (Str.ofString "_law_SLASH") 620), (.ref 176)⟩, ⟨PyData.keyHash P (Str.ofString "_law_signs"), (.str (Str.ofString "_law_signs") 626), (.ref 181)⟩, ⟨PyData.keyHash P (Str.ofString "_law_way"), (.str (Str.ofString "_law_way") 637), (.ref 188)⟩, ⟨PyData.keyHash P (Str.ofString "_law_due"), (.str (Str.ofString "_law_due") 649), (.ref 195)⟩, ⟨PyData.keyHash P (Str.ofString "_law_shortest"), (.str (Str.ofString "_law_shortest") 659), (.ref 202)⟩, ⟨PyData.keyHash P (Str.ofString "law"), (.str (Str.ofString "law") 665), (.ref 207)⟩] 43), #[]⟩) ::
  (nat_lit 92, ⟨(.type "dict"), none, (.dict #[⟨PyData.keyHash P (Str.ofString "\\b"), (.str (Str.ofString "\\b") 459), (.str (Str.ofString "\x08") 460)⟩, ⟨PyData.keyHash P (Str.ofString "\\t"), (.str (Str.ofString "\\t") 461), (.str (Str.ofString "\t") 462)⟩, ⟨PyData.keyHash P (Str.ofString "\\n"), (.str (Str.ofString "\\n") 463), (.str (Str.ofString "\n") 464)⟩, ⟨PyData.keyHash P (Str.ofString "\\f"), (.str (Str.ofString "\\f") 465), (.str (Str.ofString "\x0c") 466)⟩, ⟨PyData.keyHash P (Str.ofString "\\r"), (.str (Str.ofString "\\r") 467), (.str (Str.ofString "\x0d") 468)⟩, ⟨PyData.keyHash P (Str.ofString "\\\""), (.str (Str.ofString "\\\"") 469), (.str (Str.ofString "\"") 470)⟩, ⟨PyData.keyHash P (Str.ofString "\\\\"), (.str (Str.ofString "\\\\") 471), (.str (Str.ofString "\\") 472)⟩] 7), #[]⟩) ::
  (nat_lit 93, ⟨(.type "mappingproxy"), none, (.fields #[(.ref 92)]), #[]⟩) ::
  (nat_lit 94, ⟨(.type "tuple"), none, (.seq #[(.type "ValueError")] 0), #[]⟩) ::
  (nat_lit 101, ⟨(.type "tuple"), none, (.seq #[] 0), #[]⟩) ::
  (nat_lit 102, ⟨(.type "dict"), none, (.dict #[⟨PyData.keyHash P (Str.ofString "__module__"), (.str (Str.ofString "__module__") 488), (.str (Str.ofString "cpy313.tomllib._parser") 457)⟩, ⟨PyData.keyHash P (Str.ofString "__firstlineno__"), (.str (Str.ofString "__firstlineno__") 492), (.int 24 491)⟩, ⟨PyData.keyHash P (Str.ofString "__static_attributes__"), (.str (Str.ofString "__static_attributes__") 493), (.ref 101)⟩, ⟨PyData.keyHash P (Str.ofString "__weakref__"), (.str (Str.ofString "__weakref__") 495), (.ref 104)⟩, ⟨PyData.keyHash P (Str.ofString "__doc__"), (.str (Str.ofString "__doc__") 496), .none⟩] 3), #[]⟩) ::
  (nat_lit 103, ⟨(.type "type"), none, (.cls { name := (Str.ofString "TOMLDecodeError"), bases := [(.type "ValueError")], mro := [(.ref 103), (.type "ValueError"), (.type "Exception"), (.type "BaseException"), (.type "object")], ns := 102, qualname := (Str.ofString "TOMLDecodeError"), hasDict := true, slotNames := [], subclasses := [], abstract := false, collection := none, hasDel := false }), #[(some (.ref 94)), none, (some (.str (Str.ofString "TOMLDecodeError") 481)), (some (.str (Str.ofString "TOMLDecodeError") 489)), (some (.builtin "ValueError.__new__")), (some (.bool true))]⟩) ::
  (nat_lit 104, ⟨(.type "getset_descriptor"), none, (.fields #[(.str (Str.ofString "__weakref__") 494), (.ref 103), (.builtin "ExceptionGroup.__weakref__"), .none]), #[]⟩) ::
  (nat_lit 107, ⟨(.type "tuple"), none, (.seq #[] 0), #[]⟩) ::
  (nat_lit 109, ⟨(.type "tuple"), none, (.seq #[(.str (Str.ofString "src") 502), (.str (Str.ofString "pos") 503), (.str (Str.ofString "chars") 504)] 0), #[]⟩) ::
  (nat_lit 110, ⟨(.type "tuple"), none, (.seq #[] 0), #[]⟩) ::
  (nat_lit 112, ⟨(.type "code"), none, (.fields #[(.str (Str.ofString "skip_chars") 499), (.str (Str.ofString "skip_chars") 500), (.str (Str.ofString "/claim/cut.py") 501), (.int 26 0), (.int 3 0), (.int 0 0), (.int 0 0), (.int 3 0), (.ref 107), (.bool true), (.int 181 0), (.ref 108), .none, (.ref 109), (.ref 110), (.ref 111), (.int 505 0), (.int 26 0), (.str (Str.ofString "/claim/cut.py") 506)]), #[]⟩) ::
  (nat_lit 113, ⟨(.type "function"), none, (.func (fd (fnAt 17) (Str.ofString "skip_chars") (Str.ofString "skip_chars") 3 [] .none .none .none (.str (Str.ofString "cpy313.tomllib._parser") 457) none (.ref 112) .none 0)), #[]⟩) ::
  (nat_lit 114, ⟨(.type "tuple"), none, (.seq #[] 0), #[]⟩) ::
  (nat_lit 116, ⟨(.type "tuple"), none, (.seq #[(.str (Str.ofString "src") 511), (.str (Str.ofString "pos") 512), (.str (Str.ofString "expect") 513), (.str (Str.ofString "error_on") 514), (.str (Str.ofString "error_on_eof") 515), (.str (Str.ofString "new_pos") 516)] 0), #[]⟩) ::
  (nat_lit 117, ⟨(.type "tuple"), none, (.seq #[] 0), #[]⟩) ::
  (nat_lit 119, ⟨(.type "code"), none, (.fields #[(.str (Str.ofString "skip_until") 508), (.str (Str.ofString "skip_until") 509), (.str (Str.ofString "/claim/cut.py") 510), (.int 33 0), (.int 3 0), (.int 0 0), (.int 2 0), (.int 3 0), (.ref 114), (.bool true), (.int 181 0), (.ref 115), .none, (.ref 116), (.ref 117), (.ref 118), (.int 517 0), (.int 33 0), (.str (Str.ofString "/claim/cut.py") 518)]), #[]⟩) ::
  (nat_lit 120, ⟨(.type "function"), none, (.func (fd (fnAt 18) (Str.ofString "skip_until") (Str.ofString "skip_until") 3 [] .none .none .none (.str (Str.ofString "cpy313.tomllib._parser") 457) none (.ref 119) .none 0)), #[]⟩) ::
  (nat_lit 121, ⟨(.type "dict"), none, (.dict #[⟨PyData.keyHash P (Str.ofString "multiline"), (.str (Str.ofString "multiline") 520), (.bool false)⟩] 1), #[]⟩) ::
  (nat_lit 122, ⟨(.type "tuple"), none, (.seq #[] 0), #[]⟩) ::
  (nat_lit 124, ⟨(.type "tuple"), none, (.seq #[(.str (Str.ofString "src") 524), (.str (Str.ofString "pos") 525), (.str (Str.ofString "multiline") 526), (.str (Str.ofString "escape_id") 527), (.str (Str.ofString "char") 528)] 0), #[]⟩) ::
  (nat_lit 125, ⟨(.type "tuple"), none, (.seq #[] 0), #[]⟩) ::
  (nat_lit 127, ⟨(.type "code"), none, (.fields #[(.str (Str.ofString "parse_basic_str_escape") 521), (.str (Str.ofString "parse_basic_str_escape") 522), (.str (Str.ofString "/claim/cut.py") 523), (.int 45 0), (.int 2 0), (.int 0 0), (.int 1 0), (.int 3 0), (.ref 122), (.bool true), (.int 181 0), (.ref 123), .none, (.ref 124), (.ref 125), (.ref 126), (.int 529 0), (.int 45 0), (.str (Str.ofString "/claim/cut.py") 530)]), #[]⟩) ::
  (nat_lit 128, ⟨(.type "function"), none, (.func (fd (fnAt 19) (Str.ofString "parse_basic_str_escape") (Str.ofString "parse_basic_str_escape") 3 [] .none (.ref 121) .none (.str (Str.ofString "cpy313.tomllib._parser") 457) none (.ref 127) .none 0)), #[]⟩) ::
  (nat_lit 129, ⟨(.type "tuple"), none, (.seq #[] 0), #[]⟩) ::
  (nat_lit 131, ⟨(.type "tuple"), none, (.seq #[(.str (Str.ofString "src") 535), (.str (Str.ofString "pos") 536)] 0), #[]⟩) ::
  (nat_lit 132, ⟨(.type "tuple"), none, (.seq #[] 0), #[]⟩) ::
  (nat_lit 134, ⟨(.type "code"), none, (.fields #[(.str (Str.ofString "parse_basic_str_escape_multiline") 532), (.str (Str.ofString "parse_basic_str_escape_multiline") 533), (.str (Str.ofString "/claim/cut.py") 534), (.int 68 0), (.int 2 0), (.int 0 0), (.int 0 0), (.int 3 0), (.ref 129), (.bool true), (.int 181 0), (.ref 130), .none, (.ref 131), (.ref 132), (.ref 133), (.int 537 0), (.int 68 0), (.str (Str.ofString "/claim/cut.py") 538)]), #[]⟩) ::
  (nat_lit 135, ⟨(.type "function"), none, (.func (fd (fnAt 20) (Str.ofString "parse_basic_str_escape_multiline") (Str.ofString "parse_basic_str_escape_multiline") 3 [] .none .none .none (.str (Str.ofString "cpy313.tomllib._parser") 457) none (.ref 134) .none 0)), #[]⟩) ::
  (nat_lit 136, ⟨(.type "tuple"), none, (.seq #[] 0), #[]⟩) ::
  (nat_lit 138, ⟨(.type "tuple"), none, (.seq #[(.str (Str.ofString "src") 543), (.str (Str.ofString "pos") 544), (.str (Str.ofString "hex_len") 545), (.str (Str.ofString "hex_str") 546), (.str (Str.ofString "hex_int") 547)] 0), #[]⟩) ::
  (nat_lit 139, ⟨(.type "tuple"), none, (.seq #[] 0), #[]⟩) ::
  (nat_lit 141, ⟨(.type "code"), none, (.fields #[(.str (Str.ofString "parse_hex_char") 540), (.str (Str.ofString "parse_hex_char") 541), (.str (Str.ofString "/claim/cut.py") 542), (.int 70 0), (.int 3 0), (.int 0 0), (.int 0 0), (.int 3 0), (.ref 136), (.bool true), (.int 181 0), (.ref 137), .none, (.ref 138), (.ref 139), (.ref 140), (.int 548 0), (.int 70 0), (.str (Str.ofString "/claim/cut.py") 549)]), #[]⟩) ::
  (nat_lit 142, ⟨(.type "function"), none, (.func (fd (fnAt 21) (Str.ofString "parse_hex_char") (Str.ofString "parse_hex_char") 3 [] .none .none .none (.str (Str.ofString "cpy313.tomllib._parser") 457) none (.ref 141) .none 0)), #[]⟩) ::
  (nat_lit 143, ⟨(.type "tuple"), none, (.seq #[] 0), #[]⟩) ::
  (nat_lit 145, ⟨(.type "tuple"), none, (.seq #[(.str (Str.ofString "src") 554), (.str (Str.ofString "pos") 555), (.str (Str.ofString "literal") 556), (.str (Str.ofString "delim") 557), (.str (Str.ofString "end_pos") 558), (.str (Str.ofString "result") 559)] 0), #[]⟩) ::
  (nat_lit 146, ⟨(.type "tuple"), none, (.seq #[] 0), #[]⟩) ::
  (nat_lit 148, ⟨(.type "code"), none, (.fields #[(.str (Str.ofString "parse_multiline_str") 551), (.str (Str.ofString "parse_multiline_str") 552), (.str (Str.ofString "/claim/cut.py") 553), (.int 79 0), (.int 2 0), (.int 0 0), (.int 1 0), (.int 3 0), (.ref 143), (.bool true), (.int 181 0), (.ref 144), .none, (.ref 145), (.ref 146), (.ref 147), (.int 560 0), (.int 79 0), (.str (Str.ofString "/claim/cut.py") 561)]), #[]⟩) ::
  (nat_lit 149, ⟨(.type "function"), none, (.func (fd (fnAt 22) (Str.ofString "parse_multiline_str") (Str.ofString "parse_multiline_str") 3 [] .none .none .none (.str (Str.ofString "cpy313.tomllib._parser") 457) none (.ref 148) .none 0)), #[]⟩) ::
  (nat_lit 150, ⟨(.type "tuple"), none, (.seq #[] 0), #[]⟩) ::
  (nat_lit 152, ⟨(.type "tuple"), none, (.seq #[(.str (Str.ofString "src") 566), (.str (Str.ofString "pos") 567), (.str (Str.ofString "multiline") 568), (.str (Str.ofString "error_on") 569), (.str (Str.ofString "parse_escapes") 570), (.str (Str.ofString "result") 571), (.str (Str.ofString "start_pos") 572), (.str (Str.ofString "char") 573), (.str (Str.ofString "parsed_escape") 574)] 0), #[]⟩) ::
  (nat_lit 153, ⟨(.type "tuple"), none, (.seq #[] 0), #[]⟩) ::
  (nat_lit 155, ⟨(.type "code"), none, (.fields #[(.str (Str.ofString "parse_basic_str") 563), (.str (Str.ofString "parse_basic_str") 564), (.str (Str.ofString "/claim/cut.py") 565), (.int 98 0), (.int 2 0), (.int 0 0), (.int 1 0), (.int 3 0), (.ref 150), (.bool true), (.int 181 0), (.ref 151), .none, (.ref 152), (.ref 153), (.ref 154), (.int 575 0), (.int 98 0), (.str (Str.ofString "/claim/cut.py") 576)]), #[]⟩) ::
  (nat_lit 156, ⟨(.type "function"), none, (.func (fd (fnAt 23) (Str.ofString "parse_basic_str") (Str.ofString "parse_basic_str") 3 [] .none .none .none (.str (Str.ofString "cpy313.tomllib._parser") 457) none (.ref 155) .none 0)), #[]⟩) ::
  (nat_lit 157, ⟨(.type "tuple"), none, (.seq #[] 0), #[]⟩) ::
  (nat_lit 159, ⟨(.type "tuple"), none, (.seq #[(.str (Str.ofString "src") 581), (.str (Str.ofString "pos") 582), (.str (Str.ofString "msg") 583), (.str (Str.ofString "coord_repr") 584)] 0), #[]⟩) ::
  (nat_lit 160, ⟨(.type "tuple"), none, (.seq #[] 0), #[]⟩) ::
  (nat_lit 162, ⟨(.type "code"), none, (.fields #[(.str (Str.ofString "suffixed_err") 578), (.str (Str.ofString "suffixed_err") 579), (.str (Str.ofString "/claim/cut.py") 580), (.int 128 0), (.int 3 0), (.int 0 0), (.int 0 0), (.int 3 0), (.ref 157), (.bool true), (.int 181 0), (.ref 158), .none, (.ref 159), (.ref 160), (.ref 161), (.int 585 0), (.int 128 0), (.str (Str.ofString "/claim/cut.py") 586)]), #[]⟩) ::
  (nat_lit 163, ⟨(.type "function"), none, (.func (fd (fnAt 24) (Str.ofString "suffixed_err") (Str.ofString "suffixed_err") 3 [] .none .none .none (.str (Str.ofString "cpy313.tomllib._parser") 457) none (.ref 162) .none 0)), #[]⟩) ::
  (nat_lit 164, ⟨(.type "tuple"), none, (.seq #[] 0), #[]⟩) ::
  (nat_lit 166, ⟨(.type "tuple"), none, (.seq #[(.str (Str.ofString "codepoint") 591)] 0), #[]⟩) ::
  (nat_lit 167, ⟨(.type "tuple"), none, (.seq #[] 0), #[]⟩) ::
  (nat_lit 169, ⟨(.type "code"), none, (.fields #[(.str (Str.ofString "is_unicode_scalar_value") 588), (.str (Str.ofString "is_unicode_scalar_value") 589), (.str (Str.ofString "/claim/cut.py") 590), (.int 140 0), (.int 1 0), (.int 0 0), (.int 0 0), (.int 3 0), (.ref 164), (.bool true), (.int 181 0), (.ref 165), .none, (.ref 166), (.ref 167), (.ref 168), (.int 592 0), (.int 140 0), (.str (Str.ofString "/claim/cut.py") 593)]), #[]⟩) ::
  (nat_lit 170, ⟨(.type "function"), none, (.func (fd (fnAt 25) (Str.ofString "is_unicode_scalar_value") (Str.ofString "is_unicode_scalar_value") 3 [] .none .none .none (.str (Str.ofString "cpy313.tomllib._parser") 457) none (.ref 169) .none 0)), #[]⟩) ::
  (nat_lit 171, ⟨(.type "tuple"), none, (.seq #[(.str (Str.ofString "\"") 597), (.str (Str.ofString "\"") 598), (.int 1 599)] 0), #[]⟩) ::
  (nat_lit 172, ⟨(.type "tuple"), none, (.seq #[(.str (Str.ofString "\\\"") 601), (.str (Str.ofString "\"") 602), (.int 0 603)] 0), #[]⟩) ::
  (nat_lit 173, ⟨(.type "tuple"), none, (.seq #[(.str (Str.ofString "\n") 605), (.str (Str.ofString "\n") 606), (.int 2 607)] 0), #[]⟩) ::
  (nat_lit 174, ⟨(.type "tuple"), none, (.seq #[(.str (Str.ofString "\\n") 609), (.str (Str.ofString "\n") 610), (.int 0 611)] 0), #[]⟩) ::
  (nat_lit 175, ⟨(.type "tuple"), none, (.seq #[(.str (Str.ofString "a") 613), (.str (Str.ofString "a") 614), (.int 0 615)] 0), #[]⟩) ::
  (nat_lit 176, ⟨(.type "tuple"), none, (.seq #[(.str (Str.ofString "\\\\") 617), (.str (Str.ofString "\\") 618), (.int 0 619)] 0), #[]⟩) ::
  (nat_lit 177, ⟨(.type "tuple"), none, (.seq #[] 0), #[]⟩) ::
  (nat_lit 180, ⟨(.type "code"), none, (.fields #[(.str (Str.ofString "_law_signs") 621), (.str (Str.ofString "_law_signs") 622), (.str (Str.ofString "/claim/cut.py") 623), (.int 149 0), (.int 1 0), (.int 0 0), (.int 0 0), (.int 3 0), (.ref 177), (.bool true), (.int 181 0), (.ref 178), .none, .none, .none, (.ref 179), (.int 624 0), (.int 149 0), (.str (Str.ofString "/claim/cut.py") 625)]), #[]⟩) ::
  (nat_lit 181, ⟨(.type "function"), none, (.func (fd (fnAt 33) (Str.ofString "_law_signs") (Str.ofString "_law_signs") 3 [] .none .none .none (.str (Str.ofString "law_fd5008_01") 595) none (.ref 180) .none 0)), #[]⟩) ::
  (nat_lit 182, ⟨(.type "tuple"), none, (.seq #[] 0), #[]⟩) ::
  (nat_lit 184, ⟨(.type "tuple"), none, (.seq #[(.str (Str.ofString "signs") 630), (.str (Str.ofString "mask") 631), (.str (Str.ofString "way") 632), (.str (Str.ofString "sign") 633), (.str (Str.ofString "plain") 634)] 0), #[]⟩) ::
  (nat_lit 185, ⟨(.type "tuple"), none, (.seq #[] 0), #[]⟩) ::
  (nat_lit 187, ⟨(.type "code"), none, (.fields #[(.str (Str.ofString "_law_way") 627), (.str (Str.ofString "_law_way") 628), (.str (Str.ofString "/claim/cut.py") 629), (.int 151 0), (.int 2 0), (.int 0 0), (.int 0 0), (.int 3 0), (.ref 182), (.bool true), (.int 181 0), (.ref 183), .none, (.ref 184), (.ref 185), (.ref 186), (.int 635 0), (.int 151 0), (.str (Str.ofString "/claim/cut.py") 636)]), #[]⟩) ::
  (nat_lit 188, ⟨(.type "function"), none, (.func (fd (fnAt 34) (Str.ofString "_law_way") (Str.ofString "_law_way") 3 [] .none .none .none (.str (Str.ofString "law_fd5008_01") 595) none (.ref 187) .none 0)), #[]⟩) ::
  (nat_lit 189, ⟨(.type "tuple"), none, (.seq #[] 0), #[]⟩) ::
  (nat_lit 191, ⟨(.type "tuple"), none, (.seq #[(.str (Str.ofString "way") 641), (.str (Str.ofString "units") 642), (.str (Str.ofString "place") 643), (.str (Str.ofString "value") 644), (.str (Str.ofString "k") 645), (.str (Str.ofString "more") 646)] 0), #[]⟩) ::
  (nat_lit 192, ⟨(.type "tuple"), none, (.seq #[] 0), #[]⟩) ::
  (nat_lit 194, ⟨(.type "code"), none, (.fields #[(.str (Str.ofString "_law_due") 638), (.str (Str.ofString "_law_due") 639), (.str (Str.ofString "/claim/cut.py") 640), (.int 166 0), (.int 1 0), (.int 0 0), (.int 0 0), (.int 3 0), (.ref 189), (.bool true), (.int 181 0), (.ref 190), .none, (.ref 191), (.ref 192), (.ref 193), (.int 647 0), (.int 166 0), (.str (Str.ofString "/claim/cut.py") 648)]), #[]⟩) ::
  (nat_lit 195, ⟨(.type "function"), none, (.func (fd (fnAt 35) (Str.ofString "_law_due") (Str.ofString "_law_due") 3 [] .none .none .none (.str (Str.ofString "law_fd5008_01") 595) none (.ref 194) .none 0)), #[]⟩) ::
  (nat_lit 196, ⟨(.type "tuple"), none, (.seq #[] 0), #[]⟩) ::
  (nat_lit 198, ⟨(.type "tuple"), none, (.seq #[(.str (Str.ofString "signs") 653), (.str (Str.ofString "size") 654), (.str (Str.ofString "run") 655), (.str (Str.ofString "sign") 656)] 0), #[]⟩) ::
  (nat_lit 199, ⟨(.type "tuple"), none, (.seq #[] 0), #[]⟩) ::
  (nat_lit 201, ⟨(.type "code"), none, (.fields #[(.str (Str.ofString "_law_shortest") 650), (.str (Str.ofString "_law_shortest") 651), (.str (Str.ofString "/claim/cut.py") 652), (.int 187 0), (.int 1 0), (.int 0 0), (.int 0 0), (.int 3 0), (.ref 196), (.bool true), (.int 181 0), (.ref 197), .none, (.ref 198), (.ref 199), (.ref 200), (.int 657 0), (.int 187 0), (.str (Str.ofString "/claim/cut.py") 658)]), #[]⟩) ::
  (nat_lit 202, ⟨(.type "function"), none, (.func (fd (fnAt 36) (Str.ofString "_law_shortest") (Str.ofString "_law_shortest") 3 [] .none .none .none (.str (Str.ofString "law_fd5008_01") 595) none (.ref 201) .none 0)), #[]⟩) ::
  (nat_lit 203, ⟨(.type "tuple"), none, (.seq #[] 0), #[]⟩) ::
  (nat_lit 206, ⟨(.type "code"), none, (.fields #[(.str (Str.ofString "law") 660), (.str (Str.ofString "law") 661), (.str (Str.ofString "/claim/cut.py") 662), (.int 199 0), (.int 1 0), (.int 0 0), (.int 0 0), (.int 3 0), (.ref 203), (.bool true), (.int 181 0), (.ref 204), .none, .none, .none, (.ref 205), (.int 663 0), (.int 199 0), (.str (Str.ofString "/claim/cut.py") 664)]), #[]⟩) ::
  (nat_lit 207, ⟨(.type "function"), none, (.func (fd (fnAt 37) (Str.ofString "law") (Str.ofString "law") 3 [] .none .none .none (.str (Str.ofString "law_fd5008_01") 595) none (.ref 206) .none 0)), #[]⟩) :: []
def kAs : List Addr := [2, 3, 92, 93, 94, 101, 102, 103, 104, 107, 109, 110, 112, 113, 114, 116, 117, 119, 120, 121, 122, 124, 125, 127, 128, 129, 131, 132, 134, 135, 136, 138, 139, 141, 142, 143, 145, 146, 148, 149, 150, 152, 153, 155, 156, 157, 159, 160, 162, 163, 164, 166, 167, 169, 170, 171, 172, 173, 174, 175, 176, 177, 180, 181, 182, 184, 185, 187, 188, 189, 191, 192, 194, 195, 196, 198, 199, 201, 202, 203, 206, 207]
end Mine

end

-- part A1
section
open PySem PySem.W PySem.Calls PyProof.Rows
set_option Elab.async false
namespace Mine

section
variable {tb : String → Option Builtin} {p : Program} {w : World} {n₀ : Nat} {ann : Option Value} {b : Nat}

/-- whatever the run makes of the second state it makes of the first, some steps later -/
def Lead (tb : String → Option Builtin) (p : Program) (w : World) (n₀ : Nat) (ann : Option Value) (b : Nat) (s : Shared) (t : Thread) (s' : Shared) (t' : Thread) : Prop :=
  ∃ n, ∀ N r, segRun tb p w n₀ ann b N s' t' = some r → segRun tb p w n₀ ann b (n + N) s t = some r

theorem Lead.refl (s : Shared) (t : Thread) : Lead tb p w n₀ ann b s t s t := ⟨0, fun N r h => by rw [Nat.zero_add]; exact h⟩
theorem Lead.trans {s s₁ s₂ : Shared} {t t₁ t₂ : Thread} (x : Lead tb p w n₀ ann b s t s₁ t₁) (y : Lead tb p w n₀ ann b s₁ t₁ s₂ t₂) : Lead tb p w n₀ ann b s t s₂ t₂ := by
  obtain ⟨n, x⟩ := x
  obtain ⟨m, y⟩ := y
  exact ⟨n + m, fun N r h => by rw [Nat.add_assoc]; exact x _ _ (y _ _ h)⟩
theorem Lead.step {s s' : Shared} {t t' : Thread} (he : endAt b t = none) (hk : stepOk n₀ ann t = true) (hs : PySem.step (denote tb) p w s t = .go s' t') : Lead tb p w n₀ ann b s t s' t' :=
  ⟨1, fun N r h => by
    rw [Nat.add_comm]
    unfold segRun
    rw [he, hk, hs]
    exact h⟩
theorem Lead.then {s s₁ s₂ : Shared} {t t₁ t₂ : Thread} (he : endAt b t = none) (hk : stepOk n₀ ann t = true) (hs : PySem.step (denote tb) p w s t = .go s₁ t₁) (y : Lead tb p w n₀ ann b s₁ t₁ s₂ t₂) : Lead tb p w n₀ ann b s t s₂ t₂ :=
  (Lead.step he hk hs).trans y

theorem endAt_deep {t : Thread} (h : b < t.stack.length) : endAt b t = none := by
  unfold endAt
  have : (t.stack.length == b) = false := beq_eq_false_iff_ne.mpr (Nat.ne_of_gt h)
  rw [this]

/-- a tree that runs flat, whatever stands behind and beneath it -/
def FR (tb : String → Option Builtin) (p : Program) (w : World) (n₀ : Nat) (ann : Option Value) (b : Nat) {α : Type} (m : Sem α) (s : Shared) (a : α) (s' : Shared) : Prop :=
  ∀ (K : α → Sem Fin) (H : Value → Sem Fin) (gd : Bool → Bool) (lv : List Value → List Value) (c : Code) (q : Pos) (st : List Frame), b < st.length →
    Lead tb p w n₀ ann b s ⟨m.wrap K H gd lv, c, q, st⟩ s' ⟨K a, c, q, st⟩

variable {α β : Type} {s s' s₁ s₂ : Shared}

theorem FR.pure (a : α) : FR tb p w n₀ ann b (Pure.pure a : Sem α) s a s := fun _ _ _ _ _ _ _ _ => Lead.refl _ _
theorem FR.bind {m : Sem α} {f : α → Sem β} {a : α} {c : β} (x : FR tb p w n₀ ann b m s a s₁) (y : FR tb p w n₀ ann b (f a) s₁ c s₂) : FR tb p w n₀ ann b (m >>= f) s c s₂ := fun K H gd lv cd q st hb => by
  rw [Sem.bind_eq_wrap', Sem.wrap_wrap]
  exact (x _ _ _ _ cd q st hb).trans (y K H gd lv cd q st hb)
theorem FR.eq {m m' : Sem α} {a : α} (e : m = m') (x : FR tb p w n₀ ann b m' s a s') : FR tb p w n₀ ann b m s a s' := e ▸ x
theorem FR.keep {m : Sem α} {a : α} (vs : List Value) (x : FR tb p w n₀ ann b m s a s') : FR tb p w n₀ ann b (m.keep vs) s a s' := fun K H gd lv cd q st hb => by
  rw [Sem.keep_eq_wrap, Sem.wrap_wrap]
  exact x _ _ _ _ cd q st hb
theorem FR.holding {m : Sem α} {a : α} (vs : List Value) (x : FR tb p w n₀ ann b m s a s') : FR tb p w n₀ ann b (PySem.holding vs m) s a s' := by
  unfold PySem.holding
  split
  · exact x
  · exact x.keep _

theorem calm_plain {cur : Sem Fin} {c : Code} {q : Pos} {st : List Frame} (h : match cur with | .pure _ | .raise _ | .yield .. | .fork .. | .await .. | .register .. => False | _ => True) : Thread.calm ⟨cur, c, q, st⟩ = true := by
  cases cur <;> first | exact h.elim | simp [Thread.calm, Thread.atCollectorCode, Thread.yieldsInsideHandler]

theorem FR.load {a : Addr} {part : Option Value} {o : Obj} (h : s.heap.get? a = some o) : FR tb p w n₀ ann b (loadPart a part) s o s := fun K H gd lv c q st hb => by
  refine Lead.step (endAt_deep hb) ?_ ?_
  · simp [stepOk, loadPart, Sem.wrap, calm_plain]
  · simp only [loadPart, Sem.wrap, PySem.step, h]
theorem FR.load' {a : Addr} {o : Obj} (h : s.heap.get? a = some o) : FR tb p w n₀ ann b (PySem.load a) s o s := FR.load (part := none) h
theorem FR.update {a : Addr} {f : Obj → Obj} (h : (s.heap.get? a).isSome = true) (ha : n₀ ≤ a) : FR tb p w n₀ ann b (PySem.update a f) s () { s with heap := s.heap.update a f } := fun K H gd lv c q st hb => by
  refine Lead.step (endAt_deep hb) ?_ ?_
  · simp [stepOk, PySem.update, Sem.wrap, calm_plain, ha]
  · simp only [PySem.update, Sem.wrap, PySem.step, h, if_true]
theorem FR.alloc {o : Obj} : FR tb p w n₀ ann b (PySem.alloc o) s s.heap.objs.size { s with heap := s.heap.push o } := fun K H gd lv c q st hb => by
  refine Lead.step (endAt_deep hb) ?_ ?_
  · simp [stepOk, PySem.alloc, Sem.wrap, calm_plain]
  · simp only [PySem.alloc, Sem.wrap, PySem.step]
theorem FR.ask : FR tb p w n₀ ann b PySem.ask s ⟨p, w.params⟩ s := fun K H gd lv c q st hb => by
  refine Lead.step (endAt_deep hb) ?_ ?_
  · simp [stepOk, PySem.ask, Sem.wrap, calm_plain]
  · simp only [PySem.ask, Sem.wrap, PySem.step]
theorem FR.rule (tag : String) : FR tb p w n₀ ann b (PySem.rule tag) s () s := fun K H gd lv c q st hb => by
  refine Lead.step (endAt_deep hb) ?_ ?_
  · simp [stepOk, PySem.rule, Sem.wrap, calm_plain]
  · simp only [PySem.rule, Sem.wrap, PySem.step]
theorem FR.point : FR tb p w n₀ ann b PySem.point s () s := fun K H gd lv c q st hb => by
  refine Lead.step (endAt_deep hb) ?_ ?_
  · simp [stepOk, PySem.point, Sem.wrap, calm_plain]
  · simp only [PySem.point, Sem.wrap, PySem.step]
theorem FR.fresh : FR tb p w n₀ ann b PySem.fresh s s.toks { s with toks := s.toks + 1 } := fun K H gd lv c q st hb => by
  refine Lead.step (endAt_deep hb) ?_ ?_
  · simp [stepOk, PySem.fresh, Sem.wrap, calm_plain]
  · simp only [PySem.fresh, Sem.wrap, PySem.step]
end
end Mine

end

-- part A2
section
open PySem PySem.W PySem.Calls PyProof.Rows
set_option Elab.async false
namespace Mine

section
variable {tb : String → Option Builtin} {p : Program} {w : World} {n₀ : Nat} {ann : Option Value} {b : Nat}
variable {α : Type} {B : List Frame} {K' : α → Sem Fin} {H' : Value → Sem Fin} {gd : Bool → Bool} {lv : List Value → List Value} {res : α → Flow}

theorem lead_rel (hB : splitAtGen B = none) (hb : b < B.length) : ∀ (n : Nat) (s : Shared) (t t' : Thread) (f : Flow) (s' : Shared) (c' : Code) (q' : Pos),
    Rel2 (fun a => .pure (.done (res a))) K' deadEnd H' gd lv B t t' → segRun tb p w n₀ ann B.length n s t = some (f, s', c', q') →
    ∃ a, res a = f ∧ Lead tb p w n₀ ann b s t' s' ⟨K' a, c', q', B⟩
  | 0, _, _, _, _, _, _, _, _, h => by simp [segRun] at h
  | n + 1, s, ⟨cur, code, pos, st⟩, ⟨cur', code', pos', st'⟩, f, s', c', q', R, h => by
    obtain ⟨e1, e2, R⟩ := R
    dsimp only at e1 e2 R
    subst e1 e2
    unfold segRun at h
    cases he : endAt B.length ⟨cur, code, pos, st⟩ with
    | some g =>
      rw [he] at h
      obtain ⟨rfl, rfl, rfl, rfl⟩ : g = f ∧ s = s' ∧ code = c' ∧ pos = q' := by simpa using h
      rcases R with ⟨rfl, rfl, x, rfl, rfl⟩ | ⟨rfl, F⟩
      · cases x with
        | pure a =>
          have : res a = g := by simpa [endAt, Sem.wrap] using he
          exact ⟨a, this, Lead.refl _ _⟩
        | _ => simp [endAt, Sem.wrap] at he
      · have : ((st.length == B.length) = false) := beq_eq_false_iff_ne.mpr (Nat.ne_of_gt F.longer.1)
        simp only [endAt, this] at he
        cases he
    | none =>
      rw [he] at h
      cases hk : stepOk n₀ ann ⟨cur, code, pos, st⟩ with
      | false => rw [hk] at h; cases h
      | true =>
        rw [hk] at h
        cases hs : PySem.step (denote tb) p w s ⟨cur, code, pos, st⟩ with
        | halt o s₂ => rw [hs] at h; cases h
        | go s₂ t₂ =>
          rw [hs] at h
          have key : b < st'.length ∧ stepOk n₀ ann ⟨cur', code, pos, st'⟩ = true ∧ ∃ t₂', PySem.step (denote tb) p w s ⟨cur', code, pos, st'⟩ = .go s₂ t₂' ∧ Rel2 (fun a => .pure (.done (res a))) K' deadEnd H' gd lv B t₂ t₂' := by
            rcases R with ⟨rfl, rfl, x, rfl, rfl⟩ | ⟨rfl, F⟩
            · have hp : ∀ a, x ≠ .pure a := by
                rintro a rfl
                simp [endAt, Sem.wrap] at he
              have hr : ∀ e, x ≠ .raise e := by
                rintro e rfl
                obtain ⟨heap, gens, drawn, toks, os⟩ := s
                simp only [Sem.wrap, PySem.step] at hs
                cases hs
              exact ⟨hb, (okOuter (K' := K') (H' := H') hp hr hk).1, step_outer hB hp hs⟩
            · exact ⟨Nat.lt_trans hb F.longer.2, (okInner hB F hk).1, step_inner hB F hs⟩
          obtain ⟨k0, k1, t₂', k3, R'⟩ := key
          obtain ⟨a, ha, hN⟩ := lead_rel hB hb n s₂ t₂ t₂' f s' c' q' R' h
          exact ⟨a, ha, Lead.then (endAt_deep k0) k1 k3 hN⟩

theorem lead_piece (hB : splitAtGen B = none) (hb : b < B.length) {n : Nat} {s s' : Shared} {x : Sem α} {c c' : Code} {q q' : Pos} {f : Flow}
    (h : segRun tb p w n₀ ann B.length n s ⟨x.wrap (fun a => .pure (.done (res a))) deadEnd gd lv, c, q, B⟩ = some (f, s', c', q')) :
    ∃ a, res a = f ∧ Lead tb p w n₀ ann b s ⟨x.wrap K' H' gd lv, c, q, B⟩ s' ⟨K' a, c', q', B⟩ :=
  lead_rel hB hb n s ⟨x.wrap (fun a => .pure (.done (res a))) deadEnd gd lv, c, q, B⟩ ⟨x.wrap K' H' gd lv, c, q, B⟩ f s' c' q' ⟨rfl, rfl, .inl ⟨rfl, rfl, x, rfl, rfl⟩⟩ h
end
end Mine

end

-- part A3
section
open PySem PySem.W PySem.Calls PyProof.Rows
set_option Elab.async false
namespace Mine

/-- a set's parts -/
structure SD where
  es : Array (Int × Value)
  ep : Nat
  tb : SetTable
structure Acts where
  add : SD → Value → Int → SD
  uni : SD → SD → SD
  dif : Nat → SD → SD → SD

abbrev Ghost := List (Nat × List Value)

def signOf (v : Value) : Option Nat := match v with
  | .str s _ => (match s.cps.toList with
    | [c] => some c
    | _ => none)
  | _ => none
def isSign (c : Nat) (v : Value) : Bool := match signOf v with
  | some d => Nat.beq d c
  | none => false
def addOk (L : List Value) (x : Value) : Bool := match signOf x with
  | some c => L.all (fun v => !isSign c v) && Nat.ble L.length 60
  | none => false

inductive Sp where
  | upd (a : Nat) (it : Value)
  | uni (a c : Nat)
  | dif (a c : Nat)
def special (c : Code) : Option Sp := match c with
  | .builtin id ⟨[.ref a, v], []⟩ => match id == "set.update.loop" with
    | true => some (.upd a v)
    | false => match v with
      | .ref c => (match id == "frozenset.__or__" with
        | true => some (.uni a c)
        | false => match id == "frozenset.__sub__" with
          | true => some (.dif a c)
          | false => none)
      | _ => none
  | _ => none
def enters (t : Sem PySem.Fin) : Option Sp := match t with
  | .call c _ _ _ _ => special c
  | .pure (.again c) => special c
  | _ => none

def fzFresh (o : Obj) : Bool := match o with
  | ⟨.type t, none, .set es _ tb, sl⟩ => t == "frozenset" && (Nat.beq es.size 0 && (tb.fits 0 && Nat.beq sl.size 0))
  | _ => false
def ghGet (a : Nat) : Ghost → Option (List Value)
  | [] => none
  | (b, L) :: r => match Nat.beq a b with
    | true => some L
    | false => ghGet a r
def ghostStep (g : Ghost) (n : Nat) (cur : Sem PySem.Fin) : Option Ghost := match cur with
  | .update a _ _ _ => (match ghGet a g with
    | some _ => none
    | none => some g)
  | .alloc o _ => (match fzFresh o with
    | true => some ((n, []) :: g)
    | false => some g)
  | _ => some g

def fz (d : SD) : Obj := ⟨.type "frozenset", none, .set d.es d.ep d.tb, #[]⟩
def dataOf (o : Obj) : SD := match o.data with
  | .set es n t => ⟨es, n, t⟩
  | _ => ⟨#[], 0, default⟩
def dataAt (s : SharedT) (a : Nat) : SD := match s.tree.get a with
  | some o => dataOf o
  | none => ⟨#[], 0, default⟩
def setData (s : SharedT) (a : Nat) (d : SD) : SharedT := ⟨s.tree.set a (fun _ => fz d), s.n, s.life, s.gens, s.drawn, s.toks, s.os⟩
def pushFz (s : SharedT) (d : SD) : SharedT := ⟨s.tree.ins s.n (fz d), s.n + 1, s.life, s.gens, s.drawn, s.toks, s.os⟩
def resO (o : Option Value) : Flow := match o with
  | some v => .ret v
  | none => .next
def resH (h : Int) : Flow := .ret (.int h 0)
def uncaptured (st : List Frame) : Bool := match splitAtGen st with
  | none => true
  | some _ => false
def minus (L M : List Value) : List Value := L.filter fun v => match signOf v with
  | some c => !M.any (isSign c)
  | none => true
def within (L M : List Value) : Bool := M.all fun v => match signOf v with
  | some c => L.any (isSign c)
  | none => false

def runX (A : Acts) (tb : String → Option Builtin) (p : Program) (w : World) (n₀ : Nat) (ann : Option Value) : Nat → Nat → SharedT → Thread → Ghost → Option (Flow × SharedT × Code × Pos × Ghost)
  | 0, _, _, _, _ => none
  | n + 1, b, s, t, g => match endAt b t with
    | some f => some (f, s, t.code, t.pos, g)
    | none => match stepOk n₀ ann t with
      | false => none
      | true => match ghostStep g s.n t.cur with
        | none => none
        | some g1 => match stepT (denote tb) p w s t with
          | none => none
          | some (s', t') => match enters t.cur with
            | none => runX A tb p w n₀ ann n b s' t' g1
            | some sp => match Nat.blt b t'.stack.length with
              | false => none
              | true => match sp with
                | .upd a it => (match uncaptured t'.stack with
                  | false => none
                  | true => match runX A tb p w n₀ ann n t'.stack.length s' ⟨(pyNext it).wrap (fun o => .pure (.done (resO o))) deadEnd id id, t'.code, t'.pos, t'.stack⟩ g1 with
                    | some (.next, s1, c1, q1, g2) => runX A tb p w n₀ ann n b s1 ⟨.pure (.done (.ret .none)), c1, q1, t'.stack⟩ g2
                    | some (.ret x, s1, c1, q1, g2) => (match runX A tb p w n₀ ann n t'.stack.length s1 ⟨(pyHash x).wrap (fun h => .pure (.done (resH h))) deadEnd id id, c1, q1, t'.stack⟩ g2 with
                      | some (.ret (.int h _), s2, c2, q2, g3) => (match ghGet a g3 with
                        | some L => (match addOk L x with
                          | true => runX A tb p w n₀ ann n b (setData s2 a (A.add (dataAt s2 a) x h)) ⟨.pure (.again t'.code), c2, q2, t'.stack⟩ ((a, L ++ [x]) :: g3)
                          | false => none)
                        | none => none)
                      | _ => none)
                    | _ => none)
                | .uni a c => (match ghGet a g1, ghGet c g1 with
                  | some La, some [x] => (match addOk La x && ((Nat.beq La.length 2 || Nat.beq La.length 32) && (!Nat.beq a c && ((s'.tree.ins s'.n (fz (A.uni (dataAt s' a) (dataAt s' c)))).get s'.n).isSome)) with
                    | true => runX A tb p w n₀ ann n b (pushFz s' (A.uni (dataAt s' a) (dataAt s' c))) ⟨.pure (.done (.ret (.ref s'.n))), t'.code, t'.pos, t'.stack⟩ ((s'.n, La ++ [x]) :: g1)
                    | false => none)
                  | _, _ => none)
                | .dif a c => (match ghGet a g1, ghGet c g1 with
                  | some La, some Lc => (match within La Lc && (Nat.blt Lc.length 3 && (Nat.beq La.length 33 && (!Nat.beq a c && ((s'.tree.ins s'.n (fz (A.dif c (dataAt s' a) (dataAt s' c)))).get s'.n).isSome))) with
                    | true => runX A tb p w n₀ ann n b (pushFz s' (A.dif c (dataAt s' a) (dataAt s' c))) ⟨.pure (.done (.ret (.ref s'.n))), t'.code, t'.pos, t'.stack⟩ ((s'.n, minus La Lc) :: g1)
                    | false => none)
                  | _, _ => none)

/-- what the entries of a set are -/
def GD (d : SD) (L : List Value) : Prop :=
  d.tb.fits d.es.size = true ∧ (d.es.toList.map (·.2)).Perm L ∧ (∀ v ∈ L, ∃ c, signOf v = some c) ∧ (L.map signOf).Nodup ∧ L.length ≤ 61

def Inv (n₀ : Nat) (g : Ghost) (s : Shared) : Prop :=
  ∀ a L, ghGet a g = some L → n₀ ≤ a ∧ ∃ d, s.heap.get? a = some (fz d) ∧ GD d L

structure ActsOk (p : Program) (w : World) (n₀ : Nat) (ann : Option Value) (A : Acts) : Prop where
  add : ∀ (b : Nat) (s : Shared) a d L x h, s.heap.get? a = some (fz d) → GD d L → addOk L x = true → n₀ ≤ a →
    GD (A.add d x h) (L ++ [x]) ∧ FR table p w n₀ ann b (setAddHashed a x h) s true { s with heap := s.heap.update a (fun _ => fz (A.add d x h)) }
  uni : ∀ (b : Nat) (s : Shared) a c d e La x, s.heap.get? a = some (fz d) → GD d La → s.heap.get? c = some (fz e) → GD e [x] → addOk La x = true → (La.length = 2 ∨ La.length = 32) → a ≠ c → n₀ ≤ s.heap.objs.size →
    GD (A.uni d e) (La ++ [x]) ∧ FR table p w n₀ ann b (Builtin.«frozenset.__or__» ⟨[.ref a, .ref c], []⟩) s (.done (.ret (.ref s.heap.objs.size))) { s with heap := s.heap.push (fz (A.uni d e)) }
  dif : ∀ (b : Nat) (s : Shared) a c d e La Lc, s.heap.get? a = some (fz d) → GD d La → s.heap.get? c = some (fz e) → GD e Lc → within La Lc = true → Lc.length < 3 → La.length = 33 → a ≠ c → n₀ ≤ s.heap.objs.size →
    GD (A.dif c d e) (minus La Lc) ∧ FR table p w n₀ ann b (Builtin.«frozenset.__sub__» ⟨[.ref a, .ref c], []⟩) s (.done (.ret (.ref s.heap.objs.size))) { s with heap := s.heap.push (fz (A.dif c d e)) }
end Mine

end

-- part A4
section
open PySem PySem.W PySem.Calls PyProof.Rows
set_option Elab.async false
set_option maxRecDepth 100000
namespace Mine

theorem isSign_iff {c : Nat} {v : Value} : isSign c v = true ↔ signOf v = some c := by
  unfold isSign
  cases h : signOf v with
  | none => simp
  | some d => simp [Nat.beq_eq_true_eq]

theorem ghGet_key {a : Nat} : ∀ {g : Ghost} {L : List Value}, ghGet a g = some L → ∃ p ∈ g, p.1 = a
  | (b, M) :: r, L, h => by
    unfold ghGet at h
    cases e : Nat.beq a b with
    | true => exact ⟨(b, M), .head _, (Nat.eq_of_beq_eq_true e).symm⟩
    | false => rw [e] at h; obtain ⟨p, hp, q⟩ := ghGet_key h; exact ⟨p, .tail _ hp, q⟩
theorem ghGet_cons {a b : Nat} {L : List Value} {g : Ghost} : ghGet a ((b, L) :: g) = if a = b then some L else ghGet a g := by
  show (match Nat.beq a b with | true => some L | false => ghGet a g) = _
  by_cases h : a = b
  · subst h; rw [Nat.beq_refl, if_pos rfl]
  · rw [if_neg h]
    cases e : Nat.beq a b with
    | true => exact absurd (Nat.eq_of_beq_eq_true e) h
    | false => rfl

theorem GD.nil {es : Array (Int × Value)} {n : Nat} {t : SetTable} (he : es.size = 0) (hf : t.fits 0 = true) : GD ⟨es, n, t⟩ [] :=
  ⟨by show t.fits es.size = true; rw [he]; exact hf, by rw [Array.eq_empty_of_size_eq_zero he]; exact .nil, fun _ h => (nomatch h), List.nodup_nil, Nat.zero_le _⟩
theorem fz_get {h : Heap} {a : Addr} {d : SD} (ha : a < h.objs.size) : (h.update a (fun _ => fz d)).get? a = some (fz d) := by
  cases h
  simp only [Heap.update, Heap.get?] at *
  rw [Array.getElem?_modify]
  simp [fz, ha]
theorem fz_push {h : Heap} {d : SD} : (h.push (fz d)).get? h.objs.size = some (fz d) := Heap.get?_push_size _ rfl

theorem fzFresh_data {o : Obj} (h : fzFresh o = true) : ∃ d, o = fz d ∧ GD d [] := by
  unfold fzFresh at h
  split at h
  · rename_i t es n tb sl
    simp only [Bool.and_eq_true] at h
    obtain ⟨h1, h2, h3, h4⟩ := h
    have e1 : t = "frozenset" := by simpa using h1
    subst e1
    have e4 : sl = #[] := Array.eq_empty_of_size_eq_zero (Nat.eq_of_beq_eq_true h4)
    subst e4
    exact ⟨⟨es, n, tb⟩, rfl, GD.nil (Nat.eq_of_beq_eq_true h2) h3⟩
  · cases h

theorem Inv.heap {n₀ : Nat} {g : Ghost} {s s' : Shared} (x : Inv n₀ g s) (h : ∀ a L, ghGet a g = some L → ∀ o, s.heap.get? a = some o → s'.heap.get? a = some o) : Inv n₀ g s' := fun a L hL => by
  obtain ⟨h0, d, hd, hg⟩ := x a L hL
  exact ⟨h0, d, h a L hL _ hd, hg⟩
theorem Inv.put {n₀ : Nat} {g : Ghost} {s s' : Shared} {a : Nat} {d : SD} {L : List Value} (x : Inv n₀ g s) (ha : n₀ ≤ a) (h : ∀ b, b ≠ a → ∀ o, s.heap.get? b = some o → s'.heap.get? b = some o)
    (hd : s'.heap.get? a = some (fz d)) (hg : GD d L) : Inv n₀ ((a, L) :: g) s' := fun b M hM => by
  rw [ghGet_cons] at hM
  by_cases e : b = a
  · subst e
    rw [if_pos rfl] at hM
    cases hM
    exact ⟨ha, d, hd, hg⟩
  · rw [if_neg e] at hM
    obtain ⟨h0, d', hd', hg'⟩ := x b M hM
    exact ⟨h0, d', h b e _ hd', hg'⟩

/-- a common step keeps what is known of the sets -/
theorem inv_step {n₀ : Nat} {g g1 : Ghost} {tb : String → Option Builtin} {p : Program} {w : World} {s s' : Shared} {t t' : Thread} (x : Inv n₀ g s) (hn : n₀ ≤ s.heap.objs.size) (hg : ghostStep g s.heap.objs.size t.cur = some g1)
    (hs : PySem.step (denote tb) p w s t = .go s' t') : Inv n₀ g1 s' := by
  have hh := PySem.step_heap (denote tb) p w s s' t t' hs
  obtain ⟨cur, code, pos, st⟩ := t
  cases cur with
  | update a q f k =>
    simp only [ghostStep] at hg
    cases e : ghGet a g with
    | some L => rw [e] at hg; cases hg
    | none =>
      rw [e] at hg; cases hg
      refine x.heap fun b L hL o ho => ?_
      rw [hh]
      have : b ≠ a := by rintro rfl; rw [e] at hL; cases hL
      exact (Heap.get?_update_ne _ _ _ _ this).trans ho
  | alloc o k =>
    simp only [ghostStep] at hg
    have keep : ∀ b o', s.heap.get? b = some o' → s'.heap.get? b = some o' := fun b o' ho => by rw [hh]; exact Heap.get?_push_of_some o ho
    cases e : fzFresh o with
    | false => rw [e] at hg; cases hg; exact x.heap fun b L _ o' ho => keep b o' ho
    | true =>
      rw [e] at hg; cases hg
      obtain ⟨d, rfl, hd⟩ := fzFresh_data e
      refine x.put hn (fun b _ o' ho => keep b o' ho) ?_ hd
      rw [hh]; exact fz_push
  | _ =>
    simp only [ghostStep, Option.some.injEq] at hg
    subst hg
    refine x.heap fun b L _ o ho => ?_
    rw [hh]; exact ho
end Mine

end

-- part A5
section
open PySem PySem.W PySem.Calls PyProof.Rows
set_option Elab.async false
set_option maxRecDepth 100000
namespace Mine

theorem entry_or : entryFor table "frozenset.__or__" = some Builtin.«frozenset.__or__» := entryFor_of_tree (by kernel_rfl)
theorem entry_sub : entryFor table "frozenset.__sub__" = some Builtin.«frozenset.__sub__» := entryFor_of_tree (by kernel_rfl)
theorem den_of {id : String} {b : Builtin} (args : Args) (h : entryFor table id = some b) : denote table (.builtin id args) = b args := by
  show (match entryFor table id with | some b => b args | none => unsupported ((withoutEnding? id "#data").getD id)) = _
  rw [h]
theorem den_upd (args : Args) : denote table (.builtin "set.update.loop" args) = Builtin.«set.update.loop» args := den_of args F.entry_set_update_loop
theorem den_or (args : Args) : denote table (.builtin "frozenset.__or__" args) = Builtin.«frozenset.__or__» args := den_of args entry_or
theorem den_sub (args : Args) : denote table (.builtin "frozenset.__sub__" args) = Builtin.«frozenset.__sub__» args := den_of args entry_sub

theorem abs_size (s : SharedT) : s.abs.heap.objs.size = s.n := absHeap_size ..

theorem special_upd {c : Code} {a : Nat} {it : Value} (h : special c = some (.upd a it)) : c = .builtin "set.update.loop" ⟨[.ref a, it], []⟩ := by
  unfold special at h
  split at h
  · rename_i id a' v
    cases e : id == "set.update.loop" with
    | true => rw [e] at h; cases h; rw [show id = "set.update.loop" from by simpa using e]
    | false =>
      rw [e] at h
      dsimp only at h
      split at h
      · cases e1 : id == "frozenset.__or__" with
        | true => rw [e1] at h; cases h
        | false =>
          rw [e1] at h
          cases e2 : id == "frozenset.__sub__" with
          | true => rw [e2] at h; cases h
          | false => rw [e2] at h; cases h
      · cases h
  · cases h
theorem special_uni {c : Code} {a b : Nat} (h : special c = some (.uni a b)) : c = .builtin "frozenset.__or__" ⟨[.ref a, .ref b], []⟩ := by
  unfold special at h
  split at h
  · rename_i id a' v
    cases e : id == "set.update.loop" with
    | true => rw [e] at h; cases h
    | false =>
      rw [e] at h
      dsimp only at h
      split at h
      · cases e1 : id == "frozenset.__or__" with
        | true => rw [e1] at h; cases h; rw [show id = "frozenset.__or__" from by simpa using e1]
        | false =>
          rw [e1] at h
          cases e2 : id == "frozenset.__sub__" with
          | true => rw [e2] at h; cases h
          | false => rw [e2] at h; cases h
      · cases h
  · cases h
theorem special_dif {c : Code} {a b : Nat} (h : special c = some (.dif a b)) : c = .builtin "frozenset.__sub__" ⟨[.ref a, .ref b], []⟩ := by
  unfold special at h
  split at h
  · rename_i id a' v
    cases e : id == "set.update.loop" with
    | true => rw [e] at h; cases h
    | false =>
      rw [e] at h
      dsimp only at h
      split at h
      · cases e1 : id == "frozenset.__or__" with
        | true => rw [e1] at h; cases h
        | false =>
          rw [e1] at h
          cases e2 : id == "frozenset.__sub__" with
          | true => rw [e2] at h; cases h; rw [show id = "frozenset.__sub__" from by simpa using e2]
          | false => rw [e2] at h; cases h
      · cases h
  · cases h

/-- behind a step that enters a special code the thread stands at its tree -/
theorem enters_step {den : Code → Sem PySem.Fin} {p : Program} {w : World} {s s' : Shared} {t t' : Thread} {sp : Sp} (h : enters t.cur = some sp) (hs : PySem.step den p w s t = .go s' t') :
    s' = s ∧ special t'.code = some sp ∧ t'.cur = den t'.code := by
  obtain ⟨heap, gens, drawn, toks, os⟩ := s
  obtain ⟨cur, code, pos, st⟩ := t
  unfold enters at h
  dsimp only at h
  split at h
  · simp only [PySem.step, Step.go.injEq] at hs
    obtain ⟨rfl, rfl⟩ := hs
    exact ⟨rfl, h, rfl⟩
  · simp only [PySem.step, Step.go.injEq] at hs
    obtain ⟨rfl, rfl⟩ := hs
    exact ⟨rfl, h, rfl⟩
  · cases h

theorem resO_ret {o : Option Value} {x : Value} (h : resO o = .ret x) : o = some x := by
  cases o with
  | none => cases h
  | some v => cases h; rfl
theorem resO_next {o : Option Value} (h : resO o = .next) : o = none := by
  cases o with
  | none => rfl
  | some v => cases h
theorem resH_int {o h : Int} {t : Tok} (e : resH o = .ret (.int h t)) : o = h := by cases e; rfl
theorem uncaptured_none {st : List Frame} (h : uncaptured st = true) : splitAtGen st = none := by
  unfold uncaptured at h
  split at h
  · assumption
  · cases h
theorem addOk_str {L : List Value} {x : Value} (h : addOk L x = true) : ∃ c u, x = .str ⟨#[c]⟩ u := by
  unfold addOk at h
  split at h
  · rename_i c e
    unfold signOf at e
    split at e
    · rename_i z u
      split at e
      · rename_i d q
        refine ⟨d, u, ?_⟩
        cases z with
        | mk cps =>
          have : cps = #[d] := by cases cps; simp at q; simp [q]
          rw [this]
      · cases e
    · cases e
  · cases h
theorem isSome_of {α : Type} {o : Option α} {x : α} (h : o = some x) : o.isSome = true := by rw [h]; rfl

theorem abs_fz {s : SharedT} {a : Nat} {d : SD} (h : s.abs.heap.get? a = some (fz d)) : a < s.n ∧ s.tree.get a = some (fz d) := by
  have lt : a < s.n := by have := Heap.lt_size h; rwa [abs_size] at this
  refine ⟨lt, ?_⟩
  have e : (absHeap s.tree s.n s.life).objs[a]? = some ((s.tree.get a).getD default) := by rw [absHeap_at, if_pos lt]
  have h' : (absHeap s.tree s.n s.life).get? a = some (fz d) := h
  cases q : s.tree.get a with
  | none =>
    rw [q] at e
    unfold Heap.get? at h'
    rw [e] at h'
    simp only [Option.getD_none] at h'
    have : (default : Obj) = fz d := by
      revert h'
      show (match some (default : Obj) with | some ⟨_, _, .freed, _⟩ => none | o => o) = some (fz d) → _
      intro h'
      exact Option.some.inj h'
    exact absurd (congrArg Obj.cls this) (by intro z; cases z)
  | some o =>
    rw [abs_get lt q] at h'
    unfold alive at h'
    split at h'
    · cases h'
    · exact h'
theorem dataAt_fz {s : SharedT} {a : Nat} {d : SD} (h : s.tree.get a = some (fz d)) : dataAt s a = d := by unfold dataAt; rw [h]; rfl
theorem setData_abs {s : SharedT} {a : Nat} {d d' : SD} (h : s.tree.get a = some (fz d)) : (setData s a d').abs = { s.abs with heap := s.abs.heap.update a (fun _ => fz d') } := by
  unfold setData SharedT.abs
  simp only
  rw [absHeap_set h]
theorem pushFz_abs {s : SharedT} {d : SD} (h : ((s.tree.ins s.n (fz d)).get s.n).isSome = true) : (pushFz s d).abs = { s.abs with heap := s.abs.heap.push (fz d) } := by
  unfold pushFz SharedT.abs
  simp only
  rw [absHeap_ins h]
end Mine

end

-- part A6
section
open PySem PySem.W PySem.Calls PyProof.Rows
set_option Elab.async false
set_option maxRecDepth 100000
namespace Mine

theorem upd_tree (a : Nat) (it : Value) : Builtin.«set.update.loop» ⟨[.ref a, it], []⟩ =
    (pyNext it >>= fun o => match o with
      | some x => (holding [x] (setAdd a x) >>= fun _ => again (.builtin "set.update.loop" ⟨[.ref a, it], []⟩))
      | none => ret .none) :=
  congrArg (pyNext it >>= ·) (funext fun o => by cases o <;> rfl)
theorem add_tree (a c u : Nat) : holding [Value.str ⟨#[c]⟩ u] (setAdd a (.str ⟨#[c]⟩ u)) = (pyHash (.str ⟨#[c]⟩ u) >>= fun h => setAddHashed a (.str ⟨#[c]⟩ u) h) := rfl
theorem sem_self (m : Sem PySem.Fin) : m = m.wrap .pure .raise id id := by rw [← Sem.bind_eq_wrap, Sem.bind_pure]

section
variable {p : Program} {w : World} {n₀ : Nat} {ann : Option Value} {A : Acts}
theorem Lead.done {tb : String → Option Builtin} {b : Nat} {s s' : Shared} {t t' : Thread} {r : Flow × Shared × Code × Pos} (x : Lead tb p w n₀ ann b s t s' t') (h : ∃ N, segRun tb p w n₀ ann b N s' t' = some r) : ∃ N, segRun tb p w n₀ ann b N s t = some r := by
  obtain ⟨n, x⟩ := x
  obtain ⟨N, h⟩ := h
  exact ⟨_, x _ _ h⟩

set_option maxHeartbeats 1000000 in
theorem runX_sound (hA : ActsOk p w n₀ ann A) : ∀ (n b : Nat) (s : SharedT) (t : Thread) (g : Ghost) (f : Flow) (s' : SharedT) (c' : Code) (q' : Pos) (g' : Ghost),
    runX A table p w n₀ ann n b s t g = some (f, s', c', q', g') → Inv n₀ g s.abs → n₀ ≤ s.n →
    (∃ N, segRun table p w n₀ ann b N s.abs t = some (f, s'.abs, c', q')) ∧ Inv n₀ g' s'.abs ∧ n₀ ≤ s'.n
  | 0, _, _, _, _, _, _, _, _, _, h, _, _ => by simp [runX] at h
  | n + 1, b, s, t, g, f, s', c', q', g', h, hi, hn => by
    unfold runX at h
    cases he : endAt b t with
    | some f₁ =>
      rw [he] at h
      obtain ⟨rfl, rfl, rfl, rfl, rfl⟩ : f₁ = f ∧ s = s' ∧ t.code = c' ∧ t.pos = q' ∧ g = g' := by simpa using h
      exact ⟨⟨1, by unfold segRun; rw [he]⟩, hi, hn⟩
    | none =>
      rw [he] at h
      cases hk : stepOk n₀ ann t with
      | false => rw [hk] at h; cases h
      | true =>
        rw [hk] at h
        cases hg : ghostStep g s.n t.cur with
        | none => rw [hg] at h; cases h
        | some g1 =>
          rw [hg] at h
          cases hs : stepT (denote table) p w s t with
          | none => rw [hs] at h; cases h
          | some r =>
            obtain ⟨s₁, t₁⟩ := r
            rw [hs] at h
            have hst := stepT_spec hs
            have hi1 : Inv n₀ g1 s₁.abs := inv_step hi (by rw [abs_size]; exact hn) (by rw [abs_size]; exact hg) hst
            have hn1 : n₀ ≤ s₁.n := by
              have e := PySem.step_heap (denote table) p w _ _ _ _ hst
              have : s.n ≤ s₁.n := by
                rw [← abs_size, ← abs_size, e]
                split
                · show _ ≤ (s.abs.heap.objs.modify _ _).size; rw [Array.size_modify]; exact Nat.le_refl _
                · show _ ≤ (s.abs.heap.objs.push _).size; rw [Array.size_push]; exact Nat.le_succ _
                · exact Nat.le_refl _
              exact Nat.le_trans hn this
            have L1 := Lead.step (b := b) he hk hst
            dsimp only at h
            cases hen : enters t.cur with
            | none =>
              rw [hen] at h
              obtain ⟨h1, h2, h3⟩ := runX_sound hA n b s₁ t₁ g1 f s' c' q' g' h hi1 hn1
              exact ⟨L1.done h1, h2, h3⟩
            | some sp =>
              rw [hen] at h
              obtain ⟨_, hsp, hcur⟩ := enters_step hen hst
              cases hbl : Nat.blt b t₁.stack.length with
              | false => rw [hbl] at h; cases h
              | true =>
                rw [hbl] at h
                have hb : b < t₁.stack.length := Nat.le_of_ble_eq_true hbl
                obtain ⟨cur₁, c₁, q₁, st⟩ := t₁
                dsimp only at h hsp hcur hb
                subst hcur
                cases sp with
                | upd a it =>
                  obtain rfl := special_upd hsp
                  dsimp only at h
                  cases hu : uncaptured st with
                  | false => rw [hu] at h; cases h
                  | true =>
                    rw [hu] at h
                    have hB := uncaptured_none hu
                    dsimp only at h
                    rw [den_upd, upd_tree, Sem.bind_eq_wrap'] at L1
                    split at h
                    · rename_i s2 c2 q2 g2 hr
                      obtain ⟨⟨N1, e1⟩, hi2, hn2⟩ := runX_sound hA n _ _ _ _ _ _ _ _ _ hr hi1 hn1
                      obtain ⟨o, ho, L2⟩ := lead_piece (b := b) (K' := fun o => match o with
                        | some x => (holding [x] (setAdd a x) >>= fun _ => again (.builtin "set.update.loop" ⟨[.ref a, it], []⟩))
                        | none => ret .none) (H' := .raise) hB hb e1
                      obtain rfl := resO_next ho
                      obtain ⟨h1, h2, h3⟩ := runX_sound hA n b _ _ _ _ _ _ _ _ h hi2 hn2
                      exact ⟨(L1.trans L2).done h1, h2, h3⟩
                    · rename_i x s2 c2 q2 g2 hr
                      obtain ⟨⟨N1, e1⟩, hi2, hn2⟩ := runX_sound hA n _ _ _ _ _ _ _ _ _ hr hi1 hn1
                      obtain ⟨o, ho, L2⟩ := lead_piece (b := b) (K' := fun o => match o with
                        | some x => (holding [x] (setAdd a x) >>= fun _ => again (.builtin "set.update.loop" ⟨[.ref a, it], []⟩))
                        | none => ret .none) (H' := .raise) hB hb e1
                      obtain rfl := resO_ret ho
                      dsimp only at L2
                      split at h
                      · rename_i h₀ tk s3 c3 q3 g3 hr2
                        obtain ⟨⟨N2, e2⟩, hi3, hn3⟩ := runX_sound hA n _ _ _ _ _ _ _ _ _ hr2 hi2 hn2
                        split at h
                        · rename_i Lx hL
                          cases hok : addOk Lx x with
                          | false => rw [hok] at h; cases h
                          | true =>
                            rw [hok] at h
                            obtain ⟨ch, u, rfl⟩ := addOk_str hok
                            obtain ⟨h', hh', L3⟩ := lead_piece (b := b) (K' := fun h => (setAddHashed a (.str ⟨#[ch]⟩ u) h).wrap (fun _ => again (.builtin "set.update.loop" ⟨[.ref a, it], []⟩)) .raise id id) (H' := .raise) hB hb e2
                            obtain rfl := resH_int hh'
                            rw [add_tree, Sem.bind_eq_wrap', Sem.bind_eq_wrap', Sem.wrap_wrap] at L2
                            obtain ⟨ha0, d, hd, hgd⟩ := hi3 a Lx hL
                            obtain ⟨lt, tg⟩ := abs_fz hd
                            obtain ⟨hgd', hfr⟩ := hA.add b s3.abs a d Lx _ h' hd hgd hok ha0
                            have L4 := hfr (fun _ => again (.builtin "set.update.loop" ⟨[.ref a, it], []⟩)) .raise id id c3 q3 st hb
                            rw [dataAt_fz tg] at h
                            rw [← setData_abs tg] at L4
                            obtain ⟨h1, h2, h3⟩ := runX_sound hA n b _ _ _ _ _ _ _ _ h (by
                              refine hi3.put ha0 (fun b' hb' o' ho' => ?_) ?_ hgd'
                              · rw [setData_abs tg]; exact (Heap.get?_update_ne _ _ _ _ hb').trans ho'
                              · rw [setData_abs tg]; exact fz_get (by rw [abs_size]; exact lt)) hn3
                            exact ⟨(((L1.trans L2).trans L3).trans L4).done h1, h2, h3⟩
                        · cases h
                      · cases h
                    · cases h
                | uni a c =>
                  obtain rfl := special_uni hsp
                  dsimp only at h
                  rw [den_or, sem_self (Builtin.«frozenset.__or__» _)] at L1
                  split at h
                  · rename_i La x hLa hLc
                    split at h
                    · rename_i hok
                      simp only [Bool.and_eq_true, Bool.or_eq_true, Bool.not_eq_true'] at hok
                      obtain ⟨hok, hln, hne, hins⟩ := hok
                      have hac : a ≠ c := fun q => by subst q; rw [Nat.beq_refl] at hne; cases hne
                      obtain ⟨_, d, hd, hgd⟩ := hi1 a La hLa
                      obtain ⟨_, e, he', hge⟩ := hi1 c [x] hLc
                      obtain ⟨_, ta⟩ := abs_fz hd
                      obtain ⟨_, tc⟩ := abs_fz he'
                      rw [dataAt_fz ta, dataAt_fz tc] at h hins
                      obtain ⟨hgd', hfr⟩ := hA.uni b s₁.abs a c d e La x hd hgd he' hge hok (hln.imp Nat.eq_of_beq_eq_true Nat.eq_of_beq_eq_true) hac (by rw [abs_size]; exact hn1)
                      have L2 := hfr .pure .raise id id (Code.builtin "frozenset.__or__" ⟨[.ref a, .ref c], []⟩) q₁ st hb
                      rw [← pushFz_abs hins, abs_size] at L2
                      obtain ⟨h1, h2, h3⟩ := runX_sound hA n b _ _ _ _ _ _ _ _ h (by
                        refine hi1.put hn1 (fun b' hb' o' ho' => ?_) ?_ hgd'
                        · rw [pushFz_abs hins]; exact Heap.get?_push_of_some _ ho'
                        · rw [pushFz_abs hins]; have := fz_push (h := s₁.abs.heap) (d := A.uni d e); rw [abs_size] at this; exact this) (Nat.le_succ_of_le hn1)
                      exact ⟨(L1.trans L2).done h1, h2, h3⟩
                    · cases h
                  · cases h
                | dif a c =>
                  obtain rfl := special_dif hsp
                  dsimp only at h
                  rw [den_sub, sem_self (Builtin.«frozenset.__sub__» _)] at L1
                  split at h
                  · rename_i La Lc hLa hLc
                    split at h
                    · rename_i hok
                      simp only [Bool.and_eq_true, Bool.not_eq_true'] at hok
                      obtain ⟨hok, hln, hl33, hne, hins⟩ := hok
                      have hac : a ≠ c := fun q => by subst q; rw [Nat.beq_refl] at hne; cases hne
                      obtain ⟨_, d, hd, hgd⟩ := hi1 a La hLa
                      obtain ⟨_, e, he', hge⟩ := hi1 c Lc hLc
                      obtain ⟨_, ta⟩ := abs_fz hd
                      obtain ⟨_, tc⟩ := abs_fz he'
                      rw [dataAt_fz ta, dataAt_fz tc] at h hins
                      obtain ⟨hgd', hfr⟩ := hA.dif b s₁.abs a c d e La Lc hd hgd he' hge hok (Nat.le_of_ble_eq_true hln) (Nat.eq_of_beq_eq_true hl33) hac (by rw [abs_size]; exact hn1)
                      have L2 := hfr .pure .raise id id (Code.builtin "frozenset.__sub__" ⟨[.ref a, .ref c], []⟩) q₁ st hb
                      rw [← pushFz_abs hins, abs_size] at L2
                      obtain ⟨h1, h2, h3⟩ := runX_sound hA n b _ _ _ _ _ _ _ _ h (by
                        refine hi1.put hn1 (fun b' hb' o' ho' => ?_) ?_ hgd'
                        · rw [pushFz_abs hins]; exact Heap.get?_push_of_some _ ho'
                        · rw [pushFz_abs hins]; have := fz_push (h := s₁.abs.heap) (d := A.dif c d e); rw [abs_size] at this; exact this) (Nat.le_succ_of_le hn1)
                      exact ⟨(L1.trans L2).done h1, h2, h3⟩
                    · cases h
                  · cases h
end
end Mine

end

-- part B1
section
open PySem PySem.W PySem.Calls PyProof.Rows
set_option Elab.async false
set_option maxRecDepth 100000
namespace Mine
section
variable {p : Program} {w : World} {n₀ : Nat} {ann : Option Value} {b : Nat} {s : Shared}
abbrev FT (p : Program) (w : World) (n₀ : Nat) (ann : Option Value) (b : Nat) {α : Type} (m : Sem α) (s : Shared) (a : α) (s' : Shared) : Prop := FR table p w n₀ ann b m s a s'

theorem check_str_eq (x y : Str) (t u : Tok) : checkBuiltinCall "str.__eq__" ⟨[.str x t, .str y u], []⟩ = pure () := by kernel_rfl
theorem den_str_eq (x : Str) (t u : Tok) : denote table (.builtin "str.__eq__" ⟨[.str x t, .str x u], []⟩) = ret (.bool true) := by
  rw [den_of _ F.entry_str_eq]
  show ret (.bool (x.cps.toList == x.cps.toList)) = _
  rw [beq_self_eq_true]

theorem calm_again {id : String} {args : Args} {c : Code} {q : Pos} {st : List Frame} (h : id.startsWith "lifetime." = false) : Thread.calm ⟨.pure (.again (.builtin id args)), c, q, st⟩ = true := by
  simp [Thread.calm, Thread.atCollectorCode, Thread.yieldsInsideHandler, h]
theorem fr_callB {id : String} {pos : List Value} {v : Value} (hl : id.startsWith "lifetime." = false) (h1 : checkBuiltinCall id ⟨pos, []⟩ = Pure.pure ()) (h2 : denote table (.builtin id ⟨pos, []⟩) = ret v) :
    FT p w n₀ ann b (call (.builtin id) pos) s v s := fun K H gd lv c q st hb => by
  have e : (call (.builtin id) pos).wrap K H gd lv = .call (.call (.builtin id) ⟨pos, []⟩) none (gd false) (lv []) fun r => ((match r with
      | .ok f => .pure f
      | .error e => .raise e : Sem Flow).bind fun f => (match f with
        | .ret v => Pure.pure v
        | _ => unsupported "internal:call-without-return-value" : Sem Value)).wrap K H gd lv := rfl
  rw [e]
  refine Lead.then (endAt_deep hb) ?_ rfl ?_
  · simp [stepOk, calm_plain]
  have hd : denote table (.call (.builtin id) ⟨pos, []⟩) = .pure (.again (.builtin id ⟨pos, []⟩)) := by
    show (checkBuiltinCall id ⟨pos, []⟩ >>= fun _ => again (.builtin id ⟨pos, []⟩)) = _
    rw [h1]; rfl
  rw [hd]
  refine Lead.then (endAt_deep (Nat.lt_succ_of_lt hb)) ?_ (by exact step_again) ?_
  · simp [stepOk, calm_again hl]
  rw [h2]
  refine Lead.then (endAt_deep (Nat.lt_succ_of_lt hb)) ?_ rfl (Lead.refl _ _)
  rfl

theorem fr_eqSign (x : Str) (t u : Tok) : FT p w n₀ ann b (eqBool (.str x t) (.str x u)) s true s := by
  unfold eqBool
  show FR table p w n₀ ann b (if (Value.str x t == Value.str x u) = true then _ else _) s true s
  by_cases hab : (Value.str x t == Value.str x u) = true
  · rw [if_pos hab]
    exact FR.bind (FR.rule _) (FR.pure _)
  · rw [if_neg hab]
    show FR table p w n₀ ann b (richCompare .Eq (.str x t) (.str x u) >>= fun r => truthOfDropped r) s true s
    refine FR.bind (a := .bool true) ?_ (FR.pure _)
    unfold richCompare
    show FR table p w n₀ ann b (tryCompare (.str x t) "__eq__" (.str x u) >>= _) s _ s
    refine FR.bind (a := some (.bool true)) ?_ (FR.pure _)
    unfold tryCompare
    refine FR.bind (a := some (.bool true)) ?_ (FR.pure _)
    unfold callSpecialIfBound?
    show FR table p w n₀ ann b (bindSpecialIfBound? (.str x t) "__eq__" >>= _) s _ s
    refine FR.bind (s₁ := s) (a := some (.builtin "str.__eq__", [.str x t])) ?_ ?_
    · unfold bindSpecialIfBound?
      have e : specialOf (.str x t) "__eq__" = Pure.pure (some (.builtin "str.__eq__")) := by
        show typeLookup (.type "str") "__eq__" = _
        exact F.slot_str_eq.lookup
      rw [e]
      show FR table p w n₀ ann b (ask >>= fun x_1 => _) s _ s
      refine FR.bind FR.ask ?_
      rw [F.slot_str_eq.bind]
      split
      · exact FR.pure _
      · exact FR.pure _
    · show FR table p w n₀ ann b (call (.builtin "str.__eq__") [.str x t, .str x u] >>= fun v => Pure.pure (some v)) s _ s
      exact FR.bind (fr_callB (by decide +kernel) (check_str_eq x x t u) (den_str_eq x t u)) (FR.pure _)
end
end Mine

end

-- part B2
section
open PySem PySem.W PySem.Calls PyProof.Rows
set_option Elab.async false
set_option maxRecDepth 100000
namespace Mine

def offPlain (t : SetTable) : SetTable := if t.plain = true then { t with plain := false } else t
theorem offPlain_fits {t : SetTable} {n : Nat} (h : t.fits n = true) : (offPlain t).fits n = true := by
  unfold offPlain
  split
  · exact SetTable.fits_plain_off h
  · exact h
def addR (ep : Nat) (r : Array (Int × Value) × SetTable × Bool × Bool) : SD :=
  if (!r.2.2.1 && (offPlain r.2.1).tooFull) = true then
    ⟨(relayAll (offPlain r.2.1) r.1 (SetTable.grown r.1.size)).1, ep + 2, (relayAll (offPlain r.2.1) r.1 (SetTable.grown r.1.size)).2.1⟩
  else ⟨r.1, ep + 1, offPlain r.2.1⟩
def actAdd (d : SD) (x : Value) (h : Int) : SD := addR d.ep (layNew d.tb d.es h x)

theorem heap_upd_congr {h : Heap} {a : Addr} {o : Obj} {f g : Obj → Obj} (ho : h.get? a = some o) (e : f o = g o) : h.update a f = h.update a g := by
  obtain ⟨objs, l⟩ := h
  have hq : objs[a]? = some o := by
    unfold Heap.get? at ho
    dsimp only at ho
    split at ho
    · cases ho
    · exact ho
  show Heap.mk _ _ = Heap.mk _ _
  congr 1
  apply Array.ext_getElem?
  intro i
  rw [Array.getElem?_modify, Array.getElem?_modify]
  by_cases q : a = i
  · subst q; rw [if_pos rfl, if_pos rfl, hq]; simp [e]
  · rw [if_neg q, if_neg q]
theorem heap_upd_twice {h : Heap} {a : Addr} {o o' : Obj} : (h.update a (fun _ => o)).update a (fun _ => o') = h.update a (fun _ => o') := by
  obtain ⟨objs, l⟩ := h
  show Heap.mk _ _ = Heap.mk _ _
  congr 1
  apply Array.ext_getElem?
  intro i
  rw [Array.getElem?_modify, Array.getElem?_modify, Array.getElem?_modify]
  by_cases q : a = i
  · subst q; simp [Function.comp_def]
  · simp [q]

/-- entries that are one-sign texts -/
def Signs (es : Array (Int × Value)) : Prop := es.size < 100 ∧ ∀ e ∈ es.toList, ∃ c, signOf e.2 = some c
theorem signOf_str {v : Value} {c : Nat} (h : signOf v = some c) : ∃ u, v = .str ⟨#[c]⟩ u := by
  unfold signOf at h
  split at h
  · rename_i z u
    split at h
    · rename_i d q
      obtain rfl : d = c := by simpa using h
      refine ⟨u, ?_⟩
      cases z with
      | mk cps =>
        have : cps = #[d] := by cases cps; simp at q; simp [q]
        rw [this]
    · cases h
  · cases h
theorem GD.signs {d : SD} {L : List Value} (h : GD d L) : Signs d.es := by
  obtain ⟨_, hp, hs, _, hl⟩ := h
  refine ⟨?_, fun e he => hs _ (hp.mem_iff.mp (List.mem_map_of_mem he))⟩
  have := hp.length_eq
  rw [List.length_map, Array.length_toList] at this
  omega
theorem Signs.exact {es : Array (Int × Value)} (h : Signs es) : es.all (fun e => isExactStrKey e.2) = true := by
  rw [← Array.all_toList, List.all_eq_true]
  intro e he
  obtain ⟨c, hc⟩ := h.2 e he
  obtain ⟨u, hu⟩ := signOf_str hc
  rw [hu]; rfl
theorem Signs.byScan {es : Array (Int × Value)} (h : Signs es) {c u : Nat} : byScan (.str ⟨#[c]⟩ u) es = true := by
  unfold PySem.byScan
  have h1 : es.all (·.2.scannable) = true := by
    rw [← Array.all_toList, List.all_eq_true]
    intro e he
    obtain ⟨c, hc⟩ := h.2 e he
    obtain ⟨u, hu⟩ := signOf_str hc
    rw [hu]; rfl
  have h2 : es.size < scanBound := by have := h.1; unfold scanBound; omega
  rw [h1, Bool.and_true]
  simp [h2, Value.scannable]
theorem isStr_sign {v : Value} {c d : Nat} (h : signOf v = some d) : v.isStr ⟨#[c]⟩ = decide (d = c) := by
  obtain ⟨u, rfl⟩ := signOf_str h
  show ((⟨#[d]⟩ : Str) == ⟨#[c]⟩) = _
  by_cases e : d = c
  · subst e; simp
  · rw [decide_eq_false e]
    rw [beq_eq_false_iff_ne]
    intro q
    injection q with q
    injection q with q
    injection q with q
    exact e q

section
variable {p : Program} {w : World} {n₀ : Nat} {ann : Option Value} {b : Nat} {s : Shared}

theorem fr_setState {a : Addr} {d : SD} (ho : s.heap.get? a = some (fz d)) (hf : d.tb.fits d.es.size = true) : FT p w n₀ ann b (setState a) s (d.es, d.ep, d.tb) s := by
  unfold setState
  refine FR.bind (FR.load' ho) ?_
  dsimp only [fz]
  have hc : (d.tb.place.size != d.es.size || decide (d.tb.fill > d.tb.mask)) = false := by
    simp only [SetTable.fits, Bool.and_eq_true, beq_iff_eq, decide_eq_true_eq] at hf
    simp [hf.1, Nat.not_lt.mpr hf.2]
  rw [hc]
  simp only [Bool.false_eq_true, ↓reduceIte]
  exact FR.pure _
theorem fr_setEpoch {a : Addr} {d : SD} (ho : s.heap.get? a = some (fz d)) (hf : d.tb.fits d.es.size = true) : FT p w n₀ ann b (setEpoch a) s d.ep s := by
  unfold setEpoch
  exact FR.bind (fr_setState ho hf) (FR.pure _)
theorem fr_setEntries {a : Addr} {d : SD} (ho : s.heap.get? a = some (fz d)) (hf : d.tb.fits d.es.size = true) : FT p w n₀ ann b (setEntries a) s d.es s := by
  unfold setEntries
  exact FR.bind (fr_setState ho hf) (FR.pure _)
theorem fr_storeSet {a : Addr} {d : SD} {es : Array (Int × Value)} {t : SetTable} (ho : s.heap.get? a = some (fz d)) (ha : n₀ ≤ a) (hz : es.size ≤ sizeLine) :
    FT p w n₀ ann b (storeSet a es t) s () { s with heap := s.heap.update a (fun _ => fz ⟨es, d.ep + 1, t⟩) } := by
  unfold storeSet
  refine FR.bind (FR.load' ho) ?_
  dsimp only [fz]
  rw [if_neg (Nat.not_lt.mpr hz)]
  have e : s.heap.update a (Obj.putSet es t) = s.heap.update a (fun _ => fz ⟨es, d.ep + 1, t⟩) := heap_upd_congr ho rfl
  have := FR.update (tb := table) (p := p) (w := w) (ann := ann) (b := b) (f := Obj.putSet es t) (isSome_of ho) ha
  rw [e] at this
  first | exact this | exact FR.bind (FR.pure _) this
theorem fr_setScan_absent {a : Addr} {es : Array (Int × Value)} {c u : Nat} {h : Int} {adding : Bool} (hs : Signs es) (ha : ∀ e ∈ es.toList, signOf e.2 ≠ some c) :
    FT p w n₀ ann b (setScan a (.str ⟨#[c]⟩ u) h adding es) s .absent s := by
  unfold setScan
  dsimp only
  rw [if_pos hs.exact]
  unfold setScanStrs
  have e : es.findIdx? (fun e => e.2.isStr ⟨#[c]⟩) = none := by
    rw [Array.findIdx?_eq_none_iff]
    intro e he
    have he' : e ∈ es.toList := by simpa using he
    obtain ⟨d, hd⟩ := hs.2 e he'
    rw [isStr_sign hd]
    exact decide_eq_false fun q => ha e he' (q ▸ hd)
  rw [e]
  exact FR.pure _

theorem size_small {es : Array (Int × Value)} {n : Nat} (h : es.size ≤ n) (hn : n ≤ 10000) : es.size ≤ sizeLine := by rw [sizeLine_eq]; omega

theorem addOk_absent {L : List Value} {c u : Nat} (h : addOk L (.str ⟨#[c]⟩ u) = true) : (∀ v ∈ L, signOf v ≠ some c) ∧ L.length ≤ 60 := by
  have e : addOk L (.str ⟨#[c]⟩ u) = (L.all (fun v => !isSign c v) && Nat.ble L.length 60) := rfl
  rw [e, Bool.and_eq_true, List.all_eq_true] at h
  refine ⟨fun v hv q => ?_, Nat.le_of_ble_eq_true h.2⟩
  have := h.1 v hv
  rw [isSign_iff.mpr q] at this
  cases this

theorem actAdd_GD {d : SD} {L : List Value} {x : Value} {h : Int} (g : GD d L) (ok : addOk L x = true) : GD (actAdd d x h) (L ++ [x]) := by
  obtain ⟨c, u, rfl⟩ := addOk_str ok
  obtain ⟨hno, hlen⟩ := addOk_absent ok
  obtain ⟨hf, hp, hs, hnd, _⟩ := g
  have hp1 := layNew_perm d.tb d.es h (.str ⟨#[c]⟩ u)
  have hf1 := layNew_fits d.tb d.es h (.str ⟨#[c]⟩ u)
  generalize hr : layNew d.tb d.es h (.str ⟨#[c]⟩ u) = r at hp1 hf1
  have hf2 := offPlain_fits hf1
  have pe : (r.1.toList.map (·.2)).Perm (L ++ [.str ⟨#[c]⟩ u]) := by
    have := hp1.map (·.2)
    rw [Array.toList_push, List.map_append] at this
    exact this.trans (hp.append_right _)
  have hsig : ∀ v ∈ L ++ [Value.str ⟨#[c]⟩ u], ∃ c, signOf v = some c := fun v hv => by
    rcases List.mem_append.mp hv with hv | hv
    · exact hs v hv
    · rw [List.mem_singleton] at hv; subst hv; exact ⟨c, rfl⟩
  have hnd' : ((L ++ [Value.str ⟨#[c]⟩ u]).map signOf).Nodup := by
    rw [List.map_append, List.nodup_append]
    refine ⟨hnd, by simp, fun y hy z hz => ?_⟩
    obtain ⟨v, hv, rfl⟩ := List.mem_map.mp hy
    rw [List.map_singleton, List.mem_singleton] at hz
    subst hz
    exact hno v hv
  have hl' : (L ++ [Value.str ⟨#[c]⟩ u]).length ≤ 61 := by rw [List.length_append]; simp; omega
  unfold actAdd
  rw [hr]
  unfold addR
  split
  · exact ⟨relayAll_fits .., (((relayAll_perm ..).map (·.2)).trans pe), hsig, hnd', hl'⟩
  · exact ⟨hf2, pe, hsig, hnd', hl'⟩

theorem fr_addHashed {a : Addr} {d : SD} {L : List Value} {x : Value} {h : Int} (ho : s.heap.get? a = some (fz d)) (g : GD d L) (ok : addOk L x = true) (ha : n₀ ≤ a) :
    FT p w n₀ ann b (setAddHashed a x h) s true { s with heap := s.heap.update a (fun _ => fz (actAdd d x h)) } := by
  have hg' := actAdd_GD (h := h) g ok
  have hsz' := hg'.signs.1
  obtain ⟨c, u, rfl⟩ := addOk_str ok
  obtain ⟨hno, hlen⟩ := addOk_absent ok
  have hsig := g.signs
  have hab : ∀ e ∈ d.es.toList, signOf e.2 ≠ some c := fun e he => hno _ (g.2.1.mem_iff.mp (List.mem_map_of_mem he))
  show FR table p w n₀ ann b (setAddHashedIn a (.str ⟨#[c]⟩ u) h (99999 + 1)) s true _
  unfold setAddHashedIn
  refine FR.bind (fr_setState ho g.1) ?_
  dsimp only
  rw [if_pos hsig.byScan]
  refine FR.bind (a := some true) (s₁ := { s with heap := s.heap.update a (fun _ => fz (actAdd d (.str ⟨#[c]⟩ u) h)) }) ?_ (FR.pure _)
  unfold setAddByScan
  refine FR.bind (FR.rule _) ?_
  refine FR.bind (fr_setScan_absent hsig hab) ?_
  dsimp only
  have hgw : ∀ (t : Bool) (s : Shared), FR table p w n₀ ann b (match t with | true => rule "set.scan.the-table-gave-way" | false => Pure.pure ()) s () s := fun t s => by
    cases t
    · exact FR.pure _
    · exact FR.rule _
  have hp1 := layNew_perm d.tb d.es h (.str ⟨#[c]⟩ u)
  unfold actAdd at hsz' ⊢
  generalize hr : layNew d.tb d.es h (.str ⟨#[c]⟩ u) = r at hp1 hsz' ⊢
  obtain ⟨es1, t1, wasD, gave⟩ := r
  dsimp only at hp1 hsz' ⊢
  have hz1 : es1.size ≤ 100 := by
    have := hp1.length_eq
    rw [Array.toList_push, List.length_append, Array.length_toList, Array.length_toList] at this
    have := hsig.1
    simp at *; omega
  refine FR.bind (hgw gave _) ?_
  have tail : FR table p w n₀ ann b (do
        storeSet a es1 (offPlain t1)
        if (!wasD && (offPlain t1).tooFull) = true then do
            (match (relayAll (offPlain t1) es1 (SetTable.grown es1.size)).2.2 with | true => rule "set.scan.the-table-gave-way" | false => Pure.pure ())
            storeSet a (relayAll (offPlain t1) es1 (SetTable.grown es1.size)).1 (relayAll (offPlain t1) es1 (SetTable.grown es1.size)).2.1
            Pure.pure (some true)
          else Pure.pure (some true)) s (some true)
        { s with heap := s.heap.update a (fun _ => fz (addR d.ep (es1, t1, wasD, gave))) } := by
    refine FR.bind (fr_storeSet ho ha (size_small hz1 (by omega))) ?_
    unfold addR
    dsimp only
    split
    · refine FR.bind (hgw _ _) ?_
      have hrz : (relayAll (offPlain t1) es1 (SetTable.grown es1.size)).1.size ≤ 100 := by
        have := (relayAll_perm (offPlain t1) es1 (SetTable.grown es1.size)).length_eq
        rw [Array.length_toList, Array.length_toList] at this
        omega
      have := fr_storeSet (p := p) (w := w) (ann := ann) (b := b) (s := { s with heap := s.heap.update a (fun _ => fz ⟨es1, d.ep + 1, offPlain t1⟩) }) (es := (relayAll (offPlain t1) es1 (SetTable.grown es1.size)).1) (t := (relayAll (offPlain t1) es1 (SetTable.grown es1.size)).2.1)
        (fz_get (Heap.lt_size ho)) ha (size_small hrz (by omega))
      dsimp only at this
      rw [heap_upd_twice] at this
      exact FR.bind this (FR.pure _)
    · exact FR.pure _
  by_cases hpl : t1.plain = true
  · rw [if_pos hpl]
    refine FR.bind (a := false) (s₁ := s) (FR.pure _) ?_
    unfold offPlain at tail
    rw [if_pos hpl] at tail
    exact tail
  · rw [if_neg hpl]
    refine FR.bind (a := true) (s₁ := s) (FR.pure _) ?_
    unfold offPlain at tail
    rw [if_neg hpl] at tail
    exact tail
end
end Mine

end

-- part B3
section
open PySem PySem.W PySem.Calls PyProof.Rows
set_option Elab.async false
set_option maxRecDepth 100000
namespace Mine

/-! the search for a free slot of a small table always ends -/
def lp (m : Nat) (x : Nat × Nat) : Nat × Nat := SetTable.leap m x.1 x.2
def lpN (m : Nat) : Nat → Nat × Nat → Nat × Nat
  | 0, x => x
  | t + 1, x => lpN m t (lp m x)
theorem lpN_add (m : Nat) : ∀ (a c : Nat) (x : Nat × Nat), lpN m (a + c) x = lpN m c (lpN m a x)
  | 0, c, x => by rw [Nat.zero_add]; rfl
  | a + 1, c, x => by rw [show a + 1 + c = (a + c) + 1 by omega]; exact lpN_add m a c (lp m x)
def orb (m : Nat) : Nat → Nat
  | 0 => 0
  | t + 1 => (orb m t * 5 + 1) % (m + 1)
structure Cyc (m : Nat) : Prop where
  per : orb m (m + 1) = 0
  all : ∀ j, j ≤ m → ∃ t, t ≤ m ∧ orb m t = j
theorem Cyc.seven : Cyc 7 := ⟨by decide, fun j hj => by
  have : ∀ j : Fin 8, ∃ t : Fin 8, orb 7 t.1 = j.1 := by decide
  obtain ⟨t, ht⟩ := this ⟨j, by omega⟩
  exact ⟨t.1, by have := t.2; omega, ht⟩⟩
def orbL (m : Nat) : Nat → Nat → List Nat
  | 0, _ => []
  | n + 1, x => x :: orbL m n ((x * 5 + 1) % (m + 1))
theorem orbL_get (m : Nat) : ∀ (n t0 : Nat) (j : Nat), j ∈ orbL m n (orb m t0) → ∃ t, t0 ≤ t ∧ t < t0 + n ∧ orb m t = j
  | 0, _, _, h => nomatch h
  | n + 1, t0, j, h => by
    rcases List.mem_cons.mp h with rfl | h
    · exact ⟨t0, Nat.le_refl _, by omega, rfl⟩
    · obtain ⟨t, h1, h2, h3⟩ := orbL_get m n (t0 + 1) j h
      exact ⟨t, by omega, by omega, h3⟩
theorem Cyc.big : Cyc 127 := ⟨by decide +kernel, fun j hj => by
  have : (List.range 128).all (fun j => (orbL 127 128 0).contains j) = true := by decide +kernel
  have h := List.all_eq_true.mp this j (List.mem_range.mpr (by omega))
  have hm : j ∈ orbL 127 128 (orb 127 0) := (by simpa using h : j ∈ orbL 127 128 0)
  obtain ⟨t, _, h2, h3⟩ := orbL_get 127 128 0 j hm
  exact ⟨t, by omega, h3⟩⟩
theorem Cyc.period {m : Nat} (c : Cyc m) : ∀ t, orb m (t + (m + 1)) = orb m t
  | 0 => by rw [Nat.zero_add]; exact c.per
  | t + 1 => by
    rw [show t + 1 + (m + 1) = (t + (m + 1)) + 1 by omega]
    show (orb m (t + (m + 1)) * 5 + 1) % (m + 1) = (orb m t * 5 + 1) % (m + 1)
    rw [c.period t]
theorem lpN_zero {m : Nat} : ∀ (t a : Nat), lpN m t (orb m a, 0) = (orb m (a + t), 0)
  | 0, a => rfl
  | t + 1, a => by
    show lpN m t (lp m (orb m a, 0)) = _
    have : lp m (orb m a, 0) = (orb m (a + 1), 0) := by
      show ((orb m a * 5 + 1 + 0 / 32) % (m + 1), 0 / 32) = _
      rfl
    rw [this, lpN_zero t (a + 1), show a + 1 + t = a + (t + 1) by omega]
theorem lpN_snd {m : Nat} : ∀ (t : Nat) (x : Nat × Nat), (lpN m t x).2 = x.2 / 32 ^ t
  | 0, x => by simp [lpN]
  | t + 1, x => by
    show (lpN m t (lp m x)).2 = _
    rw [lpN_snd t]
    show x.2 / 32 / 32 ^ t = _
    rw [Nat.div_div_eq_div_mul, Nat.pow_succ, Nat.mul_comm]
theorem lpN_fst {m : Nat} : ∀ (t : Nat) (x : Nat × Nat), x.1 ≤ m → (lpN m t x).1 ≤ m
  | 0, _, h => h
  | t + 1, x, _ => lpN_fst t (lp m x) (by
    show (x.1 * 5 + 1 + x.2 / 32) % (m + 1) ≤ m
    exact Nat.le_of_lt_succ (Nat.mod_lt _ (Nat.succ_pos m)))
theorem reach_all {m : Nat} (c : Cyc m) {i q j : Nat} (hi : i ≤ m) (hq : q < 2 ^ 64) (hj : j ≤ m) : ∃ t, t < SetTable.turns m ∧ (lpN m t (i, q)).1 = j := by
  have h2 : (lpN m 13 (i, q)).2 = 0 := by
    rw [lpN_snd]
    exact Nat.div_eq_of_lt (Nat.lt_trans hq (by decide))
  have h1 : (lpN m 13 (i, q)).1 ≤ m := lpN_fst 13 _ hi
  obtain ⟨a, ha, ea⟩ := c.all _ h1
  obtain ⟨d, hd, ed⟩ := c.all j hj
  have hx : lpN m 13 (i, q) = (orb m a, 0) := Prod.ext ea.symm h2
  by_cases hc : a ≤ d
  · refine ⟨13 + (d - a), ?_, ?_⟩
    · unfold SetTable.turns; omega
    · rw [lpN_add, hx, lpN_zero, show a + (d - a) = d by omega]; exact ed
  · refine ⟨13 + (m + 1 + d - a), ?_, ?_⟩
    · unfold SetTable.turns; omega
    · rw [lpN_add, hx, lpN_zero, show a + (m + 1 + d - a) = d + (m + 1) by omega, c.period]; exact ed

theorem free_some {m : Nat} {owner : Array (Option Nat)} : ∀ (fuel i q t : Nat), t < fuel → owner.getD (lpN m t (i, q)).1 (some 0) = none →
    ∃ r, SetTable.layClean.free m owner fuel i q = some r ∧ owner.getD r (some 0) = none
  | 0, _, _, _, h, _ => by omega
  | fuel + 1, i, q, t, h, hn => by
    unfold SetTable.layClean.free
    cases hf : (List.range (SetTable.runEnd m i + 1 - i)).find? (fun k => (owner.getD (i + k) (some 0)).isNone) with
    | some k =>
      refine ⟨i + k, rfl, ?_⟩
      have := List.find?_some hf
      simpa using this
    | none =>
      dsimp only
      cases t with
      | zero =>
        exfalso
        have h0 : 0 ∈ List.range (SetTable.runEnd m i + 1 - i) := by
          rw [List.mem_range]
          unfold SetTable.runEnd
          split <;> omega
        have := List.find?_eq_none.mp hf 0 h0
        apply this
        have hn' : owner.getD i (some 0) = none := hn
        rw [Nat.add_zero, hn']; rfl
      | succ t => exact free_some fuel _ _ t (by omega) hn

/-- the places taken, in the order of the slots -/
def taken (owner : Array (Option Nat)) (n : Nat) : List Nat := (List.range n).filterMap fun j => owner.getD j none

theorem fm_congr {α β : Type} {f g : α → Option β} : ∀ {l : List α}, (∀ x ∈ l, f x = g x) → l.filterMap f = l.filterMap g
  | [], _ => rfl
  | x :: l, h => by
    have ih := fm_congr (l := l) fun y hy => h y (.tail _ hy)
    cases e : g x with
    | none => rw [List.filterMap_cons_none e, List.filterMap_cons_none ((h x (.head _)).trans e), ih]
    | some v => rw [List.filterMap_cons_some e, List.filterMap_cons_some ((h x (.head _)).trans e), ih]
theorem filterMap_put {f g : Nat → Option Nat} {k j0 : Nat} (hf : f j0 = none) (hg : g j0 = some k) (he : ∀ j, j ≠ j0 → g j = f j) :
    ∀ l : List Nat, l.Nodup → j0 ∈ l → (l.filterMap g).Perm (k :: l.filterMap f)
  | [], _, h => nomatch h
  | j :: l, hn, h => by
    obtain ⟨hj, hl⟩ := List.nodup_cons.mp hn
    by_cases e : j = j0
    · subst e
      rw [List.filterMap_cons_some hg, List.filterMap_cons_none hf]
      have : l.filterMap g = l.filterMap f := fm_congr fun x hx => he x fun q => hj (q ▸ hx)
      rw [this]
    · have hm : j0 ∈ l := (List.mem_cons.mp h).resolve_left (Ne.symm e)
      have ih := filterMap_put hf hg he l hl hm
      cases hfj : f j with
      | none => rw [List.filterMap_cons_none hfj, List.filterMap_cons_none ((he j e).trans hfj)]; exact ih
      | some v =>
        rw [List.filterMap_cons_some hfj, List.filterMap_cons_some ((he j e).trans hfj)]
        exact (ih.cons v).trans (List.Perm.swap k v _)

theorem full_length {owner : Array (Option Nat)} : ∀ l : List Nat, (∀ j ∈ l, (owner.getD j none).isSome = true) → (l.filterMap fun j => owner.getD j none).length = l.length
  | [], _ => rfl
  | j :: l, h => by
    obtain ⟨v, hv⟩ := Option.isSome_iff_exists.mp (h j (.head _))
    rw [List.filterMap_cons_some (f := fun j => owner.getD j none) hv, List.length_cons, List.length_cons, full_length l fun x hx => h x (.tail _ hx)]

theorem bits_lt (h : Int) : SetTable.bits h < 2 ^ 64 := by unfold SetTable.bits; omega

theorem fold_lay {m : Nat} (c : Cyc m) : ∀ (hs : List Int) (owner : Array (Option Nat)) (k : Nat), owner.size = m + 1 → (taken owner (m + 1)).Perm (List.range k) → k + hs.length ≤ m →
    ∃ owner', hs.foldl (fun acc h => do
        let (owner, k) ← acc
        let j ← SetTable.layClean.free m owner (SetTable.turns m) (SetTable.bits h % (m + 1)) (SetTable.bits h)
        pure (owner.setIfInBounds j (some k), k + 1)) (some (owner, k)) = some (owner', k + hs.length) ∧ owner'.size = m + 1 ∧ (taken owner' (m + 1)).Perm (List.range (k + hs.length))
  | [], owner, k, hz, hp, _ => ⟨owner, rfl, hz, hp⟩
  | h :: hs, owner, k, hz, hp, hl => by
    have hfree : ∃ j, j ≤ m ∧ owner.getD j none = none := by
      apply Classical.byContradiction
      intro hno
      have hall : ∀ j ∈ List.range (m + 1), (owner.getD j none).isSome = true := fun j hj => by
        cases q : owner.getD j none with
        | some v => rfl
        | none => exact absurd ⟨j, by have := List.mem_range.mp hj; omega, q⟩ hno
      have e1 := full_length (owner := owner) (List.range (m + 1)) hall
      have e2 := hp.length_eq
      unfold taken at e2
      rw [e1, List.length_range, List.length_range] at e2
      simp only [List.length_cons] at hl
      omega
    obtain ⟨j, hj, hjn⟩ := hfree
    have hjn' : owner.getD j (some 0) = none := by
      rw [Array.getD_eq_getD_getElem?] at hjn ⊢
      have : owner[j]? = some (owner[j]'(by omega)) := Array.getElem?_eq_getElem (by omega)
      rw [this] at hjn ⊢
      exact hjn
    obtain ⟨t, ht, et⟩ := reach_all c (i := SetTable.bits h % (m + 1)) (q := SetTable.bits h) (Nat.le_of_lt_succ (Nat.mod_lt _ (Nat.succ_pos m))) (bits_lt h) hj
    obtain ⟨r, hr, hrn⟩ := free_some (m := m) (owner := owner) (SetTable.turns m) _ _ t ht (by rw [et]; exact hjn')
    have hrlt : r < m + 1 := by
      apply Classical.byContradiction
      intro q
      rw [Array.getD_eq_getD_getElem?, Array.getElem?_eq_none (by omega)] at hrn
      cases hrn
    have hrn' : owner.getD r none = none := by
      rw [Array.getD_eq_getD_getElem?] at hrn ⊢
      have : owner[r]? = some (owner[r]'(by omega)) := Array.getElem?_eq_getElem (by omega)
      rw [this] at hrn ⊢
      exact hrn
    have hp2 : (taken (owner.setIfInBounds r (some k)) (m + 1)).Perm (List.range (k + 1)) := by
      have := filterMap_put (f := fun j => owner.getD j none) (g := fun j => (owner.setIfInBounds r (some k)).getD j none) (k := k) (j0 := r) hrn'
        (by simp [Array.getD_eq_getD_getElem?, Array.getElem?_setIfInBounds, hz, hrlt]) (fun x hx => by simp [Array.getD_eq_getD_getElem?, Array.getElem?_setIfInBounds, Ne.symm hx]) (List.range (m + 1)) List.nodup_range (List.mem_range.mpr hrlt)
      refine this.trans ((hp.cons k).trans ?_)
      rw [List.range_succ]
      exact (List.perm_append_singleton k (List.range k)).symm
    obtain ⟨o', e', hz', hp'⟩ := fold_lay c hs (owner.setIfInBounds r (some k)) (k + 1) (by simp [hz]) hp2 (by simp only [List.length_cons] at hl; omega)
    refine ⟨o', ?_, hz', ?_⟩
    · rw [List.foldl_cons]
      show List.foldl _ ((SetTable.layClean.free m owner (SetTable.turns m) (SetTable.bits h % (m + 1)) (SetTable.bits h)).bind fun j => some (owner.setIfInBounds j (some k), k + 1)) hs = _
      rw [hr]
      show List.foldl _ (some (owner.setIfInBounds r (some k), k + 1)) hs = _
      rw [e', List.length_cons, show k + 1 + hs.length = k + (hs.length + 1) by omega]
    · rw [List.length_cons, show k + (hs.length + 1) = k + 1 + hs.length by omega]; exact hp'

theorem laid_ok {m : Nat} (c : Cyc m) (finger moves : Nat) (led plain : Bool) (hashes : Array Int) (hl : hashes.size ≤ m) :
    ∃ place order, SetTable.laid m finger moves led plain hashes = some (⟨m, place, #[], finger, led, moves, plain⟩, order) ∧ order.toList.Perm (List.range hashes.size) ∧ place.size = hashes.size := by
  have h0 : (taken (Array.replicate (m + 1) none) (m + 1)).Perm (List.range 0) := by
    have : taken (Array.replicate (m + 1) none) (m + 1) = [] := by
      unfold taken
      rw [List.filterMap_eq_nil_iff]
      intro j hj
      rw [List.mem_range] at hj
      simp [Array.getD_eq_getD_getElem?, hj]
    rw [this]; exact .nil
  obtain ⟨owner, e, hz, hp⟩ := fold_lay c hashes.toList (Array.replicate (m + 1) none) 0 (by simp) h0 (by rw [Array.length_toList]; omega)
  have e1 : SetTable.layClean m hashes = some owner := by
    unfold SetTable.layClean
    rw [← Array.foldl_toList, e]; rfl
  rw [Nat.zero_add, Array.length_toList] at hp
  refine ⟨_, _, by unfold SetTable.laid; rw [e1]; rfl, ?_, ?_⟩
  · have : ((List.range (m + 1)).filterMap fun j => (owner.getD j none).map fun x => (j, x)).map (·.2) = taken owner (m + 1) := by
      unfold taken
      rw [List.map_filterMap]
      refine fm_congr fun j _ => ?_
      cases owner.getD j none <;> rfl
    rw [List.toList_toArray, this]
    exact hp
  · rw [List.size_toArray, List.length_map]
    have : ((List.range (m + 1)).filterMap fun j => (owner.getD j none).map fun x => (j, x)).length = (taken owner (m + 1)).length := by
      have e3 : taken owner (m + 1) = ((List.range (m + 1)).filterMap fun j => (owner.getD j none).map fun x => (j, x)).map (·.2) := by
        unfold taken
        rw [List.map_filterMap]
        refine fm_congr fun j _ => ?_
        cases owner.getD j none <;> rfl
      rw [e3, List.length_map]
    rw [this, hp.length_eq, List.length_range]
end Mine

end

-- part B4
section
open PySem PySem.W PySem.Calls PyProof.Rows
set_option Elab.async false
set_option maxRecDepth 100000
namespace Mine

def bigT (led : Bool) : SetTable := ⟨127, #[], #[], 0, led, 1, true⟩
def copyTo (ts : SetTable) (ep : Nat) (d : SD) : SD :=
  if (ts.mask == d.tb.mask && d.tb.dummies.isEmpty) = true then ⟨d.es, ep + 1, { d.tb with finger := ts.finger, led := ts.led && d.tb.led, moves := ts.moves, plain := ts.plain && d.tb.plain }⟩
  else match SetTable.laid ts.mask ts.finger ts.moves (ts.led && d.tb.led) (ts.plain && d.tb.plain) (d.es.map (·.1)) with
    | some (t, order) => ⟨order.filterMap (d.es[·]?), ep + 1, t⟩
    | none => d
def copySD (led : Bool) (d : SD) : SD := if d.es.size = 2 then copyTo (.fresh 0 0 led) 0 d else copyTo (bigT led) 1 d

theorem GD.size {d : SD} {L : List Value} (h : GD d L) : d.es.size = L.length := by
  have := h.2.1.length_eq
  rwa [List.length_map, Array.length_toList] at this

theorem copyTo_ok {ts : SetTable} {ep : Nat} {d : SD} {L : List Value} (g : GD d L) (c : Cyc ts.mask) (hz : d.es.size ≤ ts.mask) :
    GD (copyTo ts ep d) L ∧ (copyTo ts ep d).tb.mask = ts.mask ∧ (copyTo ts ep d).tb.dummies = #[] := by
  obtain ⟨hf, hp, hr⟩ := g
  unfold copyTo
  split
  · rename_i h
    rw [Bool.and_eq_true, beq_iff_eq] at h
    have hd : d.tb.dummies = #[] := by simpa using h.2
    refine ⟨⟨?_, hp, hr⟩, h.1.symm, hd⟩
    exact hf
  · obtain ⟨place, order, e, ho, hpl⟩ := laid_ok c ts.finger ts.moves (ts.led && d.tb.led) (ts.plain && d.tb.plain) (d.es.map (·.1)) (by rw [Array.size_map]; exact hz)
    rw [Array.size_map] at ho hpl
    rw [e]
    dsimp only
    have hperm : (order.filterMap (d.es[·]?)).toList.Perm d.es.toList := by
      rw [Array.toList_filterMap]
      exact (ho.filterMap _).trans (by rw [filterMap_getElem?_range])
    have hsz : (order.filterMap (d.es[·]?)).size = d.es.size := by
      rw [← Array.length_toList, hperm.length_eq, Array.length_toList]
    refine ⟨⟨?_, (hperm.map _).trans hp, hr⟩, rfl, rfl⟩
    show (_ && _) = true
    simp only [hsz, hpl, SetTable.fill, beq_self_eq_true, Bool.true_and, decide_eq_true_eq]
    simpa using hz

theorem copySD_ok {led : Bool} {d : SD} {L : List Value} (g : GD d L) (hl : L.length = 2 ∨ L.length = 32 ∨ L.length = 33) :
    GD (copySD led d) L ∧ (copySD led d).tb.mask = (if L.length = 2 then 7 else 127) ∧ (copySD led d).tb.dummies = #[] := by
  have hs := g.size
  unfold copySD
  by_cases h2 : L.length = 2
  · rw [if_pos (hs.trans h2), if_pos h2]
    exact copyTo_ok (ts := .fresh 0 0 led) g Cyc.seven (by rw [hs, h2]; exact (by decide : 2 ≤ 7))
  · rw [if_neg (fun q => h2 (hs.symm.trans q)), if_neg h2]
    exact copyTo_ok (ts := bigT led) g Cyc.big (by rw [hs]; show L.length ≤ 127; omega)

theorem relaid64 (led : Bool) : SetTable.relaid (SetTable.fresh 0 0 led) #[] 64 = some (bigT led, #[]) := by kernel_rfl
theorem relaid66 (led : Bool) : SetTable.relaid (SetTable.fresh 0 0 led) #[] 66 = some (bigT led, #[]) := by kernel_rfl

theorem heap_push_upd {h : Heap} {o o' : Obj} : (h.push o).update h.objs.size (fun _ => o') = h.push o' := by
  obtain ⟨objs, l⟩ := h
  show Heap.mk _ _ = Heap.mk _ _
  congr 1
  apply Array.ext_getElem?
  intro i
  rw [Array.getElem?_modify, Array.getElem?_push, Array.getElem?_push]
  by_cases q : objs.size = i
  · subst q; simp
  · simp [q, Ne.symm q]

section
variable {p : Program} {w : World} {n₀ : Nat} {ann : Option Value} {b : Nat} {s : Shared}
theorem sub_fz_set : isSubtype (.type "frozenset") (.type "set") = pure false := by rw [isSubtype_type]; kernel_rfl
theorem sub_fz_fz : isSubtype (.type "frozenset") (.type "frozenset") = pure true := by rw [isSubtype_type]; kernel_rfl
theorem fr_isSet {a : Addr} {d : SD} (ho : s.heap.get? a = some (fz d)) : FT p w n₀ ann b (isInstance (.ref a) (.type "set")) s false s := by
  unfold isInstance typeOf
  refine FR.bind (a := .type "frozenset") (s₁ := s) (FR.bind (FR.load ho) (FR.pure _)) ?_
  rw [sub_fz_set]
  exact FR.pure _
theorem fr_isFz {a : Addr} {d : SD} (ho : s.heap.get? a = some (fz d)) : FT p w n₀ ann b (isInstance (.ref a) (.type "frozenset")) s true s := by
  unfold isInstance typeOf
  refine FR.bind (a := .type "frozenset") (s₁ := s) (FR.bind (FR.load ho) (FR.pure _)) ?_
  rw [sub_fz_fz]
  exact FR.pure _
theorem fr_isAny {a : Addr} {d : SD} (ho : s.heap.get? a = some (fz d)) : FT p w n₀ ann b (Builtin.Frozenset.isAnySet (.ref a)) s true s := by
  unfold Builtin.Frozenset.isAnySet
  refine FR.bind (fr_isSet ho) ?_
  exact fr_isFz ho
theorem fr_baseOf {a : Addr} {d : SD} (ho : s.heap.get? a = some (fz d)) : FT p w n₀ ann b (Builtin.Frozenset.baseOf a) s (.type "frozenset") s := by
  unfold Builtin.Frozenset.baseOf
  exact FR.bind (fr_isSet ho) (FR.pure _)
theorem fr_newSet : FT p w n₀ ann b (newSet (.type "frozenset")) s (.ref s.heap.objs.size) { s with heap := s.heap.push (fz ⟨#[], 0, .fresh 0 0 (!w.params.followText "set-order")⟩) } := by
  unfold newSet setsByText
  refine FR.bind (FR.bind FR.ask (FR.pure _)) ?_
  dsimp only
  simp only [newObj]
  exact FR.bind FR.alloc (FR.pure _)

theorem fr_room {a : Addr} {led : Bool} {n : Nat} (hn : n = 2 ∨ n = 32 ∨ n = 33) (ho : s.heap.get? a = some (fz ⟨#[], 0, .fresh 0 0 led⟩)) (ha : n₀ ≤ a) :
    FT p w n₀ ann b (setRoomFor a n) s () (if n = 2 then s else { s with heap := s.heap.update a (fun _ => fz ⟨#[], 1, bigT led⟩) }) := by
  unfold setRoomFor
  refine FR.bind (fr_setState ho rfl) ?_
  dsimp only
  rcases hn with rfl | rfl | rfl
  · rw [if_pos rfl, show (SetTable.fresh 0 0 led).roomFor 2 = none from rfl]
    exact FR.pure _
  · rw [if_neg (by decide), show (SetTable.fresh 0 0 led).roomFor 32 = some 64 from rfl]
    dsimp only
    unfold setRelay
    refine FR.bind (fr_setState ho rfl) ?_
    dsimp only
    rw [if_neg (by decide), show (#[] : Array (Int × Value)).map (·.1) = #[] by simp, relaid64]
    refine FR.bind (a := (#[], bigT led)) (s₁ := s) ?_ ?_
    · k_delta "reordered"
      exact FR.pure _
    · exact fr_storeSet (es := #[]) ho ha (by show 0 ≤ _; exact Nat.zero_le _)
  · rw [if_neg (by decide), show (SetTable.fresh 0 0 led).roomFor 33 = some 66 from rfl]
    dsimp only
    unfold setRelay
    refine FR.bind (fr_setState ho rfl) ?_
    dsimp only
    rw [if_neg (by decide), show (#[] : Array (Int × Value)).map (·.1) = #[] by simp, relaid66]
    refine FR.bind (a := (#[], bigT led)) (s₁ := s) ?_ ?_
    · k_delta "reordered"
      exact FR.pure _
    · exact fr_storeSet (es := #[]) ho ha (by show 0 ≤ _; exact Nat.zero_le _)

end
end Mine

end

-- part B5
section
open PySem PySem.W PySem.Calls PyProof.Rows
set_option Elab.async false
set_option maxRecDepth 100000
namespace Mine
section
variable {p : Program} {w : World} {n₀ : Nat} {ann : Option Value} {b : Nat} {s : Shared}

theorem fr_mergeTail {r : Addr} {ts : SetTable} {ep : Nat} {d : SD} (hr : s.heap.get? r = some (fz ⟨#[], ep, ts⟩)) (hf : ts.fits 0 = true) (hfill : ts.fill = 0) (c : Cyc ts.mask) (hz : d.es.size ≤ ts.mask) (hrn : n₀ ≤ r) (hs : d.es.size < 100)
    {m1 : Sem Unit} {m3 : Sem Unit} {m2 : Sem Unit}
    (e1 : m1 = storeSet r d.es { d.tb with finger := ts.finger, led := ts.led && d.tb.led, moves := ts.moves, plain := ts.plain && d.tb.plain })
    (e2 : ∀ t order, SetTable.laid ts.mask ts.finger ts.moves (ts.led && d.tb.led) (ts.plain && d.tb.plain) (d.es.map (·.1)) = some (t, order) → (order.filterMap (d.es[·]?)).size = d.es.size → m2 = (do let (es, t) ← (Pure.pure (order.filterMap (d.es[·]?), t) : Sem _); storeSet r es t)) :
    FT p w n₀ ann b (match ts.road d.tb with | .slotForSlot => m1 | .clean => m2 | .oneByOne => m3) s () { s with heap := s.heap.update r (fun _ => fz (copyTo ts ep d)) } := by
  have hroad : ts.road d.tb = if (ts.mask == d.tb.mask && d.tb.dummies.isEmpty) = true then .slotForSlot else .clean := by
    unfold SetTable.road
    rw [hfill]
    simp
  rw [hroad]
  by_cases h : (ts.mask == d.tb.mask && d.tb.dummies.isEmpty) = true
  · rw [if_pos h]
    dsimp only
    rw [e1]
    unfold copyTo
    rw [if_pos h]
    exact fr_storeSet hr hrn (size_small (Nat.le_of_lt hs) (by omega))
  · rw [if_neg h]
    dsimp only
    obtain ⟨place, order, e, ho, hpl⟩ := laid_ok c ts.finger ts.moves (ts.led && d.tb.led) (ts.plain && d.tb.plain) (d.es.map (·.1)) (by rw [Array.size_map]; exact hz)
    rw [Array.size_map] at ho
    have hperm : (order.filterMap (d.es[·]?)).toList.Perm d.es.toList := by
      rw [Array.toList_filterMap]
      exact (ho.filterMap _).trans (by rw [filterMap_getElem?_range])
    have hsz : (order.filterMap (d.es[·]?)).size = d.es.size := by
      rw [← Array.length_toList, hperm.length_eq, Array.length_toList]
    rw [e2 _ _ e hsz]
    unfold copyTo
    rw [if_neg h, e]
    refine FR.bind (FR.pure _) ?_
    dsimp only
    exact fr_storeSet hr hrn (size_small (by rw [hsz]; exact Nat.le_of_lt hs) (by omega))

theorem fr_mergeCopy {r a : Addr} {led : Bool} {d : SD} {L : List Value} {each : Sem Unit} (hne : r ≠ a) (hr : s.heap.get? r = some (fz ⟨#[], 0, .fresh 0 0 led⟩)) (ho : s.heap.get? a = some (fz d)) (g : GD d L) (hl : L.length = 2 ∨ L.length = 32 ∨ L.length = 33) (hrn : n₀ ≤ r) :
    FT p w n₀ ann b (setMerge r a each) s () { s with heap := s.heap.update r (fun _ => fz (copySD led d)) } := by
  have hs := g.size
  have hs' : d.es.size < 100 := by omega
  unfold setMerge
  rw [if_neg (by simpa using hne)]
  refine FR.bind (fr_setState ho g.1) ?_
  dsimp only
  have hem : d.es.isEmpty = false := by
    have : d.es.size ≠ 0 := by omega
    simpa [Array.isEmpty] using this
  rw [hem]
  simp only [Bool.false_eq_true, ↓reduceIte]
  refine FR.bind (fr_room (n := d.es.size) (by omega) hr hrn) ?_
  unfold copySD
  by_cases h2 : d.es.size = 2
  · rw [if_pos h2, if_pos h2]
    refine FR.bind (fr_setState hr rfl) ?_
    dsimp only
    refine fr_mergeTail hr rfl rfl Cyc.seven (by rw [h2]; exact (by decide : 2 ≤ 7)) hrn hs' rfl fun t order e hsz => ?_
    rw [e]
    k_delta "reordered"
    simp only [hsz, bne_self_eq_false, Bool.false_eq_true, ↓reduceIte]
  · rw [if_neg h2, if_neg h2]
    have hr' := fz_get (h := s.heap) (d := ⟨#[], 1, bigT led⟩) (Heap.lt_size hr)
    refine FR.bind (fr_setState (s := { s with heap := s.heap.update r (fun _ => fz ⟨#[], 1, bigT led⟩) }) hr' rfl) ?_
    dsimp only
    rw [← heap_upd_twice (o := fz ⟨#[], 1, bigT led⟩) (o' := fz (copyTo (bigT led) 1 d))]
    refine fr_mergeTail (s := { s with heap := s.heap.update r (fun _ => fz ⟨#[], 1, bigT led⟩) }) hr' rfl rfl Cyc.big (by show d.es.size ≤ 127; omega) hrn hs' rfl fun t order e hsz => ?_
    rw [e]
    k_delta "reordered"
    simp only [hsz, bne_self_eq_false, Bool.false_eq_true, ↓reduceIte]

theorem fr_copyOf {a : Addr} {d : SD} {L : List Value} (ho : s.heap.get? a = some (fz d)) (g : GD d L) (hl : L.length = 2 ∨ L.length = 32 ∨ L.length = 33) (hn : n₀ ≤ s.heap.objs.size) :
    FT p w n₀ ann b (Builtin.Frozenset.copyOf a) s (.ref s.heap.objs.size) { s with heap := s.heap.push (fz (copySD (!w.params.followText "set-order") d)) } := by
  unfold Builtin.Frozenset.copyOf
  refine FR.bind (fr_baseOf ho) (FR.bind fr_newSet ?_)
  refine FR.bind (a := s.heap.objs.size) (s₁ := { s with heap := s.heap.push (fz ⟨#[], 0, .fresh 0 0 (!w.params.followText "set-order")⟩) }) (FR.pure _) (FR.bind (a := ()) ?_ (FR.pure _))
  have := fr_mergeCopy (p := p) (w := w) (ann := ann) (b := b) (each := Pure.pure ()) (s := { s with heap := s.heap.push (fz ⟨#[], 0, .fresh 0 0 (!w.params.followText "set-order")⟩) })
    (r := s.heap.objs.size) (a := a) (n₀ := n₀) (Ne.symm (Nat.ne_of_lt (Heap.lt_size ho))) fz_push (Heap.get?_push_of_some _ ho) g hl hn
  dsimp only at this
  rw [heap_push_upd] at this
  exact this

def actUni (led : Bool) (d e : SD) : SD := match e.es.toList with
  | [(h, x)] => actAdd (copySD led d) x h
  | _ => d

theorem walkOne {w : World} {e : SD} {h : Int} {x : Value} (hx : e.es = #[(h, x)]) (c : Addr) : (if w.params.followText "set-order" = true then pickOrder (w.params.setOrder c e.ep) e.es else e.es) = #[(h, x)] := by
  split
  · rw [hx]
    unfold pickOrder
    show pickOrder.go _ 1 0 [(h, x)] #[] = _
    unfold pickOrder.go
    rw [show (w.params.setOrder c e.ep 0 % [(h, x)].length) = 0 from Nat.mod_one _]
    rfl
  · exact hx

theorem fr_setWalkOne {c : Addr} {e : SD} {h : Int} {x : Value} (hc : s.heap.get? c = some (fz e)) (hf : e.tb.fits e.es.size = true) (hx : e.es = #[(h, x)]) :
    FT p w n₀ ann b (setWalk c) s #[(h, x)] s := by
  have hw := walkOne (w := w) hx c
  have h1 : e.es.size = 1 := by rw [hx]; rfl
  unfold setWalk setsByText
  refine FR.bind (fr_setState hc hf) ?_
  dsimp only
  refine FR.bind (FR.bind FR.ask (FR.pure _)) ?_
  dsimp only
  split at hw
  · rename_i q
    rw [if_pos q]
    refine FR.bind FR.ask ?_
    dsimp only
    rw [hw]
    exact FR.pure _
  · rename_i q
    rw [if_neg q]
    k_delta "drawn"
    k_delta "mustBeLed"
    simp only [h1, Nat.lt_irrefl, decide_false, Bool.and_false, Bool.false_eq_true, ↓reduceIte, gt_iff_lt]
    rw [hw]
    first
    | exact FR.pure _
    | exact FR.bind (FR.pure _) (FR.pure _)
theorem fr_setWalkUnseenOne {c : Addr} {o : List Addr} {f : Option Addr} {e : SD} {h : Int} {x : Value} (hc : s.heap.get? c = some (fz e)) (hf : e.tb.fits e.es.size = true) (hx : e.es = #[(h, x)]) :
    FT p w n₀ ann b (setWalkUnseen c o f) s #[(h, x)] s := by
  have h1 : e.es.size = 1 := by rw [hx]; rfl
  unfold setWalkUnseen setsByText
  refine FR.bind (fr_setState hc hf) ?_
  dsimp only
  refine FR.bind (FR.bind FR.ask (FR.pure _)) ?_
  dsimp only
  rw [if_pos (by rw [h1]; simp)]
  first
  | exact fr_setWalkOne hc hf hx
  | exact FR.bind (fr_setWalkOne hc hf hx) (FR.pure _)

theorem one_of {e : SD} {x : Value} (g : GD e [x]) : ∃ h, e.es = #[(h, x)] := by
  have hp := List.perm_singleton.mp g.2.1
  obtain ⟨⟨l⟩, ep, tb⟩ := e
  dsimp only at hp ⊢
  match l, hp with
  | [(h, y)], q =>
    obtain rfl : y = x := by simpa using q
    exact ⟨h, rfl⟩
  | _ :: _ :: _, q => simp at q

theorem actUni_GD {led : Bool} {d e : SD} {La : List Value} {x : Value} (g : GD d La) (ge : GD e [x]) (ok : addOk La x = true) (hl : La.length = 2 ∨ La.length = 32) : GD (actUni led d e) (La ++ [x]) := by
  obtain ⟨h, hx⟩ := one_of ge
  unfold actUni
  rw [hx]
  exact actAdd_GD (copySD_ok g (by omega)).1 ok

theorem fr_or {a c : Addr} {d e : SD} {La : List Value} {x : Value} (ho : s.heap.get? a = some (fz d)) (g : GD d La) (hc : s.heap.get? c = some (fz e)) (ge : GD e [x]) (ok : addOk La x = true) (hl : La.length = 2 ∨ La.length = 32) (hne : a ≠ c) (hn : n₀ ≤ s.heap.objs.size) :
    FT p w n₀ ann b (Builtin.«frozenset.__or__» ⟨[.ref a, .ref c], []⟩) s (.done (.ret (.ref s.heap.objs.size))) { s with heap := s.heap.push (fz (actUni (!w.params.followText "set-order") d e)) } := by
  obtain ⟨h, hx⟩ := one_of ge
  have hac : a < s.heap.objs.size := Heap.lt_size ho
  have hcc : c < s.heap.objs.size := Heap.lt_size hc
  obtain ⟨gc, gm, gd⟩ := copySD_ok (led := !w.params.followText "set-order") g (by omega)
  unfold Builtin.«frozenset.__or__»
  k_delta "binary"
  dsimp only
  refine FR.bind (a := (.ref a, .ref c)) (s₁ := s) ?_ ?_
  · unfold Builtin.Frozenset.slot1 slotArgs
    exact FR.pure _
  dsimp only
  refine FR.bind (a := true) (s₁ := s) ?_ ?_
  · refine FR.bind (fr_isAny ho) ?_
    exact fr_isAny hc
  simp only [Bool.not_true, Bool.false_eq_true, ↓reduceIte]
  refine FR.bind (a := a) (s₁ := s) (FR.pure _) ?_
  refine FR.bind (a := .ref s.heap.objs.size) (s₁ := { s with heap := s.heap.push (fz (actUni (!w.params.followText "set-order") d e)) }) ?_ (FR.pure _)
  k_delta "union"
  refine FR.bind (fr_copyOf ho g (by omega) hn) ?_
  rw [if_pos (by simp; exact Ne.symm hne)]
  refine FR.bind (a := ()) (s₁ := { s with heap := s.heap.push (fz (actUni (!w.params.followText "set-order") d e)) }) ?_ (FR.pure _)
  refine FR.holding _ ?_
  unfold Builtin.Frozenset.updateFrom
  have hc1 : ∀ o, (s.heap.push o).get? c = some (fz e) := fun o => Heap.get?_push_of_some _ hc
  have hr1 : ∀ o, (s.heap.push (fz o)).get? s.heap.objs.size = some (fz o) := fun o => fz_push
  refine FR.bind (fr_isAny (hc1 _)) ?_
  simp only [↓reduceIte]
  refine FR.bind (a := c) (s₁ := { s with heap := s.heap.push (fz (copySD (!w.params.followText "set-order") d)) }) (FR.pure _) ?_
  unfold Builtin.Frozenset.merge
  refine FR.bind (fr_setEpoch (hc1 _) ge.1) ?_
  unfold setMerge
  rw [if_neg (by simp; exact Ne.symm (Nat.ne_of_lt hcc))]
  refine FR.bind (fr_setState (hc1 _) ge.1) ?_
  dsimp only
  rw [if_neg (by rw [hx]; simp)]
  have hsz := gc.size
  have hfit := gc.1
  have hplace : (copySD (!w.params.followText "set-order") d).tb.place.size = La.length := by
    unfold SetTable.fits at hfit
    rw [Bool.and_eq_true, beq_iff_eq] at hfit
    rw [hfit.1, hsz]
  have hfill : (copySD (!w.params.followText "set-order") d).tb.fill = La.length := by
    unfold SetTable.fill
    rw [hplace, gd]; rfl
  refine FR.bind (a := ()) (s₁ := { s with heap := s.heap.push (fz (copySD (!w.params.followText "set-order") d)) }) ?_ ?_
  · unfold setRoomFor
    refine FR.bind (fr_setState (hr1 _) gc.1) ?_
    dsimp only
    have : (copySD (!w.params.followText "set-order") d).tb.roomFor e.es.size = none := by
      unfold SetTable.roomFor
      rw [hfill, gm, hx]
      rcases hl with q | q <;> rw [q] <;> rfl
    rw [this]
    exact FR.pure _
  refine FR.bind (fr_setState (hr1 _) gc.1) ?_
  dsimp only
  have hroad : (copySD (!w.params.followText "set-order") d).tb.road e.tb = .oneByOne := by
    unfold SetTable.road
    rw [hfill]
    rcases hl with q | q <;> rw [q] <;> rfl
  rw [hroad]
  dsimp only
  refine FR.bind (fr_setWalkUnseenOne (hc1 _) ge.1 hx) ?_
  simp only [List.forIn_toArray, List.forIn_cons, List.forIn_nil]
  have hact : actUni (!w.params.followText "set-order") d e = actAdd (copySD (!w.params.followText "set-order") d) x h := by
    unfold actUni; rw [hx]
  rw [hact]
  have hadd := fr_addHashed (p := p) (w := w) (ann := ann) (b := b) (n₀ := n₀) (h := h) (s := { s with heap := s.heap.push (fz (copySD (!w.params.followText "set-order") d)) }) (hr1 _) gc ok hn
  dsimp only at hadd
  rw [heap_push_upd] at hadd
  refine FR.bind (a := PUnit.unit) (s₁ := { s with heap := s.heap.push (fz (actAdd (copySD (!w.params.followText "set-order") d) x h)) }) ?_ (FR.pure _)
  refine FR.bind (a := .yield PUnit.unit) (s₁ := { s with heap := s.heap.push (fz (actAdd (copySD (!w.params.followText "set-order") d) x h)) }) ?_ (FR.pure _)
  refine FR.bind (FR.holding _ hadd) ?_
  refine FR.bind (a := ()) (s₁ := { s with heap := s.heap.push (fz (actAdd (copySD (!w.params.followText "set-order") d) x h)) }) ?_ ?_
  · unfold Builtin.Frozenset.unchanged
    refine FR.bind (fr_setEpoch (hc1 _) ge.1) ?_
    rw [if_neg (by simp)]
    exact FR.pure _
  refine FR.bind (fr_setState (hc1 _) ge.1) ?_
  rw [if_neg (by simp)]
  exact FR.pure _
end
end Mine

end

-- part B6
section
open PySem PySem.W PySem.Calls PyProof.Rows
set_option Elab.async false
set_option maxRecDepth 100000
namespace Mine

theorem eraseIdx_perm {α : Type} : ∀ {l : List α} {i : Nat} (h : i < l.length), (l[i] :: l.eraseIdx i).Perm l
  | [], _, h => absurd h (Nat.not_lt_zero _)
  | _ :: _, 0, _ => .refl _
  | x :: l, i + 1, h => by
    have hi : i < l.length := by simpa using h
    show (l[i] :: x :: l.eraseIdx i).Perm (x :: l)
    exact (List.Perm.swap x l[i] _).trans ((eraseIdx_perm hi).cons x)
theorem map_eraseIdx' {α β : Type} (f : α → β) : ∀ (l : List α) (i : Nat), (l.eraseIdx i).map f = (l.map f).eraseIdx i
  | [], _ => rfl
  | _ :: _, 0 => rfl
  | x :: l, i + 1 => congrArg (f x :: ·) (map_eraseIdx' f l i)
theorem pick_go_perm {α : Type} (next : Nat → Nat) : ∀ (fuel k : Nat) (left : List α) (out : Array α), left.length ≤ fuel → (pickOrder.go next fuel k left out).toList.Perm (out.toList ++ left)
  | 0, k, left, out, h => by
    have : left = [] := List.length_eq_zero_iff.mp (Nat.le_zero.mp h)
    subst this
    unfold pickOrder.go
    simp
  | fuel + 1, k, left, out, h => by
    unfold pickOrder.go
    split
    · rename_i x hx
      obtain ⟨hi, rfl⟩ := List.getElem?_eq_some_iff.mp hx
      have h2 : (left.eraseIdx (next k % left.length)).length ≤ fuel := by
        rw [List.length_eraseIdx_of_lt hi]; omega
      refine (pick_go_perm next fuel (k + 1) _ _ h2).trans ?_
      rw [Array.toList_push, List.append_assoc]
      exact (eraseIdx_perm hi).append_left _
    · rename_i hx
      have : left = [] := by
        cases left with
        | nil => rfl
        | cons y l =>
          rw [List.getElem?_eq_none_iff] at hx
          have := Nat.mod_lt (next k) (show 0 < (y :: l).length by simp)
          omega
      subst this
      simp
theorem pick_perm {α : Type} (next : Nat → Nat) (xs : Array α) : (pickOrder next xs).toList.Perm xs.toList := by
  unfold pickOrder
  exact pick_go_perm next xs.size 0 xs.toList #[] (by simp)

def walkOf (w : World) (c : Addr) (e : SD) : Array (Int × Value) := if w.params.followText "set-order" = true then pickOrder (w.params.setOrder c e.ep) e.es else e.es
theorem walkOf_perm (w : World) (c : Addr) (e : SD) : (walkOf w c e).toList.Perm e.es.toList := by
  unfold walkOf
  split
  · exact pick_perm _ _
  · exact .refl _

def actDrop (d : SD) (x : Value) : SD := match x with
  | .str z _ => (match d.es.findIdx? (fun e => e.2.isStr z) with
    | some i => ⟨SetTable.eraseAt d.es i, d.ep + 1, d.tb.drop i⟩
    | none => d)
  | _ => d

theorem eraseAt_toList {α : Type} (xs : Array α) (i : Nat) : (SetTable.eraseAt xs i).toList = xs.toList.eraseIdx i := by
  unfold SetTable.eraseAt
  rw [Array.toList_append, Array.toList_extract, Array.toList_extract, List.eraseIdx_eq_take_drop_succ]
  rw [show (xs.toList.extract 0 i) = xs.toList.take i by simp [List.extract_eq_take_drop], List.extract_eq_take_drop]
  congr 1
  exact List.take_of_length_le (by rw [List.length_drop, Array.length_toList]; omega)

def keepNot (c : Nat) (L : List Value) : List Value := L.filter fun v => !isSign c v

theorem findSign {es : Array (Int × Value)} {c : Nat} (hs : Signs es) (hm : ∃ e ∈ es.toList, signOf e.2 = some c) : ∃ i, ∃ h : i < es.size, es.findIdx? (fun e => e.2.isStr ⟨#[c]⟩) = some i ∧ signOf (es[i]).2 = some c := by
  cases q : es.findIdx? (fun e => e.2.isStr ⟨#[c]⟩) with
  | none =>
    rw [Array.findIdx?_eq_none_iff] at q
    obtain ⟨e, he, hc⟩ := hm
    have := q e (by simpa using he)
    rw [isStr_sign hc] at this
    simp at this
  | some i =>
    obtain ⟨h, h2, _⟩ := Array.findIdx?_eq_some_iff_getElem.mp q
    refine ⟨i, h, rfl, ?_⟩
    obtain ⟨d, hd⟩ := hs.2 es[i] (by simp)
    rw [isStr_sign hd] at h2
    rw [hd, of_decide_eq_true h2]

theorem filter_erase {L : List Value} {c : Nat} : ∀ {M : List Value}, (∀ v ∈ M, ∃ c, signOf v = some c) → (M.map signOf).Nodup → ∀ i (h : i < M.length), signOf M[i] = some c → M.eraseIdx i = keepNot c M
  | [], _, _, _, h, _ => absurd h (Nat.not_lt_zero _)
  | v :: M, hs, hn, i, h, hc => by
    rw [List.map_cons, List.nodup_cons] at hn
    cases i with
    | zero =>
      have hc' : signOf v = some c := hc
      show M = keepNot c (v :: M)
      unfold keepNot
      rw [List.filter_cons_of_neg (by rw [isSign_iff.mpr hc']; simp)]
      refine (List.filter_eq_self.mpr fun u hu => ?_).symm
      cases q : isSign c u with
      | false => rfl
      | true => exact absurd (List.mem_map_of_mem (f := signOf) hu) (by rw [isSign_iff.mp q, ← hc']; exact hn.1)
    | succ i =>
      have hi : i < M.length := by simpa using h
      have hc' : signOf M[i] = some c := hc
      show v :: M.eraseIdx i = _
      have hv : signOf v ≠ some c := fun q => hn.1 (by rw [q, ← hc']; exact List.mem_map_of_mem (List.getElem_mem hi))
      unfold keepNot
      rw [List.filter_cons_of_pos (by
        cases q : isSign c v with
        | false => rfl
        | true => exact absurd (isSign_iff.mp q) hv)]
      have := filter_erase (L := L) (fun u hu => hs u (.tail _ hu)) hn.2 i hi hc'
      rw [this]; rfl

theorem drop_fits {t : SetTable} {n i : Nat} (h : t.fits n = true) (hi : i < n) : (t.drop i).fits (n - 1) = true ∧ (t.drop i).mask = t.mask ∧ (t.drop i).dummies.size = t.dummies.size + 1 := by
  unfold SetTable.fits at h
  rw [Bool.and_eq_true, beq_iff_eq, decide_eq_true_eq] at h
  obtain ⟨h1, h2⟩ := h
  have hp : t.place[i]? = some (t.place[i]'(by omega)) := Array.getElem?_eq_getElem (by omega)
  unfold SetTable.drop
  rw [hp]
  dsimp only
  have e1 : (SetTable.eraseAt t.place i).size = n - 1 := by
    rw [← Array.length_toList, eraseAt_toList, List.length_eraseIdx_of_lt (by rw [Array.length_toList]; omega), Array.length_toList, h1]
  have e2 : ∀ k j, (SetTable.insertAt t.dummies k j).size = t.dummies.size + 1 := fun k j => by
    have := (SetTable.insertAt_perm t.dummies k j).length_eq
    rw [Array.length_toList, Array.length_toList, Array.size_push] at this
    exact this
  refine ⟨?_, rfl, e2 _ _⟩
  unfold SetTable.fits SetTable.fill at *
  dsimp only
  rw [e1, e2, Bool.and_eq_true, beq_iff_eq, decide_eq_true_eq]
  exact ⟨rfl, by omega⟩

theorem actDrop_ok {d : SD} {L : List Value} {c u : Nat} (g : GD d L) (hm : ∃ v ∈ L, signOf v = some c) :
    GD (actDrop d (.str ⟨#[c]⟩ u)) (keepNot c L) ∧ (actDrop d (.str ⟨#[c]⟩ u)).tb.mask = d.tb.mask ∧ (actDrop d (.str ⟨#[c]⟩ u)).tb.dummies.size = d.tb.dummies.size + 1 := by
  have hsig := g.signs
  obtain ⟨hf, hp, hs, hn, hl⟩ := g
  obtain ⟨v, hv, hvc⟩ := hm
  have hm' : ∃ e ∈ d.es.toList, signOf e.2 = some c := by
    obtain ⟨e, he, rfl⟩ := List.mem_map.mp (hp.mem_iff.mpr hv)
    exact ⟨e, he, hvc⟩
  obtain ⟨i, hi, q, hc⟩ := findSign hsig hm'
  have e : actDrop d (.str ⟨#[c]⟩ u) = ⟨SetTable.eraseAt d.es i, d.ep + 1, d.tb.drop i⟩ := by
    unfold actDrop
    dsimp only
    rw [q]
  rw [e]
  obtain ⟨f1, f2, f3⟩ := drop_fits hf hi
  refine ⟨⟨?_, ?_, ?_, ?_, ?_⟩, f2, f3⟩
  · dsimp only
    have : (SetTable.eraseAt d.es i).size = d.es.size - 1 := by
      rw [← Array.length_toList, eraseAt_toList, List.length_eraseIdx_of_lt (by rw [Array.length_toList]; exact hi), Array.length_toList]
    rw [this]; exact f1
  · dsimp only
    rw [eraseAt_toList, map_eraseIdx']
    have hn2 : ((d.es.toList.map (·.2)).map signOf).Nodup := ((hp.map signOf).nodup_iff).mpr hn
    rw [filter_erase (L := L) (c := c) (fun v hv => hs v (hp.mem_iff.mp hv)) hn2 i (by simpa using hi) (by simpa using hc)]
    exact hp.filter _
  · exact fun v hv => hs v (List.mem_filter.mp hv).1
  · exact List.Sublist.nodup (List.Sublist.map _ List.filter_sublist) hn
  · exact Nat.le_trans (List.length_filter_le _ _) hl

def dropAll (d : SD) (xs : List (Int × Value)) : SD := xs.foldl (fun d e => actDrop d e.2) d
def keepNots (L : List Value) (xs : List (Int × Value)) : List Value := xs.foldl (fun L e => match signOf e.2 with
  | some c => keepNot c L
  | none => L) L
theorem dropAll_ok : ∀ (xs : List (Int × Value)) (d : SD) (L : List Value), GD d L → (∀ e ∈ xs, ∃ c, signOf e.2 = some c ∧ ∃ v ∈ L, signOf v = some c) → ((xs.map (·.2)).map signOf).Nodup →
    GD (dropAll d xs) (keepNots L xs) ∧ (dropAll d xs).tb.mask = d.tb.mask ∧ (dropAll d xs).tb.dummies.size = d.tb.dummies.size + xs.length
  | [], d, L, g, _, _ => ⟨g, rfl, rfl⟩
  | x :: xs, d, L, g, h, hn => by
    obtain ⟨c, hc, hm⟩ := h x (.head _)
    obtain ⟨u, hu⟩ := signOf_str hc
    obtain ⟨g1, m1, k1⟩ := actDrop_ok (u := u) g hm
    rw [List.map_cons, List.map_cons, List.nodup_cons] at hn
    have h2 : ∀ e ∈ xs, ∃ c', signOf e.2 = some c' ∧ ∃ v ∈ keepNot c L, signOf v = some c' := fun e he => by
      obtain ⟨c', hc', v, hv, hvc⟩ := h e (.tail _ he)
      refine ⟨c', hc', v, List.mem_filter.mpr ⟨hv, ?_⟩, hvc⟩
      cases q : isSign c v with
      | false => rfl
      | true =>
        refine absurd ?_ hn.1
        have : signOf x.2 = signOf e.2 := by rw [hc, hc', ← hvc, isSign_iff.mp q]
        rw [this]
        exact List.mem_map_of_mem (List.mem_map_of_mem he)
    obtain ⟨g2, m2, k2⟩ := dropAll_ok xs _ _ g1 h2 hn.2
    have e1 : dropAll d (x :: xs) = dropAll (actDrop d (.str ⟨#[c]⟩ u)) xs := by
      unfold dropAll; rw [List.foldl_cons, hu]
    have e2 : keepNots L (x :: xs) = keepNots (keepNot c L) xs := by
      unfold keepNots; rw [List.foldl_cons, hc]
    rw [e1, e2]
    exact ⟨g2, m2.trans m1, by rw [k2, k1, List.length_cons]; omega⟩
theorem keepNots_eq : ∀ (xs : List (Int × Value)) (L : List Value), (∀ e ∈ xs, ∃ c, signOf e.2 = some c) → keepNots L xs = L.filter fun v => xs.all fun e => !(match signOf e.2 with | some c => isSign c v | none => false)
  | [], L, _ => (List.filter_eq_self.mpr fun _ _ => rfl).symm
  | x :: xs, L, h => by
    obtain ⟨c, hc⟩ := h x (.head _)
    have e2 : keepNots L (x :: xs) = keepNots (keepNot c L) xs := by
      unfold keepNots; rw [List.foldl_cons, hc]
    rw [e2, keepNots_eq xs _ fun e he => h e (.tail _ he)]
    unfold keepNot
    rw [List.filter_filter]
    refine List.filter_congr fun v _ => ?_
    rw [List.all_cons, hc, Bool.and_comm]

theorem keepNots_minus {xs : List (Int × Value)} {La Lc : List Value} (hp : (xs.map (·.2)).Perm Lc) (ha : ∀ v ∈ La, ∃ c, signOf v = some c) (hc : ∀ v ∈ Lc, ∃ c, signOf v = some c) : keepNots La xs = minus La Lc := by
  rw [keepNots_eq xs La fun e he => hc _ (hp.mem_iff.mp (List.mem_map_of_mem he))]
  unfold minus
  refine List.filter_congr fun v hv => ?_
  obtain ⟨c, hvc⟩ := ha v hv
  rw [hvc]
  dsimp only
  rw [Bool.eq_iff_iff, List.all_eq_true, Bool.not_eq_true', List.any_eq_false]
  constructor
  · intro h u hu q
    obtain ⟨e, he, rfl⟩ := List.mem_map.mp (hp.mem_iff.mpr hu)
    have := h e he
    rw [isSign_iff.mp q] at this
    simp only [Bool.not_eq_true'] at this
    rw [isSign_iff.mpr hvc] at this
    cases this
  · intro h e he
    have hu := hp.mem_iff.mp (List.mem_map_of_mem (f := (·.2)) he)
    obtain ⟨c', hc'⟩ := hc _ hu
    rw [hc']
    dsimp only
    cases q : isSign c' v with
    | false => rfl
    | true =>
      have e3 : c = c' := by
        have := isSign_iff.mp q
        rw [hvc] at this
        exact Option.some.inj this
      exact absurd (isSign_iff.mpr (e3 ▸ hc')) (h _ hu)
end Mine

end

-- part B7
section
open PySem PySem.W PySem.Calls PyProof.Rows
set_option Elab.async false
set_option maxRecDepth 100000
namespace Mine
section
variable {p : Program} {w : World} {n₀ : Nat} {ann : Option Value} {b : Nat} {s : Shared}

theorem fr_loop {β γ : Type} {f : β → γ → Sem (ForInStep γ)} {r : γ} {I : List β → Shared} : ∀ {l pre : List β}, (∀ p1 x p2, pre ++ l = p1 ++ x :: p2 → pre <+: p1 → FT p w n₀ ann b (f x r) (I p1) (.yield r) (I (p1 ++ [x]))) → FT p w n₀ ann b (forIn l r f) (I pre) r (I (pre ++ l))
  | [], pre, _ => by
    rw [List.forIn_nil, List.append_nil]
    exact FR.pure _
  | x :: l, pre, h => by
    rw [List.forIn_cons]
    refine FR.bind (h pre x l rfl (List.prefix_refl _)) ?_
    dsimp only
    have := fr_loop (l := l) (pre := pre ++ [x]) (fun p1 y p2 e hp => h p1 y p2 (by rw [← e]; simp) (List.IsPrefix.trans ⟨[x], rfl⟩ hp))
    rwa [List.append_assoc] at this
theorem fr_loopA {β γ : Type} {f : β → γ → Sem (ForInStep γ)} {r : γ} {I : List β → Shared} {l : Array β} (h : ∀ p1 x p2, l.toList = p1 ++ x :: p2 → FT p w n₀ ann b (f x r) (I p1) (.yield r) (I (p1 ++ [x]))) : FT p w n₀ ann b (forIn l r f) (I []) r (I l.toList) := by
  rw [← Array.forIn_toList]
  exact fr_loop (pre := []) fun p1 x p2 e _ => h p1 x p2 e

theorem fr_setsQuiet {l : List Addr} (h : ∀ a ∈ l, ∃ d : SD, s.heap.get? a = some (fz d) ∧ d.tb.fits d.es.size = true ∧ Signs d.es) : FT p w n₀ ann b (setsQuiet l) s true s := by
  unfold setsQuiet
  refine FR.bind (s₁ := s) (fr_loop (I := fun _ => s) (pre := []) fun p1 a p2 e _ => ?_) (FR.pure _)
  obtain ⟨d, hd, hf, hs⟩ := h a (by rw [← List.nil_append l, e]; simp)
  refine FR.bind (fr_setEntries hd hf) ?_
  refine FR.bind (s₁ := s) (fr_loopA (I := fun _ => s) fun q1 x q2 e2 => ?_) (FR.pure _)
  obtain ⟨c, hc⟩ := hs.2 x (by rw [e2]; simp)
  obtain ⟨u, hu⟩ := signOf_str hc
  obtain ⟨h, v⟩ := x
  dsimp only at hu
  subst hu
  exact FR.pure _

theorem fr_setWalk {c : Addr} {e : SD} (hc : s.heap.get? c = some (fz e)) (hf : e.tb.fits e.es.size = true) (hq : w.params.followText "set-order" = true ∨ (e.tb.led && e.tb.plain) = true ∨ e.es.size ≤ 1) :
    FT p w n₀ ann b (setWalk c) s (walkOf w c e) s := by
  unfold setWalk setsByText walkOf
  refine FR.bind (fr_setState hc hf) ?_
  dsimp only
  refine FR.bind (FR.bind FR.ask (FR.pure _)) ?_
  dsimp only
  by_cases q : w.params.followText "set-order" = true
  · rw [if_pos q, if_pos q]
    exact FR.bind FR.ask (FR.pure _)
  · rw [if_neg q, if_neg q]
    k_delta "drawn"
    k_delta "mustBeLed"
    have h1 : (!e.tb.plain && decide (e.es.size > 1)) = false := by
      rcases hq with h | h | h
      · exact absurd h q
      · rw [Bool.and_eq_true] at h; rw [h.2]; rfl
      · rw [decide_eq_false (Nat.not_lt.mpr h), Bool.and_false]
    have h2 : (!e.tb.led && decide (e.es.size > 1)) = false := by
      rcases hq with h | h | h
      · exact absurd h q
      · rw [Bool.and_eq_true] at h; rw [h.1]; rfl
      · rw [decide_eq_false (Nat.not_lt.mpr h), Bool.and_false]
    rw [h1, h2]
    simp only [Bool.false_eq_true, ↓reduceIte]
    first
    | exact FR.pure _
    | exact FR.bind (FR.pure _) (FR.pure _)
theorem fr_setWalkUnseen {c r : Addr} {d e : SD} (hc : s.heap.get? c = some (fz e)) (hf : e.tb.fits e.es.size = true) (hs : Signs e.es) (hr : s.heap.get? r = some (fz d)) (hfr : d.tb.fits d.es.size = true) (hsr : Signs d.es) :
    FT p w n₀ ann b (setWalkUnseen c [r] none) s (walkOf w c e) s := by
  unfold setWalkUnseen setsByText
  refine FR.bind (fr_setState hc hf) ?_
  dsimp only
  refine FR.bind (FR.bind FR.ask (FR.pure _)) ?_
  dsimp only
  by_cases q : (w.params.followText "set-order" || e.tb.led && e.tb.plain || decide (e.es.size ≤ 1)) = true
  · rw [if_pos q]
    rw [Bool.or_eq_true, Bool.or_eq_true, decide_eq_true_eq] at q
    first
    | exact fr_setWalk hc hf (by rcases q with (q | q) | q <;> simp [q])
    | exact FR.bind (fr_setWalk hc hf (by rcases q with (q | q) | q <;> simp [q])) (FR.pure _)
  · rw [if_neg q]
    refine FR.bind (fr_setsQuiet fun a ha => ?_) ?_
    · rcases List.mem_cons.mp ha with rfl | ha
      · exact ⟨e, hc, hf, hs⟩
      · rw [List.mem_singleton] at ha; subst ha; exact ⟨d, hr, hfr, hsr⟩
    simp only [Bool.not_true, Bool.false_eq_true, ↓reduceIte]
    have : walkOf w c e = e.es := by
      unfold walkOf
      rw [if_neg]
      intro h; exact q (by rw [h]; rfl)
    rw [this]
    first
    | exact FR.bind (FR.rule _) (FR.pure _)
    | exact FR.bind (FR.rule _) (FR.bind (FR.pure _) (FR.pure _))

theorem fr_setScan_found {a : Addr} {d : SD} {c u i : Nat} {h : Int} (ho : s.heap.get? a = some (fz d)) (hf : d.tb.fits d.es.size = true) (hs : Signs d.es) (hi : i < d.es.size) (q : d.es.findIdx? (fun e => e.2.isStr ⟨#[c]⟩) = some i) (hc : signOf (d.es[i]).2 = some c) :
    FT p w n₀ ann b (setScan a (.str ⟨#[c]⟩ u) h false d.es) s (.found i) s := by
  unfold setScan
  dsimp only
  rw [if_pos hs.exact]
  unfold setScanStrs
  rw [q]
  dsimp only
  rw [Array.getElem?_eq_getElem hi]
  dsimp only
  obtain ⟨t, ht⟩ := signOf_str hc
  rw [ht]
  refine FR.bind (fr_setEpoch ho hf) ?_
  refine FR.bind (fr_eqSign _ _ _) ?_
  simp only [Bool.false_and, Bool.false_eq_true, ↓reduceIte]
  refine FR.bind (fr_setEpoch ho hf) ?_
  rw [if_neg (by simp)]
  first
  | exact FR.pure _
  | exact FR.bind (FR.pure _) (FR.pure _)

theorem fr_discard {a : Addr} {d : SD} {L : List Value} {c u : Nat} {h : Int} (ho : s.heap.get? a = some (fz d)) (g : GD d L) (hm : ∃ v ∈ L, signOf v = some c) (ha : n₀ ≤ a) :
    FT p w n₀ ann b (setDiscardHashed a (.str ⟨#[c]⟩ u) h) s true { s with heap := s.heap.update a (fun _ => fz (actDrop d (.str ⟨#[c]⟩ u))) } := by
  have hsig := g.signs
  obtain ⟨v, hv, hvc⟩ := hm
  have hm' : ∃ e ∈ d.es.toList, signOf e.2 = some c := by
    obtain ⟨e, he, rfl⟩ := List.mem_map.mp (g.2.1.mem_iff.mpr hv)
    exact ⟨e, he, hvc⟩
  obtain ⟨i, hi, q, hc⟩ := findSign hsig hm'
  have e : actDrop d (.str ⟨#[c]⟩ u) = ⟨SetTable.eraseAt d.es i, d.ep + 1, d.tb.drop i⟩ := by
    unfold actDrop
    dsimp only
    rw [q]
  rw [e]
  unfold setDiscardHashed
  refine FR.bind (a := some i) (s₁ := s) ?_ ?_
  · unfold setFind
    show FR table p w n₀ ann b (setFindIn a (.str ⟨#[c]⟩ u) h (99999 + 1)) s _ s
    unfold setFindIn
    refine FR.bind (fr_setState ho g.1) ?_
    dsimp only
    rw [if_pos hsig.byScan]
    refine FR.bind (FR.rule _) ?_
    refine FR.bind (fr_setScan_found ho g.1 hsig hi q hc) ?_
    exact FR.pure _
  dsimp only
  refine FR.bind (fr_setState ho g.1) ?_
  dsimp only
  have hz : (SetTable.eraseAt d.es i).size ≤ 100 := by
    rw [← Array.length_toList, eraseAt_toList, List.length_eraseIdx_of_lt (by rw [Array.length_toList]; exact hi), Array.length_toList]
    have := hsig.1
    omega
  refine FR.bind (fr_storeSet ho ha (size_small hz (by omega))) ?_
  exact FR.bind FR.point (FR.pure _)

def actDif (w : World) (led : Bool) (c : Addr) (d e : SD) : SD := dropAll (copySD led d) (walkOf w c e).toList

theorem within_mem {La Lc : List Value} (h : within La Lc = true) (hc : ∀ v ∈ Lc, ∃ c, signOf v = some c) : ∀ v ∈ Lc, ∃ c, signOf v = some c ∧ ∃ u ∈ La, signOf u = some c := fun v hv => by
  unfold within at h
  rw [List.all_eq_true] at h
  have := h v hv
  obtain ⟨c, hvc⟩ := hc v hv
  rw [hvc] at this
  dsimp only at this
  rw [List.any_eq_true] at this
  obtain ⟨u, hu, q⟩ := this
  exact ⟨c, hvc, u, hu, isSign_iff.mp q⟩

theorem keepNots_prefix {La : List Value} {p1 : List (Int × Value)} {x : Int × Value} {c : Nat} (h : ∃ v ∈ La, signOf v = some c) (hx : signOf x.2 = some c) (hs : ∀ e ∈ p1, ∃ c, signOf e.2 = some c) (hno : ∀ e ∈ p1, signOf e.2 ≠ some c) : ∃ v ∈ keepNots La p1, signOf v = some c := by
  obtain ⟨v, hv, hvc⟩ := h
  refine ⟨v, ?_, hvc⟩
  rw [keepNots_eq p1 La hs, List.mem_filter]
  refine ⟨hv, ?_⟩
  rw [List.all_eq_true]
  intro e he
  obtain ⟨c', hc'⟩ := hs e he
  rw [hc']
  dsimp only
  cases q : isSign c' v with
  | false => rfl
  | true =>
    have := isSign_iff.mp q
    rw [hvc] at this
    exact absurd (by rw [hc', ← this]) (hno e he)

theorem fr_sub {a c : Addr} {d e : SD} {La Lc : List Value} (ho : s.heap.get? a = some (fz d)) (g : GD d La) (hc : s.heap.get? c = some (fz e)) (ge : GD e Lc) (hw : within La Lc = true) (hlc : Lc.length < 3) (hl : La.length = 33) (hn : n₀ ≤ s.heap.objs.size) :
    GD (actDif w (!w.params.followText "set-order") c d e) (minus La Lc) ∧
    FT p w n₀ ann b (Builtin.«frozenset.__sub__» ⟨[.ref a, .ref c], []⟩) s (.done (.ret (.ref s.heap.objs.size))) { s with heap := s.heap.push (fz (actDif w (!w.params.followText "set-order") c d e)) } := by
  have hac : a < s.heap.objs.size := Heap.lt_size ho
  have hcc : c < s.heap.objs.size := Heap.lt_size hc
  obtain ⟨gc, gm, gd⟩ := copySD_ok (led := !w.params.followText "set-order") g (by omega)
  have hwp := walkOf_perm w c e
  have hxs : ((walkOf w c e).toList.map (·.2)).Perm Lc := (hwp.map _).trans ge.2.1
  have hmem := within_mem hw ge.2.2.1
  have hmemx : ∀ x ∈ (walkOf w c e).toList, ∃ c, signOf x.2 = some c ∧ ∃ u ∈ La, signOf u = some c := fun x hx => hmem _ (hxs.mem_iff.mp (List.mem_map_of_mem hx))
  have hnd : (((walkOf w c e).toList.map (·.2)).map signOf).Nodup := ((hxs.map signOf).nodup_iff).mpr ge.2.2.2.1
  obtain ⟨gF, mF, kF⟩ := dropAll_ok (walkOf w c e).toList (copySD (!w.params.followText "set-order") d) La gc hmemx hnd
  have hlen : (walkOf w c e).toList.length = Lc.length := by have := hxs.length_eq; rwa [List.length_map] at this
  have hminus : keepNots La (walkOf w c e).toList = minus La Lc := keepNots_minus hxs g.2.2.1 ge.2.2.1
  refine ⟨by rw [← hminus]; exact gF, ?_⟩
  unfold Builtin.«frozenset.__sub__»
  k_delta "binary"
  dsimp only
  refine FR.bind (a := (.ref a, .ref c)) (s₁ := s) ?_ ?_
  · unfold Builtin.Frozenset.slot1 slotArgs
    exact FR.pure _
  dsimp only
  refine FR.bind (a := true) (s₁ := s) ?_ ?_
  · refine FR.bind (fr_isAny ho) ?_
    exact fr_isAny hc
  simp only [Bool.not_true, Bool.false_eq_true, ↓reduceIte]
  refine FR.bind (a := a) (s₁ := s) (FR.pure _) ?_
  refine FR.bind (a := .ref s.heap.objs.size) (s₁ := { s with heap := s.heap.push (fz (actDif w (!w.params.followText "set-order") c d e)) }) ?_ (FR.pure _)
  unfold Builtin.Frozenset.difference
  dsimp only
  refine FR.bind (fr_isAny hc) ?_
  simp only [Bool.not_true, Bool.false_eq_true, ↓reduceIte, Bool.false_and]
  refine FR.bind (a := c) (s₁ := s) (FR.pure _) ?_
  refine FR.bind (a := e.es.size) (s₁ := s) (FR.bind (fr_setEntries hc ge.1) (FR.pure _)) ?_
  refine FR.bind (a := d.es.size) (s₁ := s) (FR.bind (fr_setEntries ho g.1) (FR.pure _)) ?_
  have hse := ge.size
  have hsd := g.size
  rw [if_pos (by show e.es.size < d.es.size / 4; omega)]
  refine FR.bind (FR.rule _) ?_
  refine FR.bind (fr_copyOf ho g (by omega) hn) ?_
  refine FR.bind (a := s.heap.objs.size) (s₁ := { s with heap := s.heap.push (fz (copySD (!w.params.followText "set-order") d)) }) (FR.pure _) ?_
  have hc1 : ∀ o, (s.heap.push o).get? c = some (fz e) := fun o => Heap.get?_push_of_some _ hc
  have hr1 : ∀ o, (s.heap.push (fz o)).get? s.heap.objs.size = some (fz o) := fun o => fz_push
  refine FR.bind (a := ()) (s₁ := { s with heap := s.heap.push (fz (actDif w (!w.params.followText "set-order") c d e)) }) ?_ (FR.pure _)
  refine FR.holding _ ?_
  unfold Builtin.Frozenset.differenceUpdate
  rw [if_neg (by simp; exact Nat.ne_of_lt hcc)]
  refine FR.bind (fr_isAny (hc1 _)) ?_
  simp only [↓reduceIte]
  refine FR.bind (a := c) (s₁ := { s with heap := s.heap.push (fz (copySD (!w.params.followText "set-order") d)) }) (FR.pure _) ?_
  refine FR.bind (a := e.es.size) (s₁ := { s with heap := s.heap.push (fz (copySD (!w.params.followText "set-order") d)) }) (FR.bind (fr_setEntries (hc1 _) ge.1) (FR.pure _)) ?_
  refine FR.bind (a := (copySD (!w.params.followText "set-order") d).es.size) (s₁ := { s with heap := s.heap.push (fz (copySD (!w.params.followText "set-order") d)) }) (FR.bind (fr_setEntries (hr1 _) gc.1) (FR.pure _)) ?_
  rw [if_neg (by show ¬ (copySD _ d).es.size < e.es.size / 8; omega)]
  refine FR.bind (fr_setEpoch (hc1 _) ge.1) ?_
  refine FR.bind (a := ()) (s₁ := { s with heap := s.heap.push (fz (actDif w (!w.params.followText "set-order") c d e)) }) ?_ ?_
  · refine FR.holding _ ?_
    refine FR.bind (fr_setWalkUnseen (hc1 _) ge.1 ge.signs (hr1 _) gc.1 gc.signs) ?_
    refine FR.bind (a := PUnit.unit) (s₁ := { s with heap := s.heap.push (fz (actDif w (!w.params.followText "set-order") c d e)) }) ?_ (FR.pure _)
    refine fr_loopA (I := fun l => { s with heap := s.heap.push (fz (dropAll (copySD (!w.params.followText "set-order") d) l)) }) fun p1 x p2 hsp => ?_
    have hmem1 : ∀ y ∈ p1, ∃ c, signOf y.2 = some c ∧ ∃ u ∈ La, signOf u = some c := fun y hy => hmemx y (by rw [hsp]; exact List.mem_append_left _ hy)
    obtain ⟨cx, hcx, hux⟩ := hmemx x (by rw [hsp]; simp)
    rw [hsp, List.map_append, List.map_append, List.nodup_append] at hnd
    obtain ⟨hn1, hn2, hn3⟩ := hnd
    obtain ⟨g1, m1, k1⟩ := dropAll_ok p1 (copySD (!w.params.followText "set-order") d) La gc hmem1 hn1
    have hhas := keepNots_prefix (La := La) (p1 := p1) (x := x) hux hcx (fun y hy => (hmem1 y hy).imp fun _ q => q.1) fun y hy q =>
      hn3 _ (List.mem_map_of_mem (List.mem_map_of_mem hy)) _ (List.mem_map_of_mem (List.mem_map_of_mem (List.mem_cons_self))) (by rw [q, hcx])
    obtain ⟨u, hu⟩ := signOf_str hcx
    obtain ⟨h, v⟩ := x
    dsimp only at hu hcx ⊢
    subst hu
    have hdis := fr_discard (p := p) (w := w) (ann := ann) (b := b) (n₀ := n₀) (u := u) (h := h) (s := { s with heap := s.heap.push (fz (dropAll (copySD (!w.params.followText "set-order") d) p1)) }) (hr1 _) g1 hhas hn
    dsimp only at hdis
    rw [heap_push_upd] at hdis
    have hfold : dropAll (copySD (!w.params.followText "set-order") d) (p1 ++ [(h, .str ⟨#[cx]⟩ u)]) = actDrop (dropAll (copySD (!w.params.followText "set-order") d) p1) (.str ⟨#[cx]⟩ u) := by
      unfold dropAll; rw [List.foldl_append]; rfl
    rw [hfold]
    refine FR.bind (FR.holding _ hdis) ?_
    refine FR.bind (a := ()) (s₁ := { s with heap := s.heap.push (fz (actDrop (dropAll (copySD (!w.params.followText "set-order") d) p1) (.str ⟨#[cx]⟩ u))) }) ?_ (FR.pure _)
    unfold Builtin.Frozenset.unchanged
    refine FR.bind (fr_setEpoch (hc1 _) ge.1) ?_
    rw [if_neg (by simp)]
    exact FR.pure _
  · unfold setTidy
    have gF' : GD (actDif w (!w.params.followText "set-order") c d e) (minus La Lc) := hminus ▸ gF
    refine FR.bind (fr_setState (hr1 _) gF'.1) ?_
    dsimp only
    rw [if_neg]
    · exact FR.pure _
    · have k2 : (actDif w (!w.params.followText "set-order") c d e).tb.dummies.size = Lc.length := by
        unfold actDif
        rw [kF, gd, hlen]
        show 0 + _ = _
        omega
      have m2 : (actDif w (!w.params.followText "set-order") c d e).tb.mask = 127 := by
        unfold actDif
        rw [mF, gm, if_neg (by omega)]
      unfold SetTable.tooManyDummies
      rw [k2, m2, decide_eq_true_eq]
      omega
end
def acts (w : World) : Acts := ⟨actAdd, actUni (!w.params.followText "set-order"), actDif w (!w.params.followText "set-order")⟩
theorem acts_ok (p : Program) (w : World) (n₀ : Nat) (ann : Option Value) : ActsOk p w n₀ ann (acts w) where
  add _ _ _ _ _ _ _ ho g ok ha := ⟨actAdd_GD g ok, fr_addHashed ho g ok ha⟩
  uni _ _ _ _ _ _ _ _ ho g hc ge ok hl hne hn := ⟨actUni_GD g ge ok hl, fr_or ho g hc ge ok hl hne hn⟩
  dif _ _ _ _ _ _ _ _ ho g hc ge hw hlc hl _ hn := fr_sub ho g hc ge hw hlc hl hn
end Mine

end

-- part SSpec
open PySem PySem.W
set_option maxRecDepth 100000
noncomputable section
namespace Mine
def obB_11 (P : Params) : Obj := ⟨(.type "tuple"), none, (.seq #[] 0), #[]⟩
def obB_12 (P : Params) : Obj := ⟨.none, none, (.fields #[]), #[]⟩
def obB_13 (P : Params) : Obj := ⟨(.type "code"), none, (.fields #[(.str (Str.ofString "<module>") 182), (.str (Str.ofString "<module>") 183), (.str (Str.ofString "/claim/cut.py") 184), (.int 1 0), (.int 0 0), (.int 0 0), (.int 0 0), (.int 0 0), (.ref 11), (.bool false), (.int 181 0), (.ref 12), .none, .none, .none, .none, (.int 185 0), (.int 1 0), (.str (Str.ofString "/claim/cut.py") 186)]), #[]⟩
def obB_14 (P : Params) : Obj := ⟨(.type "frame"), none, .plain, #[(some (.ref 13)), (some (.ref 3)), (some (.ref 3)), none, (some (.str (Str.ofString "__main__") 164)), none, (some (.ref 0))]⟩
def treeB (P : Params) (D : Nat → SD) : BT := (.node (boot_o_0 P) (.node (boot_o_1 P) (.node (boot_o_3 P) (.node (boot_o_7 P) .nil .nil) (.node (obB_11 P) .nil .nil)) (.node (boot_o_5 P) (.node (boot_o_9 P) .nil .nil) (.node (obB_13 P) .nil .nil))) (.node (boot_o_2 P) (.node (boot_o_4 P) (.node (boot_o_8 P) .nil .nil) (.node (obB_12 P) .nil .nil)) (.node (boot_o_6 P) (.node (boot_o_10 P) .nil .nil) (.node (obB_14 P) .nil .nil))))
/-- state B: 15 objects, toks 187 gens 0 -/
def stB (w : World) (D : Nat → SD) (os : OsState) : SharedT := ⟨treeB w.params D, 15, (boot_heap w.params).life, #[], boot_drawn, 187, os⟩
def ob2_3 (P : Params) : Obj := ⟨(.type "dict"), none, (.dict #[⟨PyData.keyHash P (Str.ofString "__name__"), (.str (Str.ofString "__name__") 165), (.str (Str.ofString "cpy313.tomllib._parser") 234)⟩, ⟨PyData.keyHash P (Str.ofString "__doc__"), (.str (Str.ofString "__doc__") 166), .none⟩, ⟨PyData.keyHash P (Str.ofString "__package__"), (.str (Str.ofString "__package__") 167), .none⟩, ⟨PyData.keyHash P (Str.ofString "__loader__"), (.str (Str.ofString "__loader__") 168), (.builtin "__main__.__loader__#opaque")⟩, ⟨PyData.keyHash P (Str.ofString "__spec__"), (.str (Str.ofString "__spec__") 169), .none⟩, ⟨PyData.keyHash P (Str.ofString "__annotations__"), (.str (Str.ofString "__annotations__") 170), (.ref 6)⟩, ⟨PyData.keyHash P (Str.ofString "__builtins__"), (.str (Str.ofString "__builtins__") 171), (.ref 4)⟩, ⟨PyData.keyHash P (Str.ofString "__file__"), (.str (Str.ofString "__file__") 173), (.str (Str.ofString "/claim/cut.py") 172)⟩, ⟨PyData.keyHash P (Str.ofString "__cached__"), (.str (Str.ofString "__cached__") 174), .none⟩, ⟨PyData.keyHash P (Str.ofString "_wall"), (.str (Str.ofString "_wall") 193), (.ref 21)⟩, ⟨PyData.keyHash P (Str.ofString "_WallAttr"), (.str (Str.ofString "_WallAttr") 233), (.ref 46)⟩] 11), #[]⟩
def ob2_12 (P : Params) : Obj := ⟨.none, none, (.fields #[(.int 1 0), (.int 0 0), (.ref 20), (.int 4 0), (.int 0 0), (.ref 27)]), #[]⟩
def ob2_15 (P : Params) : Obj := ⟨(.type "tuple"), none, (.seq #[] 0), #[]⟩
def ob2_16 (P : Params) : Obj := ⟨.none, none, (.fields #[]), #[]⟩
def ob2_17 (P : Params) : Obj := ⟨(.type "tuple"), none, (.seq #[(.str (Str.ofString "k") 190)] 0), #[]⟩
def ob2_18 (P : Params) : Obj := ⟨(.type "tuple"), none, (.seq #[] 0), #[]⟩
def ob2_19 (P : Params) : Obj := ⟨.none, none, (.func (fd (fnAt 0) (Str.ofString "_wall") (Str.ofString "_wall") 0 [] .none .none .none .none none .none .none 0)), #[]⟩
def ob2_20 (P : Params) : Obj := ⟨(.type "code"), none, (.fields #[(.str (Str.ofString "_wall") 187), (.str (Str.ofString "_wall") 188), (.str (Str.ofString "/claim/cut.py") 189), (.int 1 0), (.int 1 0), (.int 0 0), (.int 0 0), (.int 3 0), (.ref 15), (.bool true), (.int 181 0), (.ref 16), .none, (.ref 17), (.ref 18), (.ref 19), (.int 191 0), (.int 1 0), (.str (Str.ofString "/claim/cut.py") 192)]), #[]⟩
def ob2_21 (P : Params) : Obj := ⟨(.type "function"), none, (.func (fd (fnAt 0) (Str.ofString "_wall") (Str.ofString "_wall") 3 [] .none .none .none (.str (Str.ofString "__main__") 164) none (.ref 20) .none 0)), #[]⟩
def ob2_22 (P : Params) : Obj := ⟨(.type "tuple"), none, (.seq #[] 0), #[]⟩
def ob2_23 (P : Params) : Obj := ⟨(.type "builtin_function_or_method"), none, (.fields #[(.builtin "type.__prepare__"), (.type "type")]), #[]⟩
def ob2_24 (P : Params) : Obj := ⟨(.type "dict"), none, (.dict #[⟨PyData.keyHash P (Str.ofString "__module__"), (.str (Str.ofString "__module__") 201), (.str (Str.ofString "__main__") 164)⟩, ⟨PyData.keyHash P (Str.ofString "__qualname__"), (.str (Str.ofString "__qualname__") 203), (.str (Str.ofString "_WallAttr") 202)⟩, ⟨PyData.keyHash P (Str.ofString "__firstlineno__"), (.str (Str.ofString "__firstlineno__") 205), (.int 4 204)⟩, ⟨PyData.keyHash P (Str.ofString "__init__"), (.str (Str.ofString "__init__") 213), (.ref 35)⟩, ⟨PyData.keyHash P (Str.ofString "__get__"), (.str (Str.ofString "__get__") 222), (.ref 43)⟩, ⟨PyData.keyHash P (Str.ofString "__set__"), (.str (Str.ofString "__set__") 223), (.ref 43)⟩, ⟨PyData.keyHash P (Str.ofString "__delete__"), (.str (Str.ofString "__delete__") 224), (.ref 43)⟩, ⟨PyData.keyHash P (Str.ofString "__static_attributes__"), (.str (Str.ofString "__static_attributes__") 226), (.ref 44)⟩] 8), #[]⟩
def ob2_25 (P : Params) : Obj := ⟨(.type "tuple"), none, (.seq #[] 0), #[]⟩
def ob2_26 (P : Params) : Obj := ⟨.none, none, (.fields #[(.int 5 0), (.int 4 0), (.ref 34), (.int 7 0), (.int 4 0), (.ref 42)]), #[]⟩
def ob2_27 (P : Params) : Obj := ⟨(.type "code"), none, (.fields #[(.str (Str.ofString "_WallAttr") 196), (.str (Str.ofString "_WallAttr") 197), (.str (Str.ofString "/claim/cut.py") 198), (.int 4 0), (.int 0 0), (.int 0 0), (.int 0 0), (.int 0 0), (.ref 25), (.bool false), (.int 181 0), (.ref 26), .none, .none, .none, .none, (.int 199 0), (.int 4 0), (.str (Str.ofString "/claim/cut.py") 200)]), #[]⟩
def ob2_28 (P : Params) : Obj := ⟨(.type "frame"), none, .plain, #[(some (.ref 27)), (some (.ref 3)), (some (.ref 24)), none, (some (.str (Str.ofString "__main__") 164)), none, (some (.ref 0))]⟩
def ob2_29 (P : Params) : Obj := ⟨(.type "tuple"), none, (.seq #[] 0), #[]⟩
def ob2_30 (P : Params) : Obj := ⟨.none, none, (.fields #[]), #[]⟩
def ob2_31 (P : Params) : Obj := ⟨(.type "tuple"), none, (.seq #[(.str (Str.ofString "self") 209), (.str (Str.ofString "k") 210)] 0), #[]⟩
def ob2_32 (P : Params) : Obj := ⟨(.type "tuple"), none, (.seq #[] 0), #[]⟩
def ob2_33 (P : Params) : Obj := ⟨.none, none, (.func (fd (fnIn 1 0) (Str.ofString "__init__") (Str.ofString "_WallAttr.__init__") 0 [] .none .none .none .none none .none .none 0)), #[]⟩
def ob2_34 (P : Params) : Obj := ⟨(.type "code"), none, (.fields #[(.str (Str.ofString "__init__") 206), (.str (Str.ofString "_WallAttr.__init__") 207), (.str (Str.ofString "/claim/cut.py") 208), (.int 5 0), (.int 2 0), (.int 0 0), (.int 0 0), (.int 3 0), (.ref 29), (.bool true), (.int 181 0), (.ref 30), .none, (.ref 31), (.ref 32), (.ref 33), (.int 211 0), (.int 5 0), (.str (Str.ofString "/claim/cut.py") 212)]), #[]⟩
def ob2_35 (P : Params) : Obj := ⟨(.type "function"), none, (.func (fd (fnIn 1 0) (Str.ofString "__init__") (Str.ofString "_WallAttr.__init__") 3 [] .none .none .none (.str (Str.ofString "__main__") 164) none (.ref 34) .none 0)), #[]⟩
def ob2_36 (P : Params) : Obj := ⟨(.type "tuple"), none, (.seq #[.none] 0), #[]⟩
def ob2_37 (P : Params) : Obj := ⟨(.type "tuple"), none, (.seq #[] 0), #[]⟩
def ob2_38 (P : Params) : Obj := ⟨.none, none, (.fields #[]), #[]⟩
def ob2_39 (P : Params) : Obj := ⟨(.type "tuple"), none, (.seq #[(.str (Str.ofString "self") 217), (.str (Str.ofString "o") 218), (.str (Str.ofString "t") 219)] 0), #[]⟩
def ob2_40 (P : Params) : Obj := ⟨(.type "tuple"), none, (.seq #[] 0), #[]⟩
def ob2_41 (P : Params) : Obj := ⟨.none, none, (.func (fd (fnIn 1 1) (Str.ofString "__get__") (Str.ofString "_WallAttr.__get__") 0 [] .none .none .none .none none .none .none 0)), #[]⟩
def ob2_42 (P : Params) : Obj := ⟨(.type "code"), none, (.fields #[(.str (Str.ofString "__get__") 214), (.str (Str.ofString "_WallAttr.__get__") 215), (.str (Str.ofString "/claim/cut.py") 216), (.int 7 0), (.int 3 0), (.int 0 0), (.int 0 0), (.int 3 0), (.ref 37), (.bool true), (.int 181 0), (.ref 38), .none, (.ref 39), (.ref 40), (.ref 41), (.int 220 0), (.int 7 0), (.str (Str.ofString "/claim/cut.py") 221)]), #[]⟩
def ob2_43 (P : Params) : Obj := ⟨(.type "function"), none, (.func (fd (fnIn 1 1) (Str.ofString "__get__") (Str.ofString "_WallAttr.__get__") 3 [] (.ref 36) .none .none (.str (Str.ofString "__main__") 164) none (.ref 42) .none 0)), #[]⟩
def ob2_44 (P : Params) : Obj := ⟨(.type "tuple"), none, (.seq #[(.str (Str.ofString "k") 225)] 0), #[]⟩
def ob2_45 (P : Params) : Obj := ⟨(.type "dict"), none, (.dict #[⟨PyData.keyHash P (Str.ofString "__module__"), (.str (Str.ofString "__module__") 201), (.str (Str.ofString "__main__") 164)⟩, ⟨PyData.keyHash P (Str.ofString "__firstlineno__"), (.str (Str.ofString "__firstlineno__") 205), (.int 4 204)⟩, ⟨PyData.keyHash P (Str.ofString "__init__"), (.str (Str.ofString "__init__") 213), (.ref 35)⟩, ⟨PyData.keyHash P (Str.ofString "__get__"), (.str (Str.ofString "__get__") 222), (.ref 43)⟩, ⟨PyData.keyHash P (Str.ofString "__set__"), (.str (Str.ofString "__set__") 223), (.ref 43)⟩, ⟨PyData.keyHash P (Str.ofString "__delete__"), (.str (Str.ofString "__delete__") 224), (.ref 43)⟩, ⟨PyData.keyHash P (Str.ofString "__static_attributes__"), (.str (Str.ofString "__static_attributes__") 226), (.ref 44)⟩, ⟨PyData.keyHash P (Str.ofString "__dict__"), (.str (Str.ofString "__dict__") 228), (.ref 47)⟩, ⟨PyData.keyHash P (Str.ofString "__weakref__"), (.str (Str.ofString "__weakref__") 230), (.ref 48)⟩, ⟨PyData.keyHash P (Str.ofString "__doc__"), (.str (Str.ofString "__doc__") 231), .none⟩] 4), #[]⟩
def ob2_46 (P : Params) : Obj := ⟨(.type "type"), none, (.cls { name := (Str.ofString "_WallAttr"), bases := [(.type "object")], mro := [(.ref 46), (.type "object")], ns := 45, qualname := (Str.ofString "_WallAttr"), hasDict := true, slotNames := [], subclasses := [], abstract := false, collection := none, hasDel := false }), #[none, none, (some (.str (Str.ofString "_WallAttr") 194)), (some (.str (Str.ofString "_WallAttr") 202)), (some (.builtin "object.__new__")), (some (.bool true))]⟩
def ob2_47 (P : Params) : Obj := ⟨(.type "getset_descriptor"), none, (.fields #[(.str (Str.ofString "__dict__") 227), (.ref 46), (.builtin "function.__dict__"), (.builtin "function.__dict__#set")]), #[]⟩
def ob2_48 (P : Params) : Obj := ⟨(.type "getset_descriptor"), none, (.fields #[(.str (Str.ofString "__weakref__") 229), (.ref 46), (.builtin "ExceptionGroup.__weakref__"), .none]), #[]⟩
def ob2_49 (P : Params) : Obj := ⟨(.type "super"), none, (.fields #[(.ref 46), (.ref 46), (.ref 46)]), #[]⟩
def ob2_50 (P : Params) : Obj := ⟨(.type "builtin_function_or_method"), none, (.fields #[(.builtin "object.__init_subclass__"), (.ref 46)]), #[]⟩
def tree2 (P : Params) (D : Nat → SD) : BT := (.node (boot_o_0 P) (.node (boot_o_1 P) (.node (ob2_3 P) (.node (boot_o_7 P) (.node (ob2_15 P) (.node (ob2_31 P) .nil .nil) (.node (ob2_47 P) .nil .nil)) (.node (ob2_23 P) (.node (ob2_39 P) .nil .nil) .nil)) (.node (obB_11 P) (.node (ob2_19 P) (.node (ob2_35 P) .nil .nil) .nil) (.node (ob2_27 P) (.node (ob2_43 P) .nil .nil) .nil))) (.node (boot_o_5 P) (.node (boot_o_9 P) (.node (ob2_17 P) (.node (ob2_33 P) .nil .nil) (.node (ob2_49 P) .nil .nil)) (.node (ob2_25 P) (.node (ob2_41 P) .nil .nil) .nil)) (.node (obB_13 P) (.node (ob2_21 P) (.node (ob2_37 P) .nil .nil) .nil) (.node (ob2_29 P) (.node (ob2_45 P) .nil .nil) .nil)))) (.node (boot_o_2 P) (.node (boot_o_4 P) (.node (boot_o_8 P) (.node (ob2_16 P) (.node (ob2_32 P) .nil .nil) (.node (ob2_48 P) .nil .nil)) (.node (ob2_24 P) (.node (ob2_40 P) .nil .nil) .nil)) (.node (ob2_12 P) (.node (ob2_20 P) (.node (ob2_36 P) .nil .nil) .nil) (.node (ob2_28 P) (.node (ob2_44 P) .nil .nil) .nil))) (.node (boot_o_6 P) (.node (boot_o_10 P) (.node (ob2_18 P) (.node (ob2_34 P) .nil .nil) (.node (ob2_50 P) .nil .nil)) (.node (ob2_26 P) (.node (ob2_42 P) .nil .nil) .nil)) (.node (obB_14 P) (.node (ob2_22 P) (.node (ob2_38 P) .nil .nil) .nil) (.node (ob2_30 P) (.node (ob2_46 P) .nil .nil) .nil)))))
/-- state 2: 51 objects, toks 236 gens 0 -/
def st2 (w : World) (D : Nat → SD) (os : OsState) : SharedT := ⟨tree2 w.params D, 51, (boot_heap w.params).life, #[], boot_drawn, 236, os⟩
def ob3_3 (P : Params) : Obj := ⟨(.type "dict"), none, (.dict #[⟨PyData.keyHash P (Str.ofString "__name__"), (.str (Str.ofString "__name__") 165), (.str (Str.ofString "cpy313.tomllib._parser") 234)⟩, ⟨PyData.keyHash P (Str.ofString "__doc__"), (.str (Str.ofString "__doc__") 166), .none⟩, ⟨PyData.keyHash P (Str.ofString "__package__"), (.str (Str.ofString "__package__") 167), .none⟩, ⟨PyData.keyHash P (Str.ofString "__loader__"), (.str (Str.ofString "__loader__") 168), (.builtin "__main__.__loader__#opaque")⟩, ⟨PyData.keyHash P (Str.ofString "__spec__"), (.str (Str.ofString "__spec__") 169), .none⟩, ⟨PyData.keyHash P (Str.ofString "__annotations__"), (.str (Str.ofString "__annotations__") 170), (.ref 6)⟩, ⟨PyData.keyHash P (Str.ofString "__builtins__"), (.str (Str.ofString "__builtins__") 171), (.ref 4)⟩, ⟨PyData.keyHash P (Str.ofString "__file__"), (.str (Str.ofString "__file__") 173), (.str (Str.ofString "/claim/cut.py") 172)⟩, ⟨PyData.keyHash P (Str.ofString "__cached__"), (.str (Str.ofString "__cached__") 174), .none⟩, ⟨PyData.keyHash P (Str.ofString "_wall"), (.str (Str.ofString "_wall") 193), (.ref 21)⟩, ⟨PyData.keyHash P (Str.ofString "_WallAttr"), (.str (Str.ofString "_WallAttr") 233), (.ref 46)⟩, ⟨PyData.keyHash P (Str.ofString "ASCII_CTRL"), (.str (Str.ofString "ASCII_CTRL") 379), (.ref 67)⟩] 12), #[]⟩
def ob3_12 (P : Params) : Obj := ⟨.none, none, (.fields #[(.int 1 0), (.int 0 0), (.ref 20), (.int 4 0), (.int 0 0), (.ref 27), (.int 11 0), (.int 23 0), (.ref 55)]), #[]⟩
def ob3_51 (P : Params) : Obj := ⟨(.type "range"), none, (.fields #[(.int 0 237), (.int 32 236), (.int 1 238)]), #[]⟩
def ob3_52 (P : Params) : Obj := ⟨(.type "range_iterator"), none, (.fields #[(.int 32 0), (.int 0 0), (.int 1 0)]), #[]⟩
def ob3_53 (P : Params) : Obj := ⟨(.type "tuple"), none, (.seq #[] 0), #[]⟩
def ob3_54 (P : Params) : Obj := ⟨.none, none, (.fields #[]), #[]⟩
def ob3_55 (P : Params) : Obj := ⟨(.type "code"), none, (.fields #[(.str (Str.ofString "<genexpr>") 239), (.str (Str.ofString "<genexpr>") 240), (.str (Str.ofString "/claim/cut.py") 241), (.int 11 0), (.int 1 0), (.int 0 0), (.int 0 0), (.int 35 0), (.ref 53), (.bool true), (.int 181 0), (.ref 54), .none, .none, .none, .none, (.int 242 0), (.int 11 0), (.str (Str.ofString "/claim/cut.py") 243)]), #[]⟩
def ob3_56 (P : Params) : Obj := ⟨(.type "frame"), none, (.dict #[⟨PyData.keyHash P (Str.ofString ".0"), (.str (Str.ofString ".0") 244), (.ref 52)⟩, ⟨PyData.keyHash P (Str.ofString "i"), (.str (Str.ofString "i") 248), (.int 31 371)⟩] 2), #[]⟩
def ob3_57 (P : Params) : Obj := ⟨(.type "generator"), none, (.fields #[(.int 0 0), (.str (Str.ofString "<genexpr>") 245), (.str (Str.ofString "<genexpr>") 246)]), #[]⟩
def ob3_59 (P : Params) : Obj := ⟨(.type "tuple"), none, (.seq #[] 0), #[]⟩
def ob3_60 (P : Params) : Obj := ⟨(.type "StopIteration"), none, (.fields #[(.ref 59), .none, .none, .none, (.bool false), .none]), #[]⟩
def ob3_61 (P : Params) : Obj := ⟨(.type "tuple"), none, (.seq #[] 0), #[]⟩
def ob3_62 (P : Params) : Obj := ⟨(.type "StopIteration"), none, (.fields #[(.ref 61), .none, .none, .none, (.bool false), .none]), #[]⟩
def ob3_64 (P : Params) : Obj := ⟨(.type "str_ascii_iterator"), none, (.fields #[.none, (.int 1 0)]), #[]⟩
def ob3_65 (P : Params) : Obj := ⟨(.type "tuple"), none, (.seq #[] 0), #[]⟩
def ob3_66 (P : Params) : Obj := ⟨(.type "StopIteration"), none, (.fields #[(.ref 65), .none, .none, .none, (.bool false), .none]), #[]⟩
def tree3 (P : Params) (D : Nat → SD) : BT := (.node (boot_o_0 P) (.node (boot_o_1 P) (.node (ob3_3 P) (.node (boot_o_7 P) (.node (ob2_15 P) (.node (ob2_31 P) (.node (fz (D 63)) .nil .nil) .nil) (.node (ob2_47 P) .nil .nil)) (.node (ob2_23 P) (.node (ob2_39 P) .nil .nil) (.node (ob3_55 P) .nil .nil))) (.node (obB_11 P) (.node (ob2_19 P) (.node (ob2_35 P) (.node (fz (D 67)) .nil .nil) .nil) (.node (ob3_51 P) .nil .nil)) (.node (ob2_27 P) (.node (ob2_43 P) .nil .nil) (.node (ob3_59 P) .nil .nil)))) (.node (boot_o_5 P) (.node (boot_o_9 P) (.node (ob2_17 P) (.node (ob2_33 P) (.node (ob3_65 P) .nil .nil) .nil) (.node (ob2_49 P) .nil .nil)) (.node (ob2_25 P) (.node (ob2_41 P) .nil .nil) (.node (ob3_57 P) .nil .nil))) (.node (obB_13 P) (.node (ob2_21 P) (.node (ob2_37 P) .nil .nil) (.node (ob3_53 P) .nil .nil)) (.node (ob2_29 P) (.node (ob2_45 P) .nil .nil) (.node (ob3_61 P) .nil .nil))))) (.node (boot_o_2 P) (.node (boot_o_4 P) (.node (boot_o_8 P) (.node (ob2_16 P) (.node (ob2_32 P) (.node (ob3_64 P) .nil .nil) .nil) (.node (ob2_48 P) .nil .nil)) (.node (ob2_24 P) (.node (ob2_40 P) .nil .nil) (.node (ob3_56 P) .nil .nil))) (.node (ob3_12 P) (.node (ob2_20 P) (.node (ob2_36 P) .nil .nil) (.node (ob3_52 P) .nil .nil)) (.node (ob2_28 P) (.node (ob2_44 P) .nil .nil) (.node (ob3_60 P) .nil .nil)))) (.node (boot_o_6 P) (.node (boot_o_10 P) (.node (ob2_18 P) (.node (ob2_34 P) (.node (ob3_66 P) .nil .nil) .nil) (.node (ob2_50 P) .nil .nil)) (.node (ob2_26 P) (.node (ob2_42 P) .nil .nil) (.node (fz (D 58)) .nil .nil))) (.node (obB_14 P) (.node (ob2_22 P) (.node (ob2_38 P) .nil .nil) (.node (ob3_54 P) .nil .nil)) (.node (ob2_30 P) (.node (ob2_46 P) .nil .nil) (.node (ob3_62 P) .nil .nil))))))
/-- state 3: 68 objects, toks 380 gens 1 -/
def st3 (w : World) (D : Nat → SD) (os : OsState) : SharedT := ⟨tree3 w.params D, 68, (boot_heap w.params).life, #[.finished], boot_drawn, 380, os⟩
def ob11_3 (P : Params) : Obj := ⟨(.type "dict"), none, (.dict #[⟨PyData.keyHash P (Str.ofString "__name__"), (.str (Str.ofString "__name__") 165), (.str (Str.ofString "cpy313.tomllib._parser") 234)⟩, ⟨PyData.keyHash P (Str.ofString "__doc__"), (.str (Str.ofString "__doc__") 166), .none⟩, ⟨PyData.keyHash P (Str.ofString "__package__"), (.str (Str.ofString "__package__") 167), .none⟩, ⟨PyData.keyHash P (Str.ofString "__loader__"), (.str (Str.ofString "__loader__") 168), (.builtin "__main__.__loader__#opaque")⟩, ⟨PyData.keyHash P (Str.ofString "__spec__"), (.str (Str.ofString "__spec__") 169), .none⟩, ⟨PyData.keyHash P (Str.ofString "__annotations__"), (.str (Str.ofString "__annotations__") 170), (.ref 6)⟩, ⟨PyData.keyHash P (Str.ofString "__builtins__"), (.str (Str.ofString "__builtins__") 171), (.ref 4)⟩, ⟨PyData.keyHash P (Str.ofString "__file__"), (.str (Str.ofString "__file__") 173), (.str (Str.ofString "/claim/cut.py") 172)⟩, ⟨PyData.keyHash P (Str.ofString "__cached__"), (.str (Str.ofString "__cached__") 174), .none⟩, ⟨PyData.keyHash P (Str.ofString "_wall"), (.str (Str.ofString "_wall") 193), (.ref 21)⟩, ⟨PyData.keyHash P (Str.ofString "_WallAttr"), (.str (Str.ofString "_WallAttr") 233), (.ref 46)⟩, ⟨PyData.keyHash P (Str.ofString "ASCII_CTRL"), (.str (Str.ofString "ASCII_CTRL") 379), (.ref 67)⟩, ⟨PyData.keyHash P (Str.ofString "ILLEGAL_BASIC_STR_CHARS"), (.str (Str.ofString "ILLEGAL_BASIC_STR_CHARS") 383), (.ref 72)⟩, ⟨PyData.keyHash P (Str.ofString "ILLEGAL_MULTILINE_BASIC_STR_CHARS"), (.str (Str.ofString "ILLEGAL_MULTILINE_BASIC_STR_CHARS") 389), (.ref 77)⟩, ⟨PyData.keyHash P (Str.ofString "ILLEGAL_MULTILINE_LITERAL_STR_CHARS"), (.str (Str.ofString "ILLEGAL_MULTILINE_LITERAL_STR_CHARS") 390), (.ref 77)⟩, ⟨PyData.keyHash P (Str.ofString "TOML_WS"), (.str (Str.ofString "TOML_WS") 396), (.ref 78)⟩, ⟨PyData.keyHash P (Str.ofString "TOML_WS_AND_NEWLINE"), (.str (Str.ofString "TOML_WS_AND_NEWLINE") 400), (.ref 86)⟩, ⟨PyData.keyHash P (Str.ofString "digits"), (.str (Str.ofString "digits") 402), (.str (Str.ofString "0123456789") 401)⟩, ⟨PyData.keyHash P (Str.ofString "hexdigits"), (.str (Str.ofString "hexdigits") 407), (.str (Str.ofString "0123456789abcdefABCDEF") 406)⟩, ⟨PyData.keyHash P (Str.ofString "HEXDIGIT_CHARS"), (.str (Str.ofString "HEXDIGIT_CHARS") 452), (.ref 87)⟩] 20), #[]⟩
def ob11_69 (P : Params) : Obj := ⟨(.type "str_ascii_iterator"), none, (.fields #[.none, (.int 1 0)]), #[]⟩
def ob11_70 (P : Params) : Obj := ⟨(.type "tuple"), none, (.seq #[] 0), #[]⟩
def ob11_71 (P : Params) : Obj := ⟨(.type "StopIteration"), none, (.fields #[(.ref 70), .none, .none, .none, (.bool false), .none]), #[]⟩
def ob11_74 (P : Params) : Obj := ⟨(.type "str_ascii_iterator"), none, (.fields #[.none, (.int 2 0)]), #[]⟩
def ob11_75 (P : Params) : Obj := ⟨(.type "tuple"), none, (.seq #[] 0), #[]⟩
def ob11_76 (P : Params) : Obj := ⟨(.type "StopIteration"), none, (.fields #[(.ref 75), .none, .none, .none, (.bool false), .none]), #[]⟩
def ob11_79 (P : Params) : Obj := ⟨(.type "str_ascii_iterator"), none, (.fields #[.none, (.int 2 0)]), #[]⟩
def ob11_80 (P : Params) : Obj := ⟨(.type "tuple"), none, (.seq #[] 0), #[]⟩
def ob11_81 (P : Params) : Obj := ⟨(.type "StopIteration"), none, (.fields #[(.ref 80), .none, .none, .none, (.bool false), .none]), #[]⟩
def ob11_83 (P : Params) : Obj := ⟨(.type "str_ascii_iterator"), none, (.fields #[.none, (.int 1 0)]), #[]⟩
def ob11_84 (P : Params) : Obj := ⟨(.type "tuple"), none, (.seq #[] 0), #[]⟩
def ob11_85 (P : Params) : Obj := ⟨(.type "StopIteration"), none, (.fields #[(.ref 84), .none, .none, .none, (.bool false), .none]), #[]⟩
def ob11_88 (P : Params) : Obj := ⟨(.type "str_ascii_iterator"), none, (.fields #[.none, (.int 22 0)]), #[]⟩
def ob11_89 (P : Params) : Obj := ⟨(.type "tuple"), none, (.seq #[] 0), #[]⟩
def ob11_90 (P : Params) : Obj := ⟨(.type "StopIteration"), none, (.fields #[(.ref 89), .none, .none, .none, (.bool false), .none]), #[]⟩
def tree11 (P : Params) (D : Nat → SD) : BT := (.node (boot_o_0 P) (.node (boot_o_1 P) (.node (ob11_3 P) (.node (boot_o_7 P) (.node (ob2_15 P) (.node (ob2_31 P) (.node (fz (D 63)) .nil .nil) .nil) (.node (ob2_47 P) (.node (ob11_79 P) .nil .nil) .nil)) (.node (ob2_23 P) (.node (ob2_39 P) (.node (ob11_71 P) .nil .nil) .nil) (.node (ob3_55 P) (.node (fz (D 87)) .nil .nil) .nil))) (.node (obB_11 P) (.node (ob2_19 P) (.node (ob2_35 P) (.node (fz (D 67)) .nil .nil) .nil) (.node (ob3_51 P) (.node (ob11_83 P) .nil .nil) .nil)) (.node (ob2_27 P) (.node (ob2_43 P) (.node (ob11_75 P) .nil .nil) .nil) (.node (ob3_59 P) .nil .nil)))) (.node (boot_o_5 P) (.node (boot_o_9 P) (.node (ob2_17 P) (.node (ob2_33 P) (.node (ob3_65 P) .nil .nil) .nil) (.node (ob2_49 P) (.node (ob11_81 P) .nil .nil) .nil)) (.node (ob2_25 P) (.node (ob2_41 P) (.node (fz (D 73)) .nil .nil) .nil) (.node (ob3_57 P) (.node (ob11_89 P) .nil .nil) .nil))) (.node (obB_13 P) (.node (ob2_21 P) (.node (ob2_37 P) (.node (ob11_69 P) .nil .nil) .nil) (.node (ob3_53 P) (.node (ob11_85 P) .nil .nil) .nil)) (.node (ob2_29 P) (.node (ob2_45 P) (.node (fz (D 77)) .nil .nil) .nil) (.node (ob3_61 P) .nil .nil))))) (.node (boot_o_2 P) (.node (boot_o_4 P) (.node (boot_o_8 P) (.node (ob2_16 P) (.node (ob2_32 P) (.node (ob3_64 P) .nil .nil) .nil) (.node (ob2_48 P) (.node (ob11_80 P) .nil .nil) .nil)) (.node (ob2_24 P) (.node (ob2_40 P) (.node (fz (D 72)) .nil .nil) .nil) (.node (ob3_56 P) (.node (ob11_88 P) .nil .nil) .nil))) (.node (ob3_12 P) (.node (ob2_20 P) (.node (ob2_36 P) (.node (fz (D 68)) .nil .nil) .nil) (.node (ob3_52 P) (.node (ob11_84 P) .nil .nil) .nil)) (.node (ob2_28 P) (.node (ob2_44 P) (.node (ob11_76 P) .nil .nil) .nil) (.node (ob3_60 P) .nil .nil)))) (.node (boot_o_6 P) (.node (boot_o_10 P) (.node (ob2_18 P) (.node (ob2_34 P) (.node (ob3_66 P) .nil .nil) .nil) (.node (ob2_50 P) (.node (fz (D 82)) .nil .nil) .nil)) (.node (ob2_26 P) (.node (ob2_42 P) (.node (ob11_74 P) .nil .nil) .nil) (.node (fz (D 58)) (.node (ob11_90 P) .nil .nil) .nil))) (.node (obB_14 P) (.node (ob2_22 P) (.node (ob2_38 P) (.node (ob11_70 P) .nil .nil) .nil) (.node (ob3_54 P) (.node (fz (D 86)) .nil .nil) .nil)) (.node (ob2_30 P) (.node (ob2_46 P) (.node (fz (D 78)) .nil .nil) .nil) (.node (ob3_62 P) .nil .nil))))))
/-- state 11: 91 objects, toks 453 gens 1 -/
def st11 (w : World) (D : Nat → SD) (os : OsState) : SharedT := ⟨tree11 w.params D, 91, (boot_heap w.params).life, #[.finished], boot_drawn, 453, os⟩
def posAt : List Pos := [⟨0, 0, 0, 0⟩, ⟨1, 0, 3, 12⟩, ⟨4, 0, 9, 34⟩, ⟨10, 0, 10, 8⟩, ⟨11, 0, 11, 10⟩, ⟨12, 0, 12, 23⟩, ⟨13, 0, 13, 33⟩, ⟨14, 0, 14, 35⟩, ⟨15, 0, 15, 7⟩, ⟨16, 0, 16, 19⟩, ⟨17, 0, 17, 6⟩, ⟨18, 0, 18, 9⟩, ⟨19, 0, 19, 14⟩, ⟨20, 0, 20, 8⟩, ⟨21, 0, 21, 16⟩, ⟨22, 0, 22, 8⟩, ⟨23, 0, 23, 29⟩, ⟨24, 0, 25, 8⟩, ⟨26, 0, 32, 14⟩, ⟨33, 0, 44, 18⟩, ⟨45, 0, 67, 76⟩, ⟨68, 0, 69, 59⟩, ⟨70, 0, 78, 30⟩, ⟨79, 0, 97, 36⟩, ⟨98, 0, 127, 16⟩, ⟨128, 0, 139, 64⟩, ⟨140, 0, 141, 67⟩, ⟨142, 0, 142, 8⟩, ⟨143, 0, 143, 9⟩, ⟨144, 0, 144, 11⟩, ⟨145, 0, 145, 9⟩, ⟨146, 0, 146, 12⟩, ⟨147, 0, 147, 11⟩, ⟨148, 0, 148, 10⟩, ⟨149, 0, 150, 114⟩, ⟨151, 0, 165, 14⟩, ⟨166, 0, 186, 25⟩, ⟨187, 0, 198, 52⟩, ⟨199, 0, 214, 39⟩]
def posQ : Pos := ⟨0, 0, 0, 0⟩
-- code PySem.Value.ref 13 frame 14 ann some (PySem.Value.ref 6) m0 11 pre steps 12 pos ⟨0, 0, 0, 0⟩ block steps 0
end Mine

end

-- part A7
section
open PySem PySem.W PySem.Calls PyProof.Rows
set_option Elab.async false
set_option maxRecDepth 100000
namespace Mine
abbrev pwM : Program := PySem.Challenge.pw_fd5008_01
def stm (i : Nat) : List Stmt := (PySem.Challenge.pw_fd5008_01.main.body.drop i).take 1
def envM : Env := { scope := PySem.Challenge.pw_fd5008_01.main.scope, locals := mainNs, globals := mainNs, cells := [], code := .ref 13, frame := some 14 }
def codeM : Code := .body PySem.Challenge.pw_fd5008_01.main.body envM
def annM : Option Value := some (.ref 6)
def posK (i : Nat) : Pos := (posAt[i]?).getD default
def runS (A : Acts) (w : World) (l : List Stmt) (s : SharedT) (q : Pos) (g : Ghost) : Option (Flow × SharedT × Code × Pos × Ghost) :=
  runX A treeTable PySem.Challenge.pw_fd5008_01 w 11 annM 6000 1 s (piecesOf l envM codeM q [topFrame posQ]) g
end Mine

end

-- part Base
section
open PySem PySem.W PyProof.Rows PySem.Calls
set_option Elab.async false
set_option maxRecDepth 100000
namespace Mine
theorem kAs_eq : ∀ P, kAs = (KT P).map (·.1) := fun _ => by kernel_rfl
def qv : Program := view PySem.Challenge.pw_fd5008_01 [37]
def lo : List PySem.Str := [Str.ofString "_wall", Str.ofString "_WallAttr", Str.ofString "ASCII_CTRL", Str.ofString "ILLEGAL_BASIC_STR_CHARS", Str.ofString "ILLEGAL_MULTILINE_BASIC_STR_CHARS", Str.ofString "ILLEGAL_MULTILINE_LITERAL_STR_CHARS", Str.ofString "TOML_WS", Str.ofString "TOML_WS_AND_NEWLINE", Str.ofString "digits", Str.ofString "hexdigits", Str.ofString "HEXDIGIT_CHARS", Str.ofString "MappingProxyType", Str.ofString "BASIC_STR_ESCAPE_REPLACEMENTS", Str.ofString "TOMLDecodeError", Str.ofString "skip_chars", Str.ofString "skip_until", Str.ofString "parse_basic_str_escape", Str.ofString "parse_basic_str_escape_multiline", Str.ofString "parse_hex_char", Str.ofString "parse_multiline_str", Str.ofString "parse_basic_str", Str.ofString "suffixed_err", Str.ofString "is_unicode_scalar_value", Str.ofString "_law_MARK", Str.ofString "_law_MARKED", Str.ofString "_law_FEED", Str.ofString "_law_ESCAPED", Str.ofString "_law_LETTER", Str.ofString "_law_SLASH", Str.ofString "_law_signs", Str.ofString "_law_way", Str.ofString "_law_due", Str.ofString "_law_shortest"]
/-- what is asked of the set of refused signs: every element is an exact one-sign text of a control sign -/
def CtlData (d : Data) : Prop := ∃ es n t, d = .set es n t ∧ t.fits es.size = true ∧ es.size < 100 ∧ ∀ e ∈ es.toList, ∃ c u, e.2 = .str ⟨#[c]⟩ u ∧ (c < 9 ∨ (10 < c ∧ c < 32) ∨ c = 127)
def CtlAt (h : Heap) : Prop := ∃ d, h.get? 77 = some ⟨.type "frozenset", none, d, #[]⟩ ∧ CtlData d
def YPm (w : World) (h : Heap) : Prop := InK KT w h ∧ CtlAt h
theorem YPm.keeps (w : World) (h h' : Heap) (y : YPm w h) (k : ∀ b o, h.get? b = some o → h'.get? b = some o) : YPm w h' :=
  ⟨InK.keeps w h h' y.1 k, let ⟨d, a, b⟩ := y.2; ⟨d, k _ _ a, b⟩⟩
def lawDef : Option (DefRec × List (PySem.Str × PySem.Expr)) := defOf qv (Str.ofString "law")
end Mine

end

-- part A8
open PySem PySem.W PySem.Calls PyProof.Rows
set_option Elab.async false
set_option maxRecDepth 100000
noncomputable section
namespace Mine
def isCtl (v : Value) : Bool := match signOf v with
  | some c => Nat.blt c 9 || ((Nat.blt 10 c && Nat.blt c 32) || Nat.beq c 127)
  | none => false
def runAll (A : Acts) (w : World) (D : Nat → SD) (os : OsState) : Option (Flow × SharedT × Code × Pos × Ghost) :=
  runS A w PySem.Challenge.pw_fd5008_01.main.body (stB w D os) (posK 0) []
def xtM (s : Shared) : Bool := xlAt qv [] s && recOk (RowW.records (OpenLaw.row PySem.Challenge.rw_fd5008_01).toRowW) s
abbrev R5 := Flow × SharedT × Code × Pos × Ghost
def obsB (w : World) (r : R5) : Bool := staticsOk [] (boot_heap w.params) r.2.1.abs.heap && (namesBound PySem.Challenge.pw_fd5008_01 r.2.1.abs.heap && (gensDone r.2.1.abs && laidKept (boot_heap w.params) r.2.1.abs.heap))
def obsO (r : R5) := openSeen qv lo [] xtM false r.2.1.abs
def obsK (r : R5) : List (Option Obj) := kAs.map r.2.1.abs.heap.get?
def obsG (r : R5) : Bool := match ghGet 77 r.2.2.2.2 with
  | some L => L.all isCtl
  | none => false
end Mine

end

-- part E1
open PySem PySem.W PySem.Calls PyProof.Rows
set_option Elab.async false
set_option maxRecDepth 1000000
set_option maxHeartbeats 0
noncomputable section
namespace Mine
def endPos : Pos := ⟨199,0,214,39⟩
def goX (A : Acts) (w : World) (D : Nat → SD) (os : OsState) := (runAll A w D os).map fun r => (r.1, r.2.2.1, r.2.2.2.1, obsB w r, obsO r, obsK r, obsG r)
def rX (w : World) := some (Flow.next, codeM, endPos, true, openGood qv lo, (KT w.params).map (fun p => some p.2), true)
def dumX {α : Type} (_ : α) : Bool := true
theorem mkX : dumX goX = true := by k_qdec
theorem mkrX : dumX rX = true := by k_qdec
theorem ev_false_false (w : World) (A : Acts) (D : Nat → SD) (os : OsState) : goX A ((w.withFollow "special-get-raises" false).withFollow "comprehension-iter-twice" false) D os = rX ((w.withFollow "special-get-raises" false).withFollow "comprehension-iter-twice" false) := by
  rw [PySem.W.Fast.te16129552731209480396, PySem.W.Fast.te11060259720502869834]
  kernel_rfl
theorem ev_false_true (w : World) (A : Acts) (D : Nat → SD) (os : OsState) : goX A ((w.withFollow "special-get-raises" false).withFollow "comprehension-iter-twice" true) D os = rX ((w.withFollow "special-get-raises" false).withFollow "comprehension-iter-twice" true) := by
  rw [PySem.W.Fast.te16129552731209480396, PySem.W.Fast.te11060259720502869834]
  kernel_rfl
theorem ev_true_false (w : World) (A : Acts) (D : Nat → SD) (os : OsState) : goX A ((w.withFollow "special-get-raises" true).withFollow "comprehension-iter-twice" false) D os = rX ((w.withFollow "special-get-raises" true).withFollow "comprehension-iter-twice" false) := by
  rw [PySem.W.Fast.te16129552731209480396, PySem.W.Fast.te11060259720502869834]
  kernel_rfl
theorem ev_true_true (w : World) (A : Acts) (D : Nat → SD) (os : OsState) : goX A ((w.withFollow "special-get-raises" true).withFollow "comprehension-iter-twice" true) D os = rX ((w.withFollow "special-get-raises" true).withFollow "comprehension-iter-twice" true) := by
  rw [PySem.W.Fast.te16129552731209480396, PySem.W.Fast.te11060259720502869834]
  kernel_rfl
theorem ev_all (w : World) (A : Acts) (D : Nat → SD) (os : OsState) : goX A w D os = rX w :=
  byRow2 "comprehension-iter-twice" (P := fun w => goX A w D os = rX w)
    (fun w => byRow2 "special-get-raises" (P := fun v => goX A (v.withFollow "comprehension-iter-twice" false) D os = rX (v.withFollow "comprehension-iter-twice" false))
      (fun v => ev_false_false v A D os) (fun v => ev_true_false v A D os) w)
    (fun w => byRow2 "special-get-raises" (P := fun v => goX A (v.withFollow "comprehension-iter-twice" true) D os = rX (v.withFollow "comprehension-iter-twice" true))
      (fun v => ev_false_true v A D os) (fun v => ev_true_true v A D os) w) w
end Mine

end

-- part E2
open PySem PySem.W PySem.Calls PyProof.Rows
set_option Elab.async false
set_option maxRecDepth 1000000
noncomputable section
namespace Mine
def goT (w : World) (os : OsState) := topGo treeTable pwM w 11 annM 12 ⟨boot_heap w.params, #[], boot_drawn, boot_toks, os⟩ (topStub pwM)
def rT (w : World) (D : Nat → SD) (os : OsState) : Option (Shared × Thread) := some ((stB w D os).abs, ⟨denote treeTable codeM, codeM, ⟨0,0,0,0⟩, [topFrame posQ]⟩)
theorem mkT : dumX goT = true := by k_qdec
theorem mkrT : dumX rT = true := by k_qdec
theorem top_first (w : World) (D : Nat → SD) (os : OsState) : goT w os = rT w D os := by
  kernel_rfl
theorem block_zero (s : Shared) : segRun table pwM w 11 annM 1 1 s (blockOf pwM.main.body envM codeM ⟨0,0,0,0⟩ [topFrame posQ]) = some (.next, s, codeM, ⟨0,0,0,0⟩) := rfl
theorem fin_two (w : World) (s : Shared) : topRun table pwM w 11 annM 2 s ⟨doneF .next, codeM, endPos, [topFrame posQ]⟩ = some s := rfl
theorem imp_nil : importedModules pwM.main.body = [] := by kernel_rfl
theorem open_plain : opening pwM = plainProg pwM.main.scope.names := by kernel_rfl
theorem fence_plain (s : Shared) : fenceModules? pwM s = some s := by kernel_rfl
end Mine

end

-- part E3
open PySem PySem.W PySem.Calls PyProof.Rows
set_option Elab.async false
set_option maxRecDepth 100000
noncomputable section
namespace Mine
theorem pos_zero : posK 0 = ⟨0,0,0,0⟩ := by decide +kernel

theorem isCtl_spec {v : Value} (h : isCtl v = true) : ∃ c u, v = .str ⟨#[c]⟩ u ∧ (c < 9 ∨ (10 < c ∧ c < 32) ∨ c = 127) := by
  unfold isCtl at h
  split at h
  · rename_i c hc
    obtain ⟨u, hu⟩ := signOf_str hc
    refine ⟨c, u, hu, ?_⟩
    simp only [Bool.or_eq_true, Bool.and_eq_true, Nat.blt_eq] at h
    exact h.imp id (Or.imp id Nat.eq_of_beq_eq_true)
  · cases h

theorem ctl_of {s : Shared} {g : Ghost} (hi : Inv 11 g s) (h : (match ghGet 77 g with | some L => L.all isCtl | none => false) = true) : CtlAt s.heap := by
  split at h
  · rename_i L hL
    obtain ⟨_, d, hd, hg⟩ := hi 77 L hL
    refine ⟨_, hd, d.es, d.ep, d.tb, rfl, hg.1, hg.signs.1, fun e he => ?_⟩
    exact isCtl_spec (List.all_eq_true.mp h _ (hg.2.1.mem_iff.mp (List.mem_map_of_mem he)))
  · cases h

structure HeadLooks (w : World) (s : Shared) : Prop where
  look : (staticsOk [] (boot_heap w.params) s.heap && (namesBound pwM s.heap && (gensDone s && laidKept (boot_heap w.params) s.heap))) = true
  seen : openSeen qv lo [] xtM false s = openGood qv lo
  frag : YPm w s.heap

theorem head_run (w : World) (os : OsState) : ∃ N s, topRun table pwM w 11 annM N ⟨boot_heap w.params, #[], boot_drawn, boot_toks, os⟩ (topStub pwM) = some s ∧ HeadLooks w s := by
  let D : Nat → SD := fun _ => ⟨#[], 0, default⟩
  obtain ⟨⟨f, s', c', q', g'⟩, hr, e⟩ := Option.map_eq_some_iff.mp (ev_all w (acts w) D os)
  simp only [Prod.mk.injEq] at e
  obtain ⟨e1, e2, e3, e4, e5, e6, e7⟩ := e
  subst e1 e2 e3
  have hr' : runX (acts w) table pwM w 11 annM 6000 1 (stB w D os) (piecesOf pwM.main.body envM codeM (posK 0) [topFrame posQ]) [] = some (.next, s', codeM, endPos, g') := by
    rw [table_eq_tree]; exact hr
  obtain ⟨⟨N, hN⟩, hi, _⟩ := runX_sound (acts_ok pwM w 11 annM) _ _ _ _ _ _ _ _ _ _ hr' (fun a L h => by cases h) (by show 11 ≤ 15; decide)
  rw [pos_zero] at hN
  have t1 := piece_app (env := envM) (rest := []) (q := posQ) hN (piece_nil (fin_two w s'.abs))
  rw [List.append_nil] at t1
  have t2 := piece_block (block_zero (w := w) (stB w D os).abs) t1
  have t3 : topGo table pwM w 11 annM 12 ⟨boot_heap w.params, #[], boot_drawn, boot_toks, os⟩ (topStub pwM) = some ((stB w D os).abs, ⟨denote table codeM, codeM, ⟨0,0,0,0⟩, [topFrame posQ]⟩) := by
    rw [table_eq_tree]; exact top_first w D os
  refine ⟨_, s'.abs, go_top t3 t2, e4, e5, ?_, ctl_of hi e7⟩
  exact InK.of kAs_eq w s'.abs e6

theorem boot_size (w : World) : ((boot_heap w.params).isNs mainGlobals, (boot_heap w.params).objs.size, (boot_heap w.params).nsMap mainGlobals "__annotations__") = (true, 11, annM) := by
  kernel_rfl

abbrev rowM : OpenRow := OpenLaw.row PySem.Challenge.rw_fd5008_01
abbrev XPm : (Str → Option Value) → Heap → Prop := fun mg h => XL qv [] mg h ∧ RecFacts rowM.toRowW.records h

theorem behindM (w : World) : (∃ s, AfterRun (opening pwM) w s) ∧ ∀ s, AfterRun (opening pwM) w s → ∃ s₀, fenceModules? pwM s = some s₀ ∧ s₀.gens = #[] ∧ ∃ s₁, TopRan pwM w s₀ s₁ ∧ s₁.asleep ∧ leftWithCleanup s₁.gens = false ∧ s₁.heap.isNs mainGlobals = true ∧
    Ground qv lo [] XPm w s₁ (s₁.heap.nsMap mainGlobals) (s₁.heap.nsMap builtinsNs) s₁.heap ∧ YPm w s₁.heap := by
  obtain ⟨⟨h, gs, d, k, os⟩, hfo, hv⟩ := Option.map_eq_some_iff.mp (boot_open (N := 600) open_plain rfl fence_plain w)
  obtain ⟨rfl, rfl, rfl, rfl⟩ : h = boot_heap w.params ∧ gs = #[] ∧ d = boot_drawn ∧ k = boot_toks := by simpa using hv
  unfold fencedOpening at hfo
  rw [← table_eq_tree] at hfo
  obtain ⟨s, hie, hfe⟩ := Option.bind_eq_some_iff.mp hfo
  have A := AfterImport.of_importEnds hie
  refine ⟨⟨s, A⟩, fun s' hs' => ?_⟩
  cases AfterImport.unique hs' A
  have z := Shared.asleep_of_life (fence_lifeW hfe) A.life
  obtain ⟨z1, z2, z3⟩ : _ ∧ _ ∧ _ := by simpa only [Prod.mk.injEq] using boot_size w
  obtain ⟨N, s₁, ht, hl⟩ := head_run w os
  obtain ⟨a, l, ho, fr⟩ := topRun_spec _ _ _ _ z ht
  have look := hl.look
  simp only [Bool.and_eq_true] at look
  obtain ⟨hs, hnb, hgd, hlk⟩ := look
  have seen := hl.seen
  obtain ⟨G, g0, g1, g2, g3, g4, g5⟩ := ground_of_open (w := w) (XP := XPm) (fun s hs => ⟨xl_of s (Bool.and_eq_true_iff.mp hs).1, recFacts_of (Bool.and_eq_true_iff.mp hs).2⟩) (by decide +kernel) seen
  have im := imp_nil
  refine ⟨_, hfe, rfl, s₁, ⟨a, l, Shared.rest_eq ho, fun b o hb hn => fr b o (z2 ▸ Heap.lt_size hb) (fun q => hn (.inl q)) (fun q => hn (.inr (.inl q))) (fun q => hn (.inr (.inr ?_))) hb,
    im ▸ g2, im ▸ statics_of_ok hs, g3, g4, g5, gens_of_done hgd, names_of_bound hnb, laid_of_kept hlk⟩, Shared.asleep_of_life l z, by simpa using g0, g1, G, hl.frag⟩
  exact (Pin.globalOf_eq z1 _).trans (z3.trans q)
end Mine

end

-- part E4
open PySem PySem.W PySem.Calls PyProof.Rows
set_option Elab.async false
set_option maxRecDepth 100000
noncomputable section
namespace Mine
def dkM : Option (DefRec × List (PySem.Str × PySem.Expr)) := defOf qv "law"
theorem dk_some : ∃ d kwd, defOf qv rowM.name = some (d, kwd) ∧ rowM.prog.theDef rowM.name = some (d.params, d.body, d.scope) ∧ kwWritten? d.params.kwonlyargs d.params.kw_defaults = some kwd := ⟨_, _, by rfl, by rfl, by rfl⟩

/-- from the walk to the row: the head's facts come from behindM -/
theorem holdsM (said : rowM.wellSaid = true) (hw : rowM.toRowW.promised) {d : DefRec} {kwd : List (Str × Expr)} (hdef : defOf qv rowM.name = some (d, kwd)) (hp : rowM.prog.theDef rowM.name = some (d.params, d.body, d.scope)) (hk : kwWritten? d.params.kwonlyargs d.params.kw_defaults = some kwd)
    (walk : WalkN qv lo (XL qv []) YPm rowM.toRowW d kwd fun f vs => PySem.call f vs) : rowM.Holds := by
  have ok : (opensWell pwM && (frees rowM.toRowW && rowM.within.isEmpty)) = true := by decide +kernel
  obtain ⟨ow, k5⟩ := Bool.and_eq_true_iff.mp ok
  obtain ⟨k5, k6⟩ := Bool.and_eq_true_iff.mp k5
  obtain ⟨hsame, hu, ha, hap, hm⟩ := frees_parts k5
  refine ⟨said, hw, ⟨⟨rfl, rfl, rfl, rfl, rfl, by decide +kernel⟩, ow, by rfl⟩, hw.witness, fun w => ⟨(behindM w).1, fun s' hs' => ?_⟩⟩
  obtain ⟨s₀, hf, hg0, s, hT, hz, hgens, hg, GX, y⟩ := (behindM w).2 s' hs'
  have G0 : Ground qv lo [] (XL qv []) w s (s.heap.nsMap mainGlobals) (s.heap.nsMap builtinsNs) s.heap := ⟨GX.T, GX.B, GX.D, GX.TE, GX.TD, GX.W, GX.X.1, GX.cls, GX.has, GX.apart, GX.once, GX.K⟩
  have RF := GX.X.2
  have G : Ground qv lo rowM.toRowW.records (XL qv []) w s _ _ s.heap := RF.ground G0
  have hwr : (!rowM.writes || rowM.toRowW.records.isEmpty) = true := by rfl
  refine ⟨s₀, hf, hg0, s, hT, fun n hn => ?_, RF.1, RF.2.1, ?_⟩
  · obtain rfl : n = rowM.name := by split at hn <;> simp_all
    exact pinned_of_view hg G0 hdef hp hk
  refine ClaimW.callFrom_of_specN (c := rowM.toRowW.claim) hz hgens fun args hpre hlay ord hord => ?_
  obtain ⟨⟨vs, s₁⟩, hlaid⟩ := Option.isSome_iff_exists.mp (layAllW_isSome (P := w.params) (ord := ord) G.has args rowM.toRowW.args s (pre_splitW hpre).1)
  have keeps := layAllW_keeps _ _ _ hlaid
  have hal := layAllW_rest _ _ _ hlaid
  obtain ⟨as, hrd, hin, hold⟩ := reads_layAllW hord _ _ _ hlaid hlay s₁.heap (fun _ _ e => e)
  have G₁ := G.keeps XL.keeps keeps
  obtain ⟨a, o, pm, cd, doc, dV, kV, h1, h2, h3, h4, h5⟩ := G₁.fn hdef
  have hcall := walk w s { s₁ with gens := #[] } _ _ G₁ (YPm.keeps _ _ _ y keeps) a o pm cd doc dV kV h2 h3 h4 h5 (defOf_name hdef ▸ h1) rfl args vs as hpre hlay hrd (well_layAllW hord args s _ hlaid _ fun _ _ e => e)
    (fun b hb => beq_eq_false_iff_ne.mpr fun e => by have := (hin.2.2 b hb).1; subst e; exact absurd G.low (Nat.not_lt.mpr this))
  have hi := ident_freeW hu ha hap
  have hwi : rowM.toRowW.claim.within = [] := List.isEmpty_iff.mp k6
  refine ⟨vs, s₁, hlaid, ?_⟩
  refine wpAny_bind (wpAny_nsGet G₁.T.g ?_)
  rw [h1]
  refine wpAny_bind (wpAny_mono hcall (fun v s' g => ?_) fun e s' g => ?_)
  · refine wpAny_pure ?_
    have z := g.endsN (c := rowM.toRowW.claim) hsame hwi hi hrd hold hal.2.2.1
    exact ⟨_, rfl, z.1, z.2.1, z.2.2, fun q => ⟨namesKept_of hT hg rowM.keeps keeps fun b o e => .inl (g.2.1 b o e), noTable hwr q⟩⟩
  · have z := g.endsN (c := rowM.toRowW.claim) hsame hwi hi hrd hold hal.2.2.1
    exact ⟨z.1, z.2.1, z.2.2, fun q => ⟨namesKept_of hT hg rowM.keeps keeps fun b o e => .inl (g.2.1 b o e), noTable hwr q⟩⟩
end Mine

end

-- part Wk
section
open PySem PySem.W PyProof.Rows PySem.Calls
set_option Elab.async false
set_option maxRecDepth 100000
namespace Mine
theorem CtlAt.keeps {h h' : Heap} (c : CtlAt h) (k : ∀ b o, h.get? b = some o → h'.get? b = some o) : CtlAt h' := let ⟨d, a, b⟩ := c; ⟨d, k _ _ a, b⟩
abbrev Led := List (Addr × Obj)

/-- what a call of one of the text's own defs is shown to do, wherever it is called -/
def Tel (w : World) (mean : ExcName → Option Value) (mg mb : Str → Option Value) (f : Addr) (d : Nat) (vs : List Value) (news : Led) (Out : Led → Value → Prop) : Prop :=
  ∀ (dp un : Nat) (gd : Option (List Code)) (cn : Str) (cs : Scope) (a : Addr) (ccd : Value) (cl : List (Str × Addr)) (outer : List Env) (A₀ : Around) (base h₀ : Heap) (L : Addr) (m : Str → Option Value) (s : Shared) (Q E : Value → Shared → Prop),
    Below A₀ base outer h₀ → Fr h₀ L s.heap m → (KT w.params).In h₀ → CtlAt h₀ → News h₀ L s.heap news → Top qv (looseW qv lo) mean mg mb h₀ → cs.kind = .function → dp + d < recursionLimit → un + 8 * d < cLine →
    (∀ r tl h' tk', Fr h₀ L h' m → News h₀ L h' (news ++ tl) → (∀ q ∈ news, ∀ p ∈ tl, q.1 < p.1) → Out tl r → Q r { s with heap := h', toks := tk' }) →
    wpAny (model (OpenLaw.row PySem.Challenge.rw_fd5008_01).toRowW.prog w) (ktrTop dp un gd cn cs L a ccd cl outer) (call (.ref f) vs) Q E s

/-- values that are one-sign texts -/
inductive SignsAre : List Value → List Nat → Prop
  | nil : SignsAre [] []
  | cons (c : Nat) (t : Tok) {vs cs} : SignsAre vs cs → SignsAre (.str ⟨#[c]⟩ t :: vs) (c :: cs)
theorem SignsAre.length {vs : List Value} {cs : List Nat} (h : SignsAre vs cs) : vs.length = cs.length := by
  induction h with
  | nil => rfl
  | cons _ _ _ ih => rw [List.length_cons, List.length_cons, ih]
theorem SignsAre.append {vs ws : List Value} {cs ds : List Nat} (h : SignsAre vs cs) (k : SignsAre ws ds) : SignsAre (vs ++ ws) (cs ++ ds) := by
  induction h with
  | nil => exact k
  | cons c t _ ih => exact .cons c t ih
theorem SignsAre.get {vs : List Value} {cs : List Nat} (h : SignsAre vs cs) : ∀ {i : Nat} {v : Value}, vs[i]? = some v → ∃ c t, cs[i]? = some c ∧ v = .str ⟨#[c]⟩ t := by
  induction h with
  | nil => intro i v h; cases h
  | cons c t _ ih =>
    intro i v h
    cases i with
    | zero => exact ⟨c, t, rfl, (Option.some.inj h).symm⟩
    | succ i => exact ih h
end Mine

end

-- part Wk2
section
open PySem PySem.W PyProof.Rows PySem.Calls
set_option Elab.async false
set_option maxRecDepth 100000
namespace Mine
section
variable {prog : Program} {w : World} {A : Around} {E : Value → Shared → Prop} {s : Shared} {env : Env} {h₀ : Heap} {x : Str} {body : List Stmt} {Q : Flow → Shared → Prop}

/-- what a turn of a loop leaves behind -/
def WkEnd {σ : Type} (h₀ : Heap) (L : Addr) (Led : σ → Led) (cst own : Mine.Led) (ps : σ → List (Str × Value)) (x : Str) (stored : List Str) (m₀ : Str → Option Value) (P : σ → Prop) (s s₂ : Shared) : Prop :=
  ∃ (c : σ) (h' : Heap) (tk : Nat) (m' : Str → Option Value) (news' : Mine.Led), s₂ = { s with heap := h', toks := tk } ∧ Fr h₀ L h' m' ∧ News h₀ L h' news' ∧ (∀ p ∈ Led c, p ∈ news') ∧ (∀ p ∈ cst, p ∈ news') ∧ (∀ p ∈ own, p ∈ news') ∧
    (∀ p ∈ ps c, m' p.1 = some p.2) ∧ (∀ z, z ≠ x → (∀ p ∈ ps c, z ≠ p.1) → stored.contains z = false → m' z = m₀ z) ∧ P c
def WkPost {σ : Type} (h₀ : Heap) (L : Addr) (Led : σ → Led) (cst own : Mine.Led) (ps : σ → List (Str × Value)) (x : Str) (stored : List Str) (m₀ : Str → Option Value) (P : σ → Prop) (Q : Flow → Shared → Prop) (s : Shared) (f : Flow) (s₂ : Shared) : Prop :=
  match f with
  | .ret v => Q (.ret v) s₂
  | .brk => Q .next s₂
  | _ => WkEnd h₀ L Led cst own ps x stored m₀ P s s₂

theorem WkPost.g {σ : Type} {Led : σ → Mine.Led} {cst own : Mine.Led} {ps : σ → List (Str × Value)} {stored : List Str} {m₀ : Str → Option Value} {P : σ → Prop} {L : Addr} {adr : List Addr} {J : (Str → Option Value) → Mine.Led → Prop} {s : Shared} {f : Flow} {s₂ : Shared}
    (hadr : ∀ c, (Led c).map (·.1) = adr) (ho : OwnOff own adr) (hc : OwnOff own (cst.map (·.1)))
    (hJ : ∀ c m', (∀ p ∈ ps c, m' p.1 = some p.2) → (∀ z, z ≠ x → (∀ p ∈ ps c, z ≠ p.1) → stored.contains z = false → m' z = m₀ z) → P c → J m' (Led c ++ cst))
    (h : WkPost h₀ L Led cst own ps x stored m₀ P Q s f s₂) : InvPostG h₀ L J own s Q f s₂ := by
  have fin : WkEnd h₀ L Led cst own ps x stored m₀ P s s₂ → InvEndG h₀ L J own s s₂ := by
    rintro ⟨c, h', tk, m', news', e, F, N, h1, h2, h3, h4, h5, h6⟩
    refine ⟨h', tk, m', news', Led c ++ cst, e, F, N, fun p hp => (List.mem_append.mp hp).elim (h1 p) (h2 p), h3, ?_, hJ c m' h4 h5 h6⟩
    intro p hp b hb
    rw [List.map_append, List.mem_append, hadr] at hb
    exact hb.elim (ho p hp b) (hc p hp b)
  cases f with
  | ret v => exact h
  | brk => exact h
  | next => exact fin h
  | cont => exact fin h

/-- a for over a list that stands in the ledger -/
theorem wk_for {σ : Type} {l nn : Nat} {vs : List Value} {m₀ : Str → Option Value} {news cst : Mine.Led} (Led : σ → Mine.Led) (ps : σ → List (Str × Value)) (stored : List Str) (P : Nat → σ → Prop) (adr : List Addr) (c₀ : σ)
    (hh : A.handled = none) (hl : (l, listOf vs.toArray nn) ∈ cst) (F : Fr h₀ env.locals s.heap m₀) (N : News h₀ env.locals s.heap news) (hn : ∀ p ∈ Led c₀ ++ cst, p ∈ news) (hadr : ∀ c, (Led c).map (·.1) = adr)
    (hk : ∀ p ∈ ps c₀, m₀ p.1 = some p.2) (hp : P 0 c₀)
    (turn : ∀ (i : Nat) (v : Value) (c : σ) (u : Str → Option Value) (h : Heap) (tk : Nat) (own : Mine.Led), vs[i]? = some v → P i c → OwnOff own adr → OwnOff own (cst.map (·.1)) → Fr h₀ env.locals h (fun y => if y = x then some v else kstB (fun z => if stored.contains z then u z else m₀ z) (ps c) y) → News h₀ env.locals h (Led c ++ (cst ++ own)) →
      wpAny (model prog w) A (execs body env) (WkPost h₀ env.locals Led cst own ps x stored m₀ (P (i + 1)) Q { s with heap := h, toks := tk }) E { s with heap := h, toks := tk })
    (done : ∀ (c : σ) (u : Str → Option Value) (h : Heap) (tk : Nat), P vs.length c → Fr h₀ env.locals h (fun y => if y = x then u y else kstB (fun z => if stored.contains z then u z else m₀ z) (ps c) y) → News h₀ env.locals h (Led c ++ cst) → Q .next { s with heap := h, toks := tk }) :
    wpAny (model prog w) A (pyIter (.ref l)) (fun it s₂ => LoopAtV prog w A h₀ env x body Q E it s₂) E s := by
  have N0 : News h₀ env.locals s.heap (Led c₀ ++ cst) := fun p hp => N p (hn p hp)
  refine kdl_iter (fun i m nx => ∃ c, nx = Led c ++ cst ∧ (∀ p ∈ ps c, m p.1 = some p.2) ∧ (∀ z, z ≠ x → (∀ p ∈ ps c, z ≠ p.1) → stored.contains z = false → m z = m₀ z) ∧ P i c) hh (List.mem_append.mpr (.inr hl)) F N0 ⟨c₀, rfl, hk, fun _ _ _ _ => rfl, hp⟩ ?_ ?_
  · rintro i v m₁ nx h tk own hv hoff _ ⟨c, rfl, h1, h2, hp'⟩ F₁ N₁
    rw [List.append_assoc] at N₁
    have o1 : OwnOff own adr := fun p hp b hb => hoff p hp b (by rw [List.map_append, hadr]; exact List.mem_append_left _ hb)
    have o2 : OwnOff own (cst.map (·.1)) := fun p hp b hb => hoff p hp b (by rw [List.map_append]; exact List.mem_append_right _ hb)
    refine wpAny_mono (turn i v c m₁ h tk own hv hp' o1 o2 (kst_fr h1 h2 F₁) N₁) (fun f s₂ q => ?_) fun _ _ e => e
    exact WkPost.g hadr o1 o2 (fun c' m' h4 h5 h6 => ⟨List.mem_append.mpr (.inr hl), c', rfl, h4, h5, h6⟩) q
  · rintro m₁ nx h tk ⟨c, rfl, h1, h2, hp'⟩ F₁ N₁
    exact done c m₁ h tk hp' (kst_frOut h1 h2 F₁) N₁
end
end Mine
namespace Mine
theorem WkPost.next {σ : Type} {h₀ : Heap} {L : Addr} {Led : σ → Mine.Led} {cst own news' : Mine.Led} {ps : σ → List (Str × Value)} {x : Str} {stored : List Str} {m₀ m' : Str → Option Value} {P : σ → Prop} {Q : Flow → Shared → Prop} {s : Shared} {h' : Heap} {tk : Nat} (c : σ)
    (F : Fr h₀ L h' m') (N : News h₀ L h' news') (h1 : ∀ p ∈ Led c, p ∈ news') (h2 : ∀ p ∈ cst, p ∈ news') (h3 : ∀ p ∈ own, p ∈ news') (hk : ∀ p ∈ ps c, m' p.1 = some p.2)
    (hz : ∀ z, z ≠ x → (∀ p ∈ ps c, z ≠ p.1) → stored.contains z = false → m' z = m₀ z) (hP : P c) : WkPost h₀ L Led cst own ps x stored m₀ P Q s .next { s with heap := h', toks := tk } :=
  ⟨c, h', tk, m', news', rfl, F, N, h1, h2, h3, hk, hz, hP⟩
theorem WkPost.cont {σ : Type} {h₀ : Heap} {L : Addr} {Led : σ → Mine.Led} {cst own news' : Mine.Led} {ps : σ → List (Str × Value)} {x : Str} {stored : List Str} {m₀ m' : Str → Option Value} {P : σ → Prop} {Q : Flow → Shared → Prop} {s : Shared} {h' : Heap} {tk : Nat} (c : σ)
    (F : Fr h₀ L h' m') (N : News h₀ L h' news') (h1 : ∀ p ∈ Led c, p ∈ news') (h2 : ∀ p ∈ cst, p ∈ news') (h3 : ∀ p ∈ own, p ∈ news') (hk : ∀ p ∈ ps c, m' p.1 = some p.2)
    (hz : ∀ z, z ≠ x → (∀ p ∈ ps c, z ≠ p.1) → stored.contains z = false → m' z = m₀ z) (hP : P c) : WkPost h₀ L Led cst own ps x stored m₀ P Q s .cont { s with heap := h', toks := tk } :=
  ⟨c, h', tk, m', news', rfl, F, N, h1, h2, h3, hk, hz, hP⟩
theorem mem1 {p : Addr × Obj} {a b : Mine.Led} (h : p ∈ a) : p ∈ a ++ b := List.mem_append_left _ h
theorem mem2 {p : Addr × Obj} {a b : Mine.Led} (h : p ∈ b) : p ∈ a ++ b := List.mem_append_right _ h
end Mine
namespace Mine
theorem sg_eq (c d : Nat) : ((⟨#[c]⟩ : Str) == ⟨#[d]⟩) = decide (c = d) := by
  by_cases e : c = d
  · subst e; simp
  · rw [decide_eq_false e, beq_eq_false_iff_ne]
    intro q
    injection q with q
    injection q with q
    injection q with q
    exact e q
theorem sg_q : Str.ofString "\"" = ⟨#[34]⟩ := by decide +kernel
theorem sg_b : Str.ofString "\\" = ⟨#[92]⟩ := by decide +kernel
theorem sg_n : Str.ofString "\n" = ⟨#[10]⟩ := by decide +kernel
theorem sg_a : Str.ofString "a" = ⟨#[97]⟩ := by decide +kernel
end Mine
namespace Mine
theorem slice_take (vs : List Value) (k : Nat) : (slicePick vs.toArray (some 0) (some (k : Int)) none).toList = vs.take k := by
  have e : sliceBounds (some 0) (some (k : Int)) none vs.toArray.size = (((min (0 : Int).toNat vs.toArray.size : Nat) : Int), ((min k vs.toArray.size : Nat) : Int), 1) := by
    simp only [sliceBounds, Option.getD_none, show (1 : Int) > 0 by decide, if_true, if_neg (show ¬ ((0 : Int) < 0) by decide), if_neg (show ¬ ((k : Int) < 0) by omega)]
    refine Prod.ext ?_ (Prod.ext ?_ rfl)
    · show max 0 (min (0 : Int) _) = ((min (0 : Int).toNat vs.toArray.size : Nat) : Int)
      omega
    · show max 0 (min (k : Int) _) = ((min k vs.toArray.size : Nat) : Int)
      omega
  rw [kmk_pick_nat _ e]
  show (vs.drop (min 0 vs.toArray.size)).take (min k vs.toArray.size - min 0 vs.toArray.size) = _
  rw [Nat.zero_min, List.drop_zero, Nat.sub_zero, List.size_toArray, kmk_take_min]
theorem slice_upto (vs : List Value) (k : Nat) : (slicePick vs.toArray none (some (k : Int)) none).toList = vs.take k := by
  have e : sliceBounds none (some (k : Int)) none vs.toArray.size = (((0 : Nat) : Int), ((min k vs.toArray.size : Nat) : Int), 1) := by
    simp only [sliceBounds, Option.getD_none, show (1 : Int) > 0 by decide, if_true, if_neg (show ¬ ((k : Int) < 0) by omega)]
    congr 1
    congr 1
    omega
  rw [kmk_pick_nat _ e]
  show (vs.drop 0).take (min k vs.toArray.size - 0) = _
  rw [List.drop_zero, Nat.sub_zero, List.size_toArray, kmk_take_min]
theorem SignsAre.cases {us : List Value} {sg : List Nat} (h : SignsAre us sg) : (us = [] ∧ sg = []) ∨ ∃ c t vs cs, us = .str ⟨#[c]⟩ t :: vs ∧ sg = c :: cs ∧ SignsAre vs cs := by
  cases h with
  | nil => exact .inl ⟨rfl, rfl⟩
  | cons c t h => exact .inr ⟨c, t, _, _, rfl, rfl, h⟩
end Mine
namespace Mine
def IsSg (c : Nat) : Prop := c = 34 ∨ c = 97 ∨ c = 92 ∨ c = 10
theorem shaped_sg {c : Nat} (h : IsSg c) : SeqAt.shaped (.list [.str ⟨#[c]⟩]) = true := by
  rcases h with rfl | rfl | rfl | rfl <;> decide +kernel
end Mine

end

-- part Wk3
section
open PySem PySem.W PyProof.Rows PySem.Calls
set_option Elab.async false
set_option maxRecDepth 100000
namespace Mine
def utxt (u : Nat) : List Nat := if u = 171 then [34] else if u = 172 then [92, 34] else if u = 173 then [10] else if u = 174 then [92, 110] else if u = 175 then [97] else [92, 92]
def uval (u : Nat) : Nat := if u = 171 then 34 else if u = 172 then 34 else if u = 173 then 10 else if u = 174 then 10 else if u = 175 then 97 else 92
def ukind (u : Nat) : Nat := if u = 171 then 1 else if u = 173 then 2 else 0
def IsUnit (u : Nat) : Prop := u = 171 ∨ u = 172 ∨ u = 173 ∨ u = 174 ∨ u = 175 ∨ u = 176
def tx (l : List Nat) : Str := ⟨l.toArray⟩
theorem tx_app (a b : List Nat) : tx a ++ tx b = tx (a ++ b) := by
  show Str.mk _ = Str.mk _
  simp [tx]
theorem tx_len (a : List Nat) : (tx a).length = a.length := by simp [tx, Str.length]
def refs (l : List Nat) : List Value := l.map Value.ref
theorem refs_push (l : List Nat) (a : Nat) : (refs l).toArray.push (.ref a) = (refs (l ++ [a])).toArray := by simp [refs]
theorem refs_size (l : List Nat) (h : l.length ≤ 6) : (refs l).toArray.size ≤ sizeLine := by rw [sizeLine_eq]; simp [refs]; omega
theorem utxt_len {u : Nat} (h : IsUnit u) : (utxt u).length ≤ 2 := by rcases h with rfl | rfl | rfl | rfl | rfl | rfl <;> decide

theorem unit_at {P : Params} {h : Heap} {u : Nat} (X : (KT P).In h) (hu : IsUnit u) : ∃ t1 t2 t3, h.get? u = some { cls := .type "tuple", data := .seq #[.str (tx (utxt u)) t1, .str (tx [uval u]) t2, .int (ukind u : Nat) t3] 0 } := by
  rcases hu with rfl | rfl | rfl | rfl | rfl | rfl <;> exact ⟨_, _, _, X _ _ (by rfl)⟩

section
variable {prog : Program} {w : World} {A : Around} {E : Value → Shared → Prop} {s : Shared} {h₀ : Heap} {L : Addr} {m : Str → Option Value} {P : Params} {u : Nat} {value slice : Expr} {Q : Value → Shared → Prop} {t : Tok}
theorem unit_tup (X : (KT P).In h₀) (F : Fr h₀ L s.heap m) (hu : IsUnit u) : ∃ t1 t2 t3, IsTup s.heap u [Value.str (tx (utxt u)) t1, .str (tx [uval u]) t2, .int (ukind u : Nat) t3].toArray := by
  obtain ⟨t1, t2, t3, h⟩ := unit_at X hu
  exact ⟨t1, t2, t3, ⟨_, F.keep _ _ h, rfl, _, rfl⟩⟩
theorem unit_item0 (X : (KT P).In h₀) (F : Fr h₀ L s.heap m) (hu : IsUnit u) (h : ∀ t', Q (.str (tx (utxt u)) t') s)
    (hs : subscripted slice false (.ref u) (.int 0 t) = operate [.ref u, .int 0 t] (getItem (.ref u) (.int 0 t))) : wpAny (model prog w) A (subscriptTail value slice (.ref u) (.int 0 t)) Q E s := by
  obtain ⟨t1, t2, t3, ht⟩ := unit_tup X F hu
  exact item_tupleT (j := 0) ht (by decide) (by decide) rfl rfl (h _) hs
theorem unit_item1 (X : (KT P).In h₀) (F : Fr h₀ L s.heap m) (hu : IsUnit u) (h : ∀ t', Q (.str (tx [uval u]) t') s)
    (hs : subscripted slice false (.ref u) (.int 1 t) = operate [.ref u, .int 1 t] (getItem (.ref u) (.int 1 t))) : wpAny (model prog w) A (subscriptTail value slice (.ref u) (.int 1 t)) Q E s := by
  obtain ⟨t1, t2, t3, ht⟩ := unit_tup X F hu
  exact item_tupleT (j := 1) ht (by decide) (by decide) rfl rfl (h _) hs
theorem unit_item2 (X : (KT P).In h₀) (F : Fr h₀ L s.heap m) (hu : IsUnit u) (h : ∀ t', Q (.int (ukind u : Nat) t') s)
    (hs : subscripted slice false (.ref u) (.int 2 t) = operate [.ref u, .int 2 t] (getItem (.ref u) (.int 2 t))) : wpAny (model prog w) A (subscriptTail value slice (.ref u) (.int 2 t)) Q E s := by
  obtain ⟨t1, t2, t3, ht⟩ := unit_tup X F hu
  exact item_tupleT (j := 2) ht (by decide) (by decide) rfl rfl (h _) hs
theorem refs_item {news : Led} {l n : Nat} {us : List Nat} {k : Int} (N : News h₀ L s.heap news) (hm : (l, listOf (refs us).toArray n) ∈ news) (hall : ∀ u ∈ us, IsUnit u) (h0 : 0 ≤ k) (h1 : k.toNat < us.length) (hfit : us.length ≤ 100)
    (h : ∀ u, us[k.toNat]? = some u → IsUnit u → Q (.ref u) s)
    (hs : subscripted slice false (.ref l) (.int k t) = operate [.ref l, .int k t] (getItem (.ref l) (.int k t))) : wpAny (model prog w) A (subscriptTail value slice (.ref l) (.int k t)) Q E s := by
  have hl : s.heap.IsList l (refs us).toArray := ⟨_, (N _ hm).1, rfl, n, rfl⟩
  have hx : us[k.toNat]? = some us[k.toNat] := List.getElem?_eq_getElem h1
  refine tail_any hl.typeIs slot_list_getitem.lookup (wpAny_getItem_list (x := .ref us[k.toNat]) hl h0 (by omega) ?_ (h _ hx (hall _ (List.getElem_mem h1)))) hs
  simp [refs, hx]
end
end Mine
namespace Mine
/-- a mark: the walk stops here -/
def exec2 (st : Stmt) (env : Env) : Sem Flow := exec st env
theorem halt_exec {M : Model} {A : Around} {st : Stmt} {env : Env} {Q : Flow → Shared → Prop} {E : Value → Shared → Prop} {s : Shared} (h : wpAny M A (exec2 st env) Q E s) : wpAny M A (exec st env) Q E s := h
theorem halt_back {M : Model} {A : Around} {st : Stmt} {env : Env} {Q : Flow → Shared → Prop} {E : Value → Shared → Prop} {s : Shared} (h : wpAny M A (exec st env) Q E s) : wpAny M A (exec2 st env) Q E s := h
end Mine

end

-- part Wk4
section
open PySem PySem.W PyProof.Rows PySem.Calls
set_option Elab.async false
set_option maxRecDepth 100000
namespace Mine
theorem led_skip {a b p : Addr × Obj} {l : Led} (h : p ∈ a :: l) : p ∈ a :: b :: l := by
  rcases List.mem_cons.mp h with h | h
  · rw [h]; exact .head _
  · exact .tail _ (.tail _ h)
def stopAt (l : List Nat) : Bool := match l with
  | a :: b :: c :: _ => ukind a == 1 && (ukind b == 1 && ukind c == 1)
  | _ => false
def scan : List Nat → Nat × List Nat × List Nat
  | [] => (0, [], [])
  | u :: r => if stopAt (u :: r) then (0, [], u :: r) else ((utxt u).length + (scan r).1, uval u :: (scan r).2.1, (scan r).2.2)
def marks : Nat → List Nat → Nat
  | 0, _ => 0
  | _ + 1, [] => 0
  | f + 1, u :: r => if ukind u = 1 then marks f r + 1 else 0
def ends (ws : List Nat) : List Nat := ws ++ [171, 171, 171]
def due0 (us : List Nat) (k : Nat) : Nat × List Nat :=
  ((scan (us.drop k)).1 + k + 6 + marks 2 ((scan (us.drop k)).2.2.drop 3), (scan (us.drop k)).2.1 ++ List.replicate (marks 2 ((scan (us.drop k)).2.2.drop 3)) 34)
def due (ws : List Nat) : Nat × List Nat := due0 (ends ws) (match ends ws with
  | u :: _ => if ukind u = 2 then 1 else 0
  | [] => 0)

theorem drop_at {us : List Nat} {k a : Nat} (h : us[k]? = some a) : us.drop k = a :: us.drop (k + 1) := by
  obtain ⟨h1, h2⟩ := List.getElem?_eq_some_iff.mp h
  rw [List.drop_eq_getElem_cons h1, h2]
theorem stop_of {us : List Nat} {k a b c : Nat} (h0 : us[k]? = some a) (h1 : us[k + 1]? = some b) (h2 : us[k + 2]? = some c) (ka : ukind a = 1) (kb : ukind b = 1) (kc : ukind c = 1) : scan (us.drop k) = (0, [], us.drop k) := by
  rw [drop_at h0, drop_at h1, drop_at h2]
  unfold scan
  simp [stopAt, ka, kb, kc]
theorem go_of {ws : List Nat} {k a : Nat} (hk : k ≤ ws.length) (h0 : (ends ws)[k]? = some a) (h : ∃ j u, j ≤ 2 ∧ (ends ws)[k + j]? = some u ∧ ukind u ≠ 1) :
    k < ws.length ∧ (scan ((ends ws).drop k)).1 = (utxt a).length + (scan ((ends ws).drop (k + 1))).1 ∧ (scan ((ends ws).drop k)).2.1 = uval a :: (scan ((ends ws).drop (k + 1))).2.1 ∧ (scan ((ends ws).drop k)).2.2 = (scan ((ends ws).drop (k + 1))).2.2 := by
  obtain ⟨j, u, hj, hu, hn⟩ := h
  have hlen : (ends ws).length = ws.length + 3 := by simp [ends]
  have h1 : (ends ws)[k + 1]? = some (ends ws)[k + 1] := List.getElem?_eq_getElem (by omega)
  have h2 : (ends ws)[k + 2]? = some (ends ws)[k + 2] := List.getElem?_eq_getElem (by omega)
  refine ⟨?_, ?_⟩
  · apply Classical.byContradiction
    intro q
    have e : k = ws.length := by omega
    subst e
    apply hn
    have : u = 171 := by
      have e2 : j = 0 ∨ j = 1 ∨ j = 2 := by omega
      rcases e2 with rfl | rfl | rfl <;> simpa [ends] using hu.symm
    rw [this]; rfl
  · have hs : stopAt ((ends ws).drop k) = false := by
      rw [drop_at h0, drop_at h1, drop_at h2]
      show (ukind a == 1 && (ukind _ == 1 && ukind _ == 1)) = false
      have e2 : j = 0 ∨ j = 1 ∨ j = 2 := by omega
      rcases e2 with rfl | rfl | rfl
      · rw [Nat.add_zero, h0] at hu
        cases hu
        rw [beq_false_of_ne hn]; rfl
      · rw [h1] at hu
        have hu := Option.some.inj hu
        rw [hu, beq_false_of_ne hn]; simp
      · rw [h2] at hu
        have hu := Option.some.inj hu
        rw [hu, beq_false_of_ne hn]; simp
    rw [drop_at h0] at hs ⊢
    have e : scan (a :: (ends ws).drop (k + 1)) = ((utxt a).length + (scan ((ends ws).drop (k + 1))).1, uval a :: (scan ((ends ws).drop (k + 1))).2.1, (scan ((ends ws).drop (k + 1))).2.2) := by
      rw [scan, hs]; simp
    rw [e]
    exact ⟨rfl, rfl, rfl⟩
theorem marks_go {us : List Nat} {k a f : Nat} (h0 : us[k]? = some a) (ka : ukind a = 1) : marks (f + 1) (us.drop k) = marks f (us.drop (k + 1)) + 1 := by
  rw [drop_at h0]; simp [marks, ka]
theorem marks_no {us : List Nat} {k a f : Nat} (h0 : us[k]? = some a) (ka : ukind a ≠ 1) : marks f (us.drop k) = 0 := by
  rw [drop_at h0]; cases f <;> simp [marks, ka]
theorem marks_end {us : List Nat} {k f : Nat} (h : us.length ≤ k) : marks f (us.drop k) = 0 := by
  rw [List.drop_of_length_le h]; cases f <;> rfl
end Mine

end

-- part P0
section
open PySem PySem.W PyProof.Rows PySem.Calls
set_option Elab.async false
set_option maxRecDepth 100000
namespace Mine
/-- as Tel, with keywords -/
def TelK (w : World) (mean : ExcName → Option Value) (mg mb : Str → Option Value) (f : Addr) (d : Nat) (vs : List Value) (kw : List (Str × Value)) (news : Led) (Out : Led → Value → Prop) : Prop :=
  ∀ (dp un : Nat) (gd : Option (List Code)) (cn : Str) (cs : Scope) (a : Addr) (ccd : Value) (cl : List (Str × Addr)) (outer : List Env) (A₀ : Around) (base h₀ : Heap) (L : Addr) (m : Str → Option Value) (s : Shared) (Q E : Value → Shared → Prop),
    Below A₀ base outer h₀ → Fr h₀ L s.heap m → (KT w.params).In h₀ → CtlAt h₀ → News h₀ L s.heap news → Top qv (looseW qv lo) mean mg mb h₀ → cs.kind = .function → dp + d < recursionLimit → un + 8 * d < cLine →
    (∀ r tl h' tk', Fr h₀ L h' m → News h₀ L h' (news ++ tl) → (∀ q ∈ news, ∀ p ∈ tl, q.1 < p.1) → Out tl r → Q r { s with heap := h', toks := tk' }) →
    wpAny (model (OpenLaw.row PySem.Challenge.rw_fd5008_01).toRowW.prog w) (ktrTop dp un gd cn cs L a ccd cl outer) (call (.ref f) vs kw) Q E s
theorem tx_inj {a b : List Nat} : (tx a == tx b) = decide (a = b) := by
  by_cases e : a = b
  · subst e; simp
  · rw [decide_eq_false e, beq_eq_false_iff_ne]
    intro q
    apply e
    have := congrArg (fun z : Str => z.cps.toList) q
    simpa [tx] using this
theorem item_tx {l : List Nat} {p c : Nat} (h : l[p]? = some c) : Txt.item (tx l) (p : Int) = tx [c] := by
  obtain ⟨h1, h2⟩ := List.getElem?_eq_some_iff.mp h
  unfold Txt.item Txt.charAt
  have e : seqIndex? (p : Int) (tx l).length = some p := by
    unfold seqIndex?
    rw [tx_len]
    simp [show ¬ ((p : Int) < 0) by omega, h1]
  rw [e]
  simp [tx, h]
theorem starts3_tx (l q : List Nat) (p : Nat) (hq : q ≠ []) : Txt.startswith3 (tx l) (tx q) (p : Int) = decide ((l.drop p).take q.length = q) := by
  unfold Txt.startswith3
  have e : fromIndex (tx l).length (p : Int) = p := by
    unfold fromIndex
    simp [show ¬ ((p : Int) < 0) by omega]
    try omega
  rw [e, tx_len, tx_len]
  have hq0 : 0 < q.length := List.length_pos_iff.mpr hq
  by_cases h : p + q.length ≤ l.length
  · rw [decide_eq_true h, Bool.true_and]
    unfold Builtin.Str.subAt
    rw [tx_len]
    show (l.toArray.extract p (p + q.length) == q.toArray) = _
    have : l.toArray.extract p (p + q.length) = ((l.drop p).take q.length).toArray := by
      simp [List.extract_toArray, List.extract_eq_take_drop]
    rw [this]
    by_cases e : (l.drop p).take q.length = q
    · rw [e]; simp
    · rw [decide_eq_false e, beq_eq_false_iff_ne]
      intro z; exact e (by simpa using congrArg Array.toList z)
  · rw [decide_eq_false h, Bool.false_and]
    refine (decide_eq_false fun e => h ?_).symm
    have := congrArg List.length e
    simp at this
    omega
theorem slice_tx {l : List Nat} {a b : Nat} (hab : a ≤ b) (hb : b ≤ l.length) : Txt.slice (tx l) (some (a : Int)) (some (b : Int)) = tx ((l.drop a).take (b - a)) := by
  have e := StrLaws.sliced_plain (tx l) hab (by rw [tx_len]; exact hb)
  unfold Txt.slice
  split
  · rename_i h
    have e0 : a = 0 ∧ b = l.length := by
      rw [StrLaws.strSliceIndices_plain hab (by rw [tx_len]; exact hb)] at h
      simp [tx_len] at h
      omega
    obtain ⟨rfl, rfl⟩ := e0
    simp
  · rw [e]; rfl
section
variable {prog : Program} {w : World} {A : Around} {E : Value → Shared → Prop} {s : Shared} {t u : Tok} {h₀ : Heap} {L : Addr} {m : Str → Option Value} {news : Led} {Q : Value → Shared → Prop} {value slice : Expr}
theorem item_txR {l : List Nat} {i : Int} {p c : Nat} (hi : i = (p : Int)) (hl : l.length ≤ 100) (hc : l[p]? = some c) (h : Q (.str (tx [c]) s.toks) { s with toks := s.toks + 1 })
    (hs : subscripted slice false (.str (tx l) t) (.int i u) = operate [.str (tx l) t, .int i u] (getItem (.str (tx l) t) (.int i u))) (ht : ∀ r, letTemporaryGo value (.str (tx l) t) r = pure ()) :
    wpAny (model prog w) A (subscriptTail value slice (.str (tx l) t) (.int i u)) Q E s := by
  subst hi
  obtain ⟨h1, h2⟩ := List.getElem?_eq_some_iff.mp hc
  have e := tx_len l
  exact item_str (fitsSsize_of (N := 9223372036854775808) (by omega) (by omega) (Int.le_refl _)) (by omega) (by omega) (fun _ => by rw [item_tx hc]; exact h) hs ht
theorem slice_txR {l r : List Nat} {i j : Int} {ui uj : Tok} {a b : Nat} (hi : i = (a : Int)) (hj : j = (b : Int)) (hab : a ≤ b) (hb : b ≤ l.length) (hl : l.length ≤ 100) (hr : (l.drop a).take (b - a) = r) (hF : Fr h₀ L s.heap m) (hN : News h₀ L s.heap news)
    (h : ∀ h' t' k, Fr h₀ L h' m → News h₀ L h' news → Q (.str (tx r) t') { s with heap := h', toks := k })
    (hs : subscripted slice false (.str (tx l) t) (.ref s.heap.objs.size) = operate [.ref s.heap.objs.size, .str (tx l) t] (getItem (.str (tx l) t) (.ref s.heap.objs.size)))
    (ht : ∀ r, letTemporaryGo value (.str (tx l) t) r = pure ()) :
    wpAny (model prog w) A (subscriptTail value slice (.str (tx l) t) (.ref s.heap.objs.size)) Q E { s with heap := s.heap.push { cls := .type "slice", data := .fields #[.int i ui, .int j uj, .none] } } := by
  subst hi hj hr
  exact slice_strN_ss hF hN (by rw [slice_tx hab hb]; exact h) hs ht (by rw [tx_len, sizeLine_eq]; omega)
theorem starts_txR {l q : List Nat} {i : Int} {v : Tok} {p : Nat} {b : Bool} (hi : i = (p : Int)) (hq : q ≠ []) (hb : decide ((l.drop p).take q.length = q) = b) (h : Q (.bool b) s) :
    wpAny (model prog w) A (call (.builtin "str.startswith") [.str (tx l) t, .str (tx q) u, .int i v]) Q E s := by
  subst hi
  refine SC.startswith3 ?_
  rw [starts3_tx _ _ _ hq, hb]; exact h
end
end Mine
namespace Mine
theorem hret1 {news : Led} {Out : Led → Value → Prop} {Q : Value → Shared → Prop} {h₀ : Heap} {L : Addr} {m : Str → Option Value} {s : Shared}
    (hret : ∀ r tl h' tk', Fr h₀ L h' m → News h₀ L h' (news ++ tl) → (∀ q ∈ news, ∀ p ∈ tl, q.1 < p.1) → Out tl r → Q r { s with heap := h', toks := tk' })
    {a : Addr} {o : Obj} {rest : Led} {h' : Heap} {tk : Nat} {r : Value} (F : Fr h₀ L h' m) (N : News h₀ L h' ((a, o) :: rest)) (hr : ∀ p ∈ news, p ∈ rest) (hlt : AllLt a news) (ho : Out [(a, o)] r) :
    Q r { s with heap := h', toks := tk } := by
  refine hret _ _ _ _ F (fun p hp => N p ?_) (fun q hq p hp => ?_) ho
  · rcases List.mem_append.mp hp with h | h
    · exact .tail _ (hr p h)
    · rw [List.mem_singleton.mp h]; exact .head _
  · rw [List.mem_singleton.mp hp]; exact ktn_ltOf hlt q hq
end Mine
namespace Mine
theorem Tel.toK {w : World} {mean : ExcName → Option Value} {mg mb : Str → Option Value} {f : Addr} {d : Nat} {vs : List Value} {news : Led} {Out : Led → Value → Prop} (C : Tel w mean mg mb f d vs news Out) : TelK w mean mg mb f d vs [] news Out := C
theorem TelK.use {w : World} {mean : ExcName → Option Value} {mg mb : Str → Option Value} {f : Addr} {d : Nat} {vs : List Value} {kw : List (Str × Value)} {news : Led} {Out : Led → Value → Prop} {dp un : Nat} {gd : Option (List Code)} {cn : Str} {cs : Scope} {a : Addr} {ccd : Value} {cl : List (Str × Addr)} {outer : List Env} {A₀ : Around} {base h₀ : Heap} {L : Addr} {m : Str → Option Value} {s : Shared} {Q E : Value → Shared → Prop}
    (C : TelK w mean mg mb f d vs kw news Out) (B : Below A₀ base outer h₀) (F : Fr h₀ L s.heap m) (X : (KT w.params).In h₀) (CX : CtlAt h₀) (N : News h₀ L s.heap news) (T : Top qv (looseW qv lo) mean mg mb h₀) (hk : cs.kind = .function) (hd : dp + d < recursionLimit) (hu : un + 8 * d < cLine)
    (ret : ∀ r tl h' tk', Fr h₀ L h' m → News h₀ L h' (news ++ tl) → (∀ q ∈ news, ∀ p ∈ tl, q.1 < p.1) → Out tl r → Q r { s with heap := h', toks := tk' }) :
    wpAny (model (OpenLaw.row PySem.Challenge.rw_fd5008_01).toRowW.prog w) (ktrTop dp un gd cn cs L a ccd cl outer) (call (.ref f) vs kw) Q E s := C _ _ _ _ _ _ _ _ _ _ _ _ _ _ _ _ _ B F X CX N T hk hd hu ret
end Mine

end

-- part S1
section
open PySem PySem.W PyProof.Rows PySem.Calls
set_option Elab.async false
set_option maxRecDepth 100000
set_option maxHeartbeats 8000000
namespace Mine
def shStep (p : Nat × Nat) (c : Nat) : Nat × Nat :=
  let q := if c = 34 then (p.1, p.2 + 1) else (p.1 + p.2 / 3, 0)
  if c = 92 then (q.1 + 1, q.2) else q
def shFold (l : List Nat) (i : Nat) : Nat × Nat := (l.take i).foldl shStep (0, 0)
theorem News.get {h₀ h : Heap} {L a : Addr} {o : Obj} {news : Led} (N : News h₀ L h news) (m : (a, o) ∈ news) : h.get? a = some o := (N _ m).1
local macro_rules | `(tactic| walk_at "call builtin:len") => `(tactic| (k_here; (with_reducible show wpAny _ _ (call (Value.builtin "len") [Value.ref _]) _ _ _); (refine kst_len (by k_asm) (by assumption) (SignsAre.length (by assumption)) (by omega) ?_)))
local macro_rules | `(tactic| walk_at "binaryOp Add ref ref") => `(tactic| (k_here; (with_reducible show wpAny _ _ (binaryOp _ (Value.ref _) (Value.ref _)) _ _ _); (refine kmk_add_lit (by k_asm) (by k_asm) ⟨_, (News.get (by k_asm) (by k_mem)), rfl, _, rfl⟩ ⟨_, (News.get (by k_asm) (by k_mem)), rfl, _, rfl⟩ rfl ?_ ?hz); intro D' h' F' N' l1))
local macro_rules | `(tactic| walk_at "exec For Name BinOp cons nil") => `(tactic| (k_here; (rename Fr _ _ _ _ => lF'); (with_unfolding_all refine' For_invVF lF' ?k1 ?k2 ?_; (case k1 => exact rfl); (case k2 => exact rfl); k_whole)))
local macro_rules | `(tactic| walk_at "exec For Name Name cons nil") => `(tactic| (k_here; (rename Fr _ _ _ _ => lF'); (with_unfolding_all refine' For_invVF lF' ?k1 ?k2 ?_; (case k1 => exact rfl); (case k2 => exact rfl); k_whole)))
local macro_rules | `(tactic| walk_at "exec For Name Call cons nil") => `(tactic| (k_here; (rename Fr _ _ _ _ => lF'); (with_unfolding_all refine' For_invVF lF' ?k1 ?k2 ?_; (case k1 => exact rfl); (case k2 => exact rfl); k_whole)))
def shortest (sg : List Nat) : Nat := sg.length + (shFold (sg ++ [97]) (sg.length + 1)).1 + (if sg.take 1 = [10] then 1 else 0)
theorem shFold_succ {l : List Nat} {i c : Nat} (h : l[i]? = some c) : shFold l (i + 1) = shStep (shFold l i) c := by
  unfold shFold
  rw [List.take_add_one, h]; simp
theorem short_tells {w : World} {mean : ExcName → Option Value} {mg mb : Str → Option Value} {l n : Nat} {us : List Value} {sg : List Nat} {news : Led} (hs : SignsAre us sg) (hall : ∀ c ∈ sg, IsSg c) (hlen : sg.length ≤ 6) (hm : (l, listOf us.toArray n) ∈ news) :
    Tel w mean mg mb 202 20 [.ref l] news (fun tl r => tl = [] ∧ ∃ t, r = .int (shortest sg) t) := by
  unfold Tel
  k_fill
  intro dp un gd cn cs a ccd cl outer A₀ base h₀ L m s Q E B F X CX N T hk hd hu hret
  refine wpAny_call ?_
  refine' code_def (binds := [(Str.ofString "signs", Value.ref l)]) B F X N T ?kA ?kF ?kK ?k6 ?k7 ?k8 ?k9 ?kB ?_ ?c2 ?c3 ?c4 ?c5
  case kA => exact rfl
  case kF => exact rfl
  case kK => assumption
  case k6 => k_is
  case k7 => k_is
  case k8 => ktr_room
  case k9 => exact BindsTo.of_eq rfl
  case c5 => decide
  case kB => exact locs rfl
  case c2 => exact rfl
  case c3 => exact rfl
  case c4 => exact rfl
  k_whole
  intro g1 L1 h1 FG1 F1 N1 B1 X1 T1
  have CX1 := CX.keeps FG1.keep
  try dsimp only
  try k_fold
  k_steps
  refine' kmk_add_lit (zs := us ++ [.str ⟨#[97]⟩ _]) ?F ?N ?a ?b ?e ?_ ?hz
  case F => k_asm
  case N => k_asm
  case a => exact ⟨_, (News.get (by k_asm) (by first | exact hm | exact .tail _ hm | exact .tail _ (.tail _ hm))), rfl, _, rfl⟩
  case b => exact ⟨_, (News.get (by k_asm) (by k_mem)), rfl, _, rfl⟩
  case e => first | rfl | simp
  case hz => (have e9 := SignsAre.length hs; simp [sizeLine_eq]; omega)
  intro D' h' F' N' l1
  have hs2 : ∀ t, SignsAre (us ++ [.str ⟨#[97]⟩ t]) (sg ++ [97]) := fun t => hs.append (.cons _ t .nil)
  refine' wk_for (σ := (Int × Tok) × (Int × Tok)) (fun _ => []) (fun c => [(Str.ofString "size", .int c.1.1 c.1.2), (Str.ofString "run", .int c.2.1 c.2.2)]) [] (fun i c => ∃ p, shFold (sg ++ [97]) i = p ∧ c.1.1 = (sg.length : Int) + p.1 ∧ c.2.1 = p.2) [] ((_, _), (_, _)) ?hh ?hl ?hF ?hN ?hn ?ha ?hk ?hp ?_ ?_
  case hh => rfl
  case hF => k_asm
  case hN => exact N'
  case hn => exact fun p hp => hp
  case hl => exact List.Mem.head _
  case ha => exact fun _ => rfl
  case hk => (refine List.forall_mem_cons.mpr ⟨by rfl, List.forall_mem_cons.mpr ⟨by rfl, List.forall_mem_nil _⟩⟩)
  case hp => exact ⟨_, rfl, by simp [shFold, SignsAre.length hs], by simp [shFold]⟩
  · rintro i v ⟨⟨sz, szt⟩, ⟨rn, rnt⟩⟩ u h tk own hv hP ho hc F9 N9
    dsimp only at F9 hP
    obtain ⟨ch, tkn, hch, rfl⟩ := (hs2 _).get hv
    k_steps
    all_goals (
      refine WkPost.next ((_, _), (_, _)) (by k_asm) (by assumption) (by exact fun p hp => nomatch hp) (by exact fun p hp => mem2 (mem1 hp)) (by exact fun p hp => mem2 (mem2 hp)) (by exact List.forall_mem_cons.mpr ⟨by rfl, List.forall_mem_cons.mpr ⟨by rfl, List.forall_mem_nil _⟩⟩) (by intro z z1 z2 z3; (simp only [List.forall_mem_cons, List.not_mem_nil, false_implies, implies_true, and_true, ne_eq] at z2); simp [kstB, z1, z2]) ?_
      rename (_ == Str.ofString "\"") = _ => q1
      rename (_ == Str.ofString "\\") = _ => q2
      rw [sg_q, sg_eq] at q1
      rw [sg_b, sg_eq] at q2
      obtain ⟨p, hp, e1, e2⟩ := hP
      refine ⟨_, shFold_succ hch, ?_⟩
      rw [hp]
      simp only [decide_eq_true_eq, decide_eq_false_iff_not] at q1 q2
      (try dsimp only)
      have e3 : ((p.2 : Int)).fdiv 3 = (p.2 : Int) / 3 := Int.fdiv_eq_ediv_of_nonneg _ (by decide)
      (simp [shStep, q1, q2, e1, e2, e3]) <;> omega)
  · rintro ⟨⟨sz, szt⟩, ⟨rn, rnt⟩⟩ u h tk hP F9 N9
    dsimp only at F9 hP
    k_steps
    refine' kmk_slice_lit (zs := us.take 1) ?sF ?sN ?sl ?sp ?sq ?se ?_ ?ss ?st ?sz
    case sF => k_asm
    case sN => k_asm
    case sl => exact ⟨_, (News.get (by k_asm) (by first | exact .tail _ (.tail _ hm) | exact mem2 (.tail _ (.tail _ hm)))), rfl, _, rfl⟩
    case sp => exact IsPart.int _ _
    case sq => exact IsPart.int _ _
    case se => exact slice_take us 1
    case ss => with_unfolding_all rfl
    case st => kmk_pure
    case sz => (have e9 := SignsAre.length hs; simp [sizeLine_eq]; omega)
    intro D2 h2 F2 N2 l2
    obtain ⟨p, hp, e1, e2⟩ := hP
    have hlast : shFold (sg ++ [97]) (sg.length + 1) = p := by
      rw [← hp]; simp [SignsAre.length hs]
    rcases hs.cases with ⟨rfl, rfl⟩ | ⟨c0, t0, vs0, cs0, rfl, rfl, hs0⟩
    · k_steps
      all_goals (
        refine hret _ [] _ _ (by k_asm) ?_ (fun _ _ _ h9 => nomatch h9) ⟨rfl, _, congrArg (fun z => Value.int z _) ?_⟩
        · rename News _ _ _ _ => kN
          intro p hp
          rw [List.append_nil] at hp
          exact kN p (by simp [hp])
        · unfold shortest
          rw [hlast]
          simp [e1])
    · k_steps
      refine' eq_dataH ?fa ?fb ?fc ?fd ?fu ?_
      case fa => ke_read
      case fb => ke_read
      case fc => exact shaped_sg (hall _ (.head _))
      case fd => ke_shaped
      case fu => ktr_units
      ke_norm
      k_steps
      all_goals (
        refine hret _ [] _ _ (by k_asm) ?_ (fun _ _ _ h9 => nomatch h9) ⟨rfl, _, congrArg (fun z => Value.int z _) ?_⟩
        · rename News _ _ _ _ => kN
          intro p hp
          rw [List.append_nil] at hp
          exact kN p (by simp [hp])
        · rename (_ == _) = _ => q1
          rw [sg_n, sg_eq] at q1
          unfold shortest
          rw [hlast]
          simp only [decide_eq_true_eq, decide_eq_false_iff_not] at q1
          simp [e1, q1])
end Mine

end

-- part S2
section
open PySem PySem.W PyProof.Rows PySem.Calls
set_option Elab.async false
set_option maxRecDepth 100000
set_option maxHeartbeats 8000000
namespace Mine
def unitOf (c m : Nat) : Nat := if c = 97 then 175 else if c = 92 then 176 else if c = 34 then (if m % 2 = 0 then 171 else 172) else (if m % 2 = 0 then 173 else 174)
def nextMask (c m : Nat) : Nat := if c = 97 then m else if c = 92 then m else m / 2
def wayStep (p : List Nat × Nat) (c : Nat) : List Nat × Nat := (p.1 ++ [unitOf c p.2], nextMask c p.2)
def wayFold (l : List Nat) (m i : Nat) : List Nat × Nat := (l.take i).foldl wayStep ([], m)
def wayOf (l : List Nat) (m : Nat) : List Nat := (l.foldl wayStep ([], m)).1
theorem wayFold_succ {l : List Nat} {m i c : Nat} (h : l[i]? = some c) : wayFold l m (i + 1) = wayStep (wayFold l m i) c := by
  unfold wayFold
  rw [List.take_add_one, h]; simp
local macro_rules | `(tactic| walk_at "exec For Name BinOp cons nil") => `(tactic| (k_here; (rename Fr _ _ _ _ => lF'); (with_unfolding_all refine' For_invVF lF' ?k1 ?k2 ?_; (case k1 => exact rfl); (case k2 => exact rfl); k_whole)))
local macro_rules | `(tactic| walk_at "exec For Name Name cons nil") => `(tactic| (k_here; (rename Fr _ _ _ _ => lF'); (with_unfolding_all refine' For_invVF lF' ?k1 ?k2 ?_; (case k1 => exact rfl); (case k2 => exact rfl); k_whole)))
local macro_rules | `(tactic| walk_at "exec For Name Call cons nil") => `(tactic| (k_here; (rename Fr _ _ _ _ => lF'); (with_unfolding_all refine' For_invVF lF' ?k1 ?k2 ?_; (case k1 => exact rfl); (case k2 => exact rfl); k_whole)))
local macro_rules | `(tactic| walk_at "call builtin:len") => `(tactic| (k_here; (with_reducible show wpAny _ _ (call (Value.builtin "len") [Value.ref _]) _ _ _); (refine kst_len (by k_asm) (by assumption) (SignsAre.length (by assumption)) (by omega) ?_)))

theorem way_tells {w : World} {mean : ExcName → Option Value} {mg mb : Str → Option Value} {l n M mt : Nat} {us : List Value} {sg : List Nat} {news : Led} (hs : SignsAre us sg) (hall : ∀ c ∈ sg, IsSg c) (hlen : sg.length ≤ 6) (hm : (l, listOf us.toArray n) ∈ news) :
    Tel w mean mg mb 188 20 [.ref l, .int (M : Int) mt] news (fun tl r => ∃ a k, r = .ref a ∧ tl = [(a, listOf (refs (wayOf sg M)).toArray k)]) := by
  unfold Tel
  k_fill
  intro dp un gd cn cs a ccd cl outer A₀ base h₀ L m s Q E B F X CX N T hk hd hu hret
  refine wpAny_call ?_
  refine' code_def (binds := [(Str.ofString "signs", Value.ref l), (Str.ofString "mask", Value.int (M : Int) mt)]) B F X N T ?kA ?kF ?kK ?k6 ?k7 ?k8 ?k9 ?kB ?_ ?c2 ?c3 ?c4 ?c5
  case kA => exact rfl
  case kF => exact rfl
  case kK => assumption
  case k6 => k_is
  case k7 => k_is
  case k8 => ktr_room
  case k9 => exact BindsTo.of_eq rfl
  case c5 => decide
  case kB => exact locs rfl
  case c2 => exact rfl
  case c3 => exact rfl
  case c4 => exact rfl
  k_whole
  intro g1 L1 h1 FG1 F1 N1 B1 X1 T1
  have CX1 := CX.keeps FG1.keep
  try dsimp only
  try k_fold
  k_steps
  rename News _ _ _ _ => N2
  rename_i l2 _ hlt _ _
  refine' wk_for (σ := (List Nat × Nat) × (Int × Tok)) (cst := news) (fun c => [(l2, listOf (refs c.1.1).toArray c.1.2)]) (fun c => [(Str.ofString "mask", .int c.2.1 c.2.2)]) [Str.ofString "plain"] (fun i c => i ≤ 6 ∧ ∃ p, wayFold sg M i = p ∧ c.1.1 = p.1 ∧ c.2.1 = p.2 ∧ c.1.1.length = i) [l2] (([], 0), (_, _)) ?hh ?hl ?hF ?hN ?hn ?ha ?hk ?hp ?_ ?_
  case hh => rfl
  case hF => k_asm
  case hN => exact N2
  case hn => exact fun p hp => hp
  case hl => exact hm
  case ha => exact fun _ => rfl
  case hk => exact List.forall_mem_cons.mpr ⟨by rfl, List.forall_mem_nil _⟩
  case hp => exact ⟨by omega, _, rfl, by simp [wayFold], by simp [wayFold], rfl⟩
  · rintro i v ⟨⟨rs, k⟩, ⟨mk, mkt⟩⟩ u h tk own hv ⟨hi, hP⟩ ho hc F9 N9
    dsimp only at F9 hP N9
    obtain ⟨ch, tkn, hch, rfl⟩ := hs.get hv
    obtain ⟨p, hp, e1, e2, e3⟩ := hP
    have hap : ∀ p ∈ news ++ own, p.1 ≠ l2 := fun p hp => (List.mem_append.mp hp).elim (fun h => Nat.ne_of_lt (hlt p h)) fun h => ho p h l2 (.head _)
    simp only [List.cons_append, List.nil_append] at N9
    have hi2 : i < sg.length := (List.getElem?_eq_some_iff.mp hch).1
    have e5 : mk.fdiv 2 = ((p.2 / 2 : Nat) : Int) := by rw [e2, Int.fdiv_eq_ediv_of_nonneg _ (by decide)]; omega
    have e6 : mk.fmod 2 = ((p.2 % 2 : Nat) : Int) := by rw [e2, Int.fmod_eq_emod_of_nonneg _ (by decide)]; omega
    have hsg := hall ch (List.mem_of_getElem? hch)
    k_steps
    all_goals (
      refine append_K (by k_asm) (by assumption) (Upd.head hap) ?_ (refs_size _ (by omega))
      intro h3 F3 N3
      rw [refs_push] at N3
      k_steps
      refine WkPost.next ((_, _), (_, _)) (by k_asm) N3 (by exact fun p hp => mem1 hp) (by exact fun p hp => mem2 (a := [_]) (mem1 hp)) (by exact fun p hp => mem2 (a := [_]) (mem2 hp)) (by exact List.forall_mem_cons.mpr ⟨by rfl, List.forall_mem_nil _⟩) (by intro z z1 z2 z3; (simp only [List.forall_mem_cons, List.not_mem_nil, false_implies, implies_true, and_true, ne_eq] at z2); (simp only [List.contains_cons, List.contains_nil, Bool.or_false, beq_eq_false_iff_ne, ne_eq] at z3); simp [kstB, z1, z2, z3]) ?_
      refine ⟨by omega, _, wayFold_succ hch, ?_⟩
      rw [hp]
      simp only [sg_q, sg_a, sg_b, sg_eq, decide_eq_true_eq, decide_eq_false_iff_not] at *
      try (show _ ∧ mk.fdiv 2 = _ ∧ _)
      rw [e6] at *
      rw [List.length_append, e3]
      rcases hsg with hx | hx | hx | hx <;> first
        | (exfalso; omega)
        | (subst hx; first
          | (have e7 : p.2 % 2 = 0 := by omega
             simp [wayStep, unitOf, nextMask, e1, e5, e7]; done)
          | (have e7 : ¬ p.2 % 2 = 0 := by omega
             simp [wayStep, unitOf, nextMask, e1, e5, e7]; done)
          | (simp [wayStep, unitOf, nextMask, e1, e2]; done)))
  · rintro ⟨⟨rs, k⟩, ⟨mk, mkt⟩⟩ u h tk ⟨hi, hP⟩ F9 N9
    dsimp only at F9 hP N9
    obtain ⟨p, hp, e1, e2, e3⟩ := hP
    have hlast : wayOf sg M = rs := by
      rw [e1, ← hp, SignsAre.length hs]
      simp [wayFold, wayOf]
    k_steps
    refine hret _ [(l2, listOf (refs rs).toArray k)] _ _ (by k_asm) ?_ ?_ ⟨l2, k, rfl, by rw [hlast]⟩
    · rename News _ _ _ _ => kN
      intro p hp
      refine kN p ?_
      rcases List.mem_append.mp hp with h9 | h9
      · simp [h9]
      · simp [List.mem_singleton.mp h9]
    · intro q hq p hp
      rw [List.mem_singleton.mp hp]
      exact hlt q hq
end Mine

end

-- part S3
section
open PySem PySem.W PyProof.Rows PySem.Calls
set_option Elab.async false
set_option maxRecDepth 100000
set_option maxHeartbeats 8000000
namespace Mine
theorem refs_length (l : List Nat) : (refs l).length = l.length := List.length_map _
theorem tx_q : Str.ofString "\"" = tx [34] := by decide +kernel
theorem due_at {ws : List Nat} {u k0 : Nat} (h : (ends ws)[0]? = some u) (hk : k0 = if ukind u = 2 then 1 else 0) : due ws = due0 (ends ws) k0 := by
  unfold due
  cases e : ends ws with
  | nil => rw [e] at h; cases h
  | cons a r =>
    rw [e] at h
    have h := Option.some.inj h
    rw [hk, ← h]
local macro_rules | `(tactic| walk_at "exec For Name BinOp cons nil") => `(tactic| (k_here; (rename Fr _ _ _ _ => lF'); (with_unfolding_all refine' For_invVF lF' ?k1 ?k2 ?_; (case k1 => exact rfl); (case k2 => exact rfl); k_whole)))
local macro_rules | `(tactic| walk_at "exec For Name Name cons nil") => `(tactic| (k_here; (rename Fr _ _ _ _ => lF'); (with_unfolding_all refine' For_invVF lF' ?k1 ?k2 ?_; (case k1 => exact rfl); (case k2 => exact rfl); k_whole)))
local macro_rules | `(tactic| walk_at "exec For Name Call cons nil") => `(tactic| (k_here; (rename Fr _ _ _ _ => lF'); (with_unfolding_all refine' For_invVF lF' ?k1 ?k2 ?_; (case k1 => exact rfl); (case k2 => exact rfl); k_whole)))
local macro_rules | `(tactic| walk_at "exec While UnaryOp cons nil") => `(tactic| (refine halt_exec ?_))
local macro_rules | `(tactic| walk_at "exec While BoolOp cons nil") => `(tactic| (refine halt_exec ?_))
local macro_rules | `(tactic| walk_at "exec While Constant cons nil") => `(tactic| (refine halt_exec ?_))
local macro_rules | `(tactic| walk_at "exec While Compare cons nil") => `(tactic| (refine halt_exec ?_))
local macro_rules | `(tactic| walk_at "exec While Name cons nil") => `(tactic| (refine halt_exec ?_))
local macro_rules | `(tactic| walk_at "subscriptTail") => `(tactic| (k_here; (with_reducible show wpAny _ _ (subscriptTail _ _ (Value.ref _) (Value.int _ _)) _ _ _); ((with_reducible refine' refs_item ?q1 ?q2 ?q3 ?q4 ?q5 ?q6 ?_ ?q8); (case q1 => with_reducible assumption); (case q2 => with_reducible exact List.mem_cons_self); (case q3 => with_reducible assumption); (case q4 => omega); (case q5 => omega); (case q6 => omega); (case q8 => with_unfolding_all rfl)); intro u5 hu5 hU5; (try dsimp only); (try k_gentoks)))
local macro_rules | `(tactic| walk_at "subscriptTail") => `(tactic| (k_here; (with_reducible show wpAny _ _ (subscriptTail _ _ (Value.ref _) (Value.int 0 _)) _ _ _); ((with_reducible refine' unit_item0 ?q1 ?q2 ?q3 ?_ ?q4); (case q1 => with_reducible assumption); (case q2 => with_reducible assumption); (case q3 => with_reducible assumption); (case q4 => with_unfolding_all rfl)); intro _; (try dsimp only); (try k_gentoks)))
local macro_rules | `(tactic| walk_at "subscriptTail") => `(tactic| (k_here; (with_reducible show wpAny _ _ (subscriptTail _ _ (Value.ref _) (Value.int 1 _)) _ _ _); ((with_reducible refine' unit_item1 ?q1 ?q2 ?q3 ?_ ?q4); (case q1 => with_reducible assumption); (case q2 => with_reducible assumption); (case q3 => with_reducible assumption); (case q4 => with_unfolding_all rfl)); intro _; (try dsimp only); (try k_gentoks)))
local macro_rules | `(tactic| walk_at "subscriptTail") => `(tactic| (k_here; (with_reducible show wpAny _ _ (subscriptTail _ _ (Value.ref _) (Value.int 2 _)) _ _ _); ((with_reducible refine' unit_item2 ?q1 ?q2 ?q3 ?_ ?q4); (case q1 => with_reducible assumption); (case q2 => with_reducible assumption); (case q3 => with_reducible assumption); (case q4 => with_unfolding_all rfl)); intro _; (try dsimp only); (try k_gentoks)))
local macro_rules | `(tactic| walk_at "call builtin:len") => `(tactic| (k_here; (with_reducible show wpAny _ _ (call (Value.builtin "len") [Value.ref _]) _ _ _); ((with_reducible refine' kst_len ?q1 ?q2 ?q3 ?q4 ?_); (case q1 => with_reducible assumption); (case q2 => with_reducible exact List.mem_cons_self); (case q3 => exact refs_length _); (case q4 => (show ((List.length _ : Nat) : Int) < 2 ^ 63; omega))); (try dsimp only); (try k_gentoks)))
local macro_rules | `(tactic| walk_at "call builtin:len") => `(tactic| (k_here; (with_reducible show wpAny _ _ (call (Value.builtin "len") [Value.str _ _]) _ _ _); (refine PyProof.Rows.len_str ?hz9 ?_; (case hz9 => (have h9 := utxt_len (by assumption); simp only [tx_len]; omega)); (try dsimp only); (try k_gentoks))))
local macro_rules | `(tactic| walk_at "inplaceOp Add str str") => `(tactic| (k_here; (try simp only [tx_q]); (refine PyProof.Rows.iadd_str ?_ ?hz9; (case hz9 => (simp only [tx_len, sizeLine_eq, List.length_cons, List.length_nil]; omega)); intro tq tkq; (try simp only [tx_app]))))

theorem due_tells1 {w : World} {mean : ExcName → Option Value} {mg mb : Str → Option Value} {l n : Nat} {ws : List Nat} {news : Led} (hall : ∀ u ∈ ws, IsUnit u) (hlen : ws.length ≤ 6) (h0 : ∀ u, (ends ws)[0]? = some u → ukind u = 2) (hm : (l, listOf (refs ws).toArray n) ∈ news) :
    Tel w mean mg mb 195 20 [.ref l] news (fun tl r => ∃ a k t1 t2, r = .ref a ∧ tl = [(a, listOf #[.int (due ws).1 t1, .str (tx (due ws).2) t2] k)]) := by
  unfold Tel
  k_fill
  intro dp un gd cn cs a ccd cl outer A₀ base h₀ L m s Q E B F X CX N T hk hd hu hret
  refine wpAny_call ?_
  refine' code_def (binds := [(Str.ofString "way", Value.ref l)]) B F X N T ?kA ?kF ?kK ?k6 ?k7 ?k8 ?k9 ?kB ?_ ?c2 ?c3 ?c4 ?c5
  case kA => exact rfl
  case kF => exact rfl
  case kK => assumption
  case k6 => k_is
  case k7 => k_is
  case k8 => ktr_room
  case k9 => exact BindsTo.of_eq rfl
  case c5 => decide
  case kB => exact locs rfl
  case c2 => exact rfl
  case c3 => exact rfl
  case c4 => exact rfl
  k_whole
  intro g1 L1 h1 FG1 F1 N1 B1 X1 T1
  have CX1 := CX.keeps FG1.keep
  try dsimp only
  try k_fold
  k_steps
  refine' kmk_add_lit (zs := refs (ends ws)) ?F ?N ?a ?b ?e ?_ ?hz
  case F => k_asm
  case N => k_asm
  case a => exact ⟨_, (News.get (by k_asm) (by first | exact hm | exact .tail _ hm | exact .tail _ (.tail _ hm))), rfl, _, rfl⟩
  case b => exact ⟨_, (News.get (by k_asm) (by k_mem)), rfl, _, rfl⟩
  case e => simp [refs, ends]
  case hz => (simp [sizeLine_eq, refs]; omega)
  intro lu h2 F2 N2 l2
  have hallU : ∀ u ∈ ends ws, IsUnit u := fun u hu => (List.mem_append.mp hu).elim (hall u) fun h => by simp at h; exact .inl h
  have hlenU : (ends ws).length = ws.length + 3 := by simp [ends]
  k_steps
  all_goals (refine halt_back ?_)
  all_goals (rename News _ _ _ _ => N9; rename (_ : List Nat)[_]? = some _ => hu0; have h0w := h0 _ (show (ends ws)[0]? = _ from hu0))
  · have hk0 : 1 ≤ ws.length := by
      apply Classical.byContradiction; intro q; have e0 : ws = [] := List.length_eq_zero_iff.mp (by omega); subst e0; cases hu0; rename _ = (2 : Int) => q9; exact absurd q9 (by decide)
    refine' ksw_while (σ := (Int × Tok) × (List Nat × Tok) × (Nat × Tok)) (fun _ => (lu, listOf (refs (ends ws)).toArray 0) :: news) (fun c => [(Str.ofString "place", .int c.1.1 c.1.2), (Str.ofString "value", .str (tx c.2.1.1) c.2.1.2), (Str.ofString "k", .int (c.2.2.1 : Nat) c.2.2.2)]) (fun _ => True) [] (fun c => c.2.2.1 ≤ ws.length ∧ c.2.1.1.length ≤ c.2.2.1 ∧ c.1.1 + (scan ((ends ws).drop c.2.2.1)).1 = 4 + ((scan ((ends ws).drop 1)).1 : Int) ∧ c.2.1.1 ++ (scan ((ends ws).drop c.2.2.1)).2.1 = (scan ((ends ws).drop 1)).2.1 ∧ (scan ((ends ws).drop c.2.2.1)).2.2 = (scan ((ends ws).drop 1)).2.2) (fun c => ws.length - c.2.2.1) ((4, _), ([], _), (1, _)) ?hF ?hN ?hf ?hk ?hp ?_
    case hF => k_asm
    case hN => exact fun p hp => N9 p (led_skip hp)
    case hf => trivial
    case hk => exact List.forall_mem_cons.mpr ⟨by rfl, List.forall_mem_cons.mpr ⟨by rfl, List.forall_mem_cons.mpr ⟨by rfl, List.forall_mem_nil _⟩⟩⟩
    case hp => exact ⟨hk0, Nat.zero_le _, rfl, rfl, rfl⟩
    rintro ⟨⟨pl, plt⟩, ⟨vl, vlt⟩, ⟨k, kt⟩⟩ u h tk _ ⟨i1, i2, i3, i4, i5⟩ F9 N9
    dsimp only at F9 i1 i2 i3 i4 i5
    obtain ⟨a, ha⟩ : ∃ a, (ends ws)[k]? = some a := ⟨_, List.getElem?_eq_getElem (by omega)⟩
    generalize hR : KswPost _ _ _ _ _ _ _ _ _ _ _ _ = R
    k_steps
    all_goals (repeat (rename (ends ws)[Int.toNat (k : Int)]? = some _ => hq; rw [show Int.toNat (k : Int) = k from rfl, ha] at hq; cases hq))
    rotate_left
    · subst hR
      have hx : ∃ j u, j ≤ 2 ∧ (ends ws)[k + j]? = some u ∧ ukind u ≠ 1 := by
        first
        | exact ⟨0, a, by omega, ha, by omega⟩
        | (rename (ends ws)[Int.toNat ((k : Int) + 1)]? = some _ => hb; exact ⟨1, _, by omega, hb, by omega⟩)
        | (rename (ends ws)[Int.toNat ((k : Int) + 2)]? = some _ => hc; exact ⟨2, _, by omega, hc, by omega⟩)
      obtain ⟨x1, x2, x3, x4⟩ := go_of i1 ha hx
      refine ksw_end ((_, _), (vl ++ [uval a], _), (k + 1, _)) (by k_asm) (by assumption) (by exact fun p hp => hp) trivial (by exact List.forall_mem_cons.mpr ⟨by rfl, List.forall_mem_cons.mpr ⟨by rfl, List.forall_mem_cons.mpr ⟨by rfl, List.forall_mem_nil _⟩⟩⟩) (by intro z z2 z3; (simp only [List.forall_mem_cons, List.not_mem_nil, false_implies, implies_true, and_true, ne_eq] at z2); simp [kstB, z2]) ?_ ?_
      · dsimp only
        refine ⟨by omega, by simp; omega, ?_, ?_, by rw [← x4]; exact i5⟩
        · rw [← i3, x2]; simp only [tx_len]; omega
        · rw [← i4, x3]; simp
      · show ws.length - (k + 1) < ws.length - k
        omega
    · subst hR
      have hx : ∃ j u, j ≤ 2 ∧ (ends ws)[k + j]? = some u ∧ ukind u ≠ 1 := by
        first
        | exact ⟨0, a, by omega, ha, by omega⟩
        | (rename (ends ws)[Int.toNat ((k : Int) + 1)]? = some _ => hb; exact ⟨1, _, by omega, hb, by omega⟩)
        | (rename (ends ws)[Int.toNat ((k : Int) + 2)]? = some _ => hc; exact ⟨2, _, by omega, hc, by omega⟩)
      obtain ⟨x1, x2, x3, x4⟩ := go_of i1 ha hx
      refine ksw_end ((_, _), (vl ++ [uval a], _), (k + 1, _)) (by k_asm) (by assumption) (by exact fun p hp => hp) trivial (by exact List.forall_mem_cons.mpr ⟨by rfl, List.forall_mem_cons.mpr ⟨by rfl, List.forall_mem_cons.mpr ⟨by rfl, List.forall_mem_nil _⟩⟩⟩) (by intro z z2 z3; (simp only [List.forall_mem_cons, List.not_mem_nil, false_implies, implies_true, and_true, ne_eq] at z2); simp [kstB, z2]) ?_ ?_
      · dsimp only
        refine ⟨by omega, by simp; omega, ?_, ?_, by rw [← x4]; exact i5⟩
        · rw [← i3, x2]; simp only [tx_len]; omega
        · rw [← i4, x3]; simp
      · show ws.length - (k + 1) < ws.length - k
        omega
    · subst hR
      have hx : ∃ j u, j ≤ 2 ∧ (ends ws)[k + j]? = some u ∧ ukind u ≠ 1 := by
        first
        | exact ⟨0, a, by omega, ha, by omega⟩
        | (rename (ends ws)[Int.toNat ((k : Int) + 1)]? = some _ => hb; exact ⟨1, _, by omega, hb, by omega⟩)
        | (rename (ends ws)[Int.toNat ((k : Int) + 2)]? = some _ => hc; exact ⟨2, _, by omega, hc, by omega⟩)
      obtain ⟨x1, x2, x3, x4⟩ := go_of i1 ha hx
      refine ksw_end ((_, _), (vl ++ [uval a], _), (k + 1, _)) (by k_asm) (by assumption) (by exact fun p hp => hp) trivial (by exact List.forall_mem_cons.mpr ⟨by rfl, List.forall_mem_cons.mpr ⟨by rfl, List.forall_mem_cons.mpr ⟨by rfl, List.forall_mem_nil _⟩⟩⟩) (by intro z z2 z3; (simp only [List.forall_mem_cons, List.not_mem_nil, false_implies, implies_true, and_true, ne_eq] at z2); simp [kstB, z2]) ?_ ?_
      · dsimp only
        refine ⟨by omega, by simp; omega, ?_, ?_, by rw [← x4]; exact i5⟩
        · rw [← i3, x2]; simp only [tx_len]; omega
        · rw [← i4, x3]; simp
      · show ws.length - (k + 1) < ws.length - k
        omega
    · clear hR
      rename (ends ws)[Int.toNat ((k : Int) + 1)]? = some _ => hb
      rename (ends ws)[Int.toNat ((k : Int) + 2)]? = some _ => hc
      have hstop := stop_of ha (show (ends ws)[k + 1]? = _ from hb) (show (ends ws)[k + 2]? = _ from hc) (by omega) (by omega) (by omega)
      rw [hstop] at i3 i4 i5
      clear hb hc R
      rename News _ _ _ _ => N8
      refine halt_back ?_
      refine' ksw_while (σ := (Int × Tok) × (List Nat × Tok) × (Nat × Tok) × (Nat × Tok)) (fun _ => (lu, listOf (refs (ends ws)).toArray 0) :: news) (fun c => [(Str.ofString "place", .int c.1.1 c.1.2), (Str.ofString "value", .str (tx c.2.1.1) c.2.1.2), (Str.ofString "k", .int (c.2.2.1.1 : Nat) c.2.2.1.2), (Str.ofString "more", .int (c.2.2.2.1 : Nat) c.2.2.2.2)]) (fun _ => True) [] (fun c => c.2.2.2.1 ≤ 2 ∧ c.2.1.1.length ≤ k + c.2.2.2.1 ∧ c.1.1 + marks (2 - c.2.2.2.1) ((ends ws).drop c.2.2.1.1) = pl + 3 + marks 2 ((ends ws).drop (k + 3)) ∧ c.2.1.1 ++ List.replicate (marks (2 - c.2.2.2.1) ((ends ws).drop c.2.2.1.1)) 34 = vl ++ List.replicate (marks 2 ((ends ws).drop (k + 3))) 34) (fun c => 2 - c.2.2.2.1) ((pl + 3, _), (vl, _), (k + 3, _), (0, _)) ?gF ?gN ?gf ?gk ?gp ?_
      case gF => k_asm
      case gN => exact N8
      case gf => trivial
      case gk => exact List.forall_mem_cons.mpr ⟨by rfl, List.forall_mem_cons.mpr ⟨by rfl, List.forall_mem_cons.mpr ⟨by rfl, List.forall_mem_cons.mpr ⟨by rfl, List.forall_mem_nil _⟩⟩⟩⟩
      case gp => exact ⟨Nat.zero_le _, i2, rfl, rfl⟩
      rintro ⟨⟨pl2, plt2⟩, ⟨vl2, vlt2⟩, ⟨k2, kt2⟩, ⟨mo, mot⟩⟩ u h tk _ ⟨j1, j2, j3, j4⟩ F9 N9
      dsimp only at F9 j1 j2 j3 j4
      generalize hR : KswPost _ _ _ _ _ _ _ _ _ _ _ _ = R
      k_steps
      · subst hR
        rename (ends ws)[Int.toNat (k2 : Int)]? = some _ => hd2
        have e := marks_go (f := 2 - (mo + 1)) (show (ends ws)[k2]? = _ from hd2) (by omega)
        rw [show 2 - (mo + 1) + 1 = 2 - mo by omega] at e
        rw [e] at j3 j4
        refine ksw_end ((_, _), (vl2 ++ [34], _), (k2 + 1, _), (mo + 1, _)) (by k_asm) (by assumption) (by exact fun p hp => hp) trivial (by exact List.forall_mem_cons.mpr ⟨by rfl, List.forall_mem_cons.mpr ⟨by rfl, List.forall_mem_cons.mpr ⟨by rfl, List.forall_mem_cons.mpr ⟨by rfl, List.forall_mem_nil _⟩⟩⟩⟩) (by intro z z2 z3; (simp only [List.forall_mem_cons, List.not_mem_nil, false_implies, implies_true, and_true, ne_eq] at z2); simp [kstB, z2]) ?_ ?_
        · dsimp only
          refine ⟨by omega, by simp; omega, by omega, ?_⟩
          rw [← j4, List.append_assoc, List.replicate_succ]; rfl
        · show 2 - (mo + 1) < 2 - mo
          omega
      all_goals (
        rename News _ _ _ _ => kN
        rename (_ < _ ∧ AllLt _ news) => hlt
        have hz : marks (2 - mo) ((ends ws).drop k2) = 0 := by
          first
          | (rename (ends ws)[Int.toNat (k2 : Int)]? = some _ => hd2; exact marks_no (show (ends ws)[k2]? = _ from hd2) (by omega))
          | exact marks_end (by omega)
          | (have e0 : 2 - mo = 0 := by omega
             rw [e0]; rfl)
        have hdue : due ws = due0 (ends ws) 1 := due_at (show (ends ws)[0]? = _ from hu0) (by first | exact (if_pos (by omega)).symm | exact (if_neg (by omega)).symm)
        dsimp only at i3 i4 i5
        rw [hz] at j3 j4
        have hd1 : pl2 = ((due ws).1 : Int) := by
          rw [hdue]; unfold due0; dsimp only
          rw [← i5, List.drop_drop]; omega
        have hd3 : vl2 = (due ws).2 := by
          rw [hdue]; unfold due0; dsimp only
          rw [← i5, List.drop_drop, ← i4]; simpa using j4
        subst hd1 hd3
        refine hret _ [(_, listOf #[.int (due ws).1 plt2, .str (tx (due ws).2) vlt2] 0)] _ _ (by k_asm) ?_ ?_ ⟨_, _, _, _, rfl, rfl⟩
        · intro p hp
          refine kN p ?_
          rcases List.mem_append.mp hp with h9 | h9
          · simp [h9]
          · simp [List.mem_singleton.mp h9]
        · intro q hq p hp
          rw [List.mem_singleton.mp hp]
          exact ktn_ltOf hlt.2 q hq)
  · exfalso; omega

theorem due_tells0 {w : World} {mean : ExcName → Option Value} {mg mb : Str → Option Value} {l n : Nat} {ws : List Nat} {news : Led} (hall : ∀ u ∈ ws, IsUnit u) (hlen : ws.length ≤ 6) (h0 : ∀ u, (ends ws)[0]? = some u → ukind u ≠ 2) (hm : (l, listOf (refs ws).toArray n) ∈ news) :
    Tel w mean mg mb 195 20 [.ref l] news (fun tl r => ∃ a k t1 t2, r = .ref a ∧ tl = [(a, listOf #[.int (due ws).1 t1, .str (tx (due ws).2) t2] k)]) := by
  unfold Tel
  k_fill
  intro dp un gd cn cs a ccd cl outer A₀ base h₀ L m s Q E B F X CX N T hk hd hu hret
  refine wpAny_call ?_
  refine' code_def (binds := [(Str.ofString "way", Value.ref l)]) B F X N T ?kA ?kF ?kK ?k6 ?k7 ?k8 ?k9 ?kB ?_ ?c2 ?c3 ?c4 ?c5
  case kA => exact rfl
  case kF => exact rfl
  case kK => assumption
  case k6 => k_is
  case k7 => k_is
  case k8 => ktr_room
  case k9 => exact BindsTo.of_eq rfl
  case c5 => decide
  case kB => exact locs rfl
  case c2 => exact rfl
  case c3 => exact rfl
  case c4 => exact rfl
  k_whole
  intro g1 L1 h1 FG1 F1 N1 B1 X1 T1
  have CX1 := CX.keeps FG1.keep
  try dsimp only
  try k_fold
  k_steps
  refine' kmk_add_lit (zs := refs (ends ws)) ?F ?N ?a ?b ?e ?_ ?hz
  case F => k_asm
  case N => k_asm
  case a => exact ⟨_, (News.get (by k_asm) (by first | exact hm | exact .tail _ hm | exact .tail _ (.tail _ hm))), rfl, _, rfl⟩
  case b => exact ⟨_, (News.get (by k_asm) (by k_mem)), rfl, _, rfl⟩
  case e => simp [refs, ends]
  case hz => (simp [sizeLine_eq, refs]; omega)
  intro lu h2 F2 N2 l2
  have hallU : ∀ u ∈ ends ws, IsUnit u := fun u hu => (List.mem_append.mp hu).elim (hall u) fun h => by simp at h; exact .inl h
  have hlenU : (ends ws).length = ws.length + 3 := by simp [ends]
  k_steps
  all_goals (refine halt_back ?_)
  all_goals (rename News _ _ _ _ => N9; rename (_ : List Nat)[_]? = some _ => hu0; have h0w := h0 _ (show (ends ws)[0]? = _ from hu0))
  · exfalso; omega
  · have hk0 : 0 ≤ ws.length := by
      exact Nat.zero_le _
    refine' ksw_while (σ := (Int × Tok) × (List Nat × Tok) × (Nat × Tok)) (fun _ => (lu, listOf (refs (ends ws)).toArray 0) :: news) (fun c => [(Str.ofString "place", .int c.1.1 c.1.2), (Str.ofString "value", .str (tx c.2.1.1) c.2.1.2), (Str.ofString "k", .int (c.2.2.1 : Nat) c.2.2.2)]) (fun _ => True) [] (fun c => c.2.2.1 ≤ ws.length ∧ c.2.1.1.length ≤ c.2.2.1 ∧ c.1.1 + (scan ((ends ws).drop c.2.2.1)).1 = 3 + ((scan ((ends ws).drop 0)).1 : Int) ∧ c.2.1.1 ++ (scan ((ends ws).drop c.2.2.1)).2.1 = (scan ((ends ws).drop 0)).2.1 ∧ (scan ((ends ws).drop c.2.2.1)).2.2 = (scan ((ends ws).drop 0)).2.2) (fun c => ws.length - c.2.2.1) ((3, _), ([], _), (0, _)) ?hF ?hN ?hf ?hk ?hp ?_
    case hF => k_asm
    case hN => exact fun p hp => N9 p (led_skip hp)
    case hf => trivial
    case hk => exact List.forall_mem_cons.mpr ⟨by rfl, List.forall_mem_cons.mpr ⟨by rfl, List.forall_mem_cons.mpr ⟨by rfl, List.forall_mem_nil _⟩⟩⟩
    case hp => exact ⟨hk0, Nat.zero_le _, rfl, rfl, rfl⟩
    rintro ⟨⟨pl, plt⟩, ⟨vl, vlt⟩, ⟨k, kt⟩⟩ u h tk _ ⟨i1, i2, i3, i4, i5⟩ F9 N9
    dsimp only at F9 i1 i2 i3 i4 i5
    obtain ⟨a, ha⟩ : ∃ a, (ends ws)[k]? = some a := ⟨_, List.getElem?_eq_getElem (by omega)⟩
    generalize hR : KswPost _ _ _ _ _ _ _ _ _ _ _ _ = R
    k_steps
    all_goals (repeat (rename (ends ws)[Int.toNat (k : Int)]? = some _ => hq; rw [show Int.toNat (k : Int) = k from rfl, ha] at hq; cases hq))
    rotate_left
    · subst hR
      have hx : ∃ j u, j ≤ 2 ∧ (ends ws)[k + j]? = some u ∧ ukind u ≠ 1 := by
        first
        | exact ⟨0, a, by omega, ha, by omega⟩
        | (rename (ends ws)[Int.toNat ((k : Int) + 1)]? = some _ => hb; exact ⟨1, _, by omega, hb, by omega⟩)
        | (rename (ends ws)[Int.toNat ((k : Int) + 2)]? = some _ => hc; exact ⟨2, _, by omega, hc, by omega⟩)
      obtain ⟨x1, x2, x3, x4⟩ := go_of i1 ha hx
      refine ksw_end ((_, _), (vl ++ [uval a], _), (k + 1, _)) (by k_asm) (by assumption) (by exact fun p hp => hp) trivial (by exact List.forall_mem_cons.mpr ⟨by rfl, List.forall_mem_cons.mpr ⟨by rfl, List.forall_mem_cons.mpr ⟨by rfl, List.forall_mem_nil _⟩⟩⟩) (by intro z z2 z3; (simp only [List.forall_mem_cons, List.not_mem_nil, false_implies, implies_true, and_true, ne_eq] at z2); simp [kstB, z2]) ?_ ?_
      · dsimp only
        refine ⟨by omega, by simp; omega, ?_, ?_, by rw [← x4]; exact i5⟩
        · rw [← i3, x2]; simp only [tx_len]; omega
        · rw [← i4, x3]; simp
      · show ws.length - (k + 1) < ws.length - k
        omega
    · subst hR
      have hx : ∃ j u, j ≤ 2 ∧ (ends ws)[k + j]? = some u ∧ ukind u ≠ 1 := by
        first
        | exact ⟨0, a, by omega, ha, by omega⟩
        | (rename (ends ws)[Int.toNat ((k : Int) + 1)]? = some _ => hb; exact ⟨1, _, by omega, hb, by omega⟩)
        | (rename (ends ws)[Int.toNat ((k : Int) + 2)]? = some _ => hc; exact ⟨2, _, by omega, hc, by omega⟩)
      obtain ⟨x1, x2, x3, x4⟩ := go_of i1 ha hx
      refine ksw_end ((_, _), (vl ++ [uval a], _), (k + 1, _)) (by k_asm) (by assumption) (by exact fun p hp => hp) trivial (by exact List.forall_mem_cons.mpr ⟨by rfl, List.forall_mem_cons.mpr ⟨by rfl, List.forall_mem_cons.mpr ⟨by rfl, List.forall_mem_nil _⟩⟩⟩) (by intro z z2 z3; (simp only [List.forall_mem_cons, List.not_mem_nil, false_implies, implies_true, and_true, ne_eq] at z2); simp [kstB, z2]) ?_ ?_
      · dsimp only
        refine ⟨by omega, by simp; omega, ?_, ?_, by rw [← x4]; exact i5⟩
        · rw [← i3, x2]; simp only [tx_len]; omega
        · rw [← i4, x3]; simp
      · show ws.length - (k + 1) < ws.length - k
        omega
    · subst hR
      have hx : ∃ j u, j ≤ 2 ∧ (ends ws)[k + j]? = some u ∧ ukind u ≠ 1 := by
        first
        | exact ⟨0, a, by omega, ha, by omega⟩
        | (rename (ends ws)[Int.toNat ((k : Int) + 1)]? = some _ => hb; exact ⟨1, _, by omega, hb, by omega⟩)
        | (rename (ends ws)[Int.toNat ((k : Int) + 2)]? = some _ => hc; exact ⟨2, _, by omega, hc, by omega⟩)
      obtain ⟨x1, x2, x3, x4⟩ := go_of i1 ha hx
      refine ksw_end ((_, _), (vl ++ [uval a], _), (k + 1, _)) (by k_asm) (by assumption) (by exact fun p hp => hp) trivial (by exact List.forall_mem_cons.mpr ⟨by rfl, List.forall_mem_cons.mpr ⟨by rfl, List.forall_mem_cons.mpr ⟨by rfl, List.forall_mem_nil _⟩⟩⟩) (by intro z z2 z3; (simp only [List.forall_mem_cons, List.not_mem_nil, false_implies, implies_true, and_true, ne_eq] at z2); simp [kstB, z2]) ?_ ?_
      · dsimp only
        refine ⟨by omega, by simp; omega, ?_, ?_, by rw [← x4]; exact i5⟩
        · rw [← i3, x2]; simp only [tx_len]; omega
        · rw [← i4, x3]; simp
      · show ws.length - (k + 1) < ws.length - k
        omega
    · clear hR
      rename (ends ws)[Int.toNat ((k : Int) + 1)]? = some _ => hb
      rename (ends ws)[Int.toNat ((k : Int) + 2)]? = some _ => hc
      have hstop := stop_of ha (show (ends ws)[k + 1]? = _ from hb) (show (ends ws)[k + 2]? = _ from hc) (by omega) (by omega) (by omega)
      rw [hstop] at i3 i4 i5
      clear hb hc R
      rename News _ _ _ _ => N8
      refine halt_back ?_
      refine' ksw_while (σ := (Int × Tok) × (List Nat × Tok) × (Nat × Tok) × (Nat × Tok)) (fun _ => (lu, listOf (refs (ends ws)).toArray 0) :: news) (fun c => [(Str.ofString "place", .int c.1.1 c.1.2), (Str.ofString "value", .str (tx c.2.1.1) c.2.1.2), (Str.ofString "k", .int (c.2.2.1.1 : Nat) c.2.2.1.2), (Str.ofString "more", .int (c.2.2.2.1 : Nat) c.2.2.2.2)]) (fun _ => True) [] (fun c => c.2.2.2.1 ≤ 2 ∧ c.2.1.1.length ≤ k + c.2.2.2.1 ∧ c.1.1 + marks (2 - c.2.2.2.1) ((ends ws).drop c.2.2.1.1) = pl + 3 + marks 2 ((ends ws).drop (k + 3)) ∧ c.2.1.1 ++ List.replicate (marks (2 - c.2.2.2.1) ((ends ws).drop c.2.2.1.1)) 34 = vl ++ List.replicate (marks 2 ((ends ws).drop (k + 3))) 34) (fun c => 2 - c.2.2.2.1) ((pl + 3, _), (vl, _), (k + 3, _), (0, _)) ?gF ?gN ?gf ?gk ?gp ?_
      case gF => k_asm
      case gN => exact N8
      case gf => trivial
      case gk => exact List.forall_mem_cons.mpr ⟨by rfl, List.forall_mem_cons.mpr ⟨by rfl, List.forall_mem_cons.mpr ⟨by rfl, List.forall_mem_cons.mpr ⟨by rfl, List.forall_mem_nil _⟩⟩⟩⟩
      case gp => exact ⟨Nat.zero_le _, i2, rfl, rfl⟩
      rintro ⟨⟨pl2, plt2⟩, ⟨vl2, vlt2⟩, ⟨k2, kt2⟩, ⟨mo, mot⟩⟩ u h tk _ ⟨j1, j2, j3, j4⟩ F9 N9
      dsimp only at F9 j1 j2 j3 j4
      generalize hR : KswPost _ _ _ _ _ _ _ _ _ _ _ _ = R
      k_steps
      · subst hR
        rename (ends ws)[Int.toNat (k2 : Int)]? = some _ => hd2
        have e := marks_go (f := 2 - (mo + 1)) (show (ends ws)[k2]? = _ from hd2) (by omega)
        rw [show 2 - (mo + 1) + 1 = 2 - mo by omega] at e
        rw [e] at j3 j4
        refine ksw_end ((_, _), (vl2 ++ [34], _), (k2 + 1, _), (mo + 1, _)) (by k_asm) (by assumption) (by exact fun p hp => hp) trivial (by exact List.forall_mem_cons.mpr ⟨by rfl, List.forall_mem_cons.mpr ⟨by rfl, List.forall_mem_cons.mpr ⟨by rfl, List.forall_mem_cons.mpr ⟨by rfl, List.forall_mem_nil _⟩⟩⟩⟩) (by intro z z2 z3; (simp only [List.forall_mem_cons, List.not_mem_nil, false_implies, implies_true, and_true, ne_eq] at z2); simp [kstB, z2]) ?_ ?_
        · dsimp only
          refine ⟨by omega, by simp; omega, by omega, ?_⟩
          rw [← j4, List.append_assoc, List.replicate_succ]; rfl
        · show 2 - (mo + 1) < 2 - mo
          omega
      all_goals (
        rename News _ _ _ _ => kN
        rename (_ < _ ∧ AllLt _ news) => hlt
        have hz : marks (2 - mo) ((ends ws).drop k2) = 0 := by
          first
          | (rename (ends ws)[Int.toNat (k2 : Int)]? = some _ => hd2; exact marks_no (show (ends ws)[k2]? = _ from hd2) (by omega))
          | exact marks_end (by omega)
          | (have e0 : 2 - mo = 0 := by omega
             rw [e0]; rfl)
        have hdue : due ws = due0 (ends ws) 0 := due_at (show (ends ws)[0]? = _ from hu0) (by first | exact (if_pos (by omega)).symm | exact (if_neg (by omega)).symm)
        dsimp only at i3 i4 i5
        rw [hz] at j3 j4
        have hd1 : pl2 = ((due ws).1 : Int) := by
          rw [hdue]; unfold due0; dsimp only
          rw [← i5, List.drop_drop]; omega
        have hd3 : vl2 = (due ws).2 := by
          rw [hdue]; unfold due0; dsimp only
          rw [← i5, List.drop_drop, ← i4]; simpa using j4
        subst hd1 hd3
        refine hret _ [(_, listOf #[.int (due ws).1 plt2, .str (tx (due ws).2) vlt2] 0)] _ _ (by k_asm) ?_ ?_ ⟨_, _, _, _, rfl, rfl⟩
        · intro p hp
          refine kN p ?_
          rcases List.mem_append.mp hp with h9 | h9
          · simp [h9]
          · simp [List.mem_singleton.mp h9]
        · intro q hq p hp
          rw [List.mem_singleton.mp hp]
          exact ktn_ltOf hlt.2 q hq)

theorem due_tells {w : World} {mean : ExcName → Option Value} {mg mb : Str → Option Value} {l n : Nat} {ws : List Nat} {news : Led} (hall : ∀ u ∈ ws, IsUnit u) (hlen : ws.length ≤ 6) (hm : (l, listOf (refs ws).toArray n) ∈ news) :
    Tel w mean mg mb 195 20 [.ref l] news (fun tl r => ∃ a k t1 t2, r = .ref a ∧ tl = [(a, listOf #[.int (due ws).1 t1, .str (tx (due ws).2) t2] k)]) := by
  by_cases h : ∀ u, (ends ws)[0]? = some u → ukind u = 2
  · exact due_tells1 hall hlen h hm
  · refine due_tells0 hall hlen ?_ hm
    intro u hu q
    exact h fun v hv => by rw [hu] at hv; cases hv; exact q
end Mine

end

-- part M1
section
open PySem PySem.W PyProof.Rows PySem.Calls
set_option Elab.async false
set_option maxRecDepth 100000
namespace Mine
theorem slot_proxy_getitem : Slot "mappingproxy" "__getitem__" "mappingproxy.__getitem__" :=
  .of (owner := "mappingproxy") (n := "__getitem__") (by rw [typeLookup_type, builtinLookup_eq_fast]; kernel_rfl) (by decide +kernel) (by decide +kernel) (by decide +kernel)
    (by first | exact .inl (by decide +kernel) | exact .inr (by decide +kernel)) (by rw [isSubtype_type]; kernel_rfl)
theorem entry_proxy_getitem : entryFor table "mappingproxy.__getitem__" = some Builtin.«mappingproxy.__getitem__» := entryFor_of_fast (by kernel_rfl)
theorem args_proxy_getitem (a b : Value) : argsOk "mappingproxy.__getitem__" ⟨[a, b], []⟩ := by unfold argsOk; kernel_rfl
section
variable {prog : Program} {w : World} {A : Around} {E : Value → Shared → Prop} {s : Shared}
theorem proxy_typeIs {a : Addr} {o : Obj} (ho : s.heap.get? a = some o) (hc : o.cls = .type "mappingproxy") : s.TypeIs (.ref a) "mappingproxy" := by
  exact ⟨o, ho, hc⟩
theorem getItem_proxy {a d : Addr} {x : Str} {t : Tok} {v : Value} {f : Str → Option Value} {Q : Value → Shared → Prop} (hp : s.heap.get? a = some ⟨.type "mappingproxy", none, .fields #[.ref d], #[]⟩) (hm : s.heap.MapOf (strKind prog w) d f) (hv : f x = some v)
    (h : Q v { s with toks := s.toks + 1 }) : wpAny (model prog w) A (getItem (.ref a) (.str x t)) Q E s := by
  have hT : s.TypeIs (.ref a) "mappingproxy" := proxy_typeIs hp rfl
  unfold getItem
  try with_reducible refine wpAny_holding ?_
  refine wpAny_bind (wpAny_sequenceKey hT (by decide) ?_)
  refine wpAny_bind (wpAny_callSpecial?_slot (name := Str.ofString "__getitem__") hT slot_proxy_getitem
    (wpAny_call_entry slot_proxy_getitem hT entry_proxy_getitem ?_ (args_proxy_getitem _ _)))
  show wpAny _ _ (field (.ref a) 0 >>= fun z => getItem z (.str x t) >>= _) _ _ s
  unfold field fieldsOf
  refine wpAny_bind (wpAny_bind (wpAny_bind (wpAny_load hp (wpAny_pure ?_))))
  refine wpAny_pure ?_
  refine wpAny_bind (wpAny_getItem_of (knd := strKind prog w) (k := x) (strKind_is prog w x t) hm hv ?_)
  exact wpAny_pure ⟨v, rfl, wpAny_pure h⟩
end
end Mine
namespace Mine
section
variable {prog : Program} {w : World} {A : Around} {E : Value → Shared → Prop} {s : Shared} {h₀ : Heap} {L : Addr} {m : Str → Option Value} {P : Params}
theorem esc_map (X : (KT w.params).In h₀) (F : Fr h₀ L s.heap m) : ∃ es : Array DictEntry, s.heap.MapOf (strKind prog w) 92 (findBy (strKind prog w).is es) ∧
    findBy (strKind prog w).is es (tx [92, 34]) = some (.str (Str.ofString "\"") 470) ∧ findBy (strKind prog w).is es (tx [92, 92]) = some (.str (Str.ofString "\\") 472) ∧ findBy (strKind prog w).is es (tx [92, 110]) = some (.str (Str.ofString "\n") 464) := by
  refine ⟨_, ⟨⟨.type "dict", none, .dict _ _, #[]⟩, _, _, F.keep _ _ (X 92 _ (by rfl)), ⟨rfl, rfl, rfl⟩, rfl, ?_, fun _ => rfl⟩, ?_, ?_, ?_⟩
  · intro e he
    simp only [Array.mem_def, List.mem_cons, List.not_mem_nil, or_false] at he
    rcases he with rfl | rfl | rfl | rfl | rfl | rfl | rfl <;> exact ⟨_, strKind_is prog w _ _, rfl⟩
  · kernel_rfl
  · kernel_rfl
  · kernel_rfl
end
end Mine
namespace Mine
section
variable {prog : Program} {w : World} {A : Around} {E : Value → Shared → Prop} {s : Shared} {h₀ : Heap} {L : Addr} {m : Str → Option Value} {value slice : Expr} {t : Tok}
theorem esc_tail {c : Nat} {Q : Value → Shared → Prop} (X : (KT w.params).In h₀) (F : Fr h₀ L s.heap m) (hc : c = 34 ∨ c = 92 ∨ c = 110)
    (h : ∀ t', Q (.str (tx [if c = 110 then 10 else c]) t') { s with toks := s.toks + 1 })
    (hs : subscripted slice false (.ref 93) (.str (tx [92, c]) t) = operate [.ref 93, .str (tx [92, c]) t] (getItem (.ref 93) (.str (tx [92, c]) t))) :
    wpAny (model prog w) A (subscriptTail value slice (.ref 93) (.str (tx [92, c]) t)) Q E s := by
  obtain ⟨es, hm, m1, m2, m3⟩ := esc_map (prog := prog) X F
  have hp : s.heap.get? 93 = some ⟨.type "mappingproxy", none, .fields #[.ref 92], #[]⟩ := F.keep _ _ (X 93 _ (by rfl))
  refine tail_any (proxy_typeIs hp rfl) slot_proxy_getitem.lookup ?_ hs
  rcases hc with rfl | rfl | rfl
  · exact getItem_proxy hp hm m1 (h 470)
  · exact getItem_proxy hp hm m2 (h 472)
  · exact getItem_proxy hp hm m3 (h 464)
end
end Mine

end

-- part P1
section
open PySem PySem.W PyProof.Rows PySem.Calls
set_option Elab.async false
set_option maxRecDepth 100000
set_option maxHeartbeats 8000000
namespace Mine

theorem escape_tells {w : World} {mean : ExcName → Option Value} {mg mb : Str → Option Value} {l : List Nat} {t u : Tok} {p c : Nat} {news : Led} (hlen : l.length ≤ 100) (h0w : l[p]? = some 92) (h1w : l[p + 1]? = some c) (hc : c = 34 ∨ c = 92 ∨ c = 110) :
    TelK w mean mg mb 128 20 [.str (tx l) t, .int (p : Nat) u] [(Str.ofString "multiline", .bool true)] news (fun tl r => ∃ a k t1 t2, r = .ref a ∧ tl = [(a, { cls := .type "tuple", data := .seq #[.int ((p : Int) + 2) t1, .str (tx [if c = 110 then 10 else c]) t2] k })]) := by
  unfold TelK
  k_fill
  intro dp un gd cn cs a ccd cl outer A₀ base h₀ L m s Q E B F X CX N T hk hd hu hret
  refine wpAny_call ?_
  refine' code_def (binds := [(Str.ofString "src", Value.str (tx l) t), (Str.ofString "pos", Value.int (p : Nat) u), (Str.ofString "multiline", Value.bool true)]) B F X N T ?kA ?kF ?kK ?k6 ?k7 ?k8 ?k9 ?kB ?_ ?c2 ?c3 ?c4 ?c5
  case kA => exact rfl
  case kF => exact rfl
  case kK => assumption
  case k6 => k_is
  case k7 => k_is
  case k8 => ktr_room
  case k9 => (refine' kp_binds ?kx ?ke; (case kx => exact X.keeps F.keep); (case ke => exact fun _ => rfl))
  case c5 => decide
  case kB => exact locs rfl
  case c2 => exact rfl
  case c3 => exact rfl
  case c4 => exact rfl
  k_whole
  intro g1 L1 h1 FG1 F1 N1 B1 X1 T1
  have CX1 := CX.keeps FG1.keep
  try dsimp only
  try k_fold
  k_steps
  have hp2 : p + 1 < l.length := (List.getElem?_eq_some_iff.mp h1w).1
  refine slice_txR (s := ⟨_, _, _, _, _⟩) (a := p) (b := p + 2) (r := [92, c]) rfl (by rfl) (by omega) (by omega) hlen ?hr (by k_asm) (by k_asm) ?_ (by with_unfolding_all rfl) (by intro _; with_unfolding_all rfl)
  case hr => rw [drop_at h0w, drop_at h1w, show p + 2 - p = 2 by omega]; rfl
  intro h2 t2 k2 F2 N2
  k_steps
  all_goals first
    | (exfalso
       rename _ = true => q1
       rcases hc with rfl | rfl | rfl <;> first
       | (revert q1; decide +kernel)
       | (rename (_ || _) = true => q2; revert q2; decide +kernel))
    | skip
  refine esc_tail (by assumption) (by k_asm) hc ?_ (by with_unfolding_all rfl)
  intro t3
  k_steps
  rename News _ _ _ _ => kN
  rename (_ < _ ∧ AllLt _ news) => hlt

  exact hret1 hret (by k_asm) kN (fun p hp => .tail _ hp) hlt.2 ⟨_, _, _, _, rfl, rfl⟩
end Mine

end

-- part P2
section
open PySem PySem.W PyProof.Rows PySem.Calls
set_option Elab.async false
set_option maxRecDepth 100000
set_option maxHeartbeats 8000000
namespace Mine

theorem escape_multi_tells {w : World} {mean : ExcName → Option Value} {mg mb : Str → Option Value} {l : List Nat} {t u : Tok} {p c : Nat} {news : Led} (hlen : l.length ≤ 100) (h0w : l[p]? = some 92) (h1w : l[p + 1]? = some c) (hc : c = 34 ∨ c = 92 ∨ c = 110) :
    TelK w mean mg mb 135 30 [.str (tx l) t, .int (p : Nat) u] [] news (fun tl r => ∃ a k t1 t2, r = .ref a ∧ tl = [(a, { cls := .type "tuple", data := .seq #[.int ((p : Int) + 2) t1, .str (tx [if c = 110 then 10 else c]) t2] k })]) := by
  unfold TelK
  k_fill
  intro dp un gd cn cs a ccd cl outer A₀ base h₀ L m s Q E B F X CX N T hk hd hu hret
  refine wpAny_call ?_
  refine' code_def (binds := [(Str.ofString "src", Value.str (tx l) t), (Str.ofString "pos", Value.int (p : Nat) u)]) B F X N T ?kA ?kF ?kK ?k6 ?k7 ?k8 ?k9 ?kB ?_ ?c2 ?c3 ?c4 ?c5
  case kA => exact rfl
  case kF => exact rfl
  case kK => assumption
  case k6 => k_is
  case k7 => k_is
  case k8 => ktr_room
  case k9 => (refine' kp_binds ?kx ?ke; (case kx => exact X.keeps F.keep); (case ke => exact fun _ => rfl))
  case c5 => decide
  case kB => exact locs rfl
  case c2 => exact rfl
  case c3 => exact rfl
  case c4 => exact rfl
  k_whole
  intro g1 L1 h1 FG1 F1 N1 B1 X1 T1
  have CX1 := CX.keeps FG1.keep
  try dsimp only
  try k_fold
  k_steps
  refine' TelK.use (escape_tells hlen h0w h1w hc) ?B ?F ?X ?CX ?N ?T ?hk ?hd ?hu ?_
  case B => k_asm
  case F => k_asm
  case X => assumption
  case CX => assumption
  case N => k_asm
  case T => k_asm
  case hk => first | exact rfl | assumption
  case hd => ktr_room
  case hu => ktr_units
  intro r9 tl9 h9 tk9 F9 N9 hl9 ho9
  obtain ⟨a9, k9, t1, t2, rfl, rfl⟩ := ho9
  k_steps
  exact hret _ _ _ _ (by k_asm) (by k_asm) hl9 ⟨_, _, _, _, rfl, rfl⟩
end Mine

end

-- part Tx
section
open PySem PySem.W PyProof.Rows PySem.Calls
set_option Elab.async false
set_option maxRecDepth 100000
namespace Mine
def txt (us : List Nat) : List Nat := us.flatMap utxt
def text (ws : List Nat) : List Nat := [34, 34, 34] ++ (txt (ends ws) ++ [120])
def pat (ws : List Nat) (k : Nat) : Nat := 3 + (txt ((ends ws).take k)).length
theorem txt_len {us : List Nat} (h : ∀ u ∈ us, IsUnit u) : (txt us).length ≤ 2 * us.length := by
  induction us with
  | nil => simp [txt]
  | cons a r ih =>
    have h1 := utxt_len (h a (.head _))
    have h2 := ih fun u hu => h u (.tail _ hu)
    simp only [txt, List.flatMap_cons, List.length_append, List.length_cons] at h2 ⊢
    omega
theorem text_drop (ws : List Nat) (k : Nat) : (text ws).drop (pat ws k) = txt ((ends ws).drop k) ++ [120] := by
  have e : txt (ends ws) = txt ((ends ws).take k) ++ txt ((ends ws).drop k) := by
    unfold txt
    rw [← List.flatMap_append, List.take_append_drop]
  unfold text pat
  rw [e, List.append_assoc, ← List.append_assoc [34, 34, 34]]
  exact List.drop_left' (by simp; omega)
theorem pat_succ {ws : List Nat} {k u : Nat} (h : (ends ws)[k]? = some u) : pat ws (k + 1) = pat ws k + (utxt u).length := by
  unfold pat
  rw [List.take_add_one, h]
  simp [txt, List.flatMap_append]
  omega
theorem text_len {ws : List Nat} (h : ∀ u ∈ ws, IsUnit u) (hl : ws.length ≤ 6) : (text ws).length ≤ 22 := by
  have h1 : ∀ u ∈ ends ws, IsUnit u := fun u hu => (List.mem_append.mp hu).elim (h u) fun h => by simp at h; exact .inl h
  have h2 := txt_len h1
  have h3 : (ends ws).length = ws.length + 3 := by simp [ends]
  simp [text]
  omega
theorem pat_le {ws : List Nat} {k : Nat} (hk : k ≤ ws.length) : pat ws k + 4 ≤ (text ws).length := by
  have h := congrArg List.length (text_drop ws k)
  have e : (ends ws).drop k = ws.drop k ++ [171, 171, 171] := by
    unfold ends
    rw [List.drop_append_of_le_length hk]
  rw [e] at h
  simp [txt, List.flatMap_append, utxt] at h
  omega
theorem text_get {ws : List Nat} {k u i : Nat} (h : (ends ws)[k]? = some u) (hi : i < (utxt u).length) : (text ws)[pat ws k + i]? = (utxt u)[i]? := by
  rw [← List.getElem?_drop, text_drop, drop_at h]
  unfold txt
  rw [List.flatMap_cons, List.append_assoc, List.getElem?_append_left hi]
theorem starts_stop {ws : List Nat} {k : Nat} (hall : ∀ u ∈ ws, IsUnit u) (hk : k ≤ ws.length) (h : (ends ws)[k]? = some 171) : decide (((text ws).drop (pat ws k)).take [34, 34, 34].length = [34, 34, 34]) = stopAt ((ends ws).drop k) := by
  have h1 : ∀ u ∈ ends ws, IsUnit u := fun u hu => (List.mem_append.mp hu).elim (hall u) fun h => by simp at h; exact .inl h
  have hl : (ends ws).length = ws.length + 3 := by simp [ends]
  have hb : (ends ws)[k + 1]? = some (ends ws)[k + 1] := List.getElem?_eq_getElem (by omega)
  have hc : (ends ws)[k + 2]? = some (ends ws)[k + 2] := List.getElem?_eq_getElem (by omega)
  have ub := h1 _ (List.mem_of_getElem? hb)
  have uc := h1 _ (List.mem_of_getElem? hc)
  rw [text_drop, drop_at h, drop_at hb, drop_at hc]
  generalize (ends ws)[k + 1] = b at *
  generalize (ends ws)[k + 2] = c at *
  rcases ub with rfl | rfl | rfl | rfl | rfl | rfl <;> rcases uc with rfl | rfl | rfl | rfl | rfl | rfl <;> simp [txt, utxt, stopAt, ukind]
end Mine
namespace Mine
theorem stop_false_of {l : List Nat} {k a : Nat} (h : l[k]? = some a) (ka : ukind a ≠ 1) : stopAt (l.drop k) = false := by
  rw [drop_at h]
  unfold stopAt
  split
  · rename_i e
    injection e with e1 e2
    subst e1
    rw [beq_false_of_ne ka]; rfl
  · rfl
theorem go_stop {ws : List Nat} {k a : Nat} (hk : k ≤ ws.length) (h0 : (ends ws)[k]? = some a) (hs : stopAt ((ends ws).drop k) = false) :
    k < ws.length ∧ (scan ((ends ws).drop k)).1 = (utxt a).length + (scan ((ends ws).drop (k + 1))).1 ∧ (scan ((ends ws).drop k)).2.1 = uval a :: (scan ((ends ws).drop (k + 1))).2.1 ∧ (scan ((ends ws).drop k)).2.2 = (scan ((ends ws).drop (k + 1))).2.2 := by
  refine ⟨?_, ?_⟩
  · apply Classical.byContradiction
    intro q
    have e : k = ws.length := by omega
    subst e
    unfold ends at hs
    rw [List.drop_left] at hs
    exact absurd hs (by decide)
  · rw [drop_at h0] at hs ⊢
    have e : scan (a :: (ends ws).drop (k + 1)) = ((utxt a).length + (scan ((ends ws).drop (k + 1))).1, uval a :: (scan ((ends ws).drop (k + 1))).2.1, (scan ((ends ws).drop (k + 1))).2.2) := by
      rw [scan, hs]; simp
    rw [e]
    exact ⟨rfl, rfl, rfl⟩
theorem stop_true {l : List Nat} (hs : stopAt l = true) : scan l = (0, [], l) := by
  cases l with
  | nil => rfl
  | cons a r => rw [scan, hs]; rfl
theorem slice_succ {ws : List Nat} {k a st : Nat} (h : (ends ws)[k]? = some a) (hst : st ≤ pat ws k) : ((text ws).drop st).take (pat ws (k + 1) - st) = ((text ws).drop st).take (pat ws k - st) ++ utxt a := by
  rw [pat_succ h, show pat ws k + (utxt a).length - st = (pat ws k - st) + (utxt a).length by omega, List.take_add, List.drop_drop, show st + (pat ws k - st) = pat ws k by omega, text_drop, drop_at h]
  congr 1
  unfold txt
  rw [List.flatMap_cons, List.append_assoc, List.take_left]
end Mine

end

-- part M2
section
open PySem PySem.W PyProof.Rows PySem.Calls
set_option Elab.async false
set_option maxRecDepth 100000
namespace Mine
theorem slot_frz_contains : Slot "frozenset" "__contains__" "frozenset.__contains__" :=
  .of (owner := "frozenset") (n := "__contains__") (by rw [typeLookup_type, builtinLookup_eq_fast]; kernel_rfl) (by decide +kernel) (by decide +kernel) (by decide +kernel)
    (by first | exact .inl (by decide +kernel) | exact .inr (by decide +kernel)) (by rw [isSubtype_type]; kernel_rfl)
theorem entry_frz_contains : entryFor table "frozenset.__contains__" = some Builtin.«frozenset.__contains__» := entryFor_of_fast (by kernel_rfl)
theorem args_frz_contains (a b : Value) : argsOk "frozenset.__contains__" ⟨[a, b], []⟩ := by unfold argsOk; kernel_rfl
section
variable {prog : Program} {w : World} {A : Around} {E : Value → Shared → Prop} {s : Shared}
theorem frz_absent {a : Addr} {es : Array (Int × Value)} {n : Nat} {st : SetTable} {c : Nat} {t : Tok} {Q : Value → Shared → Prop} (ho : s.heap.get? a = some ⟨.type "frozenset", none, .set es n st, #[]⟩) (hf : st.fits es.size = true) (hz : es.size < 100)
    (hs : ∀ e ∈ es.toList, ∃ d u, e.2 = .str ⟨#[d]⟩ u ∧ d ≠ c) (h : Q (.bool false) { s with toks := s.toks + 1 }) : wpAny (model prog w) A (compareOp .In (.str ⟨#[c]⟩ t) (.ref a)) Q E s := by
  have hT : s.TypeIs (.ref a) "frozenset" := ⟨_, ho, rfl⟩
  show wpAny _ _ (do return .bool (← contains (.ref a) (.str ⟨#[c]⟩ t))) Q E s
  refine wpAny_bind ?_
  unfold contains
  try with_reducible refine wpAny_holding ?_
  refine wpAny_bind (wpAny_specialOf hT slot_frz_contains.lookup ?_)
  show wpAny _ _ (if (some (Value.builtin "frozenset.__contains__") == some Value.none) = true then _ else _) _ E s
  rw [if_neg (by rw [beq_builtin_none]; exact Bool.false_ne_true)]
  refine wpAny_bind (wpAny_callSpecialUnlessNone?_slot (name := Str.ofString "__contains__") hT slot_frz_contains
    (wpAny_call_entry slot_frz_contains hT entry_frz_contains ?_ (args_frz_contains _ _)))
  unfold Builtin.«frozenset.__contains__» Builtin.Frozenset.oneOther
  simp only [List.isEmpty_nil, bind_assoc]
  unfold Builtin.Frozenset.addrOf Builtin.Frozenset.withSetAsKey setContains
  refine wpAny_bind (wpAny_pure ?_)
  try dsimp only
  refine wpAny_bind (wpAny_pure ?_)
  try dsimp only
  refine wpAny_bind (wpAny_tryCatch ?_)
  refine wpAny_holding ?_
  refine wpAny_bind ((PySem.strKind prog w).pyHash (k := ⟨#[c]⟩) (strKind_is prog w _ _) ?_)
  have hall : es.all (fun e => e.2.scannable) = true := by
    rw [Array.all_eq_true]
    intro i hi
    obtain ⟨d, u, e, _⟩ := hs es[i] (by simp)
    rw [e]; rfl
  have hex : es.all (fun e => isExactStrKey e.2) = true := by
    rw [Array.all_eq_true]
    intro i hi
    obtain ⟨d, u, e, _⟩ := hs es[i] (by simp)
    rw [e]; rfl
  have hbs : byScan (.str ⟨#[c]⟩ t) es = true := by
    unfold byScan
    rw [hall, show decide (es.size < scanBound) = true from decide_eq_true (Nat.lt_of_lt_of_le hz (by decide +kernel))]
    rfl
  unfold setFind setFindIn
  refine wpAny_bind (wpAny_bind (wpAny_setState_of (s := { s with toks := s.toks + 1 }) ho rfl hf ?_))
  dsimp only
  rw [hbs]
  simp only [↓reduceIte]
  refine wpAny_bind (wpAny_rule ?_)
  refine wpAny_bind ?_
  unfold setScan
  dsimp only
  rw [if_pos hex]
  unfold setScanStrs
  have e : es.findIdx? (fun e => e.2.isStr ⟨#[c]⟩) = none := by
    rw [Array.findIdx?_eq_none_iff]
    intro e he
    obtain ⟨d, u, e1, hd⟩ := hs e (by simpa using he)
    rw [e1]
    show ((⟨#[d]⟩ : Str) == ⟨#[c]⟩) = false
    rw [sg_eq]; exact decide_eq_false hd
  rw [e]
  refine wpAny_pure ?_
  dsimp only
  refine wpAny_pure ?_
  refine wpAny_pure ?_
  show wpAny _ _ (ret (Value.bool false)) _ _ _
  exact wpAny_pure ⟨_, rfl, wpAny_truthy_bool (wpAny_pure h)⟩
end
theorem in_ctl {prog : Program} {w : World} {A : Around} {E : Value → Shared → Prop} {s : Shared} {h₀ : Heap} {L : Addr} {m : Str → Option Value} {c : Nat} {t : Tok} {Q : Value → Shared → Prop} (CX : CtlAt h₀) (F : Fr h₀ L s.heap m) (hc : c = 10 ∨ c = 97)
    (h : Q (.bool false) { s with toks := s.toks + 1 }) : wpAny (model prog w) A (compareOp .In (.str (tx [c]) t) (.ref 77)) Q E s := by
  obtain ⟨d, ho, es, n, st, rfl, hf, hz, hs⟩ := CX
  refine frz_absent (F.keep _ _ ho) hf hz (fun e he => ?_) h
  obtain ⟨c', u, e1, hc'⟩ := hs e he
  exact ⟨c', u, e1, by omega⟩
end Mine

end

-- part P3
section
open PySem PySem.W PyProof.Rows PySem.Calls
set_option Elab.async false
set_option maxRecDepth 100000
set_option maxHeartbeats 8000000
namespace Mine
theorem hret1a {news : Led} {Out : Led → Value → Prop} {Q : Value → Shared → Prop} {h₀ : Heap} {L : Addr} {m : Str → Option Value} {s : Shared}
    (hret : ∀ r tl h' tk', Fr h₀ L h' m → News h₀ L h' (news ++ tl) → (∀ q ∈ news, ∀ p ∈ tl, q.1 < p.1) → Out tl r → Q r { s with heap := h', toks := tk' })
    {a : Addr} {o : Obj} {rest : Led} {h' : Heap} {tk : Nat} {r : Value} (F : Fr h₀ L h' m) (N : News h₀ L h' ((a, o) :: rest)) (hr : ∀ p ∈ news, p ∈ rest) (hlt : ∀ q ∈ news, q.1 < a) (ho : Out [(a, o)] r) :
    Q r { s with heap := h', toks := tk } := by
  refine hret _ _ _ _ F (fun p hp => N p ?_) (fun q hq p hp => ?_) ho
  · rcases List.mem_append.mp hp with h | h
    · exact .tail _ (hr p h)
    · rw [List.mem_singleton.mp h]; exact .head _
  · rw [List.mem_singleton.mp hp]; exact hlt q hq
theorem tx_qqq : Str.ofString "\"\"\"" = tx [34, 34, 34] := by decide +kernel
def call2 (f : Value) (a : List Value) : Sem Value := call f a
theorem halt_call {M : Model} {A : Around} {f : Value} {a : List Value} {Q E : Value → Shared → Prop} {s : Shared} (h : wpAny M A (call2 f a) Q E s) : wpAny M A (call f a) Q E s := h
theorem halt_call_back {M : Model} {A : Around} {f : Value} {a : List Value} {Q E : Value → Shared → Prop} {s : Shared} (h : wpAny M A (call f a) Q E s) : wpAny M A (call2 f a) Q E s := h
theorem eq_known {prog : Program} {w : World} {A : Around} {E : Value → Shared → Prop} {s : Shared} {x y : Str} {t u : Tok} {b : Bool} {Q : Value → Shared → Prop} (h : (x == y) = b) (hq : Q (.bool b) s) : wpAny (model prog w) A (compareOp .Eq (.str x t) (.str y u)) Q E s := by
  subst h; exact eq_str hq
local macro_rules | `(tactic| walk_at "compareOp Eq str str") => `(tactic| (k_here; first | ((refine eq_known (b := true) ?h9 ?_); (case h9 => decide +kernel)) | ((refine eq_known (b := false) ?h9 ?_); (case h9 => decide +kernel))))
local macro_rules | `(tactic| walk_at "compareOp In str ref") => `(tactic| (k_here; (refine in_ctl (by assumption) (by k_asm) (by omega) ?_); (try dsimp only); (try k_gentoks)))
local macro_rules | `(tactic| walk_at "call builtin:str.startswith") => `(tactic| (k_here; (try simp only [tx_qqq]); (refine starts_txR rfl (List.cons_ne_nil _ _) (by assumption) ?_)))
local macro_rules | `(tactic| walk_at "call ref") => `(tactic| (k_here; (refine halt_call ?_)))
local macro_rules | `(tactic| walk_at "subscriptTail Name Name str int") => `(tactic| (k_here; (refine item_txR rfl (by assumption) (by assumption) ?_ (by with_unfolding_all rfl) (by intro _; with_unfolding_all rfl)); (try dsimp only); (try k_gentoks)))
local macro_rules | `(tactic| walk_at "subscriptTail Name Slice str ref") => `(tactic| (k_here; (refine slice_txR (s := ⟨_, _, _, _, _⟩) rfl rfl (by assumption) (by assumption) (by assumption) rfl (by k_asm) (by k_asm) ?_ (by with_unfolding_all rfl) (by intro _; with_unfolding_all rfl)); intro hp9 _ _ _ _; (try dsimp only); (try k_gentoks)))
local macro_rules | `(tactic| walk_at "binaryOp Add str str") => `(tactic| (k_here; (refine PyProof.Rows.add_str ?_ ?hz9; (case hz9 => (simp only [tx_len, sizeLine_eq, List.length_cons, List.length_nil, List.length_take, List.length_drop, List.length_append]; omega)); intro tq tkq; (try simp only [tx_app]))))
local macro_rules | `(tactic| walk_at "inplaceOp Add str str") => `(tactic| (k_here; (refine PyProof.Rows.iadd_str ?_ ?hz9; (case hz9 => (simp only [tx_len, sizeLine_eq, List.length_cons, List.length_nil, List.length_take, List.length_drop, List.length_append]; omega)); intro tq tkq; (try simp only [tx_app]))))
local macro_rules | `(tactic| walk_at "exec While UnaryOp cons nil") => `(tactic| (refine halt_exec ?_))
local macro_rules | `(tactic| walk_at "exec While BoolOp cons nil") => `(tactic| (refine halt_exec ?_))
local macro_rules | `(tactic| walk_at "exec While Constant cons nil") => `(tactic| (refine halt_exec ?_))
local macro_rules | `(tactic| walk_at "exec While Compare cons nil") => `(tactic| (refine halt_exec ?_))
local macro_rules | `(tactic| walk_at "exec While Name cons nil") => `(tactic| (refine halt_exec ?_))

theorem basic_tells {w : World} {mean : ExcName → Option Value} {mg mb : Str → Option Value} {ws : List Nat} {t u : Tok} {k0 : Nat} {news : Led} (hall : ∀ u ∈ ws, IsUnit u) (hlen : ws.length ≤ 6) (hk0 : k0 ≤ ws.length) :
    TelK w mean mg mb 156 50 [.str (tx (text ws)) t, .int (pat ws k0 : Nat) u] [(Str.ofString "multiline", .bool true)] news (fun tl r => ∃ a k t1 t2, r = .ref a ∧ tl = [(a, { cls := .type "tuple", data := .seq #[.int ((pat ws k0 + (scan ((ends ws).drop k0)).1 + 3 : Nat) : Int) t1, .str (tx (scan ((ends ws).drop k0)).2.1) t2] k })]) := by
  unfold TelK
  k_fill
  intro dp un gd cn cs a ccd cl outer A₀ base h₀ L m s Q E B F X CX N T hk hd hu hret
  refine wpAny_call ?_
  refine' code_def (binds := [(Str.ofString "src", Value.str (tx (text ws)) t), (Str.ofString "pos", Value.int (pat ws k0 : Nat) u), (Str.ofString "multiline", Value.bool true)]) B F X N T ?kA ?kF ?kK ?k6 ?k7 ?k8 ?k9 ?kB ?_ ?c2 ?c3 ?c4 ?c5
  case kA => exact rfl
  case kF => exact rfl
  case kK => assumption
  case k6 => k_is
  case k7 => k_is
  case k8 => ktr_room
  case k9 => (refine' kp_binds ?kx ?ke; (case kx => exact X.keeps F.keep); (case ke => exact fun _ => rfl))
  case c5 => decide
  case kB => exact locs rfl
  case c2 => exact rfl
  case c3 => exact rfl
  case c4 => exact rfl
  k_whole
  intro g1 L1 h1 FG1 F1 N1 B1 X1 T1
  have CX1 := CX.keeps FG1.keep
  try dsimp only
  try k_fold
  k_steps
  refine halt_back ?_
  have hallU : ∀ u ∈ ends ws, IsUnit u := fun u hu => (List.mem_append.mp hu).elim (hall u) fun h => by simp at h; exact .inl h
  have hlenU : (ends ws).length = ws.length + 3 := by simp [ends]
  have htl := text_len hall hlen
  have htl2 : (text ws).length ≤ 100 := by omega
  refine' ksw_while (σ := (Nat × Tok) × (List Nat × Tok) × (Nat × Tok) × Nat) (fun _ => news) (fun c => [(Str.ofString "pos", .int (pat ws c.2.2.2 : Nat) c.1.2), (Str.ofString "result", .str (tx c.2.1.1) c.2.1.2), (Str.ofString "start_pos", .int (c.2.2.1.1 : Nat) c.2.2.1.2)]) (fun _ => True) [Str.ofString "char", Str.ofString "parsed_escape"] (fun c => c.2.2.2 ≤ ws.length ∧ c.2.2.1.1 ≤ pat ws c.2.2.2 ∧ c.2.1.1.length + (pat ws c.2.2.2 - c.2.2.1.1) ≤ c.2.2.2 ∧ c.2.1.1 ++ ((text ws).drop c.2.2.1.1).take (pat ws c.2.2.2 - c.2.2.1.1) ++ (scan ((ends ws).drop c.2.2.2)).2.1 = (scan ((ends ws).drop k0)).2.1 ∧ pat ws c.2.2.2 + (scan ((ends ws).drop c.2.2.2)).1 = pat ws k0 + (scan ((ends ws).drop k0)).1) (fun c => ws.length - c.2.2.2) ((0, _), ([], _), (pat ws k0, _), k0) ?hF ?hN ?hf ?hk ?hp ?_
  case hF => k_asm
  case hN => k_asm
  case hf => trivial
  case hk => exact List.forall_mem_cons.mpr ⟨by rfl, List.forall_mem_cons.mpr ⟨by rfl, List.forall_mem_cons.mpr ⟨by rfl, List.forall_mem_nil _⟩⟩⟩
  case hp => exact ⟨hk0, Nat.le_refl _, by simp, by simp, rfl⟩
  rintro ⟨⟨_, pt⟩, ⟨r, rt⟩, ⟨st, stt⟩, k⟩ v h tk _ ⟨i1, i2, i3, i4, i5⟩ F9 N9
  dsimp only at F9 i1 i2 i3 i4 i5
  obtain ⟨a, ha⟩ : ∃ a, (ends ws)[k]? = some a := ⟨_, List.getElem?_eq_getElem (by omega)⟩
  have hp2 := pat_le i1
  have hp3 : pat ws k ≤ (text ws).length := by omega
  generalize hR : KswPost _ _ _ _ _ _ _ _ _ _ _ _ = R
  have hg0 : (text ws)[pat ws k]? = (utxt a)[0]? := text_get (i := 0) ha (by rcases hallU a (List.mem_of_getElem? ha) with rfl | rfl | rfl | rfl | rfl | rfl <;> decide)
  have hch : a = 171 ∨ (a = 173 ∨ a = 175) ∨ ∃ c, utxt a = [92, c] ∧ (c = 34 ∨ c = 92 ∨ c = 110) := by
    rcases hallU a (List.mem_of_getElem? ha) with rfl | rfl | rfl | rfl | rfl | rfl <;> simp [utxt]
  rcases hch with rfl | (rfl | rfl) | ⟨c, hc, hcc⟩
  · have hg : (text ws)[pat ws k]? = some 34 := hg0
    have hst := starts_stop hall i1 ha
    cases hstop : stopAt ((ends ws).drop k) with
    | true =>
      rw [hstop] at hst
      have hsc := stop_true hstop
      rw [hsc] at i4 i5
      dsimp only at i4 i5
      k_steps
      subst hR
      unfold KswPost
      dsimp only
      k_steps
      rename News _ _ _ _ => kN
      rename (∀ p ∈ news, p.1 < _) => hlt
      have hv1 : ((pat ws k : Nat) : Int) + 3 = ((pat ws k0 + (scan ((ends ws).drop k0)).1 + 3 : Nat) : Int) := by omega
      have hv2 : r ++ ((text ws).drop st).take (pat ws k - st) = (scan ((ends ws).drop k0)).2.1 := by simpa using i4
      rw [hv1, hv2] at kN
      exact hret1a hret (by k_asm) kN (fun p hp => hp) hlt ⟨_, _, _, _, rfl, rfl⟩
    | false =>
      rw [hstop] at hst
      have hpn := pat_succ ha
      have hps : ((pat ws (k + 1) : Nat) : Int) = (pat ws k : Int) + 1 := by rw [hpn]; rfl
      obtain ⟨x1, x2, x3, x4⟩ := go_stop i1 ha hstop
      have hu1 : (utxt 171).length = 1 := rfl
      k_steps
      subst hR
      show KswEnd _ _ _ _ _ _ _ _ _ _ _ _
      refine ksw_end ((0, _), (r, _), (st, _), k + 1) (by k_asm) (by assumption) (by exact fun p hp => hp) trivial (by exact List.forall_mem_cons.mpr ⟨by (show _ = some (Value.int ((pat ws (k + 1) : Nat) : Int) _); rw [hps]; rfl), List.forall_mem_cons.mpr ⟨by rfl, List.forall_mem_cons.mpr ⟨by rfl, List.forall_mem_nil _⟩⟩⟩) (by intro z z2 z3; (simp only [List.forall_mem_cons, List.not_mem_nil, false_implies, implies_true, and_true, ne_eq] at z2); (simp only [List.contains_cons, List.contains_nil, Bool.or_false, Bool.or_eq_false_iff, beq_eq_false_iff_ne, ne_eq] at z3); simp [kstB, z2, z3]) ?_ ?_
      · dsimp only
        have hsl := slice_succ ha i2
        refine ⟨by omega, by omega, by omega, ?_, by omega⟩
        rw [hsl, ← i4, x3]; simp [utxt, uval]
      · show ws.length - (k + 1) < ws.length - k
        omega
  · have hg : (text ws)[pat ws k]? = some 10 := hg0
    have hpn := pat_succ ha
    have hps : ((pat ws (k + 1) : Nat) : Int) = (pat ws k : Int) + 1 := by rw [hpn]; rfl
    obtain ⟨x1, x2, x3, x4⟩ := go_stop i1 ha (stop_false_of ha (by decide))
    have hu1 : (utxt 173).length = 1 := rfl
    k_steps
    subst hR
    show KswEnd _ _ _ _ _ _ _ _ _ _ _ _
    refine ksw_end ((0, _), (r, _), (st, _), k + 1) (by k_asm) (by assumption) (by exact fun p hp => hp) trivial (by exact List.forall_mem_cons.mpr ⟨by (show _ = some (Value.int ((pat ws (k + 1) : Nat) : Int) _); rw [hps]; rfl), List.forall_mem_cons.mpr ⟨by rfl, List.forall_mem_cons.mpr ⟨by rfl, List.forall_mem_nil _⟩⟩⟩) (by intro z z2 z3; (simp only [List.forall_mem_cons, List.not_mem_nil, false_implies, implies_true, and_true, ne_eq] at z2); (simp only [List.contains_cons, List.contains_nil, Bool.or_false, Bool.or_eq_false_iff, beq_eq_false_iff_ne, ne_eq] at z3); simp [kstB, z2, z3]) ?_ ?_
    · dsimp only
      have hsl := slice_succ ha i2
      refine ⟨by omega, by omega, by omega, ?_, by omega⟩
      rw [hsl, ← i4, x3]; simp [utxt, uval]
    · show ws.length - (k + 1) < ws.length - k
      omega
  · have hg : (text ws)[pat ws k]? = some 97 := hg0
    have hpn := pat_succ ha
    have hps : ((pat ws (k + 1) : Nat) : Int) = (pat ws k : Int) + 1 := by rw [hpn]; rfl
    obtain ⟨x1, x2, x3, x4⟩ := go_stop i1 ha (stop_false_of ha (by decide))
    have hu1 : (utxt 175).length = 1 := rfl
    k_steps
    subst hR
    show KswEnd _ _ _ _ _ _ _ _ _ _ _ _
    refine ksw_end ((0, _), (r, _), (st, _), k + 1) (by k_asm) (by assumption) (by exact fun p hp => hp) trivial (by exact List.forall_mem_cons.mpr ⟨by (show _ = some (Value.int ((pat ws (k + 1) : Nat) : Int) _); rw [hps]; rfl), List.forall_mem_cons.mpr ⟨by rfl, List.forall_mem_cons.mpr ⟨by rfl, List.forall_mem_nil _⟩⟩⟩) (by intro z z2 z3; (simp only [List.forall_mem_cons, List.not_mem_nil, false_implies, implies_true, and_true, ne_eq] at z2); (simp only [List.contains_cons, List.contains_nil, Bool.or_false, Bool.or_eq_false_iff, beq_eq_false_iff_ne, ne_eq] at z3); simp [kstB, z2, z3]) ?_ ?_
    · dsimp only
      have hsl := slice_succ ha i2
      refine ⟨by omega, by omega, by omega, ?_, by omega⟩
      rw [hsl, ← i4, x3]; simp [utxt, uval]
    · show ws.length - (k + 1) < ws.length - k
      omega
  · have hg : (text ws)[pat ws k]? = some 92 := by rw [hg0, hc]; rfl
    have hg1 : (text ws)[pat ws k + 1]? = some c := by rw [text_get (i := 1) ha (by rw [hc]; exact Nat.lt_succ_self 1), hc]; rfl
    have hka : ukind a ≠ 1 := by
      intro q
      rcases hallU a (List.mem_of_getElem? ha) with rfl | rfl | rfl | rfl | rfl | rfl <;> first | (revert q; decide) | (revert hc; simp [utxt])
    have hpn := pat_succ ha
    obtain ⟨x1, x2, x3, x4⟩ := go_stop i1 ha (stop_false_of ha hka)
    have hu2 : (utxt a).length = 2 := by rw [hc]; rfl
    have hps : ((pat ws (k + 1) : Nat) : Int) = (pat ws k : Int) + 2 := by rw [hpn, hu2]; rfl
    k_steps
    refine halt_call_back ?_
    refine' TelK.use (escape_multi_tells htl2 hg hg1 hcc) ?B ?F ?X ?CX ?N ?T ?hk ?hd ?hu ?_
    case B => k_asm
    case F => k_asm
    case X => assumption
    case CX => assumption
    case N => k_asm
    case T => k_asm
    case hk => first | exact rfl | assumption
    case hd => ktr_room
    case hu => ktr_units
    intro r9 tl9 h9 tk9 F9 N9 hl9 ho9
    obtain ⟨a9, k9, t1, t2, rfl, rfl⟩ := ho9
    k_steps
    subst hR
    show KswEnd _ _ _ _ _ _ _ _ _ _ _ _
    have hua : (if c = 110 then 10 else c) = uval a := by
      rcases hallU a (List.mem_of_getElem? ha) with rfl | rfl | rfl | rfl | rfl | rfl <;> (simp [utxt] at hc) <;> (subst hc; rfl)
    refine ksw_end ((0, _), (r ++ ((text ws).drop st).take (pat ws k - st) ++ [if c = 110 then 10 else c], _), (pat ws (k + 1), _), k + 1) (by k_asm) (by assumption) (by exact fun p hp => mem1 hp) trivial (by exact List.forall_mem_cons.mpr ⟨by (show _ = some (Value.int ((pat ws (k + 1) : Nat) : Int) _); rw [hps]; rfl), List.forall_mem_cons.mpr ⟨by rfl, List.forall_mem_cons.mpr ⟨by (show _ = some (Value.int ((pat ws (k + 1) : Nat) : Int) _); rw [hps]; rfl), List.forall_mem_nil _⟩⟩⟩) (by intro z z2 z3; (simp only [List.forall_mem_cons, List.not_mem_nil, false_implies, implies_true, and_true, ne_eq] at z2); (simp only [List.contains_cons, List.contains_nil, Bool.or_false, Bool.or_eq_false_iff, beq_eq_false_iff_ne, ne_eq] at z3); simp [kstB, z2, z3]) ?_ ?_
    · dsimp only
      refine ⟨by omega, by omega, by (simp only [List.length_append, List.length_take, List.length_drop, List.length_cons, List.length_nil]; omega), ?_, by omega⟩
      rw [Nat.sub_self, List.take_zero, hua, ← i4, x3]; simp
    · show ws.length - (k + 1) < ws.length - k
      omega
end Mine

end

-- part Tx2
section
open PySem PySem.W PyProof.Rows PySem.Calls
set_option Elab.async false
set_option maxRecDepth 100000
namespace Mine
theorem starts_feed {ws : List Nat} {u : Nat} (h : (ends ws)[0]? = some u) (hu : IsUnit u) : decide (((text ws).drop 3).take [10].length = [10]) = decide (ukind u = 2) := by
  have e := text_drop ws 0
  rw [show pat ws 0 = 3 from rfl, drop_at h] at e
  rw [e]
  rcases hu with rfl | rfl | rfl | rfl | rfl | rfl <;> simp [txt, utxt, ukind]
theorem starts_mark {ws : List Nat} {j : Nat} (hall : ∀ u ∈ ends ws, IsUnit u) (f : Nat) : (decide (((text ws).drop (pat ws j)).take [34].length = [34]) = true ∧ marks (f + 1) ((ends ws).drop j) = marks f ((ends ws).drop (j + 1)) + 1 ∧ pat ws (j + 1) = pat ws j + 1) ∨
    (decide (((text ws).drop (pat ws j)).take [34].length = [34]) = false ∧ marks (f + 1) ((ends ws).drop j) = 0) := by
  cases h : (ends ws)[j]? with
  | none =>
    right
    rw [text_drop, List.drop_of_length_le (List.getElem?_eq_none_iff.mp h)]
    exact ⟨by decide, rfl⟩
  | some u =>
    have hu := hall u (List.mem_of_getElem? h)
    by_cases hk : ukind u = 1
    · left
      refine ⟨?_, marks_go h hk, ?_⟩
      · rw [text_drop, drop_at h]
        rcases hu with rfl | rfl | rfl | rfl | rfl | rfl <;> first | (simp [ukind] at hk; done) | simp [txt, utxt]
      · rw [pat_succ h]
        rcases hu with rfl | rfl | rfl | rfl | rfl | rfl <;> first | (simp [ukind] at hk; done) | rfl
    · right
      refine ⟨?_, marks_no h hk⟩
      rw [text_drop, drop_at h]
      rcases hu with rfl | rfl | rfl | rfl | rfl | rfl <;> first | (simp [ukind] at hk; done) | simp [txt, utxt]
theorem scan_at {ws : List Nat} (hall : ∀ u ∈ ends ws, IsUnit u) : ∀ (n k : Nat), ws.length - k = n → k ≤ ws.length → ∃ k', k' ≤ ws.length ∧ (scan ((ends ws).drop k)).2.2 = (ends ws).drop k' ∧ pat ws (k' + 3) = pat ws k + (scan ((ends ws).drop k)).1 + 3 := by
  intro n
  induction n with
  | zero =>
    intro k hn hk
    obtain rfl : k = ws.length := by omega
    refine ⟨ws.length, Nat.le_refl _, ?_, ?_⟩
    · have : stopAt ((ends ws).drop ws.length) = true := by
        unfold ends; rw [List.drop_left]; decide
      rw [stop_true this]
    · have : stopAt ((ends ws).drop ws.length) = true := by
        unfold ends; rw [List.drop_left]; decide
      rw [stop_true this]
      have e : ∀ i, i < 3 → (ends ws)[ws.length + i]? = some 171 := by
        intro i hi
        unfold ends
        rw [List.getElem?_append_right (by omega)]
        have : i = 0 ∨ i = 1 ∨ i = 2 := by omega
        rcases this with rfl | rfl | rfl <;> simp
      have e0 := pat_succ (e 0 (by decide))
      have e1 := pat_succ (e 1 (by decide))
      have e2 := pat_succ (e 2 (by decide))
      simp only [Nat.add_zero, Nat.add_assoc, Nat.reduceAdd, show (utxt 171).length = 1 from rfl] at e0 e1 e2 ⊢
      omega
  | succ n ih =>
    intro k hn hk
    obtain ⟨a, ha⟩ : ∃ a, (ends ws)[k]? = some a := ⟨_, List.getElem?_eq_getElem (by simp [ends]; omega)⟩
    cases hs : stopAt ((ends ws).drop k) with
    | true =>
      refine ⟨k, hk, by rw [stop_true hs], ?_⟩
      rw [stop_true hs]
      have hl : (ends ws).length = ws.length + 3 := by simp [ends]
      have hb : (ends ws)[k + 1]? = some (ends ws)[k + 1] := List.getElem?_eq_getElem (by omega)
      have hc : (ends ws)[k + 2]? = some (ends ws)[k + 2] := List.getElem?_eq_getElem (by omega)
      rw [drop_at ha, drop_at hb, drop_at hc] at hs
      simp only [stopAt, Bool.and_eq_true, beq_iff_eq] at hs
      have k1 : ∀ u, IsUnit u → ukind u = 1 → (utxt u).length = 1 := by
        intro u hu h
        rcases hu with rfl | rfl | rfl | rfl | rfl | rfl <;> first | (simp [ukind] at h; done) | rfl
      have e0 := pat_succ ha
      have e1 := pat_succ hb
      have e2 := pat_succ hc
      rw [k1 _ (hall _ (List.mem_of_getElem? ha)) hs.1] at e0
      rw [k1 _ (hall _ (List.mem_of_getElem? hb)) hs.2.1] at e1
      rw [k1 _ (hall _ (List.mem_of_getElem? hc)) hs.2.2] at e2
      simp only [Nat.add_assoc, Nat.reduceAdd] at e0 e1 e2 ⊢
      omega
    | false =>
      obtain ⟨x1, x2, x3, x4⟩ := go_stop hk ha hs
      obtain ⟨k', h1, h2, h3⟩ := ih (k + 1) (by omega) (by omega)
      refine ⟨k', h1, by rw [x4, h2], ?_⟩
      rw [h3, pat_succ ha, x2]
      omega
end Mine

end

-- part P4
section
open PySem PySem.W PyProof.Rows PySem.Calls
set_option Elab.async false
set_option maxRecDepth 100000
set_option maxHeartbeats 8000000
namespace Mine
theorem tx_qq : Str.ofString "\"\"" = tx [34, 34] := by decide +kernel
theorem tx_n : Str.ofString "\n" = tx [10] := by decide +kernel
local macro_rules | `(tactic| walk_at "call builtin:str.startswith") => `(tactic| (k_here; (try simp only [tx_q, tx_n]); first | (refine starts_txR rfl (List.cons_ne_nil _ _) (by assumption) ?_) | (refine starts_txR (by assumption) (List.cons_ne_nil _ _) (by assumption) ?_)))
local macro_rules | `(tactic| walk_at "call ref") => `(tactic| (k_here; (refine halt_call ?_)))
local macro_rules | `(tactic| walk_at "binaryOp Add str str") => `(tactic| (k_here; (try simp only [tx_q]); (refine PyProof.Rows.add_str ?_ ?hz9; (case hz9 => (simp only [tx_len, sizeLine_eq, List.length_cons, List.length_nil, List.length_take, List.length_drop, List.length_append]; omega)); intro tq tkq; (try simp only [tx_app]))))

theorem basic_tells2 {w : World} {mean : ExcName → Option Value} {mg mb : Str → Option Value} {ws : List Nat} {k0 : Nat} {i : Int} (hall : ∀ u ∈ ws, IsUnit u) (hlen : ws.length ≤ 6) (hk0 : k0 ≤ ws.length) (hi : i = (pat ws k0 : Int)) :
    ∃ k', k' ≤ ws.length ∧ (scan ((ends ws).drop k0)).2.2 = (ends ws).drop k' ∧ pat ws (k' + 3) = pat ws k0 + (scan ((ends ws).drop k0)).1 + 3 ∧
    ∀ (t u : Tok) (news : Led), TelK w mean mg mb 156 50 [.str (tx (text ws)) t, .int i u] [(Str.ofString "multiline", .bool true)] news (fun tl r => ∃ a k t1 t2, r = .ref a ∧ tl = [(a, { cls := .type "tuple", data := .seq #[.int (pat ws (k' + 3) : Nat) t1, .str (tx (scan ((ends ws).drop k0)).2.1) t2] k })]) := by
  have hallU : ∀ u ∈ ends ws, IsUnit u := fun u hu => (List.mem_append.mp hu).elim (hall u) fun h => by simp at h; exact .inl h
  obtain ⟨k', q1, q2, q3⟩ := scan_at hallU _ k0 rfl hk0
  refine ⟨k', q1, q2, q3, ?_⟩
  subst hi
  rw [q3]
  intro t u news
  exact basic_tells hall hlen hk0
theorem hret2 {news : Led} {Out : Led → Value → Prop} {Q : Value → Shared → Prop} {h₀ : Heap} {L : Addr} {m : Str → Option Value} {s : Shared}
    (hret : ∀ r tl h' tk', Fr h₀ L h' m → News h₀ L h' (news ++ tl) → (∀ q ∈ news, ∀ p ∈ tl, q.1 < p.1) → Out tl r → Q r { s with heap := h', toks := tk' })
    {a b : Addr} {o o2 : Obj} {h' : Heap} {tk : Nat} {r : Value} (F : Fr h₀ L h' m) (N : News h₀ L h' ((a, o) :: (news ++ [(b, o2)]))) (hlt : ∀ q ∈ news ++ [(b, o2)], q.1 < a) (h9 : ∀ q ∈ news, ∀ p ∈ [(b, o2)], q.1 < p.1) (ho : Out [(b, o2), (a, o)] r) :
    Q r { s with heap := h', toks := tk } := by
  refine hret _ _ _ _ F (fun p hp => N p ?_) (fun q hq p hp => ?_) ho
  · rcases List.mem_append.mp hp with h | h
    · exact .tail _ (List.mem_append_left _ h)
    · rcases List.mem_cons.mp h with h | h
      · rw [h]; exact .tail _ (List.mem_append_right _ (.head _))
      · rw [List.mem_singleton.mp h]; exact .head _
  · rcases List.mem_cons.mp hp with h | h
    · exact h9 q hq p (by rw [h]; exact .head _)
    · rw [List.mem_singleton.mp h]; exact hlt q (List.mem_append_left _ hq)
theorem scan_len : ∀ l : List Nat, (scan l).2.1.length ≤ l.length := by
  intro l
  induction l with
  | nil => exact Nat.le_refl _
  | cons a r ih =>
    unfold scan
    split
    · exact Nat.zero_le _
    · simp only [List.length_cons]; omega
theorem multi_tells {w : World} {mean : ExcName → Option Value} {mg mb : Str → Option Value} {ws : List Nat} {t u : Tok} {news : Led} (hall : ∀ u ∈ ws, IsUnit u) (hlen : ws.length ≤ 6) :
    TelK w mean mg mb 149 60 [.str (tx (text ws)) t, .int 0 u] [(Str.ofString "literal", .bool false)] news (fun tl r => ∃ b o a k t1 t2, r = .ref a ∧ tl = [(b, o), (a, { cls := .type "tuple", data := .seq #[.int ((due ws).1 : Nat) t1, .str (tx (due ws).2) t2] k })]) := by
  unfold TelK
  k_fill
  intro dp un gd cn cs a ccd cl outer A₀ base h₀ L m s Q E B F X CX N T hk hd hu hret
  refine wpAny_call ?_
  refine' code_def (binds := [(Str.ofString "src", Value.str (tx (text ws)) t), (Str.ofString "pos", Value.int 0 u), (Str.ofString "literal", Value.bool false)]) B F X N T ?kA ?kF ?kK ?k6 ?k7 ?k8 ?k9 ?kB ?_ ?c2 ?c3 ?c4 ?c5
  case kA => exact rfl
  case kF => exact rfl
  case kK => assumption
  case k6 => k_is
  case k7 => k_is
  case k8 => ktr_room
  case k9 => (refine' kp_binds ?kx ?ke; (case kx => exact X.keeps F.keep); (case ke => exact fun _ => rfl))
  case c5 => decide
  case kB => exact locs rfl
  case c2 => exact rfl
  case c3 => exact rfl
  case c4 => exact rfl
  k_whole
  intro g1 L1 h1 FG1 F1 N1 B1 X1 T1
  have CX1 := CX.keeps FG1.keep
  try dsimp only
  try k_fold
  have hallU : ∀ u ∈ ends ws, IsUnit u := fun u hu => (List.mem_append.mp hu).elim (hall u) fun h => by simp at h; exact .inl h
  have hlenU : (ends ws).length = ws.length + 3 := by simp [ends]
  obtain ⟨u0, hu0⟩ : ∃ a, (ends ws)[0]? = some a := ⟨_, List.getElem?_eq_getElem (by omega)⟩
  have hfeed := starts_feed hu0 (hallU _ (List.mem_of_getElem? hu0))
  have h03 : (0 : Int) + 3 = ((3 : Nat) : Int) := rfl
  have hdue := due_at hu0 rfl
  by_cases hk2 : ukind u0 = 2
  · rw [decide_eq_true hk2] at hfeed
    rw [if_pos hk2] at hdue
    have hk1 : 1 ≤ ws.length := by
      apply Classical.byContradiction
      intro q
      have e0 : ws = [] := List.length_eq_zero_iff.mp (by omega)
      subst e0
      cases hu0
      exact absurd hk2 (by decide)
    have hi0 : (0 : Int) + 3 + 1 = ((pat ws 1 : Nat) : Int) := by
      rw [pat_succ hu0]
      rcases hallU _ (List.mem_of_getElem? hu0) with rfl | rfl | rfl | rfl | rfl | rfl <;> first | (simp [ukind] at hk2; done) | rfl
    obtain ⟨k', q1, q2, q3, C⟩ := basic_tells2 (w := w) (mean := mean) (mg := mg) (mb := mb) (k0 := 1) (i := 0 + 3 + 1) hall hlen hk1 hi0
    k_steps
    refine' TelK.use (C _ _ _) ?B ?F ?X ?CX ?N ?T ?hk ?hd ?hu ?_
    case B => k_asm
    case F => k_asm
    case X => assumption
    case CX => assumption
    case N => k_asm
    case T => k_asm
    case hk => first | exact rfl | assumption
    case hd => ktr_room
    case hu => ktr_units
    intro r9 tl9 h9 tk9 F9 N9 hl9 ho9
    obtain ⟨a9, k9, t1, t2, rfl, rfl⟩ := ho9
    have hvl := scan_len ((ends ws).drop 1)
    rw [List.length_drop] at hvl
    generalize hV : (scan ((ends ws).drop 1)).2.1 = V at *
    rcases starts_mark hallU (j := k' + 3) 1 with ⟨b1, m1, p1⟩ | ⟨b1, m1⟩
    · have hi1 : ((pat ws (k' + 3) : Nat) : Int) + 1 = ((pat ws (k' + 3 + 1) : Nat) : Int) := by rw [p1]; rfl
      rcases starts_mark hallU (j := k' + 3 + 1) 0 with ⟨b2, m2, p2⟩ | ⟨b2, m2⟩
      · k_steps
        rename News _ _ _ _ => kN
        rename (∀ p ∈ news ++ _, p.1 < _) => hlt
        have hm : marks 2 ((ends ws).drop (k' + 3)) = 2 := by rw [m1, m2]; rfl
        have hp0 : pat ws 1 = 4 := by have := hi0; omega
        have hv1 : ((pat ws (k' + 3) : Nat) : Int) + 1 + 1 = ((due ws).1 : Int) := by
          rw [hdue]; unfold due0; dsimp only
          rw [q2, List.drop_drop, hm]; omega
        have hv2 : V ++ [34, 34] = (due ws).2 := by
          rw [hdue]; unfold due0; dsimp only
          rw [q2, List.drop_drop, hm, hV]; simp [List.replicate]
        (try simp only [tx_qq, tx_app] at kN)
        rw [hv1, hv2] at kN
        refine hret2 hret (by k_asm) kN hlt hl9 ⟨_, _, _, _, _, _, rfl, rfl⟩
      · k_steps
        rename News _ _ _ _ => kN
        rename (∀ p ∈ news ++ _, p.1 < _) => hlt
        have hm : marks 2 ((ends ws).drop (k' + 3)) = 1 := by rw [m1, m2]
        have hp0 : pat ws 1 = 4 := by have := hi0; omega
        have hv1 : ((pat ws (k' + 3) : Nat) : Int) + 1 = ((due ws).1 : Int) := by
          rw [hdue]; unfold due0; dsimp only
          rw [q2, List.drop_drop, hm]; omega
        have hv2 : V ++ [34] = (due ws).2 := by
          rw [hdue]; unfold due0; dsimp only
          rw [q2, List.drop_drop, hm, hV]; simp [List.replicate]
        (try simp only [tx_qq, tx_app] at kN)
        rw [hv1, hv2] at kN
        refine hret2 hret (by k_asm) kN hlt hl9 ⟨_, _, _, _, _, _, rfl, rfl⟩
    · k_steps
      rename News _ _ _ _ => kN
      rename (∀ p ∈ news ++ _, p.1 < _) => hlt
      have hm : marks 2 ((ends ws).drop (k' + 3)) = 0 := m1
      have hp0 : pat ws 1 = 4 := by have := hi0; omega
      have hv1 : ((pat ws (k' + 3) : Nat) : Int) = ((due ws).1 : Int) := by
        rw [hdue]; unfold due0; dsimp only
        rw [q2, List.drop_drop, hm]; omega
      have hv2 : V = (due ws).2 := by
        rw [hdue]; unfold due0; dsimp only
        rw [q2, List.drop_drop, hm, hV]; simp [List.replicate]
      (try simp only [tx_qq, tx_app] at kN)
      rw [hv1, hv2] at kN hlt hl9
      refine hret2 hret (by k_asm) kN hlt hl9 ⟨_, _, _, _, _, _, rfl, rfl⟩
  · rw [decide_eq_false hk2] at hfeed
    rw [if_neg hk2] at hdue
    obtain ⟨k', q1, q2, q3, C⟩ := basic_tells2 (w := w) (mean := mean) (mg := mg) (mb := mb) (k0 := 0) (i := 0 + 3) hall hlen (Nat.zero_le _) rfl
    k_steps
    refine' TelK.use (C _ _ _) ?B ?F ?X ?CX ?N ?T ?hk ?hd ?hu ?_
    case B => k_asm
    case F => k_asm
    case X => assumption
    case CX => assumption
    case N => k_asm
    case T => k_asm
    case hk => first | exact rfl | assumption
    case hd => ktr_room
    case hu => ktr_units
    intro r9 tl9 h9 tk9 F9 N9 hl9 ho9
    obtain ⟨a9, k9, t1, t2, rfl, rfl⟩ := ho9
    have hvl := scan_len ((ends ws).drop 0)
    rw [List.length_drop] at hvl
    generalize hV : (scan ((ends ws).drop 0)).2.1 = V at *
    rcases starts_mark hallU (j := k' + 3) 1 with ⟨b1, m1, p1⟩ | ⟨b1, m1⟩
    · have hi1 : ((pat ws (k' + 3) : Nat) : Int) + 1 = ((pat ws (k' + 3 + 1) : Nat) : Int) := by rw [p1]; rfl
      rcases starts_mark hallU (j := k' + 3 + 1) 0 with ⟨b2, m2, p2⟩ | ⟨b2, m2⟩
      · k_steps
        rename News _ _ _ _ => kN
        rename (∀ p ∈ news ++ _, p.1 < _) => hlt
        have hm : marks 2 ((ends ws).drop (k' + 3)) = 2 := by rw [m1, m2]; rfl
        have hp0 : pat ws 0 = 3 := rfl
        have hv1 : ((pat ws (k' + 3) : Nat) : Int) + 1 + 1 = ((due ws).1 : Int) := by
          rw [hdue]; unfold due0; dsimp only
          rw [q2, List.drop_drop, hm]; omega
        have hv2 : V ++ [34, 34] = (due ws).2 := by
          rw [hdue]; unfold due0; dsimp only
          rw [q2, List.drop_drop, hm, hV]; simp [List.replicate]
        (try simp only [tx_qq, tx_app] at kN)
        rw [hv1, hv2] at kN
        refine hret2 hret (by k_asm) kN hlt hl9 ⟨_, _, _, _, _, _, rfl, rfl⟩
      · k_steps
        rename News _ _ _ _ => kN
        rename (∀ p ∈ news ++ _, p.1 < _) => hlt
        have hm : marks 2 ((ends ws).drop (k' + 3)) = 1 := by rw [m1, m2]
        have hp0 : pat ws 0 = 3 := rfl
        have hv1 : ((pat ws (k' + 3) : Nat) : Int) + 1 = ((due ws).1 : Int) := by
          rw [hdue]; unfold due0; dsimp only
          rw [q2, List.drop_drop, hm]; omega
        have hv2 : V ++ [34] = (due ws).2 := by
          rw [hdue]; unfold due0; dsimp only
          rw [q2, List.drop_drop, hm, hV]; simp [List.replicate]
        (try simp only [tx_qq, tx_app] at kN)
        rw [hv1, hv2] at kN
        refine hret2 hret (by k_asm) kN hlt hl9 ⟨_, _, _, _, _, _, rfl, rfl⟩
    · k_steps
      rename News _ _ _ _ => kN
      rename (∀ p ∈ news ++ _, p.1 < _) => hlt
      have hm : marks 2 ((ends ws).drop (k' + 3)) = 0 := m1
      have hp0 : pat ws 0 = 3 := rfl
      have hv1 : ((pat ws (k' + 3) : Nat) : Int) = ((due ws).1 : Int) := by
        rw [hdue]; unfold due0; dsimp only
        rw [q2, List.drop_drop, hm]; omega
      have hv2 : V = (due ws).2 := by
        rw [hdue]; unfold due0; dsimp only
        rw [q2, List.drop_drop, hm, hV]; simp [List.replicate]
      (try simp only [tx_qq, tx_app] at kN)
      rw [hv1, hv2] at kN hlt hl9
      refine hret2 hret (by k_asm) kN hlt hl9 ⟨_, _, _, _, _, _, rfl, rfl⟩
end Mine

end

-- part S4
section
open PySem PySem.W PyProof.Rows PySem.Calls
set_option Elab.async false
set_option maxRecDepth 100000
set_option maxHeartbeats 8000000
namespace Mine
def TelS (w : World) (mean : ExcName → Option Value) (mg mb : Str → Option Value) (f : Addr) (d : Nat) (l : Addr) (us : List Value) (news : Led) (Out : Led → Value → Prop) : Prop :=
  ∀ (dp un : Nat) (gd : Option (List Code)) (cn : Str) (cs : Scope) (a : Addr) (ccd : Value) (cl : List (Str × Addr)) (outer : List Env) (A₀ : Around) (base h₀ : Heap) (L : Addr) (m : Str → Option Value) (s : Shared) (Q E : Value → Shared → Prop),
    Below A₀ base outer h₀ → Fr h₀ L s.heap m → (KT w.params).In h₀ → CtlAt h₀ → h₀.IsList l us.toArray → News h₀ L s.heap news → Top qv (looseW qv lo) mean mg mb h₀ → cs.kind = .function → dp + d < recursionLimit → un + 8 * d < cLine →
    (∀ r tl h' tk', Fr h₀ L h' m → News h₀ L h' (news ++ tl) → (∀ q ∈ news, ∀ p ∈ tl, q.1 ≠ p.1) → Out tl r → Q r { s with heap := h', toks := tk' }) →
    wpAny (model (OpenLaw.row PySem.Challenge.rw_fd5008_01).toRowW.prog w) (ktrTop dp un gd cn cs L a ccd cl outer) (call (.ref f) [.ref l]) Q E s
def sgInt (k : Int) : Nat := if k.fmod 6 = 1 then 97 else if k.fmod 6 = 2 then 92 else if k.fmod 6 = 3 then 10 else 34
def signsOf (ns : List Int) : List Nat := if ns = [] then [34, 34, 34, 34] else (ns.take 6).map sgInt
theorem sgInt_of {k : Int} : (k.fmod 6 = 0 ∧ tx [sgInt k] = Str.ofString "\"") ∨ (k.fmod 6 = 1 ∧ tx [sgInt k] = Str.ofString "a") ∨ (k.fmod 6 = 2 ∧ tx [sgInt k] = Str.ofString "\\") ∨ (k.fmod 6 = 3 ∧ tx [sgInt k] = Str.ofString "\n") ∨ (k.fmod 6 = 4 ∧ tx [sgInt k] = Str.ofString "\"") ∨ (k.fmod 6 = 5 ∧ tx [sgInt k] = Str.ofString "\"") := by
  have h0 : 0 ≤ k.fmod 6 := by rw [Int.fmod_eq_emod_of_nonneg _ (by decide)]; omega
  have h1 : k.fmod 6 < 6 := by rw [Int.fmod_eq_emod_of_nonneg _ (by decide)]; omega
  unfold sgInt
  generalize k.fmod 6 = z at *
  have e : z = 0 ∨ z = 1 ∨ z = 2 ∨ z = 3 ∨ z = 4 ∨ z = 5 := by omega
  rcases e with rfl | rfl | rfl | rfl | rfl | rfl <;> decide +kernel
theorem carried_signs : ∀ {ks : List Int} {ys : List Value}, CarriedAll ys (ks.map fun k => PyData.str (tx [sgInt k])) → SignsAre ys (ks.map sgInt)
  | [], ys, h => by rw [carriedAll_nil_inv h]; exact .nil
  | k :: ks, ys, h => by
    obtain ⟨t, vs, rfl, h2⟩ := carriedAll_str_inv h
    exact .cons _ _ (carried_signs h2)
theorem off_ne {D : Addr} : ∀ {l : Led}, LCg.Off1 D l → ∀ q ∈ l, q.1 ≠ D
  | [], _, _, h => nomatch h
  | (a, o) :: r, h, q, hq => by
    rcases List.mem_cons.mp hq with e | e
    · rw [e]; exact h.1
    · exact off_ne h.2 q e
theorem hret3 {news : Led} {Out : Led → Value → Prop} {Q : Value → Shared → Prop} {h₀ : Heap} {L : Addr} {m : Str → Option Value} {s : Shared}
    (hret : ∀ r tl h' tk', Fr h₀ L h' m → News h₀ L h' (news ++ tl) → (∀ q ∈ news, ∀ p ∈ tl, q.1 ≠ p.1) → Out tl r → Q r { s with heap := h', toks := tk' })
    {a : Addr} {o : Obj} {rest : Led} {h' : Heap} {tk : Nat} {r : Value} (F : Fr h₀ L h' m) (N : News h₀ L h' ((a, o) :: rest)) (hr : ∀ p ∈ news, p ∈ rest) (hlt : ∀ q ∈ news, q.1 ≠ a) (ho : Out [(a, o)] r) :
    Q r { s with heap := h', toks := tk } := by
  refine hret _ _ _ _ F (fun p hp => N p ?_) (fun q hq p hp => ?_) ho
  · rcases List.mem_append.mp hp with h | h
    · exact .tail _ (hr p h)
    · rw [List.mem_singleton.mp h]; exact .head _
  · rw [List.mem_singleton.mp hp]; exact hlt q hq
local macro_rules | `(tactic| walk_at "CompSrc") => `(tactic| (k_here; (refine LCg.CompSrc.ledger (by rfl) (by k_asm) (by k_asm) (by k_mem) (by kcf_size) ?_); intro g'; (refine' kct_list (fun k => tx [sgInt k]) (by first | assumption | l_ints) (fun k' t' I' oI' C' oC' D' m' ys' h' tk' E' hk' hC' hx' F' N' off' ne' => ?_) ?_); (all_goals (try (simp only [LCg.Off3, and_true] at off'))); (all_goals (try ((show KPfMark → _); intro hMark')))))

theorem signs_tells {w : World} {mean : ExcName → Option Value} {mg mb : Str → Option Value} {l : Addr} {us : List Value} {ns : List Int} {news : Led} (hI : IntsAre us ns) (hlen : ns.length ≤ 63) :
    TelS w mean mg mb 181 30 l us news (fun tl r => ∃ a k vs, r = .ref a ∧ tl = [(a, listOf vs.toArray k)] ∧ SignsAre vs (signsOf ns)) := by
  unfold TelS
  k_fill
  intro dp un gd cn cs a ccd cl outer A₀ base h₀ L m s Q E B F X CX hS N T hk hd hu hret
  refine wpAny_call ?_
  refine' code_def (binds := [(Str.ofString "script", Value.ref l)]) B F X N T ?kA ?kF ?kK ?k6 ?k7 ?k8 ?k9 ?kB ?_ ?c2 ?c3 ?c4 ?c5
  case kA => exact rfl
  case kF => exact rfl
  case kK => assumption
  case k6 => k_is
  case k7 => k_is
  case k8 => ktr_room
  case k9 => exact BindsTo.of_eq rfl
  case c5 => decide
  case kB => exact locs rfl
  case c2 => exact rfl
  case c3 => exact rfl
  case c4 => exact rfl
  k_whole
  intro g1 L1 h1 FG1 F1 N1 B1 X1 T1
  have CX1 := CX.keeps FG1.keep
  try dsimp only
  try k_fold
  have hS1 : g1.IsList l us.toArray := let ⟨o, ho, r⟩ := hS; ⟨o, FG1.keep _ _ ho, r⟩
  k_steps
  · rename News _ _ _ _ => kN
    rename decide (ns = []) = true => he
    rename (_ < _ ∧ AllLt _ news) => hlt
    refine hret3 hret (by k_asm) kN (fun p hp => .tail _ hp) (fun q hq => Nat.ne_of_lt (ktn_ltOf hlt.2 q hq)) ⟨_, _, _, rfl, rfl, ?_⟩
    unfold signsOf
    rw [if_pos (of_decide_eq_true he)]
    rw [sg_q]
    exact .cons _ _ (.cons _ _ (.cons _ _ (.cons _ _ .nil)))
  · rename News _ _ _ _ => kN
    rename Int => k9
    rcases @sgInt_of k9 with ⟨z1, z2⟩ | ⟨z1, z2⟩ | ⟨z1, z2⟩ | ⟨z1, z2⟩ | ⟨z1, z2⟩ | ⟨z1, z2⟩
    all_goals rw [z1]
    · refine item_tupleT (j := 0) ⟨_, (kN _ (.head _)).1, rfl, _, rfl⟩ (by decide) (by decide) rfl rfl ?_ (by with_unfolding_all rfl)
      exact LCg.CompEnd.intro (by k_asm) kN _ (by kcf_all) (by first | assumption | (simp only [LCg.Off3, and_true]; assumption)) (by first | lcg_src | assumption) (kct_el z2 rfl rfl)
    · refine item_tupleT (j := 1) ⟨_, (kN _ (.head _)).1, rfl, _, rfl⟩ (by decide) (by decide) rfl rfl ?_ (by with_unfolding_all rfl)
      exact LCg.CompEnd.intro (by k_asm) kN _ (by kcf_all) (by first | assumption | (simp only [LCg.Off3, and_true]; assumption)) (by first | lcg_src | assumption) (kct_el z2 rfl rfl)
    · refine item_tupleT (j := 2) ⟨_, (kN _ (.head _)).1, rfl, _, rfl⟩ (by decide) (by decide) rfl rfl ?_ (by with_unfolding_all rfl)
      exact LCg.CompEnd.intro (by k_asm) kN _ (by kcf_all) (by first | assumption | (simp only [LCg.Off3, and_true]; assumption)) (by first | lcg_src | assumption) (kct_el z2 rfl rfl)
    · refine item_tupleT (j := 3) ⟨_, (kN _ (.head _)).1, rfl, _, rfl⟩ (by decide) (by decide) rfl rfl ?_ (by with_unfolding_all rfl)
      exact LCg.CompEnd.intro (by k_asm) kN _ (by kcf_all) (by first | assumption | (simp only [LCg.Off3, and_true]; assumption)) (by first | lcg_src | assumption) (kct_el z2 rfl rfl)
    · refine item_tupleT (j := 4) ⟨_, (kN _ (.head _)).1, rfl, _, rfl⟩ (by decide) (by decide) rfl rfl ?_ (by with_unfolding_all rfl)
      exact LCg.CompEnd.intro (by k_asm) kN _ (by kcf_all) (by first | assumption | (simp only [LCg.Off3, and_true]; assumption)) (by first | lcg_src | assumption) (kct_el z2 rfl rfl)
    · refine item_tupleT (j := 5) ⟨_, (kN _ (.head _)).1, rfl, _, rfl⟩ (by decide) (by decide) rfl rfl ?_ (by with_unfolding_all rfl)
      exact LCg.CompEnd.intro (by k_asm) kN _ (by kcf_all) (by first | assumption | (simp only [LCg.Off3, and_true]; assumption)) (by first | lcg_src | assumption) (kct_el z2 rfl rfl)
  · rename News _ _ _ _ => kN
    rename decide (ns = []) = false => he
    rename CarriedAll _ _ => hca
    rename (_ ≠ _ ∧ _ ≠ _ ∧ LCg.Off1 _ news) => hof
    refine hret3 hret (by k_asm) kN (fun p hp => .tail _ (.tail _ hp)) (off_ne hof.2.2) ⟨_, _, _, rfl, rfl, ?_⟩
    unfold signsOf
    rw [if_neg (of_decide_eq_false he)]
    exact carried_signs hca
end Mine

end

-- part C1
section
open PySem PySem.W PyProof.Rows PySem.Calls
set_option Elab.async false
set_option maxRecDepth 100000
namespace Mine
def isFree (c : Nat) : Bool := c == 34 || c == 10
section
variable {prog : Program} {w : World} {A : Around} {h₀ : Heap} {L : Addr} {m : Str → Option Value} {env : Env} {ct elt : Expr} {x : Str} {scope : Scope} {cl : List (Str × Addr)} {s : Shared} {S : List (Addr × Obj) → Prop} {Fin : List Value → List (Addr × Obj) → Prop} {news : List (Addr × Obj)}
theorem free_rest {vs : List Value} {sg : List Nat} (hs : SignsAre vs sg)
    (turn : ∀ c t I oI C oC D m₂ ys h tk (E' : Value → Shared → Prop), c ∈ sg → LCg.NsObj oC m₂ → m₂ x = some (.str (tx [c]) t) → Fr h₀ L h m → News h₀ L h ((I, oI) :: (C, oC) :: (D, LCg.lst ys) :: news) → LCg.Off3 I C D news → ((@Ne Nat I C) ∧ (@Ne Nat I D) ∧ (@Ne Nat C D)) →
      wpAny (model prog w) A (isTrue ct (compEnvC scope cl C env) (eval ct (compEnvC scope cl C env))) (fun ok s' => if ok = true then
        wpAny (model prog w) A (eval elt (compEnvC scope cl C env)) (LCg.CompEnd h₀ L m { s with heap := h, toks := tk } I oI C oC D (LCg.lst ys) S (fun _ news' => news' = news ∧ isFree c = true)) E' s'
        else LCg.CompEnd h₀ L m { s with heap := h, toks := tk } I oI C oC D (LCg.lst ys) S (fun _ news' => news' = news ∧ isFree c = false) Value.none s') E' { s with heap := h, toks := tk })
    (fin : ∀ ys, ys.length = (sg.filter isFree).length → Fin ys news) : LCt.CompRestT prog w A h₀ L m env ct elt x scope cl s S (fun i v => vs.toArray[i]? = some v) Fin vs.toArray.size 0 [] news := by
  have hlen : vs.toArray.size = sg.length := by rw [List.size_toArray]; exact hs.length
  rw [hlen]
  have key : ∀ (j i : Nat) (ys : List Value), i + j = sg.length → ys.length = ((sg.take i).filter isFree).length → LCt.CompRestT prog w A h₀ L m env ct elt x scope cl s S (fun i v => vs.toArray[i]? = some v) Fin j i ys news := by
    intro j
    induction j with
    | zero =>
      intro i ys hi hy
      have e : i = sg.length := by omega
      subst e
      rw [List.take_length] at hy
      exact LCt.CompRestT.zero (fin ys hy)
    | succ j ih =>
      intro i ys hi hy
      refine LCt.CompRestT.succ ?_
      intro v I oI C oC D m₂ h tk E' hv hC hx F N off ne
      obtain ⟨c, t, hc, hv'⟩ := hs.get (by simpa using hv)
      rw [hv'] at hx
      refine wpAny_mono (turn c t I oI C oC D m₂ ys h tk E' (List.mem_of_getElem? hc) hC hx F N off ne) (fun ok s₂ hq => ?_) fun _ _ e => e
      have e0 : sg.take (i + 1) = sg.take i ++ [c] := by rw [List.take_add_one, hc]; rfl
      cases ok with
      | true =>
        simp only [if_true] at hq ⊢
        refine wpAny_mono hq (fun y s₃ hq => ?_) fun _ _ e => e
        obtain ⟨h', tk', nw, e, F', N', off', hS, hn, hf⟩ := hq
        rw [hn] at N' off' hS
        refine ⟨h', tk', news, e, F', N', off', hS, ?_⟩
        refine ih (i + 1) _ (by omega) ?_
        rw [e0, List.filter_append, List.length_append, List.length_append, hy]
        simp [hf]
      | false =>
        simp only [Bool.false_eq_true, if_false] at hq ⊢
        obtain ⟨h', tk', nw, e, F', N', off', hS, hn, hf⟩ := hq
        rw [hn] at N' off' hS
        refine ⟨h', tk', news, e, F', N', off', hS, ?_⟩
        refine ih (i + 1) _ (by omega) ?_
        rw [e0, List.filter_append, List.length_append, hy]
        simp [hf]
  exact key sg.length 0 [] (by omega) (by simp)
theorem unit_rest {us : List Nat}
    (turn : ∀ u I oI C oC D m₂ ys h tk (E' : Value → Shared → Prop), u ∈ us → LCg.NsObj oC m₂ → m₂ x = some (.ref u) → Fr h₀ L h m → News h₀ L h ((I, oI) :: (C, oC) :: (D, LCg.lst ys) :: news) → LCg.Off3 I C D news → ((@Ne Nat I C) ∧ (@Ne Nat I D) ∧ (@Ne Nat C D)) →
      wpAny (model prog w) A (eval elt (compEnvC scope cl C env)) (LCg.CompEnd h₀ L m { s with heap := h, toks := tk } I oI C oC D (LCg.lst ys) S (fun y news' => KCtEl news (tx (utxt u)) y news')) E' { s with heap := h, toks := tk })
    (fin : ∀ ys, StrsAre ys (us.map fun u => tx (utxt u)) → Fin ys news) : LCg.CompRest prog w A h₀ L m env elt x scope cl s S (fun i v => (refs us).toArray[i]? = some v) Fin (refs us).toArray.size 0 [] news := by
  have hlen : (refs us).toArray.size = us.length := by simp [refs]
  rw [hlen]
  have key : ∀ (j i : Nat) (ys : List Value), i + j = us.length → StrsAre ys ((us.take i).map fun u => tx (utxt u)) → LCg.CompRest prog w A h₀ L m env elt x scope cl s S (fun i v => (refs us).toArray[i]? = some v) Fin j i ys news := by
    intro j
    induction j with
    | zero =>
      intro i ys hi hy
      have e : i = us.length := by omega
      subst e
      rw [List.take_length] at hy
      exact LCg.CompRest.zero (fin ys hy)
    | succ j ih =>
      intro i ys hi hy
      refine LCg.CompRest.succ ?_
      intro v I oI C oC D m₂ h tk E' hv hC hx F N off ne
      obtain ⟨u, hu, hv'⟩ : ∃ u, us[i]? = some u ∧ v = .ref u := by
        have hi2 : i < us.length := by omega
        refine ⟨us[i], List.getElem?_eq_getElem hi2, ?_⟩
        have : (refs us)[i]? = some v := by simpa using hv
        simp [refs, hi2] at this
        exact this.symm
      rw [hv'] at hx
      refine wpAny_mono (turn u I oI C oC D m₂ ys h tk E' (List.mem_of_getElem? hu) hC hx F N off ne) (fun y s₂ hq => ?_) fun _ _ e => e
      obtain ⟨h', tk', nw, e, F', N', off', hS, hn, t', hy'⟩ := hq
      rw [hn] at N' off' hS
      refine ⟨h', tk', news, e, F', N', off', hS, ?_⟩
      rw [hy']
      refine ih (i + 1) _ (by omega) ?_
      rw [List.take_add_one, hu]
      simpa using kct_snoc hy
  exact key us.length 0 [] (by omega) (by simp only [List.take_zero, List.map_nil]; exact .nil)
end
end Mine
namespace Mine
theorem txt_join (sep : Str) (ts : List Str) : Txt.join sep ts = Str.join sep ts := StrLaws.glued_eq_join sep ts
theorem join_tx : ∀ ls : List (List Nat), Str.join (Str.ofString "") (ls.map tx) = tx ls.flatten
  | [] => rfl
  | [a] => by simp [join_one]
  | a :: b :: r => by
    have e := join_tx (b :: r)
    rw [List.map_cons, List.map_cons, join_cons_cons]
    rw [List.map_cons] at e
    rw [e, show (Str.ofString "") = tx [] from by decide +kernel, tx_app, tx_app]
    simp
theorem SignsAre.strs {vs : List Value} {sg : List Nat} (h : SignsAre vs sg) : StrsAre vs ((sg.map fun c => [c]).map tx) := by
  induction h with
  | nil => exact .nil
  | cons c t _ ih => exact .cons _ _ ih
theorem flat_ones (l : List Nat) : (l.map fun c => [c]).flatten = l := by
  induction l with
  | nil => rfl
  | cons a r ih => simp [ih]
theorem units_flat (us : List Nat) : (us.map utxt).flatten = us.flatMap utxt := by
  rw [List.flatMap]
section
variable {prog : Program} {w : World} {A : Around} {E : Value → Shared → Prop} {s : Shared} {t : Tok} {h₀ : Heap} {L : Addr} {news : Led} {Q : Value → Shared → Prop}
theorem join_txR {D : Addr} {k : Nat} {vs : List Value} {ls : List (List Nat)} {r : List Nat} (N : News h₀ L s.heap news) (hm : (D, listOf vs.toArray k) ∈ news) (hs : StrsAre vs (ls.map tx)) (hl : ls.length ≤ 10) (hb : ∀ l ∈ ls, l.length ≤ 2) (hr : ls.flatten = r)
    (h : ∀ t tk, Q (.str (tx r) t) { s with toks := tk }) : wpAny (model prog w) A (call (.builtin "str.join") [.str (Str.ofString "") t, .ref D]) Q E s := by
  have hw : (((ls.map tx).map (·.length)).sum + (ls.map tx).length) ≤ 1048576 := by
    have e : ∀ l : List (List Nat), (∀ x ∈ l, x.length ≤ 2) → ((l.map tx).map (·.length)).sum ≤ 2 * l.length := by
      intro l
      induction l with
      | nil => intro _; simp
      | cons a r ih =>
        intro h
        have h1 := h a (.head _)
        have h2 := ih fun x hx => h x (.tail _ hx)
        simp only [List.map_cons, List.sum_cons, List.length_cons, tx_len]
        omega
    have e2 := e ls hb
    rw [List.length_map]
    omega
  refine join_listW (items := vs.toArray) ⟨_, (N _ hm).1, rfl, k, rfl⟩ (by simpa using hs) (by decide) hw ?_
  intro t' tk
  rw [txt_join, join_tx, hr]
  exact h _ _
end
end Mine
namespace Mine
section
variable {prog : Program} {w : World} {A : Around} {E : Value → Shared → Prop} {s : Shared} {env : Env} {h₀ : Heap} {x : Str} {body : List Stmt} {Q : Flow → Shared → Prop}
theorem wk_range {σ : Type} {r : Addr} {b₀ : Int} {t₀ u₀ v₀ : Tok} {n : Nat} {m₀ : Str → Option Value} {news cst : Mine.Led} (Led : σ → Mine.Led) (ps : σ → List (Str × Value)) (stored : List Str) (P : Nat → σ → Prop) (adr : List Addr) (c₀ : σ)
    (hh : A.handled = none) (hr : IsRange s.heap r 0 b₀ 1 t₀ u₀ v₀) (hsmall : Builtin.Range.small 0 b₀ 1 = true) (hsz : Builtin.Range.rangeSize 0 b₀ 1 = (n : Int)) (F : Fr h₀ env.locals s.heap m₀) (N : News h₀ env.locals s.heap news) (hn : ∀ p ∈ Led c₀ ++ cst, p ∈ news) (hadr : ∀ c, (Led c).map (·.1) = adr)
    (hk : ∀ p ∈ ps c₀, m₀ p.1 = some p.2) (hp : P 0 c₀)
    (turn : ∀ (i : Nat) (t : Tok) (c : σ) (u : Str → Option Value) (h : Heap) (tk : Nat) (own : Mine.Led), i < n → P i c → OwnOff own adr → OwnOff own (cst.map (·.1)) → Fr h₀ env.locals h (fun y => if y = x then some (.int (i : Nat) t) else kstB (fun z => if stored.contains z then u z else m₀ z) (ps c) y) → News h₀ env.locals h (Led c ++ (cst ++ own)) →
      wpAny (model prog w) A (execs body env) (WkPost h₀ env.locals Led cst own ps x stored m₀ (P (i + 1)) Q { s with heap := h, toks := tk }) E { s with heap := h, toks := tk })
    (done : ∀ (c : σ) (u : Str → Option Value) (h : Heap) (tk : Nat), P n c → Fr h₀ env.locals h (fun y => if y = x then u y else kstB (fun z => if stored.contains z then u z else m₀ z) (ps c) y) → News h₀ env.locals h (Led c ++ cst) → Q .next { s with heap := h, toks := tk }) :
    wpAny (model prog w) A (pyIter (.ref r)) (fun it s₂ => LoopAtV prog w A h₀ env x body Q E it s₂) E s := by
  refine wpAny_pyIter_range hr hsmall ?_
  have W : Walks prog w A s.heap.objs.size [s.heap.objs.size] [s.heap.objs.size] n (fun i v => i < n ∧ ∃ t, v = .int (0 + i * 1) t)
      (fun i h => IsRangeIter h s.heap.objs.size (0 + (i : Nat) * 1) ((n : Int) - (i : Nat)) 1) := (Walks.range hh _ 0 1 n).bound
  refine kdr_loop (news := Led c₀ ++ cst) (fun i m nx => ∃ c, nx = Led c ++ cst ∧ (∀ p ∈ ps c, m p.1 = some p.2) ∧ (∀ z, z ≠ x → (∀ p ∈ ps c, z ≠ p.1) → stored.contains z = false → m z = m₀ z) ∧ P i c) W (fun _ h => h) (fun _ h => h) ?_ ?_ ?_ ?_ (by show IsRangeIter _ _ _ _ _; rw [hsz]; simpa using Heap.get?_push_size _ rfl) (F.push _) (fun p hp => ⟨Heap.get?_push_of_some _ (N p (hn p hp)).1, (N p (hn p hp)).2⟩) ⟨c₀, rfl, hk, fun _ _ _ _ => rfl, hp⟩ ?_ ?_
  · intro i h hi b hb
    rw [List.mem_singleton.mp hb]
    exact ⟨_, hi⟩
  · intro hm
    exact absurd F.ns.lt ((List.mem_singleton.mp hm) ▸ Nat.lt_irrefl _)
  · intro b hb
    rw [List.mem_singleton.mp hb]
    exact next_is_new F
  · intro p hp hI
    exact absurd (Heap.lt_size (N p (hn p hp)).1) ((List.mem_singleton.mp hI) ▸ Nat.lt_irrefl _)
  · rintro i v m₁ nx h tk own hi ⟨_, t, rfl⟩ hoff ⟨c, rfl, h1, h2, hp'⟩ F₁ N₁
    have e1 : (0 : Int) + (i : Int) * 1 = (i : Int) := by omega
    rw [e1] at F₁
    rw [List.append_assoc] at N₁
    have o1 : OwnOff own adr := fun p hp b hb => hoff p hp b (by rw [List.map_append, hadr]; exact List.mem_append_left _ hb)
    have o2 : OwnOff own (cst.map (·.1)) := fun p hp b hb => hoff p hp b (by rw [List.map_append]; exact List.mem_append_right _ hb)
    refine wpAny_mono (turn i t c m₁ h tk own hi hp' o1 o2 (kst_fr h1 h2 F₁) N₁) (fun f s₂ q => ?_) fun _ _ e => e
    exact WkPost.g hadr o1 o2 (fun c' m' h4 h5 h6 => ⟨c', rfl, h4, h5, h6⟩) q
  · rintro m₁ nx h tk ⟨c, rfl, h1, h2, hp'⟩ F₁ N₁
    exact done c m₁ h tk hp' (kst_frOut h1 h2 F₁) N₁
end
end Mine

end

-- part C2
section
open PySem PySem.W PyProof.Rows PySem.Calls
set_option Elab.async false
set_option maxRecDepth 100000
namespace Mine
def wayRec : List Nat → Nat → List Nat
  | [], _ => []
  | c :: r, m => unitOf c m :: wayRec r (nextMask c m)
theorem wayOf_fold (l : List Nat) : ∀ (acc : List Nat) (m : Nat), (l.foldl wayStep (acc, m)).1 = acc ++ wayRec l m := by
  induction l with
  | nil => intro acc m; simp [wayRec]
  | cons c r ih =>
    intro acc m
    rw [List.foldl_cons]
    show (r.foldl wayStep (acc ++ [unitOf c m], nextMask c m)).1 = _
    rw [ih]; simp [wayRec]
theorem wayOf_rec (l : List Nat) (m : Nat) : wayOf l m = wayRec l m := by
  unfold wayOf; rw [wayOf_fold]; simp
theorem way_len (l : List Nat) (m : Nat) : (wayOf l m).length = l.length := by
  rw [wayOf_rec]
  induction l generalizing m with
  | nil => rfl
  | cons c r ih => simp [wayRec, ih]
theorem way_units (l : List Nat) (m : Nat) : ∀ u ∈ wayOf l m, IsUnit u := by
  rw [wayOf_rec]
  induction l generalizing m with
  | nil => intro u hu; cases hu
  | cons c r ih =>
    intro u hu
    rcases List.mem_cons.mp hu with rfl | hu
    · unfold unitOf IsUnit
      split <;> (try split) <;> (try split) <;> (try split) <;> decide
    · exact ih _ u hu
theorem text_eq (ws : List Nat) : [34, 34, 34] ++ txt ws ++ [34, 34, 34, 120] = text ws := by
  unfold text ends txt
  rw [List.flatMap_append]
  simp [utxt]
theorem way_flat (us : List Nat) : (us.map fun u => tx (utxt u)) = (us.map utxt).map tx := by simp
end Mine
namespace Mine
theorem uval_sg (u : Nat) : IsSg (uval u) := by
  unfold uval IsSg
  split
  · exact .inl rfl
  · split
    · exact .inl rfl
    · split
      · exact .inr (.inr (.inr rfl))
      · split
        · exact .inr (.inr (.inr rfl))
        · split
          · exact .inr (.inl rfl)
          · exact .inr (.inr (.inl rfl))
theorem scan_sg : ∀ l : List Nat, ∀ c ∈ (scan l).2.1, IsSg c := by
  intro l
  induction l with
  | nil => intro c hc; cases hc
  | cons a r ih =>
    intro c hc
    unfold scan at hc
    split at hc
    · cases hc
    · rcases List.mem_cons.mp hc with rfl | h
      · exact uval_sg a
      · exact ih c h
theorem due_sg (ws : List Nat) : ∀ c ∈ (due ws).2, IsSg c := by
  intro c hc
  unfold due due0 at hc
  rcases List.mem_append.mp hc with h | h
  · exact scan_sg _ c h
  · exact .inl (List.eq_of_mem_replicate h)
theorem strOk_sg {l : List Nat} (h : ∀ c ∈ l, IsSg c) : PyData.strOk (tx l) = true := by
  unfold PyData.strOk
  show l.toArray.all _ = true
  rw [List.all_toArray, List.all_eq_true]
  intro c hc
  rcases h c hc with rfl | rfl | rfl | rfl <;> decide
theorem shaped_pair {n : Int} {l : List Nat} (h : ∀ c ∈ l, IsSg c) : SeqAt.shaped (.list [.int n, .str (tx l)]) = true := by
  unfold SeqAt.shaped
  rw [Bool.and_eq_true]
  refine ⟨?_, by rfl⟩
  show PyData.canLayAll0 _ = true
  simp only [PyData.canLayAll0, PyData.canLay0, strOk_sg h, Bool.and_self]
end Mine
namespace Mine
theorem eqv_due {ws sg : List Nat} (h : 1 ≤ (text ws).length) : PyData.eqv (.list [.int (due ws).1, .str (tx (due ws).2)]) (.list [.int (((text ws).length : Nat) - 1 : Int), .str (tx sg)]) = decide (due ws = ((text ws).length - 1, sg)) := by
  simp only [PyData.eqv, PyData.eqvAll, Bool.and_true, tx_inj]
  rw [Bool.eq_iff_iff, Bool.and_eq_true, beq_iff_eq, decide_eq_true_eq, decide_eq_true_eq]
  constructor
  · rintro ⟨h1, h2⟩
    refine Prod.ext ?_ h2
    show (due ws).1 = _
    omega
  · intro e
    rw [e]
    exact ⟨by omega, rfl⟩
theorem text_ge (ws : List Nat) : 1 ≤ (text ws).length := by simp [text]
end Mine

end

-- part L1
section
open PySem PySem.W PyProof.Rows PySem.Calls
set_option Elab.async false
set_option maxRecDepth 100000
namespace Mine
def bestStep (sg : List Nat) (b : Int) (i : Nat) : Int :=
  if due (wayOf sg i) = ((text (wayOf sg i)).length - 1, sg) ∧ (b = -1 ∨ ((txt (wayOf sg i)).length : Int) < b) then ((txt (wayOf sg i)).length : Int) else b
def bestTo (sg : List Nat) : Nat → Int
  | 0 => -1
  | i + 1 => bestStep sg (bestTo sg i) i
def good (sg : List Nat) (i : Nat) : Prop := due (wayOf sg i) = ((text (wayOf sg i)).length - 1, sg)
theorem bestTo_inv (sg : List Nat) (S : Nat) : ∀ n, (∀ i, i < n → good sg i → S ≤ (txt (wayOf sg i)).length) →
    (bestTo sg n = -1 ∧ ∀ i, i < n → ¬ good sg i) ∨ ((S : Int) ≤ bestTo sg n ∧ ∀ i, i < n → good sg i → bestTo sg n ≤ ((txt (wayOf sg i)).length : Int)) := by
  intro n
  induction n with
  | zero => intro _; exact .inl ⟨rfl, fun i h => absurd h (Nat.not_lt_zero _)⟩
  | succ n ih =>
    intro h
    have ih := ih fun i hi => h i (Nat.lt_succ_of_lt hi)
    have hn := h n (Nat.lt_succ_self n)
    show (bestStep sg (bestTo sg n) n = -1 ∧ _) ∨ _ ≤ bestStep sg (bestTo sg n) n ∧ ∀ i, _ → _ → bestStep sg (bestTo sg n) n ≤ _
    unfold bestStep
    by_cases g : good sg n
    · have hn := hn g
      rcases ih with ⟨e, ng⟩ | ⟨l, u⟩
      · right
        rw [if_pos ⟨g, .inl e⟩]
        refine ⟨by omega, fun i hi gi => ?_⟩
        rcases Nat.lt_succ_iff_lt_or_eq.mp hi with h1 | h1
        · exact absurd gi (ng i h1)
        · rw [h1]; exact Int.le_refl _
      · right
        by_cases c : ((txt (wayOf sg n)).length : Int) < bestTo sg n
        · rw [if_pos ⟨g, .inr c⟩]
          refine ⟨by omega, fun i hi gi => ?_⟩
          rcases Nat.lt_succ_iff_lt_or_eq.mp hi with h1 | h1
          · have := u i h1 gi; omega
          · rw [h1]; exact Int.le_refl _
        · rw [if_neg (by rintro ⟨_, h2⟩; rcases h2 with h2 | h2 <;> omega)]
          refine ⟨l, fun i hi gi => ?_⟩
          rcases Nat.lt_succ_iff_lt_or_eq.mp hi with h1 | h1
          · exact u i h1 gi
          · rw [h1]; omega
    · rw [if_neg (by rintro ⟨h1, _⟩; exact g h1)]
      rcases ih with ⟨e, ng⟩ | ⟨l, u⟩
      · left
        refine ⟨e, fun i hi => ?_⟩
        rcases Nat.lt_succ_iff_lt_or_eq.mp hi with h1 | h1
        · exact ng i h1
        · rw [h1]; exact g
      · right
        refine ⟨l, fun i hi gi => ?_⟩
        rcases Nat.lt_succ_iff_lt_or_eq.mp hi with h1 | h1
        · exact u i h1 gi
        · rw [h1] at gi; exact absurd gi g
theorem bestTo_eq {sg : List Nat} {S n : Nat} (h : ∀ i, i < n → good sg i → S ≤ (txt (wayOf sg i)).length) (he : ∃ i, i < n ∧ good sg i ∧ (txt (wayOf sg i)).length = S) : bestTo sg n = (S : Int) := by
  obtain ⟨i, hi, gi, e⟩ := he
  rcases bestTo_inv sg S n h with ⟨_, ng⟩ | ⟨l, u⟩
  · exact absurd gi (ng i hi)
  · have := u i hi gi
    omega
/-! the scan's word -/
def MMM : List Nat := [171, 171, 171]
def noTri : List Nat → Bool
  | [] => true
  | u :: r => if stopAt (u :: r ++ MMM) then decide ((u :: r).length ≤ 2) else noTri r
def endM (l : List Nat) : Nat := marks 2 ((scan l).2.2.drop 3)
theorem marks_le (f : Nat) : ∀ l : List Nat, marks f l ≤ f ∧ marks f l ≤ l.length := by
  induction f with
  | zero => intro l; exact ⟨Nat.le_refl _, Nat.zero_le _⟩
  | succ f ih =>
    intro l
    cases l with
    | nil => exact ⟨Nat.zero_le _, Nat.le_refl _⟩
    | cons a r =>
      unfold marks
      split
      · have := ih r; simp only [List.length_cons]; omega
      · exact ⟨Nat.zero_le _, Nat.zero_le _⟩
theorem scan_short (ws : List Nat) : (scan (ws ++ MMM)).2.1.length + endM (ws ++ MMM) ≤ ws.length := by
  induction ws with
  | nil => decide
  | cons u r ih =>
    cases hs : stopAt (u :: r ++ MMM) with
    | true =>
      unfold endM
      rw [stop_true hs]
      have := (marks_le 2 ((u :: r ++ MMM).drop 3)).2
      simp [MMM] at this ⊢
      omega
    | false =>
      have e : scan (u :: r ++ MMM) = ((utxt u).length + (scan (r ++ MMM)).1, uval u :: (scan (r ++ MMM)).2.1, (scan (r ++ MMM)).2.2) := by
        show scan (u :: (r ++ MMM)) = _
        have hs : stopAt (u :: (r ++ MMM)) = false := hs
        rw [scan, hs]; rfl
      unfold endM at ih ⊢
      rw [e]
      simp only [List.length_cons]
      omega
theorem scan_full (ws : List Nat) (hall : ∀ u ∈ ws, IsUnit u) : ((scan (ws ++ MMM)).2.1 ++ List.replicate (endM (ws ++ MMM)) 34 = ws.map uval ∧ (scan (ws ++ MMM)).1 + endM (ws ++ MMM) = (txt ws).length) ↔ noTri ws = true := by
  induction ws with
  | nil => decide
  | cons u r ih =>
    have ih := ih fun x hx => hall x (.tail _ hx)
    unfold noTri
    cases hs : stopAt (u :: r ++ MMM) with
    | true =>
      rw [if_pos rfl, decide_eq_true_eq]
      unfold endM
      rw [stop_true hs]
      dsimp only
      constructor
      · rintro ⟨h, _⟩
        have h := congrArg List.length h
        have := (marks_le 2 ((u :: r ++ MMM).drop 3)).1
        simp only [List.nil_append, List.length_replicate, List.length_map, List.length_cons] at h
        simp only [List.length_cons]
        omega
      · intro h
        have hu := hall u (.head _)
        match r, h with
        | [], _ =>
          simp only [stopAt, MMM, List.cons_append, List.nil_append, Bool.and_eq_true, beq_iff_eq] at hs
          rcases hu with rfl | rfl | rfl | rfl | rfl | rfl <;> first | (exact absurd hs.1 (by decide)) | decide
        | [v], _ =>
          have hv := hall v (.tail _ (.head _))
          simp only [stopAt, MMM, List.cons_append, List.nil_append, Bool.and_eq_true, beq_iff_eq] at hs
          rcases hu with rfl | rfl | rfl | rfl | rfl | rfl <;> first | (exact absurd hs.1 (by decide)) | skip
          rcases hv with rfl | rfl | rfl | rfl | rfl | rfl <;> first | (exact absurd hs.2.1 (by decide)) | decide
        | _ :: _ :: _, h => simp at h
    | false =>
      rw [if_neg Bool.false_ne_true, ← ih]
      have e : scan (u :: r ++ MMM) = ((utxt u).length + (scan (r ++ MMM)).1, uval u :: (scan (r ++ MMM)).2.1, (scan (r ++ MMM)).2.2) := by
        show scan (u :: (r ++ MMM)) = _
        have hs : stopAt (u :: (r ++ MMM)) = false := hs
        rw [scan, hs]; rfl
      unfold endM
      rw [e]
      simp only [List.cons_append, List.map_cons, List.cons.injEq, true_and]
      have et : (txt (u :: r)).length = (utxt u).length + (txt r).length := by simp [txt]
      rw [et]
      constructor
      · rintro ⟨h1, h2⟩; exact ⟨h1, by omega⟩
      · rintro ⟨h1, h2⟩; exact ⟨h1, by omega⟩
end Mine

end

-- part L2
section
open PySem PySem.W PyProof.Rows PySem.Calls
set_option Elab.async false
set_option maxRecDepth 100000
namespace Mine
def okFrom : Nat → List Nat → Bool
  | _, [] => true
  | t, u :: r => if ukind u = 1 then decide (t < 2) && okFrom (t + 1) r else okFrom 0 r
theorem noTri_skip {u : Nat} {r : List Nat} (h : ukind u ≠ 1) : noTri (u :: r) = noTri r := by
  show (if stopAt (u :: r ++ MMM) then _ else _) = _
  have : stopAt (u :: r ++ MMM) = false := by
    show stopAt (u :: (r ++ MMM)) = false
    unfold stopAt
    split
    · rename_i e
      injection e with e1 e2
      subst e1
      rw [beq_false_of_ne h]; rfl
    · rfl
  rw [this, if_neg Bool.false_ne_true]
theorem noTri_one {u v : Nat} {r : List Nat} (h : ukind v ≠ 1) : noTri (u :: v :: r) = noTri (v :: r) := by
  show (if stopAt (u :: v :: r ++ MMM) then _ else _) = _
  have : stopAt (u :: v :: r ++ MMM) = false := by
    show stopAt (u :: v :: (r ++ MMM)) = false
    unfold stopAt
    split
    · rename_i e
      injection e with e1 e2
      injection e2 with e3 e4
      subst e3
      rw [beq_false_of_ne h, Bool.false_and, Bool.and_false]
    · rfl
  rw [this, if_neg Bool.false_ne_true]
theorem noTri_two {u v w : Nat} {r : List Nat} (h : ukind w ≠ 1) : noTri (u :: v :: w :: r) = noTri (v :: w :: r) := by
  show (if stopAt (u :: v :: w :: r ++ MMM) then _ else _) = _
  have : stopAt (u :: v :: w :: r ++ MMM) = false := by
    show (ukind u == 1 && (ukind v == 1 && ukind w == 1)) = false
    rw [beq_false_of_ne h, Bool.and_false, Bool.and_false]
  rw [this, if_neg Bool.false_ne_true]
theorem noTri_ok (ws : List Nat) (hall : ∀ u ∈ ws, IsUnit u) : okFrom 0 ws = noTri ws ∧ okFrom 1 ws = noTri (171 :: ws) ∧ okFrom 2 ws = noTri (171 :: 171 :: ws) := by
  induction ws with
  | nil => decide
  | cons u r ih =>
    obtain ⟨i0, i1, i2⟩ := ih fun x hx => hall x (.tail _ hx)
    by_cases h : ukind u = 1
    · have e : u = 171 := by
        rcases hall u (.head _) with rfl | rfl | rfl | rfl | rfl | rfl <;> first | rfl | (exact absurd h (by decide))
      subst e
      refine ⟨?_, ?_, ?_⟩
      · show (if ukind 171 = 1 then decide (0 < 2) && okFrom 1 r else okFrom 0 r) = _
        rw [if_pos h, i1]; simp
      · show (if ukind 171 = 1 then decide (1 < 2) && okFrom 2 r else okFrom 0 r) = _
        rw [if_pos h, i2]; simp
      · show (if ukind 171 = 1 then decide (2 < 2) && okFrom 3 r else okFrom 0 r) = _
        rw [if_pos h]
        have e : noTri (171 :: 171 :: 171 :: r) = false := by
          show (if stopAt (171 :: 171 :: 171 :: r ++ MMM) then _ else _) = _
          have : stopAt (171 :: 171 :: 171 :: r ++ MMM) = true := rfl
          rw [if_pos this]
          simp
        rw [e]; simp
    · have e0 : ∀ t, okFrom t (u :: r) = okFrom 0 r := by
        intro t
        show (if ukind u = 1 then _ else _) = _
        rw [if_neg h]
      rw [e0 0, e0 1, e0 2, noTri_two h, noTri_one h, noTri_skip h, i0]
      exact ⟨rfl, rfl, rfl⟩
/-! the ways by their signs -/
def WayFor (ws sg : List Nat) : Prop := ws.map uval = sg ∧ ∀ u ∈ ws, IsUnit u
theorem unit_uval {c m : Nat} (h : IsSg c) : uval (unitOf c m) = c := by
  unfold unitOf
  rcases h with rfl | rfl | rfl | rfl <;> simp <;> (try split) <;> rfl
theorem way_for {sg : List Nat} (h : ∀ c ∈ sg, IsSg c) (m : Nat) : (wayOf sg m).map uval = sg := by
  rw [wayOf_rec]
  induction sg generalizing m with
  | nil => rfl
  | cons c r ih =>
    show uval (unitOf c m) :: (wayRec r (nextMask c m)).map uval = _
    rw [unit_uval (h c (.head _)), ih fun x hx => h x (.tail _ hx)]
theorem mask_for {sg : List Nat} (h : ∀ c ∈ sg, IsSg c) : ∀ ws : List Nat, ws.map uval = sg → (∀ u ∈ ws, IsUnit u) → ∃ i, i < 2 ^ (sg.filter isFree).length ∧ wayRec sg i = ws := by
  induction sg with
  | nil =>
    intro ws e _
    obtain rfl : ws = [] := List.map_eq_nil_iff.mp e
    exact ⟨0, by decide, rfl⟩
  | cons c r ih =>
    intro ws e hu
    cases ws with
    | nil => cases e
    | cons u q =>
      have e1 : uval u = c := (List.cons.inj e).1
      have e2 : q.map uval = r := (List.cons.inj e).2
      obtain ⟨i, hi, ei⟩ := ih (fun x hx => h x (.tail _ hx)) q e2 fun x hx => hu x (.tail _ hx)
      have hU := hu u (.head _)
      cases hf : isFree c with
      | true =>
        have el : ((c :: r).filter isFree).length = (r.filter isFree).length + 1 := by rw [List.filter_cons, if_pos hf]; rfl
        rw [el, Nat.pow_succ]
        have nm : ∀ m, nextMask c m = m / 2 := by
          intro m
          unfold nextMask
          rw [if_neg (by rintro rfl; exact absurd hf (by decide)), if_neg (by rintro rfl; exact absurd hf (by decide))]
        have key : ∀ b, b < 2 → unitOf c (2 * i + b) = u → ∃ j, j < 2 ^ (r.filter isFree).length * 2 ∧ wayRec (c :: r) j = u :: q := by
          intro b hb e
          refine ⟨2 * i + b, by omega, ?_⟩
          show unitOf c (2 * i + b) :: wayRec r (nextMask c (2 * i + b)) = _
          rw [e, nm, show (2 * i + b) / 2 = i by omega, ei]
        have z0 : (2 * i + 0) % 2 = 0 := by omega
        have z1 : (2 * i + 1) % 2 = 1 := by omega
        rcases hU with rfl | rfl | rfl | rfl | rfl | rfl
        · subst e1; exact key 0 (by decide) (by simp [unitOf, uval])
        · subst e1; exact key 1 (by decide) (by simp [unitOf, uval, z1])
        · subst e1; exact key 0 (by decide) (by simp [unitOf, uval])
        · subst e1; exact key 1 (by decide) (by simp [unitOf, uval, z1])
        · subst e1; exact absurd hf (by decide)
        · subst e1; exact absurd hf (by decide)
      | false =>
        have el : ((c :: r).filter isFree).length = (r.filter isFree).length := by rw [List.filter_cons, if_neg (by rw [hf]; decide)]
        rw [el]
        refine ⟨i, hi, ?_⟩
        show unitOf c i :: wayRec r (nextMask c i) = _
        rcases hU with rfl | rfl | rfl | rfl | rfl | rfl <;> subst e1 <;> first
          | (exact absurd hf (by decide))
          | (rw [show nextMask _ i = i from rfl, ei]; rfl)
/-! the cost -/
def cost : Nat → List Nat → Nat
  | run, [] => run / 3
  | run, c :: r => if c = 34 then cost (run + 1) r else run / 3 + (if c = 92 then 1 else 0) + cost 0 r
theorem shFold_cost (sg : List Nat) : ∀ s run : Nat, (((sg ++ [97]).foldl shStep (s, run)).1) = s + cost run sg := by
  induction sg with
  | nil => intro s run; simp [shStep, cost]
  | cons c r ih =>
    intro s run
    rw [List.cons_append, List.foldl_cons]
    unfold cost
    by_cases h : c = 34
    · have e : shStep (s, run) c = (s, run + 1) := by subst h; rfl
      rw [e, ih, if_pos h]
    · rw [if_neg h]
      by_cases h2 : c = 92
      · have e : shStep (s, run) c = (s + run / 3 + 1, 0) := by subst h2; rfl
        rw [e, ih, if_pos h2]; omega
      · have e : shStep (s, run) c = (s + run / 3, 0) := by simp [shStep, h, h2]
        rw [e, ih, if_neg h2]; omega
theorem shortest_cost (sg : List Nat) : shortest sg = sg.length + cost 0 sg + (if sg.take 1 = [10] then 1 else 0) := by
  unfold shortest shFold
  rw [List.take_of_length_le (by simp), shFold_cost]
  omega
theorem txt_cons (u : Nat) (r : List Nat) : (txt (u :: r)).length = (utxt u).length + (txt r).length := by simp [txt]
theorem low (ws : List Nat) : ∀ (t e run : Nat), (∀ u ∈ ws, IsUnit u) → t ≤ 2 → run ≤ 3 * e + t → okFrom t ws = true → ws.length + cost run (ws.map uval) ≤ (txt ws).length + e := by
  induction ws with
  | nil =>
    intro t e run _ ht hr _
    show 0 + run / 3 ≤ 0 + e
    omega
  | cons u r ih =>
    intro t e run hall ht hr hok
    have hr2 := fun x (hx : x ∈ r) => hall x (.tail _ hx)
    rw [txt_cons]
    have hok : (if ukind u = 1 then decide (t < 2) && okFrom (t + 1) r else okFrom 0 r) = true := hok
    show r.length + 1 + cost run (uval u :: r.map uval) ≤ _
    unfold cost
    rcases hall u (.head _) with rfl | rfl | rfl | rfl | rfl | rfl
    · rw [if_pos (by decide), Bool.and_eq_true, decide_eq_true_eq] at hok
      rw [if_pos (by decide)]
      have := ih (t + 1) e (run + 1) hr2 (by omega) (by omega) hok.2
      have hl : (utxt 171).length = 1 := rfl
      omega
    · rw [if_neg (by decide)] at hok
      rw [if_pos (by decide)]
      have := ih 0 (e + 1) (run + 1) hr2 (by omega) (by omega) hok
      have hl : (utxt 172).length = 2 := rfl
      omega
    · rw [if_neg (by decide)] at hok
      rw [if_neg (by decide), if_neg (by decide)]
      have := ih 0 0 0 hr2 (by omega) (by omega) hok
      have hl : (utxt 173).length = 1 := rfl
      omega
    · rw [if_neg (by decide)] at hok
      rw [if_neg (by decide), if_neg (by decide)]
      have := ih 0 0 0 hr2 (by omega) (by omega) hok
      have hl : (utxt 174).length = 2 := rfl
      omega
    · rw [if_neg (by decide)] at hok
      rw [if_neg (by decide), if_neg (by decide)]
      have := ih 0 0 0 hr2 (by omega) (by omega) hok
      have hl : (utxt 175).length = 1 := rfl
      omega
    · rw [if_neg (by decide)] at hok
      rw [if_neg (by decide), if_pos (by decide)]
      have := ih 0 0 0 hr2 (by omega) (by omega) hok
      have hl : (utxt 176).length = 2 := rfl
      omega
def greedy : Nat → List Nat → List Nat
  | _, [] => []
  | t, c :: r => if c = 34 then (if t = 2 then 172 :: greedy 0 r else 171 :: greedy (t + 1) r) else (if c = 92 then 176 else if c = 10 then 173 else 175) :: greedy 0 r
theorem greedy_ok (sg : List Nat) : ∀ (t e : Nat), (∀ c ∈ sg, IsSg c) → t ≤ 2 → okFrom t (greedy t sg) = true ∧ (greedy t sg).map uval = sg ∧ (∀ u ∈ greedy t sg, IsUnit u) ∧ (txt (greedy t sg)).length + e = sg.length + cost (3 * e + t) sg := by
  induction sg with
  | nil =>
    intro t e _ ht
    refine ⟨rfl, rfl, fun u h => by (cases h), ?_⟩
    show 0 + e = 0 + (3 * e + t) / 3
    omega
  | cons c r ih =>
    intro t e hall ht
    have hr2 := fun x (hx : x ∈ r) => hall x (.tail _ hx)
    unfold greedy cost
    have fin : ∀ (u t' e' cr x : Nat), IsUnit u → uval u = c → okFrom t (u :: greedy t' r) = okFrom t' (greedy t' r) → t' ≤ 2 → (utxt u).length + e = 1 + e' + x → cr = cost (3 * e' + t') r + x →
        okFrom t (u :: greedy t' r) = true ∧ (u :: greedy t' r).map uval = c :: r ∧ (∀ v ∈ u :: greedy t' r, IsUnit v) ∧ (txt (u :: greedy t' r)).length + e = (c :: r).length + cr := by
      intro u t' e' cr x hu hv ho ht' he hc
      obtain ⟨j1, j2, j3, j4⟩ := ih t' e' hr2 ht'
      refine ⟨by rw [ho]; exact j1, by rw [List.map_cons, hv, j2], ?_, ?_⟩
      · intro v hv'
        rcases List.mem_cons.mp hv' with rfl | h
        · exact hu
        · exact j3 v h
      · rw [txt_cons, List.length_cons]
        omega
    by_cases h : c = 34
    · rw [if_pos h, if_pos h]
      by_cases h2 : t = 2
      · rw [if_pos h2]
        refine fin 172 0 (e + 1) _ 0 (by unfold IsUnit; decide) (by rw [h]; rfl) rfl (by omega) (by show 2 + e = _; omega) ?_
        rw [Nat.add_zero]; congr 1; omega
      · rw [if_neg h2]
        refine fin 171 (t + 1) e _ 0 (by unfold IsUnit; decide) (by rw [h]; rfl) ?_ (by omega) (by show 1 + e = _; omega) ?_
        · show (if ukind 171 = 1 then decide (t < 2) && okFrom (t + 1) _ else _) = _
          rw [if_pos (by decide), decide_eq_true (by omega : t < 2), Bool.true_and]
        · rw [Nat.add_zero]; congr 1
    · rw [if_neg h, if_neg h]
      have hc := hall c (.head _)
      have er : (3 * e + t) / 3 = e := by omega
      rw [er]
      by_cases h2 : c = 92
      · rw [if_pos h2, if_pos h2]
        exact fin 176 0 0 _ (e + 1) (by unfold IsUnit; decide) (by rw [h2]; rfl) rfl (by omega) (by show 2 + e = _; omega) (by show _ = cost 0 r + _; omega)
      · rw [if_neg h2, if_neg h2]
        by_cases h3 : c = 10
        · rw [if_pos h3]
          exact fin 173 0 0 _ e (by unfold IsUnit; decide) (by rw [h3]; rfl) rfl (by omega) (by show 1 + e = _; omega) (by show _ = cost 0 r + _; omega)
        · rw [if_neg h3]
          have h4 : c = 97 := by rcases hc with r | r | r | r <;> first | exact r | exact absurd r h | exact absurd r h2 | exact absurd r h3
          exact fin 175 0 0 _ e (by unfold IsUnit; decide) (by rw [h4]; rfl) rfl (by omega) (by show 1 + e = _; omega) (by show _ = cost 0 r + _; omega)
end Mine

end

-- part L3
section
open PySem PySem.W PyProof.Rows PySem.Calls
set_option Elab.async false
set_option maxRecDepth 100000
namespace Mine
theorem text_len_eq (ws : List Nat) : (text ws).length = (txt ws).length + 7 := by
  rw [← text_eq]; simp
theorem good_iff {ws : List Nat} (hall : ∀ u ∈ ws, IsUnit u) : due ws = ((text ws).length - 1, ws.map uval) ↔ (ws.head? ≠ some 173 ∧ okFrom 0 ws = true) := by
  rw [(noTri_ok ws hall).1]
  cases hw : ws with
  | nil => exact ⟨fun _ => by decide, fun _ => by decide⟩
  | cons u r =>
    rw [hw] at hall
    have hu := hall u (.head _)
    have h0 : (ends (u :: r))[0]? = some u := rfl
    by_cases hk : ukind u = 2
    · have e : u = 173 := by
        rcases hu with rfl | rfl | rfl | rfl | rfl | rfl <;> first | rfl | exact absurd hk (by decide)
      subst e
      constructor
      · intro h
        exfalso
        rw [due_at h0 (k0 := 1) (if_pos hk).symm] at h
        have h := congrArg (fun z : Nat × List Nat => z.2.length) h
        have hs := scan_short r
        unfold due0 at h
        unfold endM at hs
        have e2 : (ends (173 :: r)).drop 1 = r ++ MMM := rfl
        rw [e2] at h
        simp only [List.length_append, List.length_replicate, List.length_map, List.length_cons] at h
        omega
      · intro h; exact absurd rfl h.1
    · have hne : (u :: r).head? ≠ some 173 := by
        intro e
        have : u = 173 := by simpa using e
        subst this
        exact hk rfl
      have hf := scan_full (u :: r) hall
      rw [due_at h0 (k0 := 0) (if_neg hk).symm, text_len_eq]
      unfold due0
      have e2 : (ends (u :: r)).drop 0 = u :: r ++ MMM := rfl
      rw [e2]
      unfold endM at hf
      rw [Prod.mk.injEq]
      constructor
      · rintro ⟨h1, h2⟩
        exact ⟨hne, hf.mp ⟨h2, by omega⟩⟩
      · rintro ⟨_, h⟩
        obtain ⟨h1, h2⟩ := hf.mpr h
        exact ⟨by omega, h1⟩
theorem good_way {sg : List Nat} (h : ∀ c ∈ sg, IsSg c) (i : Nat) : good sg i ↔ ((wayOf sg i).head? ≠ some 173 ∧ okFrom 0 (wayOf sg i) = true) := by
  rw [← good_iff (way_units sg i), way_for h i]
  exact Iff.rfl
/-- the way that is shortest -/
def bestWay (sg : List Nat) : List Nat := match sg with
  | [] => []
  | c :: r => if c = 10 then 174 :: greedy 0 r else greedy 0 (c :: r)
theorem best_is : ∀ sg : List Nat, (∀ c ∈ sg, IsSg c) → bestTo sg (2 ^ (sg.filter isFree).length) = ((shortest sg : Nat) : Int) := by
  intro sg h
  refine bestTo_eq ?_ ?_
  · intro i _ g
    obtain ⟨g1, g2⟩ := (good_way h i).mp g
    rw [shortest_cost]
    have hu := way_units sg i
    have hm := way_for h i
    cases hw : wayOf sg i with
    | nil =>
      rw [hw] at hm
      rw [← hm]; decide
    | cons u r =>
      rw [hw] at hm hu g1 g2
      have hl := low (u :: r) 0 0 0 hu (by omega) (by omega) g2
      by_cases ht : sg.take 1 = [10]
      · rw [if_pos ht]
        have e : uval u = 10 := by
          rw [← hm] at ht
          simpa using ht
        have e2 : u = 174 := by
          rcases hu u (.head _) with rfl | rfl | rfl | rfl | rfl | rfl <;> first | rfl | exact absurd e (by decide) | exact absurd rfl g1
        subst e2
        rw [← hm]
        have hr := low r 0 0 0 (fun x hx => hu x (.tail _ hx)) (by omega) (by omega) g2
        show (uval 174 :: r.map uval).length + cost 0 (uval 174 :: r.map uval) + 1 ≤ _
        rw [txt_cons]
        have hc : cost 0 (uval 174 :: r.map uval) = cost 0 (r.map uval) := by
          show (if uval 174 = 34 then _ else 0 / 3 + (if uval 174 = 92 then 1 else 0) + cost 0 (r.map uval)) = _
          rw [if_neg (by decide), if_neg (by decide)]; omega
        rw [hc]
        have h2 : (utxt 174).length = 2 := rfl
        simp only [List.length_cons, List.length_map]
        omega
      · rw [if_neg ht, ← hm]
        simp only [List.length_map]
        omega
  · have key : ∀ ws : List Nat, ws.map uval = sg → (∀ u ∈ ws, IsUnit u) → ws.head? ≠ some 173 → okFrom 0 ws = true → (txt ws).length = shortest sg → ∃ i, i < 2 ^ (sg.filter isFree).length ∧ good sg i ∧ (txt (wayOf sg i)).length = shortest sg := by
      intro ws e hu hh ho hl
      obtain ⟨i, hi, ei⟩ := mask_for h ws e hu
      rw [← wayOf_rec] at ei
      exact ⟨i, hi, (good_way h i).mpr (by rw [ei]; exact ⟨hh, ho⟩), by rw [ei]; exact hl⟩
    cases sg with
    | nil => exact key [] rfl (fun _ h => nomatch h) (by decide) rfl (by decide)
    | cons c r =>
      have hr := fun x (hx : x ∈ r) => h x (.tail _ hx)
      by_cases hc : c = 10
      · subst hc
        obtain ⟨j1, j2, j3, j4⟩ := greedy_ok r 0 0 hr (by omega)
        refine key (174 :: greedy 0 r) (by rw [List.map_cons, j2]; rfl) ?_ (by simp) j1 ?_
        · intro u hu
          rcases List.mem_cons.mp hu with rfl | hu
          · exact .inr (.inr (.inr (.inl rfl)))
          · exact j3 u hu
        · rw [shortest_cost, txt_cons]
          have h2 : (utxt 174).length = 2 := rfl
          have hc : cost 0 (10 :: r) = cost 0 r := by
            show (if (10 : Nat) = 34 then _ else 0 / 3 + (if (10 : Nat) = 92 then 1 else 0) + cost 0 r) = _
            rw [if_neg (by decide), if_neg (by decide)]; omega
          rw [hc, if_pos (show List.take 1 (10 :: r) = [10] from rfl)]
          simp only [List.length_cons]
          simp only [Nat.mul_zero, Nat.add_zero] at j4
          omega
      · obtain ⟨j1, j2, j3, j4⟩ := greedy_ok (c :: r) 0 0 h (by omega)
        refine key (greedy 0 (c :: r)) j2 j3 ?_ j1 ?_
        · intro e
          cases hg : greedy 0 (c :: r) with
          | nil => rw [hg] at e; cases e
          | cons u q =>
            rw [hg] at e j2
            have : u = 173 := by simpa using e
            subst this
            have : uval 173 = c := (List.cons.inj j2).1
            exact hc this.symm
        · rw [shortest_cost, if_neg (by simpa using hc)]
          simp only [Nat.mul_zero, Nat.add_zero] at j4
          omega
end Mine

end

-- part W
section
open PySem PySem.W PyProof.Rows PySem.Calls Mine
set_option Elab.async false
set_option maxRecDepth 100000
set_option maxHeartbeats 8000000
namespace Mine
def eval2 (e : Expr) (env : Env) : Sem Value := eval e env
theorem halt_eval {M : Model} {A : Around} {e : Expr} {env : Env} {Q E : Value → Shared → Prop} {s : Shared} (h : wpAny M A (eval2 e env) Q E s) : wpAny M A (eval e env) Q E s := h
theorem halt_eval_back {M : Model} {A : Around} {e : Expr} {env : Env} {Q E : Value → Shared → Prop} {s : Shared} (h : wpAny M A (eval e env) Q E s) : wpAny M A (eval2 e env) Q E s := h
local macro_rules | `(tactic| walk_at "eval ListComp") => `(tactic| (k_here; (refine halt_eval ?_)))
local macro_rules | `(tactic| walk_at "compareOp Eq str str") => `(tactic| (k_here; first | ((refine eq_known (b := true) ?h9 ?_); (case h9 => decide +kernel)) | ((refine eq_known (b := false) ?h9 ?_); (case h9 => decide +kernel))))
local macro_rules | `(tactic| walk_at "exec For Name Call cons nil") => `(tactic| (refine halt_exec ?_))
theorem range_facts {f : Nat} (h : f ≤ 6) : Builtin.Range.small 0 (2 ^ ((f : Nat) : Int).toNat) 1 = true ∧ Builtin.Range.rangeSize 0 (2 ^ ((f : Nat) : Int).toNat) 1 = ((2 ^ f : Nat) : Int) := by
  have e : f = 0 ∨ f = 1 ∨ f = 2 ∨ f = 3 ∨ f = 4 ∨ f = 5 ∨ f = 6 := by omega
  rcases e with rfl | rfl | rfl | rfl | rfl | rfl | rfl <;> decide +kernel
theorem tx_qqqx : Str.ofString "\"\"\"x" = tx [34, 34, 34, 120] := by decide +kernel
local macro_rules | `(tactic| walk_at "binaryOp Add str str") => `(tactic| (k_here; (try simp only [tx_qqq, tx_qqqx]); (refine PyProof.Rows.add_str ?_ ?hz9; (case hz9 => (simp only [tx_len, sizeLine_eq, List.length_cons, List.length_nil, List.length_append]; omega)); intro tq tkq; (try simp only [tx_app, text_eq]))))
local macro_rules | `(tactic| walk_at "subscriptTail") => `(tactic| (k_here; (with_reducible show wpAny _ _ (subscriptTail _ _ (Value.ref _) (Value.int 0 _)) _ _ _); ((with_reducible refine' unit_item0 ?q1 ?q2 ?q3 ?_ ?q4); (case q1 => with_reducible assumption); (case q2 => with_reducible assumption); (case q3 => with_reducible assumption); (case q4 => with_unfolding_all rfl)); intro _; (try dsimp only); (try k_gentoks)))
theorem news_front {h₀ h : Heap} {L : Addr} {l : Led} {p : Addr × Obj} (N : News h₀ L h (l ++ [p])) : News h₀ L h (p :: l) := fun q hq => N q (by
  rcases List.mem_cons.mp hq with e | e
  · rw [e]; exact List.mem_append_right _ (.head _)
  · exact List.mem_append_left _ e)
theorem news_front2 {h₀ h : Heap} {L : Addr} {l : Led} {p r : Addr × Obj} (N : News h₀ L h (l ++ [p, r])) : News h₀ L h (r :: p :: l) := fun q hq => N q (by
  rcases List.mem_cons.mp hq with e | e
  · rw [e]; exact List.mem_append_right _ (.tail _ (.head _))
  · rcases List.mem_cons.mp e with e | e
    · rw [e]; exact List.mem_append_right _ (.head _)
    · exact List.mem_append_left _ e)
local macro_rules | `(tactic| walk_at "call builtin:len") => `(tactic| (k_here; (with_reducible show wpAny _ _ (call (Value.builtin "len") [Value.str _ _]) _ _ _); (refine PyProof.Rows.len_str ?hz9 ?_; (case hz9 => (simp only [tx_len]; omega)); (try simp only [tx_len]); (try dsimp only); (try k_gentoks))))
theorem signs_len (ns : List Int) : (signsOf ns).length ≤ 6 := by
  unfold signsOf
  split
  · decide
  · rw [List.length_map, List.length_take]; omega
theorem sg_int (k : Int) : IsSg (sgInt k) := by
  unfold sgInt IsSg
  split
  · exact .inr (.inl rfl)
  · split
    · exact .inr (.inr (.inl rfl))
    · split
      · exact .inr (.inr (.inr rfl))
      · exact .inl rfl
theorem signs_sg (ns : List Int) : ∀ c ∈ signsOf ns, IsSg c := by
  unfold signsOf
  split
  · intro c hc; exact .inl (by simpa using hc)
  · intro c hc
    obtain ⟨k, _, rfl⟩ := List.mem_map.mp hc
    exact sg_int k
def call3 (f : Value) (a : List Value) (kw : List (Str × Value)) : Sem Value := call f a kw
theorem halt_call3 {M : Model} {A : Around} {f : Value} {a : List Value} {kw : List (Str × Value)} {Q E : Value → Shared → Prop} {s : Shared} (h : wpAny M A (call3 f a kw) Q E s) : wpAny M A (call f a kw) Q E s := h
theorem halt_call3_back {M : Model} {A : Around} {f : Value} {a : List Value} {kw : List (Str × Value)} {Q E : Value → Shared → Prop} {s : Shared} (h : wpAny M A (call f a kw) Q E s) : wpAny M A (call3 f a kw) Q E s := h
local macro_rules | `(tactic| walk_at "call ref") => `(tactic| (k_here; (refine halt_call3 ?_)))
local macro_rules | `(tactic| walk_at "callWith ref") => `(tactic| (k_here; (refine halt_call3 ?_)))
theorem TelS.use {w : World} {mean : ExcName → Option Value} {mg mb : Str → Option Value} {f : Addr} {d : Nat} {l : Addr} {us : List Value} {news : Led} {Out : Led → Value → Prop} {dp un : Nat} {gd : Option (List Code)} {cn : Str} {cs : Scope} {a : Addr} {ccd : Value} {cl : List (Str × Addr)} {outer : List Env} {A₀ : Around} {base h₀ : Heap} {L : Addr} {m : Str → Option Value} {s : Shared} {Q E : Value → Shared → Prop}
    (C : TelS w mean mg mb f d l us news Out) (B : Below A₀ base outer h₀) (F : Fr h₀ L s.heap m) (X : (KT w.params).In h₀) (CX : CtlAt h₀) (hS : h₀.IsList l us.toArray) (N : News h₀ L s.heap news) (T : Top qv (looseW qv lo) mean mg mb h₀) (hk : cs.kind = .function) (hd : dp + d < recursionLimit) (hu : un + 8 * d < cLine)
    (ret : ∀ r tl h' tk', Fr h₀ L h' m → News h₀ L h' (news ++ tl) → (∀ q ∈ news, ∀ p ∈ tl, q.1 ≠ p.1) → Out tl r → Q r { s with heap := h', toks := tk' }) :
    wpAny (model (OpenLaw.row PySem.Challenge.rw_fd5008_01).toRowW.prog w) (ktrTop dp un gd cn cs L a ccd cl outer) (call (.ref f) [.ref l]) Q E s := C _ _ _ _ _ _ _ _ _ _ _ _ _ _ _ _ _ B F X CX hS N T hk hd hu ret

theorem walkM : ∃ d kwd, defOf qv (Str.ofString "law") = some (d, kwd) ∧ WalkN qv lo (XL qv []) (fun w h => InK KT w h ∧ CtlAt h) (OpenLaw.row PySem.Challenge.rw_fd5008_01).toRowW d kwd fun f vs => PySem.call f vs := by
  refine ⟨_, _, by rfl, ?_⟩
  k_fill
  intro w s₀ s₁ mg mb G Y fa o pm cd doc dV kV ho hd hcd hD hmg hg args vals as hpre hlay hrd hwl hlo
  have KX : (KT w.params).In s₁.heap := Y.1
  have CX : CtlAt s₁.heap := Y.2
  clear Y
  k_behind G ho hd hcd hD hmg hpre hlay hrd hwl hlo cd
  all_goals try k_fold
  k_steps
  refine halt_call3_back ?_
  rename IntsAre _ _ => hI
  rename List Int => ns
  have hns : ns.length ≤ 63 := by omega
  refine' TelS.use (signs_tells hI hns) ?B ?F ?X ?CX ?hS ?N ?T ?hk ?hd ?hu ?_
  case B => k_asm
  case F => k_asm
  case X => assumption
  case CX => assumption
  case hS => assumption
  case N => k_asm
  case T => k_asm
  case hk => first | exact rfl | assumption
  case hd => ktr_room
  case hu => ktr_units
  intro r9 tl9 h9 tk9 F9 N9 hl9 ho9
  obtain ⟨a1, k1, vs, rfl, rfl, hsv⟩ := ho9
  have hvl : vs.length ≤ 6 := by rw [hsv.length]; exact signs_len ns
  have hsg := signs_sg ns
  have hsl := signs_len ns
  generalize signsOf ns = sg at hsv hsg hsl
  k_steps
  refine halt_eval_back ?_
  refine LCt.ListComp_T (F₀ := by k_asm) (by with_unfolding_all rfl) (by decide) (by rfl) (by decide) (by rfl) ?_
  k_steps
  refine LCt.CompSrcT.ledger (by rfl) (by k_asm) (by k_asm) (by k_mem) (by rw [sizeLine_eq, List.size_toArray]; omega) ?_
  intro g'
  refine' free_rest hsv (fun c t I oI C oC D m₂ ys h tk E' hc hC hx F N off ne => ?_) ?_
  · rcases hsg c hc with rfl | rfl | rfl | rfl
    all_goals k_steps
    all_goals exact LCg.CompEnd.intro (by k_asm) (by assumption) _ (by kcf_all) (by first | assumption | (simp only [LCg.Off3, and_true]; assumption)) (by first | lcg_src | assumption) ⟨rfl, rfl⟩
  intro ys hys
  k_steps
  have hfl : (sg.filter isFree).length ≤ 6 := Nat.le_trans (List.length_filter_le _ _) hsl
  rename News _ _ _ _ => kN2
  refine kst_len (us := ys) (c := ys.length) kN2 (List.Mem.head _) hys (by omega) ?_
  k_steps
  rename News _ _ _ _ => kN3
  refine join_txR kN3 (by k_mem) hsv.strs (by rw [List.length_map]; omega) (by intro l hl; obtain ⟨c, _, rfl⟩ := List.mem_map.mp hl; exact Nat.le_succ 1) (flat_ones sg) ?_
  intro t9 tk9
  k_steps
  refine halt_back ?_
  rename Fr _ _ _ _ => lF1
  with_unfolding_all refine' For_invVF lF1 ?k1 ?k2 ?_
  case k1 => exact rfl
  case k2 => exact rfl
  k_steps
  rename IsRange _ _ _ _ _ _ _ _ => hran
  rename Fr _ _ _ _ => kF4
  rename News _ _ _ _ => kN4
  obtain ⟨hsmall, hsize⟩ := range_facts hfl
  refine' wk_range (σ := Int × Tok) (cst := [(a1, listOf vs.toArray k1)]) (fun _ => []) (fun c => [(Str.ofString "best", .int c.1 c.2)]) [Str.ofString "way", Str.ofString "spelled", Str.ofString "text", Str.ofString "due", Str.ofString "told"] (fun i c => c.1 = bestTo sg i) [] (-1, _) rfl hran hsmall hsize kF4 kN4 ?hn ?ha ?hk ?hp ?_ ?_
  case hn => exact fun p hp => .tail _ hp
  case ha => exact fun _ => rfl
  case hk => exact List.forall_mem_cons.mpr ⟨by rfl, List.forall_mem_nil _⟩
  case hp => rfl
  · rintro i ti ⟨bs, bt⟩ u h tk own hi hP ho hc F9 N9
    dsimp only at F9 hP N9
    simp only [List.nil_append, List.cons_append] at N9
    have hwu := way_units sg i
    have hwl := way_len sg i
    k_steps
    refine halt_call3_back ?_
    refine' TelK.use (Tel.toK (way_tells (M := i) (mt := ti) hsv hsg hsl (List.Mem.head _))) ?B ?F ?X ?CX ?N ?T ?hk ?hd ?hu ?_
    case B => k_asm
    case F => k_asm
    case X => assumption
    case CX => assumption
    case N => k_asm
    case T => k_asm
    case hk => first | exact rfl | assumption
    case hd => ktr_room
    case hu => ktr_units
    intro r9 tl9 h9 tk9 F9 N9 hl9 ho9
    obtain ⟨a2, k2, rfl, rfl⟩ := ho9
    replace N9 := news_front N9
    generalize hws : wayOf sg i = ws at *
    k_steps
    refine halt_eval_back ?_
    refine LCg.ListComp_U (F₀ := by k_asm) (by with_unfolding_all rfl) (by decide) (by rfl) (by decide) (by rfl) ?_
    k_steps
    refine LCg.CompSrc.ledger (by rfl) (by k_asm) (by k_asm) (by exact List.Mem.head _) (by rw [sizeLine_eq]; simp [refs]; omega) ?_
    intro g'
    refine' unit_rest (fun v I oI C oC D m₂ ys h tk E' hv hC hx F N off ne => ?_) ?_
    · have hvU := hwu v hv
      k_steps
      exact LCg.CompEnd.intro (by k_asm) (by assumption) _ (by kcf_all) (by first | assumption | (simp only [LCg.Off3, and_true]; assumption)) (by first | lcg_src | assumption) (kct_el rfl rfl rfl)
    intro ys2 hys2
    rw [way_flat] at hys2
    have hlt := txt_len hwu
    k_steps
    rename News _ _ _ _ => kN5
    refine join_txR kN5 (List.Mem.head _) hys2 (by rw [List.length_map]; omega) (by intro l hl; obtain ⟨c, hc9, rfl⟩ := List.mem_map.mp hl; exact utxt_len (hwu c hc9)) (show (ws.map utxt).flatten = txt ws from units_flat ws) ?_
    intro t5 tk5
    have hl6 : ws.length ≤ 6 := by omega
    k_steps
    refine halt_call3_back ?_
    refine' TelK.use (Tel.toK (due_tells hwu hl6 (List.Mem.tail _ (List.Mem.head _)))) ?B ?F ?X ?CX ?N ?T ?hk ?hd ?hu ?_
    case B => k_asm
    case F => k_asm
    case X => assumption
    case CX => assumption
    case N => k_asm
    case T => k_asm
    case hk => first | exact rfl | assumption
    case hd => ktr_room
    case hu => ktr_units
    intro r3 tl3 h3 tk3 F3 N3 hl3 ho3
    obtain ⟨a3, k3, d1, d2, rfl, rfl⟩ := ho3
    replace N3 := news_front N3
    k_steps
    refine halt_call3_back ?_
    refine' TelK.use (multi_tells hwu hl6) ?B ?F ?X ?CX ?N ?T ?hk ?hd ?hu ?_
    case B => k_asm
    case F => k_asm
    case X => assumption
    case CX => assumption
    case N => k_asm
    case T => k_asm
    case hk => first | exact rfl | assumption
    case hd => ktr_room
    case hu => ktr_units
    intro r4 tl4 h4 tk4 F4 N4 hl4 ho4
    obtain ⟨b4, o4, a4, k4, e1, e2, rfl, rfl⟩ := ho4
    replace N4 := news_front2 N4
    k_steps
    refine' ne_dataH (da := .list [.int (due ws).1, .str (tx (due ws).2)]) (db := .list [.int (due ws).1, .str (tx (due ws).2)]) ?fa ?fb ?fc ?fd ?fu ?_
    case fa => ke_read
    case fb => ke_read
    case fc => exact shaped_pair (due_sg ws)
    case fd => exact shaped_pair (due_sg ws)
    case fu => ktr_units
    ke_norm
    have htl3 := text_len hwu hl6
    k_steps
    refine' eq_dataH (da := .list [.int (due ws).1, .str (tx (due ws).2)]) (db := .list [.int (((text ws).length : Nat) - 1 : Int), .str (tx sg)]) ?fa ?fb ?fc ?fd ?fu ?_
    case fa => ke_read
    case fb => ke_read
    case fc => exact shaped_pair (due_sg ws)
    case fd => exact shaped_pair hsg
    case fu => ktr_units
    rw [eqv_due (text_ge ws)]
    by_cases hd9 : due ws = ((text ws).length - 1, sg)
    · rw [decide_eq_true hd9]
      k_steps
      all_goals (rename News _ _ _ _ => kN9; refine WkPost.next ((_, _)) (by k_asm) kN9 (by exact fun p hp => nomatch hp) (by intro p hp; simp [List.mem_singleton.mp hp]) (by intro p hp; simp [hp]) (by exact List.forall_mem_cons.mpr ⟨by rfl, List.forall_mem_nil _⟩) (by intro z z1 z2 z3; (simp only [List.forall_mem_cons, List.not_mem_nil, false_implies, implies_true, and_true, ne_eq] at z2); (simp only [List.contains_cons, List.contains_nil, Bool.or_false, Bool.or_eq_false_iff, beq_eq_false_iff_ne, ne_eq] at z3); simp [kstB, z1, z2, z3]) ?_)
      all_goals (
        show _ = bestStep sg (bestTo sg i) i
        rw [← hP]
        unfold bestStep
        rw [hws]
        first
        | exact (if_pos ⟨hd9, by omega⟩).symm
        | exact (if_neg (by rintro ⟨h1, h2⟩; rcases h2 with h2 | h2 <;> omega)).symm)
    · rw [decide_eq_false hd9]
      k_steps
      all_goals (rename News _ _ _ _ => kN9; refine WkPost.next ((_, _)) (by k_asm) kN9 (by exact fun p hp => nomatch hp) (by intro p hp; simp [List.mem_singleton.mp hp]) (by intro p hp; simp [hp]) (by exact List.forall_mem_cons.mpr ⟨by rfl, List.forall_mem_nil _⟩) (by intro z z1 z2 z3; (simp only [List.forall_mem_cons, List.not_mem_nil, false_implies, implies_true, and_true, ne_eq] at z2); (simp only [List.contains_cons, List.contains_nil, Bool.or_false, Bool.or_eq_false_iff, beq_eq_false_iff_ne, ne_eq] at z3); simp [kstB, z1, z2, z3]) ?_)
      all_goals (
        show _ = bestStep sg (bestTo sg i) i
        rw [← hP]
        unfold bestStep
        rw [hws]
        exact (if_neg (by rintro ⟨h1, h2⟩; exact hd9 h1)).symm)
  rintro ⟨bs, bt⟩ u h tk hP F9 N9
  dsimp only at F9 hP N9
  simp only [List.nil_append] at N9
  k_steps
  refine halt_call3_back ?_
  refine' TelK.use (Tel.toK (short_tells hsv hsg hsl (List.Mem.head _))) ?B ?F ?X ?CX ?N ?T ?hk ?hd ?hu ?_
  case B => k_asm
  case F => k_asm
  case X => assumption
  case CX => assumption
  case N => k_asm
  case T => k_asm
  case hk => first | exact rfl | assumption
  case hd => ktr_room
  case hu => ktr_units
  intro r5 tl5 h5 tk5 F5 N5 hl5 ho5
  obtain ⟨rfl, t6, rfl⟩ := ho5
  rw [List.append_nil] at N5
  k_steps
  have hbe : (bs == ((shortest sg : Nat) : Int)) = true := by
    rw [hP, best_is sg hsg]; exact beq_self_eq_true _
  rw [hbe]
  k_steps
theorem walkM2 {d : DefRec} {kwd : List (Str × Expr)} (e : defOf qv (Str.ofString "law") = some (d, kwd)) : WalkN qv lo (XL qv []) YPm (OpenLaw.row PySem.Challenge.rw_fd5008_01).toRowW d kwd fun f vs => PySem.call f vs := by
  obtain ⟨d', kwd', e', h⟩ := walkM
  rw [e'] at e
  cases e
  exact h
end Mine

end

open PySem PySem.W PyProof.Rows
set_option Elab.async false
set_option maxRecDepth 100000 in
set_option maxHeartbeats 8000000 in
theorem PySem.Challenge.cw_fd5008_01_holds : PySem.Challenge.rw_fd5008_01.Holds := by
  w_on
  o_law
  refine Mine.holdsM (by assumption) ?_ (by rfl) (by rfl) (by rfl) (Mine.walkM2 (by rfl))
  w_witness2
