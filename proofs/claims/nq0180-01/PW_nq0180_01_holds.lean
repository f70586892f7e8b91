import PyProof.Rows.All
import Wide.All
import OpenK.AllK
import Wide.FinOn
import PySem.Challenge.RW_nq0180_01
open PySem PySem.W PyProof.Rows PySem.Calls
set_option Elab.async false
set_option maxRecDepth 100000
set_option linter.unusedVariables false
set_option genInjectivity false
set_option genSizeOf false
namespace Mine
inductive PE where
  | loc (i : Nat) (p : Pos)
  | glob (i : Nat) (p : Pos)
  | cstr (i : Nat) (k : Nat) (p : Pos)
  | cint (n : Int) (k : Nat) (p : Pos)
  | cnone (k : Nat) (p : Pos)
  | cbool (b : Bool) (k : Nat) (p : Pos)
  | attr (e : PE) (i : Nat) (p : Pos)
  | callN (i : Nat) (fp : Pos) (args : PE) (p : Pos)
  | callM (o : PE) (i : Nat) (ap : Pos) (args : PE) (p : Pos)
  | cmp (l : PE) (op : CmpOp) (r : PE) (p : Pos)
  | cmp2 (l : PE) (o1 : CmpOp) (m : PE) (o2 : CmpOp) (r : PE) (p : Pos)
  | bop (op : BoolOp) (es : PE) (p : Pos)
  | not (e : PE) (p : Pos)
  | usub (e : PE) (p : Pos)
  | ite (t a b : PE) (p : Pos)
  | list (es : PE) (p : Pos)
  | tup (es : PE) (k : Nat) (p : Pos)
  | sub (e i : PE) (p : Pos)
  | slc (e : PE) (lo hi : PE) (sp : Pos) (p : Pos)
  | bin (l : PE) (op : Operator) (r : PE) (p : Pos)
  | opq (e : Expr)
  | nil
  | cons (h t : PE)
inductive PS where
  | assign (i : Nat) (ip : Pos) (e : PE) (p : Pos)
  | setattr (o : PE) (i : Nat) (ap : Pos) (e : PE) (p : Pos)
  | aug (o : PE) (i : Nat) (ap : Pos) (op : Operator) (e : PE) (p : Pos)
  | ite (t : PE) (b e : PS) (p : Pos)
  | ret (e : PE) (p : Pos)
  | expr (e : PE) (p : Pos)
  | brk (p : Pos)
  | cont (p : Pos)
  | opq (s : Stmt)
  | nil
  | cons (h t : PS)
section
variable (nm : Nat → Str)
mutual
noncomputable def emb : PE → Expr
  | .loc i p => .Name (nm i) p
  | .glob i p => .Name (nm i) p
  | .cstr i k p => .Constant (.str (nm i)) k p
  | .cint n k p => .Constant (.int n) k p
  | .cnone k p => .Constant .none k p
  | .cbool b k p => .Constant (.bool b) k p
  | .attr e i p => .Attribute (emb e) (nm i) p
  | .callN i fp args p => .Call (.Name (nm i) fp) (embL args) [] p
  | .callM o i ap args p => .Call (.Attribute (emb o) (nm i) ap) (embL args) [] p
  | .cmp l op r p => .Compare (emb l) [op] [emb r] p
  | .cmp2 l o1 m o2 r p => .Compare (emb l) [o1, o2] [emb m, emb r] p
  | .bop op es p => .BoolOp op (embL es) p
  | .not e p => .UnaryOp .Not (emb e) p
  | .usub e p => .UnaryOp .USub (emb e) p
  | .ite t a b p => .IfExp (emb t) (emb a) (emb b) p
  | .list es p => .List (embL es) p
  | .tup es k p => .Tuple (embL es) k p
  | .sub e i p => .Subscript (emb e) (emb i) p
  | .slc e lo hi sp p => .Subscript (emb e) (.Slice (embO lo) (embO hi) none sp) p
  | .bin l op r p => .BinOp (emb l) op (emb r) p
  | .opq e => e
  | .nil => default
  | .cons _ _ => default
noncomputable def embL : PE → List Expr
  | .cons h t => emb h :: embL t
  | _ => []
noncomputable def embO : PE → Option Expr
  | .cons h _ => some (emb h)
  | _ => none
end
mutual
noncomputable def embS : PS → Stmt
  | .assign i ip e p => .Assign [.Name (nm i) ip] (emb nm e) p
  | .setattr o i ap e p => .Assign [.Attribute (emb nm o) (nm i) ap] (emb nm e) p
  | .aug o i ap op e p => .AugAssign (.Attribute (emb nm o) (nm i) ap) op (emb nm e) p
  | .ite t b e p => .If (emb nm t) (embSs b) (embSs e) p
  | .ret e p => .Return (some (emb nm e)) p
  | .expr e p => .Expr (emb nm e) p
  | .brk p => .Break p
  | .cont p => .Continue p
  | .opq s => s
  | .nil => .Pass default
  | .cons _ _ => .Pass default
noncomputable def embSs : PS → List Stmt
  | .cons h t => embS h :: embSs t
  | _ => []
end
end
noncomputable def nmL : List Str := [(Str.ofString "append"),
  (Str.ofString "pop"),
  (Str.ofString "len"),
  (Str.ofString "n"),
  (Str.ofString "what"),
  (Str.ofString "type"),
  (Str.ofString "int"),
  (Str.ofString "bool"),
  (Str.ofString "_wall"),
  (Str.ofString "self"),
  (Str.ofString "_StringIO__buf"),
  (Str.ofString "limit"),
  (Str.ofString "start"),
  (Str.ofString "_StringIO__pos"),
  (Str.ofString "stop"),
  (Str.ofString ""),
  (Str.ofString "cut"),
  (Str.ofString "newline"),
  (Str.ofString "_StringIO__newline"),
  (Str.ofString "i"),
  (Str.ofString "find"),
  (Str.ofString "\n"),
  (Str.ofString "j"),
  (Str.ofString "\r"),
  (Str.ofString "end"),
  (Str.ofString "\r\n"),
  (Str.ofString "size"),
  (Str.ofString "_index"),
  (Str.ofString "StringIO.read of a size that is no exact int"),
  (Str.ofString "_StringIO__check"),
  (Str.ofString "StringIO.readline of a size that is no exact int"),
  (Str.ofString "_StringIO__line"),
  (Str.ofString "s"),
  (Str.ofString "replace"),
  (Str.ofString "initial_value"),
  (Str.ofString "str"),
  (Str.ofString "_StringIO__translated"),
  (Str.ofString "cls"),
  (Str.ofString "BytesIO"),
  (Str.ofString "StringIO"),
  (Str.ofString "object"),
  (Str.ofString "__new__"),
  (Str.ofString "instream"),
  (Str.ofString "infile"),
  (Str.ofString "posix"),
  (Str.ofString "punctuation_chars"),
  (Str.ofString "isinstance"),
  (Str.ofString "eof"),
  (Str.ofString "commenters"),
  (Str.ofString "#"),
  (Str.ofString "wordchars"),
  (Str.ofString "abcdfeghijklmnopqrstuvwxyzABCDEFGHIJKLMNOPQRSTUVWXYZ0123456789_"),
  (Str.ofString "ßàáâãäåæçèéêëìíîïðñòóôõöøùúûüýþÿÀÁÂÃÄÅÆÇÈÉÊËÌÍÎÏÐÑÒÓÔÕÖØÙÚÛÜÝÞ"),
  (Str.ofString "whitespace"),
  (Str.ofString " \t\r\n"),
  (Str.ofString "whitespace_split"),
  (Str.ofString "quotes"),
  (Str.ofString "'\""),
  (Str.ofString "escape"),
  (Str.ofString "\\"),
  (Str.ofString "escapedquotes"),
  (Str.ofString "\""),
  (Str.ofString "state"),
  (Str.ofString " "),
  (Str.ofString "pushback"),
  (Str.ofString "deque"),
  (Str.ofString "lineno"),
  (Str.ofString "debug"),
  (Str.ofString "token"),
  (Str.ofString "filestack"),
  (Str.ofString "source"),
  (Str.ofString "();<>|&"),
  (Str.ofString "_punctuation_chars"),
  (Str.ofString "_pushback_chars"),
  (Str.ofString "~-./*?="),
  (Str.ofString "t"),
  (Str.ofString "maketrans"),
  (Str.ofString "dict"),
  (Str.ofString "fromkeys"),
  (Str.ofString "translate"),
  (Str.ofString "tok"),
  (Str.ofString "popleft"),
  (Str.ofString "print"),
  (Str.ofString "shlex: popping token "),
  (Str.ofString "repr"),
  (Str.ofString "raw"),
  (Str.ofString "read_token"),
  (Str.ofString "pop_source"),
  (Str.ofString "get_token"),
  (Str.ofString "shlex: token="),
  (Str.ofString "shlex: token=EOF"),
  (Str.ofString "quoted"),
  (Str.ofString "escapedstate"),
  (Str.ofString "nextchar"),
  (Str.ofString "read"),
  (Str.ofString "shlex: I see whitespace in whitespace state"),
  (Str.ofString "readline"),
  (Str.ofString "a"),
  (Str.ofString "c"),
  (Str.ofString "shlex: I see EOF in quotes state"),
  (Str.ofString "shlex: I see EOF in escape state"),
  (Str.ofString "shlex: I see whitespace in word state"),
  (Str.ofString "appendleft"),
  (Str.ofString "shlex: I see punctuation in word state"),
  (Str.ofString "result"),
  (Str.ofString "shlex: raw token="),
  (Str.ofString "shlex: raw token=EOF"),
  (Str.ofString "b"),
  (Str.ofString "numbers"),
  (Str.ofString "pile"),
  (Str.ofString "x"),
  (Str.ofString "kind"),
  (Str.ofString "~"),
  (Str.ofString "last"),
  (Str.ofString "&|^"),
  (Str.ofString "^"),
  (Str.ofString "formula"),
  (Str.ofString "x1"),
  (Str.ofString "'b)'"),
  (Str.ofString "\"it's\""),
  (Str.ofString "_law_items"),
  (Str.ofString "("),
  (Str.ofString ")"),
  (Str.ofString "items"),
  (Str.ofString "text"),
  (Str.ofString "k"),
  (Str.ofString "range"),
  (Str.ofString "gap"),
  (Str.ofString "#~(x1' b)&\n"),
  (Str.ofString "place"),
  (Str.ofString "_law_holds"),
  (Str.ofString "one"),
  (Str.ofString "other"),
  (Str.ofString "&"),
  (Str.ofString "|"),
  (Str.ofString "deed"),
  (Str.ofString "and_"),
  (Str.ofString "or_"),
  (Str.ofString "xor"),
  (Str.ofString "masks"),
  (Str.ofString "lexer"),
  (Str.ofString "signs"),
  (Str.ofString "item"),
  (Str.ofString "list"),
  (Str.ofString "_law_closed")]
noncomputable def nm (i : Nat) : Str := (nmL[i]?).getD ⟨#[2000000 + i]⟩
noncomputable def cpL : List (Nat × List Nat) := [(15, []),
  (21, [10]),
  (23, [13]),
  (25, [13, 10]),
  (28, [83, 116, 114, 105, 110, 103, 73, 79, 46, 114, 101, 97, 100, 32, 111, 102, 32, 97, 32, 115, 105, 122, 101, 32, 116, 104, 97, 116, 32, 105, 115, 32, 110, 111, 32, 101, 120, 97, 99, 116, 32, 105, 110, 116]),
  (30, [83, 116, 114, 105, 110, 103, 73, 79, 46, 114, 101, 97, 100, 108, 105, 110, 101, 32, 111, 102, 32, 97, 32, 115, 105, 122, 101, 32, 116, 104, 97, 116, 32, 105, 115, 32, 110, 111, 32, 101, 120, 97, 99, 116, 32, 105, 110, 116]),
  (49, [35]),
  (51, [97, 98, 99, 100, 102, 101, 103, 104, 105, 106, 107, 108, 109, 110, 111, 112, 113, 114, 115, 116, 117, 118, 119, 120, 121, 122, 65, 66, 67, 68, 69, 70, 71, 72, 73, 74, 75, 76, 77, 78, 79, 80, 81, 82, 83, 84, 85, 86, 87, 88, 89, 90, 48, 49, 50, 51, 52, 53, 54, 55, 56, 57, 95]),
  (52, [223, 224, 225, 226, 227, 228, 229, 230, 231, 232, 233, 234, 235, 236, 237, 238, 239, 240, 241, 242, 243, 244, 245, 246, 248, 249, 250, 251, 252, 253, 254, 255, 192, 193, 194, 195, 196, 197, 198, 199, 200, 201, 202, 203, 204, 205, 206, 207, 208, 209, 210, 211, 212, 213, 214, 216, 217, 218, 219, 220, 221, 222]),
  (54, [32, 9, 13, 10]),
  (57, [39, 34]),
  (59, [92]),
  (61, [34]),
  (63, [32]),
  (71, [40, 41, 59, 60, 62, 124, 38]),
  (74, [126, 45, 46, 47, 42, 63, 61]),
  (83, [115, 104, 108, 101, 120, 58, 32, 112, 111, 112, 112, 105, 110, 103, 32, 116, 111, 107, 101, 110, 32]),
  (89, [115, 104, 108, 101, 120, 58, 32, 116, 111, 107, 101, 110, 61]),
  (90, [115, 104, 108, 101, 120, 58, 32, 116, 111, 107, 101, 110, 61, 69, 79, 70]),
  (95, [115, 104, 108, 101, 120, 58, 32, 73, 32, 115, 101, 101, 32, 119, 104, 105, 116, 101, 115, 112, 97, 99, 101, 32, 105, 110, 32, 119, 104, 105, 116, 101, 115, 112, 97, 99, 101, 32, 115, 116, 97, 116, 101]),
  (97, [97]),
  (98, [99]),
  (99, [115, 104, 108, 101, 120, 58, 32, 73, 32, 115, 101, 101, 32, 69, 79, 70, 32, 105, 110, 32, 113, 117, 111, 116, 101, 115, 32, 115, 116, 97, 116, 101]),
  (100, [115, 104, 108, 101, 120, 58, 32, 73, 32, 115, 101, 101, 32, 69, 79, 70, 32, 105, 110, 32, 101, 115, 99, 97, 112, 101, 32, 115, 116, 97, 116, 101]),
  (101, [115, 104, 108, 101, 120, 58, 32, 73, 32, 115, 101, 101, 32, 119, 104, 105, 116, 101, 115, 112, 97, 99, 101, 32, 105, 110, 32, 119, 111, 114, 100, 32, 115, 116, 97, 116, 101]),
  (103, [115, 104, 108, 101, 120, 58, 32, 73, 32, 115, 101, 101, 32, 112, 117, 110, 99, 116, 117, 97, 116, 105, 111, 110, 32, 105, 110, 32, 119, 111, 114, 100, 32, 115, 116, 97, 116, 101]),
  (105, [115, 104, 108, 101, 120, 58, 32, 114, 97, 119, 32, 116, 111, 107, 101, 110, 61]),
  (106, [115, 104, 108, 101, 120, 58, 32, 114, 97, 119, 32, 116, 111, 107, 101, 110, 61, 69, 79, 70]),
  (112, [126]),
  (114, [38, 124, 94]),
  (115, [94]),
  (117, [120, 49]),
  (118, [39, 98, 41, 39]),
  (119, [34, 105, 116, 39, 115, 34]),
  (121, [40]),
  (122, [41]),
  (128, [35, 126, 40, 120, 49, 39, 32, 98, 41, 38, 10]),
  (133, [38]),
  (134, [124])]
noncomputable def fIndex_0 : PS := (.cons (.ite (.bop .And (.cons (.cmp (.callN 5 ⟨19,7,19,11⟩ (.cons (.loc 3 ⟨19,12,19,13⟩) .nil) ⟨19,7,19,14⟩) .IsNot (.glob 6 ⟨19,22,19,25⟩) ⟨19,7,19,25⟩) (.cons (.cmp (.callN 5 ⟨19,30,19,34⟩ (.cons (.loc 3 ⟨19,35,19,36⟩) .nil) ⟨19,30,19,37⟩) .IsNot (.glob 7 ⟨19,45,19,49⟩) ⟨19,30,19,49⟩) .nil)) ⟨19,7,19,49⟩) (.cons (.expr (.callN 8 ⟨20,8,20,13⟩ (.cons (.cint (1) 0 ⟨20,14,20,15⟩) .nil) ⟨20,8,20,16⟩) ⟨20,8,20,16⟩) .nil) .nil ⟨19,4,20,16⟩) (.cons (.assign 3 ⟨21,4,21,5⟩ (.callN 6 ⟨21,8,21,11⟩ (.cons (.loc 3 ⟨21,12,21,13⟩) .nil) ⟨21,8,21,14⟩) ⟨21,4,21,14⟩) (.cons (.ite (.bop .Or (.cons (.cmp (.loc 3 ⟨22,7,22,8⟩) .Gt (.cint (1099511627776) 0 ⟨22,11,22,24⟩) ⟨22,7,22,24⟩) (.cons (.cmp (.loc 3 ⟨22,28,22,29⟩) .Lt (.usub (.cint (1099511627776) 0 ⟨22,33,22,46⟩) ⟨22,32,22,46⟩) ⟨22,28,22,46⟩) .nil)) ⟨22,7,22,46⟩) (.cons (.expr (.callN 8 ⟨23,8,23,13⟩ (.cons (.cint (2) 0 ⟨23,14,23,15⟩) .nil) ⟨23,8,23,16⟩) ⟨23,8,23,16⟩) .nil) .nil ⟨22,4,23,16⟩) (.cons (.ret (.loc 3 ⟨24,11,24,12⟩) ⟨24,4,24,12⟩) .nil))))
noncomputable def fIndex_body : List Stmt := embSs nm fIndex_0
noncomputable def fIndex_scope : Scope := ⟨.function, [((Str.ofString "n"), .local), ((Str.ofString "what"), .local), ((Str.ofString "type"), .globalImplicit), ((Str.ofString "int"), .globalImplicit), ((Str.ofString "bool"), .globalImplicit), ((Str.ofString "_wall"), .globalImplicit)], false, false, []⟩
noncomputable def fIndex_params : Arguments := ⟨[], [⟨(Str.ofString "n"), none, ⟨18,11,18,12⟩⟩, ⟨(Str.ofString "what"), none, ⟨18,14,18,18⟩⟩], none, [], [], none, []⟩
noncomputable def fIndex_locs : List Nat := [3, 4]
noncomputable def fIndex_globs : List Nat := [5, 6, 7, 8]
noncomputable def fCheck_0 : PS := (.cons (.ite (.cmp (.attr (.loc 9 ⟨233,11,233,15⟩) 10 ⟨233,11,233,21⟩) .Is (.cnone 0 ⟨233,25,233,29⟩) ⟨233,11,233,29⟩) (.cons (.opq (Stmt.Raise (some (Expr.Call (Expr.Name (Str.ofString "ValueError") ⟨234,18,234,28⟩) [(Expr.Constant (.str (Str.ofString "I/O operation on closed file")) 0 ⟨234,29,234,59⟩)] [] ⟨234,18,234,60⟩)) none ⟨234,12,234,60⟩)) .nil) .nil ⟨233,8,234,60⟩) .nil)
noncomputable def fCheck_body : List Stmt := embSs nm fCheck_0
noncomputable def fCheck_scope : Scope := ⟨.function, [((Str.ofString "self"), .local), ((Str.ofString "ValueError"), .globalImplicit)], false, false, []⟩
noncomputable def fCheck_params : Arguments := ⟨[], [⟨(Str.ofString "self"), none, ⟨232,16,232,20⟩⟩], none, [], [], none, []⟩
noncomputable def fCheck_locs : List Nat := [9]
noncomputable def fCheck_globs : List Nat := []
noncomputable def fLine_0 : PS := (.cons (.assign 12 ⟨241,8,241,13⟩ (.attr (.loc 9 ⟨241,16,241,20⟩) 13 ⟨241,16,241,26⟩) ⟨241,8,241,26⟩) (.cons (.assign 14 ⟨242,8,242,12⟩ (.callN 2 ⟨242,15,242,18⟩ (.cons (.attr (.loc 9 ⟨242,19,242,23⟩) 10 ⟨242,19,242,29⟩) .nil) ⟨242,15,242,30⟩) ⟨242,8,242,30⟩) (.cons (.ite (.cmp (.loc 12 ⟨243,11,243,16⟩) .GtE (.loc 14 ⟨243,20,243,24⟩) ⟨243,11,243,24⟩) (.cons (.ret (.cstr 15 0 ⟨244,19,244,21⟩) ⟨244,12,244,21⟩) .nil) .nil ⟨243,8,244,21⟩) (.cons (.assign 16 ⟨245,8,245,11⟩ (.cbool false 0 ⟨245,14,245,19⟩) ⟨245,8,245,19⟩) (.cons (.ite (.bop .And (.cons (.cmp (.loc 11 ⟨246,11,246,16⟩) .GtE (.cint (0) 0 ⟨246,20,246,21⟩) ⟨246,11,246,21⟩) (.cons (.cmp (.bin (.loc 12 ⟨246,26,246,31⟩) .Add (.loc 11 ⟨246,34,246,39⟩) ⟨246,26,246,39⟩) .Lt (.loc 14 ⟨246,42,246,46⟩) ⟨246,26,246,46⟩) .nil)) ⟨246,11,246,46⟩) (.cons (.assign 14 ⟨247,12,247,16⟩ (.bin (.loc 12 ⟨247,19,247,24⟩) .Add (.loc 11 ⟨247,27,247,32⟩) ⟨247,19,247,32⟩) ⟨247,12,247,32⟩) (.cons (.assign 16 ⟨248,12,248,15⟩ (.cbool true 0 ⟨248,18,248,22⟩) ⟨248,12,248,22⟩) .nil)) .nil ⟨246,8,248,22⟩) (.cons (.assign 17 ⟨249,8,249,15⟩ (.attr (.loc 9 ⟨249,18,249,22⟩) 18 ⟨249,18,249,32⟩) ⟨249,8,249,32⟩) (.cons (.ite (.cmp (.loc 17 ⟨250,11,250,18⟩) .Eq (.cstr 15 0 ⟨250,22,250,24⟩) ⟨250,11,250,24⟩) (.cons (.assign 19 ⟨251,12,251,13⟩ (.callM (.attr (.loc 9 ⟨251,16,251,20⟩) 10 ⟨251,16,251,26⟩) 20 ⟨251,16,251,31⟩ (.cons (.cstr 21 0 ⟨251,32,251,36⟩) (.cons (.loc 12 ⟨251,38,251,43⟩) (.cons (.loc 14 ⟨251,45,251,49⟩) .nil))) ⟨251,16,251,50⟩) ⟨251,12,251,50⟩) (.cons (.assign 22 ⟨252,12,252,13⟩ (.callM (.attr (.loc 9 ⟨252,16,252,20⟩) 10 ⟨252,16,252,26⟩) 20 ⟨252,16,252,31⟩ (.cons (.cstr 23 0 ⟨252,32,252,36⟩) (.cons (.loc 12 ⟨252,38,252,43⟩) (.cons (.loc 14 ⟨252,45,252,49⟩) .nil))) ⟨252,16,252,50⟩) ⟨252,12,252,50⟩) (.cons (.ite (.bop .And (.cons (.cmp (.loc 22 ⟨253,15,253,16⟩) .GtE (.cint (0) 0 ⟨253,20,253,21⟩) ⟨253,15,253,21⟩) (.cons (.bop .Or (.cons (.cmp (.loc 19 ⟨253,27,253,28⟩) .Lt (.cint (0) 0 ⟨253,31,253,32⟩) ⟨253,27,253,32⟩) (.cons (.cmp (.loc 22 ⟨253,36,253,37⟩) .Lt (.loc 19 ⟨253,40,253,41⟩) ⟨253,36,253,41⟩) .nil)) ⟨253,27,253,41⟩) .nil)) ⟨253,15,253,42⟩) (.cons (.ite (.cmp (.bin (.loc 22 ⟨254,19,254,20⟩) .Add (.cint (1) 0 ⟨254,23,254,24⟩) ⟨254,19,254,24⟩) .Lt (.loc 14 ⟨254,27,254,31⟩) ⟨254,19,254,31⟩) (.cons (.assign 14 ⟨255,20,255,24⟩ (.ite (.cmp (.sub (.attr (.loc 9 ⟨255,36,255,40⟩) 10 ⟨255,36,255,46⟩) (.bin (.loc 22 ⟨255,47,255,48⟩) .Add (.cint (1) 0 ⟨255,51,255,52⟩) ⟨255,47,255,52⟩) ⟨255,36,255,53⟩) .Eq (.cstr 21 0 ⟨255,57,255,61⟩) ⟨255,36,255,61⟩) (.bin (.loc 22 ⟨255,27,255,28⟩) .Add (.cint (2) 0 ⟨255,31,255,32⟩) ⟨255,27,255,32⟩) (.bin (.loc 22 ⟨255,67,255,68⟩) .Add (.cint (1) 0 ⟨255,71,255,72⟩) ⟨255,67,255,72⟩) ⟨255,27,255,72⟩) ⟨255,20,255,72⟩) .nil) (.cons (.ite (.bop .And (.cons (.loc 16 ⟨257,23,257,26⟩) (.cons (.cmp (.sub (.attr (.loc 9 ⟨257,31,257,35⟩) 10 ⟨257,31,257,41⟩) (.bin (.loc 22 ⟨257,42,257,43⟩) .Add (.cint (1) 0 ⟨257,46,257,47⟩) ⟨257,42,257,47⟩) ⟨257,31,257,48⟩) .Eq (.cstr 21 0 ⟨257,52,257,56⟩) ⟨257,31,257,56⟩) .nil)) ⟨257,23,257,56⟩) (.cons (.expr (.callN 8 ⟨258,24,258,29⟩ (.cons (.cint (19) 0 ⟨258,30,258,32⟩) .nil) ⟨258,24,258,33⟩) ⟨258,24,258,33⟩) .nil) .nil ⟨257,20,258,33⟩) (.cons (.assign 14 ⟨259,20,259,24⟩ (.bin (.loc 22 ⟨259,27,259,28⟩) .Add (.cint (1) 0 ⟨259,31,259,32⟩) ⟨259,27,259,32⟩) ⟨259,20,259,32⟩) .nil)) ⟨254,16,259,32⟩) .nil) (.cons (.ite (.cmp (.loc 19 ⟨260,17,260,18⟩) .GtE (.cint (0) 0 ⟨260,22,260,23⟩) ⟨260,17,260,23⟩) (.cons (.assign 14 ⟨261,16,261,20⟩ (.bin (.loc 19 ⟨261,23,261,24⟩) .Add (.cint (1) 0 ⟨261,27,261,28⟩) ⟨261,23,261,28⟩) ⟨261,16,261,28⟩) .nil) .nil ⟨260,12,261,28⟩) .nil) ⟨253,12,261,28⟩) .nil))) (.cons (.assign 24 ⟨263,12,263,15⟩ (.ite (.cmp (.loc 17 ⟨263,26,263,33⟩) .Is (.cnone 0 ⟨263,37,263,41⟩) ⟨263,26,263,41⟩) (.cstr 21 0 ⟨263,18,263,22⟩) (.loc 17 ⟨263,47,263,54⟩) ⟨263,18,263,54⟩) ⟨263,12,263,54⟩) (.cons (.ite (.bop .And (.cons (.loc 16 ⟨264,15,264,18⟩) (.cons (.cmp (.loc 24 ⟨264,23,264,26⟩) .Eq (.cstr 25 0 ⟨264,30,264,36⟩) ⟨264,23,264,36⟩) (.cons (.cmp (.loc 14 ⟨264,42,264,46⟩) .Gt (.loc 12 ⟨264,49,264,54⟩) ⟨264,42,264,54⟩) (.cons (.cmp (.sub (.attr (.loc 9 ⟨264,61,264,65⟩) 10 ⟨264,61,264,71⟩) (.bin (.loc 14 ⟨264,72,264,76⟩) .Sub (.cint (1) 0 ⟨264,79,264,80⟩) ⟨264,72,264,80⟩) ⟨264,61,264,81⟩) .Eq (.cstr 23 0 ⟨264,85,264,89⟩) ⟨264,61,264,89⟩) .nil)))) ⟨264,15,264,90⟩) (.cons (.expr (.callN 8 ⟨265,16,265,21⟩ (.cons (.cint (20) 0 ⟨265,22,265,24⟩) .nil) ⟨265,16,265,25⟩) ⟨265,16,265,25⟩) .nil) .nil ⟨264,12,265,25⟩) (.cons (.assign 19 ⟨266,12,266,13⟩ (.callM (.attr (.loc 9 ⟨266,16,266,20⟩) 10 ⟨266,16,266,26⟩) 20 ⟨266,16,266,31⟩ (.cons (.loc 24 ⟨266,32,266,35⟩) (.cons (.loc 12 ⟨266,37,266,42⟩) (.cons (.loc 14 ⟨266,44,266,48⟩) .nil))) ⟨266,16,266,49⟩) ⟨266,12,266,49⟩) (.cons (.ite (.cmp (.loc 19 ⟨267,15,267,16⟩) .GtE (.cint (0) 0 ⟨267,20,267,21⟩) ⟨267,15,267,21⟩) (.cons (.assign 14 ⟨268,16,268,20⟩ (.bin (.loc 19 ⟨268,23,268,24⟩) .Add (.callN 2 ⟨268,27,268,30⟩ (.cons (.loc 24 ⟨268,31,268,34⟩) .nil) ⟨268,27,268,35⟩) ⟨268,23,268,35⟩) ⟨268,16,268,35⟩) .nil) .nil ⟨267,12,268,35⟩) .nil)))) ⟨250,8,268,35⟩) (.cons (.setattr (.loc 9 ⟨269,8,269,12⟩) 13 ⟨269,8,269,18⟩ (.loc 14 ⟨269,21,269,25⟩) ⟨269,8,269,25⟩) (.cons (.ret (.slc (.attr (.loc 9 ⟨270,15,270,19⟩) 10 ⟨270,15,270,25⟩) (.cons (.loc 12 ⟨270,26,270,31⟩) .nil) (.cons (.loc 14 ⟨270,32,270,36⟩) .nil) ⟨270,26,270,36⟩ ⟨270,15,270,37⟩) ⟨270,8,270,37⟩) .nil)))))))))
noncomputable def fLine_body : List Stmt := embSs nm fLine_0
noncomputable def fLine_scope : Scope := ⟨.function, [((Str.ofString "self"), .local), ((Str.ofString "limit"), .local), ((Str.ofString "start"), .local), ((Str.ofString "stop"), .local), ((Str.ofString "cut"), .local), ((Str.ofString "newline"), .local), ((Str.ofString "i"), .local), ((Str.ofString "j"), .local), ((Str.ofString "end"), .local), ((Str.ofString "len"), .globalImplicit), ((Str.ofString "_wall"), .globalImplicit)], false, false, []⟩
noncomputable def fLine_params : Arguments := ⟨[], [⟨(Str.ofString "self"), none, ⟨240,15,240,19⟩⟩, ⟨(Str.ofString "limit"), none, ⟨240,21,240,26⟩⟩], none, [], [], none, []⟩
noncomputable def fLine_locs : List Nat := [9, 11, 12, 14, 16, 17, 19, 22, 24]
noncomputable def fLine_globs : List Nat := [2, 8]
noncomputable def fRead_0 : PS := (.cons (.ite (.cmp (.loc 26 ⟨355,11,355,15⟩) .Is (.cnone 0 ⟨355,19,355,23⟩) ⟨355,11,355,23⟩) (.cons (.assign 26 ⟨356,12,356,16⟩ (.usub (.cint (1) 0 ⟨356,20,356,21⟩) ⟨356,19,356,21⟩) ⟨356,12,356,21⟩) .nil) .nil ⟨355,8,356,21⟩) (.cons (.assign 26 ⟨357,8,357,12⟩ (.callN 27 ⟨357,15,357,21⟩ (.cons (.loc 26 ⟨357,22,357,26⟩) (.cons (.cstr 28 0 ⟨357,28,357,74⟩) .nil)) ⟨357,15,357,75⟩) ⟨357,8,357,75⟩) (.cons (.expr (.callM (.loc 9 ⟨358,8,358,12⟩) 29 ⟨358,8,358,20⟩ .nil ⟨358,8,358,22⟩) ⟨358,8,358,22⟩) (.cons (.assign 12 ⟨359,8,359,13⟩ (.attr (.loc 9 ⟨359,16,359,20⟩) 13 ⟨359,16,359,26⟩) ⟨359,8,359,26⟩) (.cons (.assign 14 ⟨360,8,360,12⟩ (.callN 2 ⟨360,15,360,18⟩ (.cons (.attr (.loc 9 ⟨360,19,360,23⟩) 10 ⟨360,19,360,29⟩) .nil) ⟨360,15,360,30⟩) ⟨360,8,360,30⟩) (.cons (.ite (.cmp (.loc 12 ⟨361,11,361,16⟩) .GtE (.loc 14 ⟨361,20,361,24⟩) ⟨361,11,361,24⟩) (.cons (.ret (.cstr 15 0 ⟨362,19,362,21⟩) ⟨362,12,362,21⟩) .nil) .nil ⟨361,8,362,21⟩) (.cons (.ite (.bop .And (.cons (.cmp (.loc 26 ⟨363,11,363,15⟩) .GtE (.cint (0) 0 ⟨363,19,363,20⟩) ⟨363,11,363,20⟩) (.cons (.cmp (.bin (.loc 12 ⟨363,25,363,30⟩) .Add (.loc 26 ⟨363,33,363,37⟩) ⟨363,25,363,37⟩) .Lt (.loc 14 ⟨363,40,363,44⟩) ⟨363,25,363,44⟩) .nil)) ⟨363,11,363,44⟩) (.cons (.assign 14 ⟨364,12,364,16⟩ (.bin (.loc 12 ⟨364,19,364,24⟩) .Add (.loc 26 ⟨364,27,364,31⟩) ⟨364,19,364,31⟩) ⟨364,12,364,31⟩) .nil) .nil ⟨363,8,364,31⟩) (.cons (.setattr (.loc 9 ⟨365,8,365,12⟩) 13 ⟨365,8,365,18⟩ (.loc 14 ⟨365,21,365,25⟩) ⟨365,8,365,25⟩) (.cons (.ret (.slc (.attr (.loc 9 ⟨366,15,366,19⟩) 10 ⟨366,15,366,25⟩) (.cons (.loc 12 ⟨366,26,366,31⟩) .nil) (.cons (.loc 14 ⟨366,32,366,36⟩) .nil) ⟨366,26,366,36⟩ ⟨366,15,366,37⟩) ⟨366,8,366,37⟩) .nil)))))))))
noncomputable def fRead_body : List Stmt := embSs nm fRead_0
noncomputable def fRead_scope : Scope := ⟨.function, [((Str.ofString "self"), .local), ((Str.ofString "size"), .local), ((Str.ofString "start"), .local), ((Str.ofString "stop"), .local), ((Str.ofString "_index"), .globalImplicit), ((Str.ofString "len"), .globalImplicit)], false, false, []⟩
noncomputable def fRead_params : Arguments := ⟨[⟨(Str.ofString "self"), none, ⟨354,13,354,17⟩⟩, ⟨(Str.ofString "size"), none, ⟨354,19,354,23⟩⟩], [], none, [], [], none, [(Expr.UnaryOp .USub (Expr.Constant (.int (1)) 0 ⟨354,25,354,26⟩) ⟨354,24,354,26⟩)]⟩
noncomputable def fRead_locs : List Nat := [9, 26, 12, 14]
noncomputable def fRead_globs : List Nat := [27, 2]
noncomputable def fReadline_0 : PS := (.cons (.ite (.cmp (.loc 26 ⟨369,11,369,15⟩) .Is (.cnone 0 ⟨369,19,369,23⟩) ⟨369,11,369,23⟩) (.cons (.assign 26 ⟨370,12,370,16⟩ (.usub (.cint (1) 0 ⟨370,20,370,21⟩) ⟨370,19,370,21⟩) ⟨370,12,370,21⟩) .nil) .nil ⟨369,8,370,21⟩) (.cons (.assign 26 ⟨371,8,371,12⟩ (.callN 27 ⟨371,15,371,21⟩ (.cons (.loc 26 ⟨371,22,371,26⟩) (.cons (.cstr 30 0 ⟨371,28,371,78⟩) .nil)) ⟨371,15,371,79⟩) ⟨371,8,371,79⟩) (.cons (.expr (.callM (.loc 9 ⟨372,8,372,12⟩) 29 ⟨372,8,372,20⟩ .nil ⟨372,8,372,22⟩) ⟨372,8,372,22⟩) (.cons (.ret (.callM (.loc 9 ⟨373,15,373,19⟩) 31 ⟨373,15,373,26⟩ (.cons (.loc 26 ⟨373,27,373,31⟩) .nil) ⟨373,15,373,32⟩) ⟨373,8,373,32⟩) .nil))))
noncomputable def fReadline_body : List Stmt := embSs nm fReadline_0
noncomputable def fReadline_scope : Scope := ⟨.function, [((Str.ofString "self"), .local), ((Str.ofString "size"), .local), ((Str.ofString "_index"), .globalImplicit)], false, false, []⟩
noncomputable def fReadline_params : Arguments := ⟨[⟨(Str.ofString "self"), none, ⟨368,17,368,21⟩⟩, ⟨(Str.ofString "size"), none, ⟨368,23,368,27⟩⟩], [], none, [], [], none, [(Expr.UnaryOp .USub (Expr.Constant (.int (1)) 0 ⟨368,29,368,30⟩) ⟨368,28,368,30⟩)]⟩
noncomputable def fReadline_locs : List Nat := [9, 26]
noncomputable def fReadline_globs : List Nat := [27]
noncomputable def fTrans_0 : PS := (.cons (.assign 17 ⟨225,8,225,15⟩ (.attr (.loc 9 ⟨225,18,225,22⟩) 18 ⟨225,18,225,32⟩) ⟨225,8,225,32⟩) (.cons (.ite (.cmp (.loc 17 ⟨226,11,226,18⟩) .Is (.cnone 0 ⟨226,22,226,26⟩) ⟨226,11,226,26⟩) (.cons (.ret (.callM (.callM (.loc 32 ⟨227,19,227,20⟩) 33 ⟨227,19,227,28⟩ (.cons (.cstr 25 0 ⟨227,29,227,35⟩) (.cons (.cstr 21 0 ⟨227,37,227,41⟩) .nil)) ⟨227,19,227,42⟩) 33 ⟨227,19,227,50⟩ (.cons (.cstr 23 0 ⟨227,51,227,55⟩) (.cons (.cstr 21 0 ⟨227,57,227,61⟩) .nil)) ⟨227,19,227,62⟩) ⟨227,12,227,62⟩) .nil) .nil ⟨226,8,227,62⟩) (.cons (.ite (.bop .Or (.cons (.cmp (.loc 17 ⟨228,11,228,18⟩) .Eq (.cstr 23 0 ⟨228,22,228,26⟩) ⟨228,11,228,26⟩) (.cons (.cmp (.loc 17 ⟨228,30,228,37⟩) .Eq (.cstr 25 0 ⟨228,41,228,47⟩) ⟨228,30,228,47⟩) .nil)) ⟨228,11,228,47⟩) (.cons (.ret (.callM (.loc 32 ⟨229,19,229,20⟩) 33 ⟨229,19,229,28⟩ (.cons (.cstr 21 0 ⟨229,29,229,33⟩) (.cons (.loc 17 ⟨229,35,229,42⟩) .nil)) ⟨229,19,229,43⟩) ⟨229,12,229,43⟩) .nil) .nil ⟨228,8,229,43⟩) (.cons (.ret (.loc 32 ⟨230,15,230,16⟩) ⟨230,8,230,16⟩) .nil))))
noncomputable def fTrans_body : List Stmt := embSs nm fTrans_0
noncomputable def fTrans_scope : Scope := ⟨.function, [((Str.ofString "self"), .local), ((Str.ofString "s"), .local), ((Str.ofString "newline"), .local)], false, false, []⟩
noncomputable def fTrans_params : Arguments := ⟨[], [⟨(Str.ofString "self"), none, ⟨224,21,224,25⟩⟩, ⟨(Str.ofString "s"), none, ⟨224,27,224,28⟩⟩], none, [], [], none, []⟩
noncomputable def fTrans_locs : List Nat := [9, 32, 17]
noncomputable def fTrans_globs : List Nat := []
noncomputable def fSInit_0 : PS := (.cons (.ite (.bop .And (.cons (.cmp (.loc 17 ⟨212,11,212,18⟩) .IsNot (.cnone 0 ⟨212,26,212,30⟩) ⟨212,11,212,30⟩) (.cons (.cmp (.callN 5 ⟨212,35,212,39⟩ (.cons (.loc 17 ⟨212,40,212,47⟩) .nil) ⟨212,35,212,48⟩) .IsNot (.glob 35 ⟨212,56,212,59⟩) ⟨212,35,212,59⟩) .nil)) ⟨212,11,212,59⟩) (.cons (.expr (.callN 8 ⟨213,12,213,17⟩ (.cons (.cint (17) 0 ⟨213,18,213,20⟩) .nil) ⟨213,12,213,21⟩) ⟨213,12,213,21⟩) .nil) .nil ⟨212,8,213,21⟩) (.cons (.ite (.bop .And (.cons (.cmp (.loc 17 ⟨214,11,214,18⟩) .IsNot (.cnone 0 ⟨214,26,214,30⟩) ⟨214,11,214,30⟩) (.cons (.cmp (.loc 17 ⟨214,35,214,42⟩) .NotEq (.cstr 15 0 ⟨214,46,214,48⟩) ⟨214,35,214,48⟩) (.cons (.cmp (.loc 17 ⟨214,54,214,61⟩) .NotEq (.cstr 21 0 ⟨214,65,214,69⟩) ⟨214,54,214,69⟩) (.cons (.cmp (.loc 17 ⟨214,76,214,83⟩) .NotEq (.cstr 23 0 ⟨214,87,214,91⟩) ⟨214,76,214,91⟩) (.cons (.cmp (.loc 17 ⟨214,98,214,105⟩) .NotEq (.cstr 25 0 ⟨214,109,214,115⟩) ⟨214,98,214,115⟩) .nil))))) ⟨214,11,214,116⟩) (.cons (.opq (Stmt.Raise (some (Expr.Call (Expr.Name (Str.ofString "ValueError") ⟨215,18,215,28⟩) [(Expr.JoinedStr [(Expr.Constant (.str (Str.ofString "illegal newline value: ")) 0 ⟨215,31,215,54⟩), (Expr.FormattedValue (Expr.Name (Str.ofString "newline") ⟨215,55,215,62⟩) (114) none ⟨215,54,215,65⟩)] ⟨215,29,215,66⟩)] [] ⟨215,18,215,67⟩)) none ⟨215,12,215,67⟩)) .nil) .nil ⟨214,8,215,67⟩) (.cons (.ite (.bop .And (.cons (.cmp (.loc 34 ⟨216,11,216,24⟩) .IsNot (.cnone 0 ⟨216,32,216,36⟩) ⟨216,11,216,36⟩) (.cons (.cmp (.callN 5 ⟨216,41,216,45⟩ (.cons (.loc 34 ⟨216,46,216,59⟩) .nil) ⟨216,41,216,60⟩) .IsNot (.glob 35 ⟨216,68,216,71⟩) ⟨216,41,216,71⟩) .nil)) ⟨216,11,216,71⟩) (.cons (.expr (.callN 8 ⟨217,12,217,17⟩ (.cons (.cint (18) 0 ⟨217,18,217,20⟩) .nil) ⟨217,12,217,21⟩) ⟨217,12,217,21⟩) .nil) .nil ⟨216,8,217,21⟩) (.cons (.setattr (.loc 9 ⟨218,8,218,12⟩) 18 ⟨218,8,218,22⟩ (.loc 17 ⟨218,25,218,32⟩) ⟨218,8,218,32⟩) (.cons (.setattr (.loc 9 ⟨219,8,219,12⟩) 10 ⟨219,8,219,18⟩ (.cstr 15 0 ⟨219,21,219,23⟩) ⟨219,8,219,23⟩) (.cons (.setattr (.loc 9 ⟨220,8,220,12⟩) 13 ⟨220,8,220,18⟩ (.cint (0) 0 ⟨220,21,220,22⟩) ⟨220,8,220,22⟩) (.cons (.ite (.cmp (.loc 34 ⟨221,11,221,24⟩) .IsNot (.cnone 0 ⟨221,32,221,36⟩) ⟨221,11,221,36⟩) (.cons (.setattr (.loc 9 ⟨222,12,222,16⟩) 10 ⟨222,12,222,22⟩ (.callM (.loc 9 ⟨222,25,222,29⟩) 36 ⟨222,25,222,42⟩ (.cons (.loc 34 ⟨222,43,222,56⟩) .nil) ⟨222,25,222,57⟩) ⟨222,12,222,57⟩) .nil) .nil ⟨221,8,222,57⟩) .nil)))))))
noncomputable def fSInit_body : List Stmt := embSs nm fSInit_0
noncomputable def fSInit_scope : Scope := ⟨.function, [((Str.ofString "self"), .local), ((Str.ofString "initial_value"), .local), ((Str.ofString "newline"), .local), ((Str.ofString "type"), .globalImplicit), ((Str.ofString "str"), .globalImplicit), ((Str.ofString "_wall"), .globalImplicit), ((Str.ofString "ValueError"), .globalImplicit)], false, false, []⟩
noncomputable def fSInit_params : Arguments := ⟨[], [⟨(Str.ofString "self"), none, ⟨211,17,211,21⟩⟩, ⟨(Str.ofString "initial_value"), none, ⟨211,23,211,36⟩⟩, ⟨(Str.ofString "newline"), none, ⟨211,41,211,48⟩⟩], none, [], [], none, [(Expr.Constant (.str (Str.ofString "")) 0 ⟨211,37,211,39⟩), (Expr.Constant (.str (Str.ofString "\n")) 0 ⟨211,49,211,53⟩)]⟩
noncomputable def fSInit_locs : List Nat := [9, 34, 17]
noncomputable def fSInit_globs : List Nat := [5, 35, 8]
noncomputable def fNew_0 : PS := (.cons (.ite (.bop .And (.cons (.cmp (.loc 37 ⟨31,11,31,14⟩) .IsNot (.glob 38 ⟨31,22,31,29⟩) ⟨31,11,31,29⟩) (.cons (.cmp (.loc 37 ⟨31,34,31,37⟩) .IsNot (.glob 39 ⟨31,45,31,53⟩) ⟨31,34,31,53⟩) .nil)) ⟨31,11,31,53⟩) (.cons (.expr (.callN 8 ⟨32,12,32,17⟩ (.cons (.cint (3) 0 ⟨32,18,32,19⟩) .nil) ⟨32,12,32,20⟩) ⟨32,12,32,20⟩) .nil) .nil ⟨31,8,32,20⟩) (.cons (.ret (.callM (.glob 40 ⟨33,15,33,21⟩) 41 ⟨33,15,33,29⟩ (.cons (.loc 37 ⟨33,30,33,33⟩) .nil) ⟨33,15,33,34⟩) ⟨33,8,33,34⟩) .nil))
noncomputable def fNew_body : List Stmt := embSs nm fNew_0
noncomputable def fNew_scope : Scope := ⟨.function, [((Str.ofString "cls"), .local), ((Str.ofString "args"), .local), ((Str.ofString "kwargs"), .local), ((Str.ofString "BytesIO"), .globalImplicit), ((Str.ofString "StringIO"), .globalImplicit), ((Str.ofString "_wall"), .globalImplicit), ((Str.ofString "object"), .globalImplicit)], false, false, []⟩
noncomputable def fNew_params : Arguments := ⟨[⟨(Str.ofString "cls"), none, ⟨30,16,30,19⟩⟩], [], (some ⟨(Str.ofString "args"), none, ⟨30,25,30,29⟩⟩), [], [], (some ⟨(Str.ofString "kwargs"), none, ⟨30,33,30,39⟩⟩), []⟩
noncomputable def fNew_locs : List Nat := [37]
noncomputable def fNew_globs : List Nat := [38, 39, 8, 40]
noncomputable def fInit_0 : PS := (.cons (.ite (.callN 46 ⟨480,11,480,21⟩ (.cons (.loc 42 ⟨480,22,480,30⟩) (.cons (.glob 35 ⟨480,32,480,35⟩) .nil)) ⟨480,11,480,36⟩) (.cons (.assign 42 ⟨481,12,481,20⟩ (.callN 39 ⟨481,23,481,31⟩ (.cons (.loc 42 ⟨481,32,481,40⟩) .nil) ⟨481,23,481,41⟩) ⟨481,12,481,41⟩) .nil) .nil ⟨480,8,481,41⟩) (.cons (.ite (.cmp (.loc 42 ⟨482,11,482,19⟩) .IsNot (.cnone 0 ⟨482,27,482,31⟩) ⟨482,11,482,31⟩) (.cons (.setattr (.loc 9 ⟨483,12,483,16⟩) 42 ⟨483,12,483,25⟩ (.loc 42 ⟨483,28,483,36⟩) ⟨483,12,483,36⟩) (.cons (.setattr (.loc 9 ⟨484,12,484,16⟩) 43 ⟨484,12,484,23⟩ (.loc 43 ⟨484,26,484,32⟩) ⟨484,12,484,32⟩) .nil)) (.cons (.setattr (.loc 9 ⟨486,12,486,16⟩) 42 ⟨486,12,486,25⟩ (.callN 8 ⟨486,28,486,33⟩ (.cons (.cint (34) 0 ⟨486,34,486,36⟩) .nil) ⟨486,28,486,37⟩) ⟨486,12,486,37⟩) (.cons (.setattr (.loc 9 ⟨487,12,487,16⟩) 43 ⟨487,12,487,23⟩ (.cnone 0 ⟨487,26,487,30⟩) ⟨487,12,487,30⟩) .nil)) ⟨482,8,487,30⟩) (.cons (.setattr (.loc 9 ⟨488,8,488,12⟩) 44 ⟨488,8,488,18⟩ (.loc 44 ⟨488,21,488,26⟩) ⟨488,8,488,26⟩) (.cons (.ite (.loc 44 ⟨489,11,489,16⟩) (.cons (.setattr (.loc 9 ⟨490,12,490,16⟩) 47 ⟨490,12,490,20⟩ (.cnone 0 ⟨490,23,490,27⟩) ⟨490,12,490,27⟩) .nil) (.cons (.setattr (.loc 9 ⟨492,12,492,16⟩) 47 ⟨492,12,492,20⟩ (.cstr 15 0 ⟨492,23,492,25⟩) ⟨492,12,492,25⟩) .nil) ⟨489,8,492,25⟩) (.cons (.setattr (.loc 9 ⟨493,8,493,12⟩) 48 ⟨493,8,493,23⟩ (.cstr 49 0 ⟨493,26,493,29⟩) ⟨493,8,493,29⟩) (.cons (.setattr (.loc 9 ⟨494,8,494,12⟩) 50 ⟨494,8,494,22⟩ (.cstr 51 0 ⟨494,25,494,90⟩) ⟨494,8,494,90⟩) (.cons (.ite (.attr (.loc 9 ⟨495,11,495,15⟩) 44 ⟨495,11,495,21⟩) (.cons (.aug (.loc 9 ⟨496,12,496,16⟩) 50 ⟨496,12,496,26⟩ .Add (.cstr 52 0 ⟨496,30,496,156⟩) ⟨496,12,496,156⟩) .nil) .nil ⟨495,8,496,156⟩) (.cons (.setattr (.loc 9 ⟨497,8,497,12⟩) 53 ⟨497,8,497,23⟩ (.cstr 54 0 ⟨497,26,497,35⟩) ⟨497,8,497,35⟩) (.cons (.setattr (.loc 9 ⟨498,8,498,12⟩) 55 ⟨498,8,498,29⟩ (.cbool false 0 ⟨498,32,498,37⟩) ⟨498,8,498,37⟩) (.cons (.setattr (.loc 9 ⟨499,8,499,12⟩) 56 ⟨499,8,499,19⟩ (.cstr 57 0 ⟨499,22,499,27⟩) ⟨499,8,499,27⟩) (.cons (.setattr (.loc 9 ⟨500,8,500,12⟩) 58 ⟨500,8,500,19⟩ (.cstr 59 0 ⟨500,22,500,26⟩) ⟨500,8,500,26⟩) (.cons (.setattr (.loc 9 ⟨501,8,501,12⟩) 60 ⟨501,8,501,26⟩ (.cstr 61 0 ⟨501,29,501,32⟩) ⟨501,8,501,32⟩) (.cons (.setattr (.loc 9 ⟨502,8,502,12⟩) 62 ⟨502,8,502,18⟩ (.cstr 63 0 ⟨502,21,502,24⟩) ⟨502,8,502,24⟩) (.cons (.setattr (.loc 9 ⟨503,8,503,12⟩) 64 ⟨503,8,503,21⟩ (.callN 65 ⟨503,24,503,29⟩ .nil ⟨503,24,503,31⟩) ⟨503,8,503,31⟩) (.cons (.setattr (.loc 9 ⟨504,8,504,12⟩) 66 ⟨504,8,504,19⟩ (.cint (1) 0 ⟨504,22,504,23⟩) ⟨504,8,504,23⟩) (.cons (.setattr (.loc 9 ⟨505,8,505,12⟩) 67 ⟨505,8,505,18⟩ (.cint (0) 0 ⟨505,21,505,22⟩) ⟨505,8,505,22⟩) (.cons (.setattr (.loc 9 ⟨506,8,506,12⟩) 68 ⟨506,8,506,18⟩ (.cstr 15 0 ⟨506,21,506,23⟩) ⟨506,8,506,23⟩) (.cons (.setattr (.loc 9 ⟨507,8,507,12⟩) 69 ⟨507,8,507,22⟩ (.callN 65 ⟨507,25,507,30⟩ .nil ⟨507,25,507,32⟩) ⟨507,8,507,32⟩) (.cons (.setattr (.loc 9 ⟨508,8,508,12⟩) 70 ⟨508,8,508,19⟩ (.cnone 0 ⟨508,22,508,26⟩) ⟨508,8,508,26⟩) (.cons (.ite (.not (.loc 45 ⟨509,15,509,32⟩) ⟨509,11,509,32⟩) (.cons (.assign 45 ⟨510,12,510,29⟩ (.cstr 15 0 ⟨510,32,510,34⟩) ⟨510,12,510,34⟩) .nil) (.cons (.ite (.cmp (.loc 45 ⟨511,13,511,30⟩) .Is (.cbool true 0 ⟨511,34,511,38⟩) ⟨511,13,511,38⟩) (.cons (.assign 45 ⟨512,12,512,29⟩ (.cstr 71 0 ⟨512,32,512,41⟩) ⟨512,12,512,41⟩) .nil) .nil ⟨511,8,512,41⟩) .nil) ⟨509,8,512,41⟩) (.cons (.setattr (.loc 9 ⟨513,8,513,12⟩) 72 ⟨513,8,513,31⟩ (.loc 45 ⟨513,34,513,51⟩) ⟨513,8,513,51⟩) (.cons (.ite (.loc 45 ⟨514,11,514,28⟩) (.cons (.setattr (.loc 9 ⟨515,12,515,16⟩) 73 ⟨515,12,515,32⟩ (.callN 65 ⟨515,35,515,40⟩ .nil ⟨515,35,515,42⟩) ⟨515,12,515,42⟩) (.cons (.aug (.loc 9 ⟨516,12,516,16⟩) 50 ⟨516,12,516,26⟩ .Add (.cstr 74 0 ⟨516,30,516,39⟩) ⟨516,12,516,39⟩) (.cons (.assign 75 ⟨517,12,517,13⟩ (.callM (.attr (.loc 9 ⟨517,16,517,20⟩) 50 ⟨517,16,517,30⟩) 76 ⟨517,16,517,40⟩ (.cons (.callM (.glob 77 ⟨517,41,517,45⟩) 78 ⟨517,41,517,54⟩ (.cons (.loc 45 ⟨517,55,517,72⟩) .nil) ⟨517,41,517,73⟩) .nil) ⟨517,16,517,74⟩) ⟨517,12,517,74⟩) (.cons (.setattr (.loc 9 ⟨518,12,518,16⟩) 50 ⟨518,12,518,26⟩ (.callM (.attr (.loc 9 ⟨518,29,518,33⟩) 50 ⟨518,29,518,43⟩) 79 ⟨518,29,518,53⟩ (.cons (.loc 75 ⟨518,54,518,55⟩) .nil) ⟨518,29,518,56⟩) ⟨518,12,518,56⟩) .nil)))) .nil ⟨514,8,518,56⟩) .nil))))))))))))))))))))))
noncomputable def fInit_body : List Stmt := embSs nm fInit_0
noncomputable def fInit_scope : Scope := ⟨.function, [((Str.ofString "self"), .local), ((Str.ofString "instream"), .local), ((Str.ofString "infile"), .local), ((Str.ofString "posix"), .local), ((Str.ofString "punctuation_chars"), .local), ((Str.ofString "t"), .local), ((Str.ofString "isinstance"), .globalImplicit), ((Str.ofString "str"), .globalImplicit), ((Str.ofString "StringIO"), .globalImplicit), ((Str.ofString "_wall"), .globalImplicit), ((Str.ofString "deque"), .globalImplicit), ((Str.ofString "dict"), .globalImplicit)], false, false, []⟩
noncomputable def fInit_params : Arguments := ⟨[], [⟨(Str.ofString "self"), none, ⟨479,17,479,21⟩⟩, ⟨(Str.ofString "instream"), none, ⟨479,23,479,31⟩⟩, ⟨(Str.ofString "infile"), none, ⟨479,38,479,44⟩⟩, ⟨(Str.ofString "posix"), none, ⟨479,51,479,56⟩⟩, ⟨(Str.ofString "punctuation_chars"), none, ⟨479,64,479,81⟩⟩], none, [], [], none, [(Expr.Constant .none 0 ⟨479,32,479,36⟩), (Expr.Constant .none 0 ⟨479,45,479,49⟩), (Expr.Constant (.bool false) 0 ⟨479,57,479,62⟩), (Expr.Constant (.bool false) 0 ⟨479,82,479,87⟩)]⟩
noncomputable def fInit_locs : List Nat := [9, 42, 43, 44, 45, 75]
noncomputable def fInit_globs : List Nat := [46, 35, 39, 8, 65, 77]
noncomputable def fPunct_0 : PS := (.cons (.ret (.attr (.loc 9 ⟨522,15,522,19⟩) 72 ⟨522,15,522,38⟩) ⟨522,8,522,38⟩) .nil)
noncomputable def fPunct_body : List Stmt := embSs nm fPunct_0
noncomputable def fPunct_scope : Scope := ⟨.function, [((Str.ofString "self"), .local)], false, false, []⟩
noncomputable def fPunct_params : Arguments := ⟨[], [⟨(Str.ofString "self"), none, ⟨521,26,521,30⟩⟩], none, [], [], none, []⟩
noncomputable def fPunct_locs : List Nat := [9]
noncomputable def fPunct_globs : List Nat := []
noncomputable def fGet_0 : PS := (.cons (.ite (.attr (.loc 9 ⟨548,11,548,15⟩) 64 ⟨548,11,548,24⟩) (.cons (.assign 80 ⟨549,12,549,15⟩ (.callM (.attr (.loc 9 ⟨549,18,549,22⟩) 64 ⟨549,18,549,31⟩) 81 ⟨549,18,549,39⟩ .nil ⟨549,18,549,41⟩) ⟨549,12,549,41⟩) (.cons (.ite (.cmp (.attr (.loc 9 ⟨550,15,550,19⟩) 67 ⟨550,15,550,25⟩) .GtE (.cint (1) 0 ⟨550,29,550,30⟩) ⟨550,15,550,30⟩) (.cons (.expr (.callN 82 ⟨551,16,551,21⟩ (.cons (.bin (.cstr 83 0 ⟨551,22,551,45⟩) .Add (.callN 84 ⟨551,48,551,52⟩ (.cons (.loc 80 ⟨551,53,551,56⟩) .nil) ⟨551,48,551,57⟩) ⟨551,22,551,57⟩) .nil) ⟨551,16,551,58⟩) ⟨551,16,551,58⟩) .nil) .nil ⟨550,12,551,58⟩) (.cons (.ret (.loc 80 ⟨552,19,552,22⟩) ⟨552,12,552,22⟩) .nil))) .nil ⟨548,8,552,22⟩) (.cons (.assign 85 ⟨553,8,553,11⟩ (.callM (.loc 9 ⟨553,14,553,18⟩) 86 ⟨553,14,553,29⟩ .nil ⟨553,14,553,31⟩) ⟨553,8,553,31⟩) (.cons (.ite (.cmp (.attr (.loc 9 ⟨554,11,554,15⟩) 70 ⟨554,11,554,22⟩) .IsNot (.cnone 0 ⟨554,30,554,34⟩) ⟨554,11,554,34⟩) (.cons (.opq (Stmt.While (Expr.Compare (Expr.Name (Str.ofString "raw") ⟨555,18,555,21⟩) [.Eq] [(Expr.Attribute (Expr.Name (Str.ofString "self") ⟨555,25,555,29⟩) (Str.ofString "source") ⟨555,25,555,36⟩)] ⟨555,18,555,36⟩) [(Stmt.Assign [(Expr.Name (Str.ofString "spec") ⟨556,16,556,20⟩)] (Expr.Call (Expr.Attribute (Expr.Name (Str.ofString "self") ⟨556,23,556,27⟩) (Str.ofString "sourcehook") ⟨556,23,556,38⟩) [(Expr.Call (Expr.Attribute (Expr.Name (Str.ofString "self") ⟨556,39,556,43⟩) (Str.ofString "read_token") ⟨556,39,556,54⟩) [] [] ⟨556,39,556,56⟩)] [] ⟨556,23,556,57⟩) ⟨556,16,556,57⟩), (Stmt.If (Expr.Name (Str.ofString "spec") ⟨557,19,557,23⟩) [(Stmt.Assign [(Expr.Tuple [(Expr.Name (Str.ofString "newfile") ⟨558,20,558,27⟩), (Expr.Name (Str.ofString "newstream") ⟨558,29,558,38⟩)] 0 ⟨558,20,558,38⟩)] (Expr.Name (Str.ofString "spec") ⟨558,41,558,45⟩) ⟨558,20,558,45⟩), (Stmt.Expr (Expr.Call (Expr.Attribute (Expr.Name (Str.ofString "self") ⟨559,20,559,24⟩) (Str.ofString "push_source") ⟨559,20,559,36⟩) [(Expr.Name (Str.ofString "newstream") ⟨559,37,559,46⟩), (Expr.Name (Str.ofString "newfile") ⟨559,48,559,55⟩)] [] ⟨559,20,559,56⟩) ⟨559,20,559,56⟩)] [] ⟨557,16,559,56⟩), (Stmt.Assign [(Expr.Name (Str.ofString "raw") ⟨560,16,560,19⟩)] (Expr.Call (Expr.Attribute (Expr.Name (Str.ofString "self") ⟨560,22,560,26⟩) (Str.ofString "get_token") ⟨560,22,560,36⟩) [] [] ⟨560,22,560,38⟩) ⟨560,16,560,38⟩)] [] ⟨555,12,560,38⟩)) .nil) .nil ⟨554,8,560,38⟩) .nil)))
noncomputable def fGet_0t : PE := (.cmp (.loc 85 ⟨561,14,561,17⟩) .Eq (.attr (.loc 9 ⟨561,21,561,25⟩) 47 ⟨561,21,561,29⟩) ⟨561,14,561,29⟩)
noncomputable def fGet_0b_0 : PS := (.cons (.ite (.not (.attr (.loc 9 ⟨562,19,562,23⟩) 69 ⟨562,19,562,33⟩) ⟨562,15,562,33⟩) (.cons (.ret (.attr (.loc 9 ⟨563,23,563,27⟩) 47 ⟨563,23,563,31⟩) ⟨563,16,563,31⟩) .nil) (.cons (.expr (.callM (.loc 9 ⟨565,16,565,20⟩) 87 ⟨565,16,565,31⟩ .nil ⟨565,16,565,33⟩) ⟨565,16,565,33⟩) (.cons (.assign 85 ⟨566,16,566,19⟩ (.callM (.loc 9 ⟨566,22,566,26⟩) 88 ⟨566,22,566,36⟩ .nil ⟨566,22,566,38⟩) ⟨566,16,566,38⟩) .nil)) ⟨562,12,566,38⟩) .nil)
noncomputable def fGet_0B : List Stmt := embSs nm fGet_0b_0
noncomputable def fGet_0W : Stmt := Stmt.While (emb nm fGet_0t) fGet_0B [] ⟨561,8,566,38⟩
noncomputable def fGet_1 : PS := (.cons (.ite (.cmp (.attr (.loc 9 ⟨567,11,567,15⟩) 67 ⟨567,11,567,21⟩) .GtE (.cint (1) 0 ⟨567,25,567,26⟩) ⟨567,11,567,26⟩) (.cons (.ite (.cmp (.loc 85 ⟨568,15,568,18⟩) .NotEq (.attr (.loc 9 ⟨568,22,568,26⟩) 47 ⟨568,22,568,30⟩) ⟨568,15,568,30⟩) (.cons (.expr (.callN 82 ⟨569,16,569,21⟩ (.cons (.bin (.cstr 89 0 ⟨569,22,569,37⟩) .Add (.callN 84 ⟨569,40,569,44⟩ (.cons (.loc 85 ⟨569,45,569,48⟩) .nil) ⟨569,40,569,49⟩) ⟨569,22,569,49⟩) .nil) ⟨569,16,569,50⟩) ⟨569,16,569,50⟩) .nil) (.cons (.expr (.callN 82 ⟨571,16,571,21⟩ (.cons (.cstr 90 0 ⟨571,22,571,40⟩) .nil) ⟨571,16,571,41⟩) ⟨571,16,571,41⟩) .nil) ⟨568,12,571,41⟩) .nil) .nil ⟨567,8,571,41⟩) (.cons (.ret (.loc 85 ⟨572,15,572,18⟩) ⟨572,8,572,18⟩) .nil))
noncomputable def fGet_body : List Stmt := embSs nm fGet_0 ++ (fGet_0W :: (embSs nm fGet_1))
noncomputable def fGet_scope : Scope := ⟨.function, [((Str.ofString "self"), .local), ((Str.ofString "tok"), .local), ((Str.ofString "raw"), .local), ((Str.ofString "spec"), .local), ((Str.ofString "newfile"), .local), ((Str.ofString "newstream"), .local), ((Str.ofString "print"), .globalImplicit), ((Str.ofString "repr"), .globalImplicit)], false, false, []⟩
noncomputable def fGet_params : Arguments := ⟨[], [⟨(Str.ofString "self"), none, ⟨547,18,547,22⟩⟩], none, [], [], none, []⟩
noncomputable def fGet_locs : List Nat := [9, 80, 85]
noncomputable def fGet_globs : List Nat := [82, 84]
noncomputable def fTok_0 : PS := (.cons (.assign 91 ⟨575,8,575,14⟩ (.cbool false 0 ⟨575,17,575,22⟩) ⟨575,8,575,22⟩) (.cons (.assign 92 ⟨576,8,576,20⟩ (.cstr 63 0 ⟨576,23,576,26⟩) ⟨576,8,576,26⟩) .nil))
noncomputable def fTok_0t : PE := (.cbool true 0 ⟨577,14,577,18⟩)
noncomputable def fTok_0b_0 : PS := (.cons (.ite (.bop .And (.cons (.attr (.loc 9 ⟨578,15,578,19⟩) 45 ⟨578,15,578,37⟩) (.cons (.attr (.loc 9 ⟨578,42,578,46⟩) 73 ⟨578,42,578,62⟩) .nil)) ⟨578,15,578,62⟩) (.cons (.assign 93 ⟨579,16,579,24⟩ (.callM (.attr (.loc 9 ⟨579,27,579,31⟩) 73 ⟨579,27,579,47⟩) 1 ⟨579,27,579,51⟩ .nil ⟨579,27,579,53⟩) ⟨579,16,579,53⟩) .nil) (.cons (.assign 93 ⟨581,16,581,24⟩ (.callM (.attr (.loc 9 ⟨581,27,581,31⟩) 42 ⟨581,27,581,40⟩) 94 ⟨581,27,581,45⟩ (.cons (.cint (1) 0 ⟨581,46,581,47⟩) .nil) ⟨581,27,581,48⟩) ⟨581,16,581,48⟩) .nil) ⟨578,12,581,48⟩) (.cons (.ite (.cmp (.loc 93 ⟨582,15,582,23⟩) .Eq (.cstr 21 0 ⟨582,27,582,31⟩) ⟨582,15,582,31⟩) (.cons (.aug (.loc 9 ⟨583,16,583,20⟩) 66 ⟨583,16,583,27⟩ .Add (.cint (1) 0 ⟨583,31,583,32⟩) ⟨583,16,583,32⟩) .nil) .nil ⟨582,12,583,32⟩) (.cons (.ite (.cmp (.attr (.loc 9 ⟨584,15,584,19⟩) 67 ⟨584,15,584,25⟩) .GtE (.cint (3) 0 ⟨584,29,584,30⟩) ⟨584,15,584,30⟩) (.cons (.expr (.callN 82 ⟨585,16,585,21⟩ (.cons (.opq (Expr.JoinedStr [(Expr.Constant (.str (Str.ofString "shlex: in state ")) 0 ⟨585,22,585,62⟩), (Expr.FormattedValue (Expr.Attribute (Expr.Name (Str.ofString "self") ⟨585,66,585,70⟩) (Str.ofString "state") ⟨585,66,585,76⟩) (114) none ⟨585,66,585,76⟩), (Expr.Constant (.str (Str.ofString " I see character: ")) 0 ⟨585,22,585,62⟩), (Expr.FormattedValue (Expr.Name (Str.ofString "nextchar") ⟨585,78,585,86⟩) (114) none ⟨585,78,585,86⟩)] ⟨585,22,585,87⟩)) .nil) ⟨585,16,585,88⟩) ⟨585,16,585,88⟩) .nil) .nil ⟨584,12,585,88⟩) (.cons (.ite (.cmp (.attr (.loc 9 ⟨586,15,586,19⟩) 62 ⟨586,15,586,25⟩) .Is (.cnone 0 ⟨586,29,586,33⟩) ⟨586,15,586,33⟩) (.cons (.setattr (.loc 9 ⟨587,16,587,20⟩) 68 ⟨587,16,587,26⟩ (.cstr 15 0 ⟨587,29,587,31⟩) ⟨587,16,587,31⟩) (.cons (.brk ⟨588,16,588,21⟩) .nil)) (.cons (.ite (.cmp (.attr (.loc 9 ⟨589,17,589,21⟩) 62 ⟨589,17,589,27⟩) .Eq (.cstr 63 0 ⟨589,31,589,34⟩) ⟨589,17,589,34⟩) (.cons (.ite (.not (.loc 93 ⟨590,23,590,31⟩) ⟨590,19,590,31⟩) (.cons (.setattr (.loc 9 ⟨591,20,591,24⟩) 62 ⟨591,20,591,30⟩ (.cnone 0 ⟨591,33,591,37⟩) ⟨591,20,591,37⟩) (.cons (.brk ⟨592,20,592,25⟩) .nil)) (.cons (.ite (.cmp (.loc 93 ⟨593,21,593,29⟩) .In (.attr (.loc 9 ⟨593,33,593,37⟩) 53 ⟨593,33,593,48⟩) ⟨593,21,593,48⟩) (.cons (.ite (.cmp (.attr (.loc 9 ⟨594,23,594,27⟩) 67 ⟨594,23,594,33⟩) .GtE (.cint (2) 0 ⟨594,37,594,38⟩) ⟨594,23,594,38⟩) (.cons (.expr (.callN 82 ⟨595,24,595,29⟩ (.cons (.cstr 95 0 ⟨595,30,595,75⟩) .nil) ⟨595,24,595,76⟩) ⟨595,24,595,76⟩) .nil) .nil ⟨594,20,595,76⟩) (.cons (.ite (.bop .Or (.cons (.attr (.loc 9 ⟨596,23,596,27⟩) 68 ⟨596,23,596,33⟩) (.cons (.bop .And (.cons (.attr (.loc 9 ⟨596,38,596,42⟩) 44 ⟨596,38,596,48⟩) (.cons (.loc 91 ⟨596,53,596,59⟩) .nil)) ⟨596,38,596,59⟩) .nil)) ⟨596,23,596,60⟩) (.cons (.brk ⟨597,24,597,29⟩) .nil) (.cons (.cont ⟨599,24,599,32⟩) .nil) ⟨596,20,599,32⟩) .nil)) (.cons (.ite (.cmp (.loc 93 ⟨600,21,600,29⟩) .In (.attr (.loc 9 ⟨600,33,600,37⟩) 48 ⟨600,33,600,48⟩) ⟨600,21,600,48⟩) (.cons (.expr (.callM (.attr (.loc 9 ⟨601,20,601,24⟩) 42 ⟨601,20,601,33⟩) 96 ⟨601,20,601,42⟩ .nil ⟨601,20,601,44⟩) ⟨601,20,601,44⟩) (.cons (.aug (.loc 9 ⟨602,20,602,24⟩) 66 ⟨602,20,602,31⟩ .Add (.cint (1) 0 ⟨602,35,602,36⟩) ⟨602,20,602,36⟩) .nil)) (.cons (.ite (.bop .And (.cons (.attr (.loc 9 ⟨603,21,603,25⟩) 44 ⟨603,21,603,31⟩) (.cons (.cmp (.loc 93 ⟨603,36,603,44⟩) .In (.attr (.loc 9 ⟨603,48,603,52⟩) 58 ⟨603,48,603,59⟩) ⟨603,36,603,59⟩) .nil)) ⟨603,21,603,59⟩) (.cons (.assign 92 ⟨604,20,604,32⟩ (.cstr 97 0 ⟨604,35,604,38⟩) ⟨604,20,604,38⟩) (.cons (.setattr (.loc 9 ⟨605,20,605,24⟩) 62 ⟨605,20,605,30⟩ (.loc 93 ⟨605,33,605,41⟩) ⟨605,20,605,41⟩) .nil)) (.cons (.ite (.cmp (.loc 93 ⟨606,21,606,29⟩) .In (.attr (.loc 9 ⟨606,33,606,37⟩) 50 ⟨606,33,606,47⟩) ⟨606,21,606,47⟩) (.cons (.setattr (.loc 9 ⟨607,20,607,24⟩) 68 ⟨607,20,607,30⟩ (.loc 93 ⟨607,33,607,41⟩) ⟨607,20,607,41⟩) (.cons (.setattr (.loc 9 ⟨608,20,608,24⟩) 62 ⟨608,20,608,30⟩ (.cstr 97 0 ⟨608,33,608,36⟩) ⟨608,20,608,36⟩) .nil)) (.cons (.ite (.cmp (.loc 93 ⟨609,21,609,29⟩) .In (.attr (.loc 9 ⟨609,33,609,37⟩) 45 ⟨609,33,609,55⟩) ⟨609,21,609,55⟩) (.cons (.setattr (.loc 9 ⟨610,20,610,24⟩) 68 ⟨610,20,610,30⟩ (.loc 93 ⟨610,33,610,41⟩) ⟨610,20,610,41⟩) (.cons (.setattr (.loc 9 ⟨611,20,611,24⟩) 62 ⟨611,20,611,30⟩ (.cstr 98 0 ⟨611,33,611,36⟩) ⟨611,20,611,36⟩) .nil)) (.cons (.ite (.cmp (.loc 93 ⟨612,21,612,29⟩) .In (.attr (.loc 9 ⟨612,33,612,37⟩) 56 ⟨612,33,612,44⟩) ⟨612,21,612,44⟩) (.cons (.ite (.not (.attr (.loc 9 ⟨613,27,613,31⟩) 44 ⟨613,27,613,37⟩) ⟨613,23,613,37⟩) (.cons (.setattr (.loc 9 ⟨614,24,614,28⟩) 68 ⟨614,24,614,34⟩ (.loc 93 ⟨614,37,614,45⟩) ⟨614,24,614,45⟩) .nil) .nil ⟨613,20,614,45⟩) (.cons (.setattr (.loc 9 ⟨615,20,615,24⟩) 62 ⟨615,20,615,30⟩ (.loc 93 ⟨615,33,615,41⟩) ⟨615,20,615,41⟩) .nil)) (.cons (.ite (.attr (.loc 9 ⟨616,21,616,25⟩) 55 ⟨616,21,616,42⟩) (.cons (.setattr (.loc 9 ⟨617,20,617,24⟩) 68 ⟨617,20,617,30⟩ (.loc 93 ⟨617,33,617,41⟩) ⟨617,20,617,41⟩) (.cons (.setattr (.loc 9 ⟨618,20,618,24⟩) 62 ⟨618,20,618,30⟩ (.cstr 97 0 ⟨618,33,618,36⟩) ⟨618,20,618,36⟩) .nil)) (.cons (.setattr (.loc 9 ⟨620,20,620,24⟩) 68 ⟨620,20,620,30⟩ (.loc 93 ⟨620,33,620,41⟩) ⟨620,20,620,41⟩) (.cons (.ite (.bop .Or (.cons (.attr (.loc 9 ⟨621,23,621,27⟩) 68 ⟨621,23,621,33⟩) (.cons (.bop .And (.cons (.attr (.loc 9 ⟨621,38,621,42⟩) 44 ⟨621,38,621,48⟩) (.cons (.loc 91 ⟨621,53,621,59⟩) .nil)) ⟨621,38,621,59⟩) .nil)) ⟨621,23,621,60⟩) (.cons (.brk ⟨622,24,622,29⟩) .nil) (.cons (.cont ⟨624,24,624,32⟩) .nil) ⟨621,20,624,32⟩) .nil)) ⟨616,16,624,32⟩) .nil) ⟨612,16,624,32⟩) .nil) ⟨609,16,624,32⟩) .nil) ⟨606,16,624,32⟩) .nil) ⟨603,16,624,32⟩) .nil) ⟨600,16,624,32⟩) .nil) ⟨593,16,624,32⟩) .nil) ⟨590,16,624,32⟩) .nil) (.cons (.ite (.cmp (.attr (.loc 9 ⟨625,17,625,21⟩) 62 ⟨625,17,625,27⟩) .In (.attr (.loc 9 ⟨625,31,625,35⟩) 56 ⟨625,31,625,42⟩) ⟨625,17,625,42⟩) (.cons (.assign 91 ⟨626,16,626,22⟩ (.cbool true 0 ⟨626,25,626,29⟩) ⟨626,16,626,29⟩) (.cons (.ite (.not (.loc 93 ⟨627,23,627,31⟩) ⟨627,19,627,31⟩) (.cons (.ite (.cmp (.attr (.loc 9 ⟨628,23,628,27⟩) 67 ⟨628,23,628,33⟩) .GtE (.cint (2) 0 ⟨628,37,628,38⟩) ⟨628,23,628,38⟩) (.cons (.expr (.callN 82 ⟨629,24,629,29⟩ (.cons (.cstr 99 0 ⟨629,30,629,64⟩) .nil) ⟨629,24,629,65⟩) ⟨629,24,629,65⟩) .nil) .nil ⟨628,20,629,65⟩) (.cons (.opq (Stmt.Raise (some (Expr.Call (Expr.Name (Str.ofString "ValueError") ⟨630,26,630,36⟩) [(Expr.Constant (.str (Str.ofString "No closing quotation")) 0 ⟨630,37,630,59⟩)] [] ⟨630,26,630,60⟩)) none ⟨630,20,630,60⟩)) .nil)) .nil ⟨627,16,630,60⟩) (.cons (.ite (.cmp (.loc 93 ⟨631,19,631,27⟩) .Eq (.attr (.loc 9 ⟨631,31,631,35⟩) 62 ⟨631,31,631,41⟩) ⟨631,19,631,41⟩) (.cons (.ite (.not (.attr (.loc 9 ⟨632,27,632,31⟩) 44 ⟨632,27,632,37⟩) ⟨632,23,632,37⟩) (.cons (.aug (.loc 9 ⟨633,24,633,28⟩) 68 ⟨633,24,633,34⟩ .Add (.loc 93 ⟨633,38,633,46⟩) ⟨633,24,633,46⟩) (.cons (.setattr (.loc 9 ⟨634,24,634,28⟩) 62 ⟨634,24,634,34⟩ (.cstr 63 0 ⟨634,37,634,40⟩) ⟨634,24,634,40⟩) (.cons (.brk ⟨635,24,635,29⟩) .nil))) (.cons (.setattr (.loc 9 ⟨637,24,637,28⟩) 62 ⟨637,24,637,34⟩ (.cstr 97 0 ⟨637,37,637,40⟩) ⟨637,24,637,40⟩) .nil) ⟨632,20,637,40⟩) .nil) (.cons (.ite (.bop .And (.cons (.attr (.loc 9 ⟨638,21,638,25⟩) 44 ⟨638,21,638,31⟩) (.cons (.cmp (.loc 93 ⟨638,36,638,44⟩) .In (.attr (.loc 9 ⟨638,48,638,52⟩) 58 ⟨638,48,638,59⟩) ⟨638,36,638,59⟩) (.cons (.cmp (.attr (.loc 9 ⟨638,65,638,69⟩) 62 ⟨638,65,638,75⟩) .In (.attr (.loc 9 ⟨638,79,638,83⟩) 60 ⟨638,79,638,97⟩) ⟨638,65,638,97⟩) .nil))) ⟨638,21,638,98⟩) (.cons (.assign 92 ⟨639,20,639,32⟩ (.attr (.loc 9 ⟨639,35,639,39⟩) 62 ⟨639,35,639,45⟩) ⟨639,20,639,45⟩) (.cons (.setattr (.loc 9 ⟨640,20,640,24⟩) 62 ⟨640,20,640,30⟩ (.loc 93 ⟨640,33,640,41⟩) ⟨640,20,640,41⟩) .nil)) (.cons (.aug (.loc 9 ⟨642,20,642,24⟩) 68 ⟨642,20,642,30⟩ .Add (.loc 93 ⟨642,34,642,42⟩) ⟨642,20,642,42⟩) .nil) ⟨638,16,642,42⟩) .nil) ⟨631,16,642,42⟩) .nil))) (.cons (.ite (.cmp (.attr (.loc 9 ⟨643,17,643,21⟩) 62 ⟨643,17,643,27⟩) .In (.attr (.loc 9 ⟨643,31,643,35⟩) 58 ⟨643,31,643,42⟩) ⟨643,17,643,42⟩) (.cons (.ite (.not (.loc 93 ⟨644,23,644,31⟩) ⟨644,19,644,31⟩) (.cons (.ite (.cmp (.attr (.loc 9 ⟨645,23,645,27⟩) 67 ⟨645,23,645,33⟩) .GtE (.cint (2) 0 ⟨645,37,645,38⟩) ⟨645,23,645,38⟩) (.cons (.expr (.callN 82 ⟨646,24,646,29⟩ (.cons (.cstr 100 0 ⟨646,30,646,64⟩) .nil) ⟨646,24,646,65⟩) ⟨646,24,646,65⟩) .nil) .nil ⟨645,20,646,65⟩) (.cons (.opq (Stmt.Raise (some (Expr.Call (Expr.Name (Str.ofString "ValueError") ⟨647,26,647,36⟩) [(Expr.Constant (.str (Str.ofString "No escaped character")) 0 ⟨647,37,647,59⟩)] [] ⟨647,26,647,60⟩)) none ⟨647,20,647,60⟩)) .nil)) .nil ⟨644,16,647,60⟩) (.cons (.ite (.bop .And (.cons (.cmp (.loc 92 ⟨648,19,648,31⟩) .In (.attr (.loc 9 ⟨648,35,648,39⟩) 56 ⟨648,35,648,46⟩) ⟨648,19,648,46⟩) (.cons (.cmp (.loc 93 ⟨648,51,648,59⟩) .NotEq (.attr (.loc 9 ⟨648,63,648,67⟩) 62 ⟨648,63,648,73⟩) ⟨648,51,648,73⟩) (.cons (.cmp (.loc 93 ⟨648,79,648,87⟩) .NotEq (.loc 92 ⟨648,91,648,103⟩) ⟨648,79,648,103⟩) .nil))) ⟨648,19,648,104⟩) (.cons (.aug (.loc 9 ⟨649,20,649,24⟩) 68 ⟨649,20,649,30⟩ .Add (.attr (.loc 9 ⟨649,34,649,38⟩) 62 ⟨649,34,649,44⟩) ⟨649,20,649,44⟩) .nil) .nil ⟨648,16,649,44⟩) (.cons (.aug (.loc 9 ⟨650,16,650,20⟩) 68 ⟨650,16,650,26⟩ .Add (.loc 93 ⟨650,30,650,38⟩) ⟨650,16,650,38⟩) (.cons (.setattr (.loc 9 ⟨651,16,651,20⟩) 62 ⟨651,16,651,26⟩ (.loc 92 ⟨651,29,651,41⟩) ⟨651,16,651,41⟩) .nil)))) (.cons (.ite (.cmp (.attr (.loc 9 ⟨652,17,652,21⟩) 62 ⟨652,17,652,27⟩) .In (.tup (.cons (.cstr 97 0 ⟨652,32,652,35⟩) (.cons (.cstr 98 0 ⟨652,37,652,40⟩) .nil)) 0 ⟨652,31,652,41⟩) ⟨652,17,652,41⟩) (.cons (.ite (.not (.loc 93 ⟨653,23,653,31⟩) ⟨653,19,653,31⟩) (.cons (.setattr (.loc 9 ⟨654,20,654,24⟩) 62 ⟨654,20,654,30⟩ (.cnone 0 ⟨654,33,654,37⟩) ⟨654,20,654,37⟩) (.cons (.brk ⟨655,20,655,25⟩) .nil)) (.cons (.ite (.cmp (.loc 93 ⟨656,21,656,29⟩) .In (.attr (.loc 9 ⟨656,33,656,37⟩) 53 ⟨656,33,656,48⟩) ⟨656,21,656,48⟩) (.cons (.ite (.cmp (.attr (.loc 9 ⟨657,23,657,27⟩) 67 ⟨657,23,657,33⟩) .GtE (.cint (2) 0 ⟨657,37,657,38⟩) ⟨657,23,657,38⟩) (.cons (.expr (.callN 82 ⟨658,24,658,29⟩ (.cons (.cstr 101 0 ⟨658,30,658,69⟩) .nil) ⟨658,24,658,70⟩) ⟨658,24,658,70⟩) .nil) .nil ⟨657,20,658,70⟩) (.cons (.setattr (.loc 9 ⟨659,20,659,24⟩) 62 ⟨659,20,659,30⟩ (.cstr 63 0 ⟨659,33,659,36⟩) ⟨659,20,659,36⟩) (.cons (.ite (.bop .Or (.cons (.attr (.loc 9 ⟨660,23,660,27⟩) 68 ⟨660,23,660,33⟩) (.cons (.bop .And (.cons (.attr (.loc 9 ⟨660,38,660,42⟩) 44 ⟨660,38,660,48⟩) (.cons (.loc 91 ⟨660,53,660,59⟩) .nil)) ⟨660,38,660,59⟩) .nil)) ⟨660,23,660,60⟩) (.cons (.brk ⟨661,24,661,29⟩) .nil) (.cons (.cont ⟨663,24,663,32⟩) .nil) ⟨660,20,663,32⟩) .nil))) (.cons (.ite (.cmp (.loc 93 ⟨664,21,664,29⟩) .In (.attr (.loc 9 ⟨664,33,664,37⟩) 48 ⟨664,33,664,48⟩) ⟨664,21,664,48⟩) (.cons (.expr (.callM (.attr (.loc 9 ⟨665,20,665,24⟩) 42 ⟨665,20,665,33⟩) 96 ⟨665,20,665,42⟩ .nil ⟨665,20,665,44⟩) ⟨665,20,665,44⟩) (.cons (.aug (.loc 9 ⟨666,20,666,24⟩) 66 ⟨666,20,666,31⟩ .Add (.cint (1) 0 ⟨666,35,666,36⟩) ⟨666,20,666,36⟩) (.cons (.ite (.attr (.loc 9 ⟨667,23,667,27⟩) 44 ⟨667,23,667,33⟩) (.cons (.setattr (.loc 9 ⟨668,24,668,28⟩) 62 ⟨668,24,668,34⟩ (.cstr 63 0 ⟨668,37,668,40⟩) ⟨668,24,668,40⟩) (.cons (.ite (.bop .Or (.cons (.attr (.loc 9 ⟨669,27,669,31⟩) 68 ⟨669,27,669,37⟩) (.cons (.bop .And (.cons (.attr (.loc 9 ⟨669,42,669,46⟩) 44 ⟨669,42,669,52⟩) (.cons (.loc 91 ⟨669,57,669,63⟩) .nil)) ⟨669,42,669,63⟩) .nil)) ⟨669,27,669,64⟩) (.cons (.brk ⟨670,28,670,33⟩) .nil) (.cons (.cont ⟨672,28,672,36⟩) .nil) ⟨669,24,672,36⟩) .nil)) .nil ⟨667,20,672,36⟩) .nil))) (.cons (.ite (.cmp (.attr (.loc 9 ⟨673,21,673,25⟩) 62 ⟨673,21,673,31⟩) .Eq (.cstr 98 0 ⟨673,35,673,38⟩) ⟨673,21,673,38⟩) (.cons (.ite (.cmp (.loc 93 ⟨674,23,674,31⟩) .In (.attr (.loc 9 ⟨674,35,674,39⟩) 45 ⟨674,35,674,57⟩) ⟨674,23,674,57⟩) (.cons (.aug (.loc 9 ⟨675,24,675,28⟩) 68 ⟨675,24,675,34⟩ .Add (.loc 93 ⟨675,38,675,46⟩) ⟨675,24,675,46⟩) .nil) (.cons (.ite (.cmp (.loc 93 ⟨677,27,677,35⟩) .NotIn (.attr (.loc 9 ⟨677,43,677,47⟩) 53 ⟨677,43,677,58⟩) ⟨677,27,677,58⟩) (.cons (.expr (.callM (.attr (.loc 9 ⟨678,28,678,32⟩) 73 ⟨678,28,678,48⟩) 0 ⟨678,28,678,55⟩ (.cons (.loc 93 ⟨678,56,678,64⟩) .nil) ⟨678,28,678,65⟩) ⟨678,28,678,65⟩) .nil) .nil ⟨677,24,678,65⟩) (.cons (.setattr (.loc 9 ⟨679,24,679,28⟩) 62 ⟨679,24,679,34⟩ (.cstr 63 0 ⟨679,37,679,40⟩) ⟨679,24,679,40⟩) (.cons (.brk ⟨680,24,680,29⟩) .nil))) ⟨674,20,680,29⟩) .nil) (.cons (.ite (.bop .And (.cons (.attr (.loc 9 ⟨681,21,681,25⟩) 44 ⟨681,21,681,31⟩) (.cons (.cmp (.loc 93 ⟨681,36,681,44⟩) .In (.attr (.loc 9 ⟨681,48,681,52⟩) 56 ⟨681,48,681,59⟩) ⟨681,36,681,59⟩) .nil)) ⟨681,21,681,59⟩) (.cons (.setattr (.loc 9 ⟨682,20,682,24⟩) 62 ⟨682,20,682,30⟩ (.loc 93 ⟨682,33,682,41⟩) ⟨682,20,682,41⟩) .nil) (.cons (.ite (.bop .And (.cons (.attr (.loc 9 ⟨683,21,683,25⟩) 44 ⟨683,21,683,31⟩) (.cons (.cmp (.loc 93 ⟨683,36,683,44⟩) .In (.attr (.loc 9 ⟨683,48,683,52⟩) 58 ⟨683,48,683,59⟩) ⟨683,36,683,59⟩) .nil)) ⟨683,21,683,59⟩) (.cons (.assign 92 ⟨684,20,684,32⟩ (.cstr 97 0 ⟨684,35,684,38⟩) ⟨684,20,684,38⟩) (.cons (.setattr (.loc 9 ⟨685,20,685,24⟩) 62 ⟨685,20,685,30⟩ (.loc 93 ⟨685,33,685,41⟩) ⟨685,20,685,41⟩) .nil)) (.cons (.ite (.bop .Or (.cons (.cmp (.loc 93 ⟨686,21,686,29⟩) .In (.attr (.loc 9 ⟨686,33,686,37⟩) 50 ⟨686,33,686,47⟩) ⟨686,21,686,47⟩) (.cons (.cmp (.loc 93 ⟨686,51,686,59⟩) .In (.attr (.loc 9 ⟨686,63,686,67⟩) 56 ⟨686,63,686,74⟩) ⟨686,51,686,74⟩) (.cons (.bop .And (.cons (.attr (.loc 9 ⟨686,79,686,83⟩) 55 ⟨686,79,686,100⟩) (.cons (.cmp (.loc 93 ⟨686,105,686,113⟩) .NotIn (.attr (.loc 9 ⟨686,121,686,125⟩) 45 ⟨686,121,686,143⟩) ⟨686,105,686,143⟩) .nil)) ⟨686,79,686,143⟩) .nil))) ⟨686,21,686,144⟩) (.cons (.aug (.loc 9 ⟨687,20,687,24⟩) 68 ⟨687,20,687,30⟩ .Add (.loc 93 ⟨687,34,687,42⟩) ⟨687,20,687,42⟩) .nil) (.cons (.ite (.attr (.loc 9 ⟨689,23,689,27⟩) 45 ⟨689,23,689,45⟩) (.cons (.expr (.callM (.attr (.loc 9 ⟨690,24,690,28⟩) 73 ⟨690,24,690,44⟩) 0 ⟨690,24,690,51⟩ (.cons (.loc 93 ⟨690,52,690,60⟩) .nil) ⟨690,24,690,61⟩) ⟨690,24,690,61⟩) .nil) (.cons (.expr (.callM (.attr (.loc 9 ⟨692,24,692,28⟩) 64 ⟨692,24,692,37⟩) 102 ⟨692,24,692,48⟩ (.cons (.loc 93 ⟨692,49,692,57⟩) .nil) ⟨692,24,692,58⟩) ⟨692,24,692,58⟩) .nil) ⟨689,20,692,58⟩) (.cons (.ite (.cmp (.attr (.loc 9 ⟨693,23,693,27⟩) 67 ⟨693,23,693,33⟩) .GtE (.cint (2) 0 ⟨693,37,693,38⟩) ⟨693,23,693,38⟩) (.cons (.expr (.callN 82 ⟨694,24,694,29⟩ (.cons (.cstr 103 0 ⟨694,30,694,70⟩) .nil) ⟨694,24,694,71⟩) ⟨694,24,694,71⟩) .nil) .nil ⟨693,20,694,71⟩) (.cons (.setattr (.loc 9 ⟨695,20,695,24⟩) 62 ⟨695,20,695,30⟩ (.cstr 63 0 ⟨695,33,695,36⟩) ⟨695,20,695,36⟩) (.cons (.ite (.bop .Or (.cons (.attr (.loc 9 ⟨696,23,696,27⟩) 68 ⟨696,23,696,33⟩) (.cons (.bop .And (.cons (.attr (.loc 9 ⟨696,38,696,42⟩) 44 ⟨696,38,696,48⟩) (.cons (.loc 91 ⟨696,53,696,59⟩) .nil)) ⟨696,38,696,59⟩) .nil)) ⟨696,23,696,60⟩) (.cons (.brk ⟨697,24,697,29⟩) .nil) (.cons (.cont ⟨699,24,699,32⟩) .nil) ⟨696,20,699,32⟩) .nil)))) ⟨686,16,699,32⟩) .nil) ⟨683,16,699,32⟩) .nil) ⟨681,16,699,32⟩) .nil) ⟨673,16,699,32⟩) .nil) ⟨664,16,699,32⟩) .nil) ⟨656,16,699,32⟩) .nil) ⟨653,16,699,32⟩) .nil) .nil ⟨652,12,699,32⟩) .nil) ⟨643,12,699,32⟩) .nil) ⟨625,12,699,32⟩) .nil) ⟨589,12,699,32⟩) .nil) ⟨586,12,699,32⟩) .nil))))
noncomputable def fTok_0B : List Stmt := embSs nm fTok_0b_0
noncomputable def fTok_0W : Stmt := Stmt.While (emb nm fTok_0t) fTok_0B [] ⟨577,8,699,32⟩
noncomputable def fTok_1 : PS := (.cons (.assign 104 ⟨700,8,700,14⟩ (.attr (.loc 9 ⟨700,17,700,21⟩) 68 ⟨700,17,700,27⟩) ⟨700,8,700,27⟩) (.cons (.setattr (.loc 9 ⟨701,8,701,12⟩) 68 ⟨701,8,701,18⟩ (.cstr 15 0 ⟨701,21,701,23⟩) ⟨701,8,701,23⟩) (.cons (.ite (.bop .And (.cons (.attr (.loc 9 ⟨702,11,702,15⟩) 44 ⟨702,11,702,21⟩) (.cons (.not (.loc 91 ⟨702,31,702,37⟩) ⟨702,27,702,37⟩) (.cons (.cmp (.loc 104 ⟨702,44,702,50⟩) .Eq (.cstr 15 0 ⟨702,54,702,56⟩) ⟨702,44,702,56⟩) .nil))) ⟨702,11,702,57⟩) (.cons (.assign 104 ⟨703,12,703,18⟩ (.cnone 0 ⟨703,21,703,25⟩) ⟨703,12,703,25⟩) .nil) .nil ⟨702,8,703,25⟩) (.cons (.ite (.cmp (.attr (.loc 9 ⟨704,11,704,15⟩) 67 ⟨704,11,704,21⟩) .Gt (.cint (1) 0 ⟨704,24,704,25⟩) ⟨704,11,704,25⟩) (.cons (.ite (.loc 104 ⟨705,15,705,21⟩) (.cons (.expr (.callN 82 ⟨706,16,706,21⟩ (.cons (.bin (.cstr 105 0 ⟨706,22,706,41⟩) .Add (.callN 84 ⟨706,44,706,48⟩ (.cons (.loc 104 ⟨706,49,706,55⟩) .nil) ⟨706,44,706,56⟩) ⟨706,22,706,56⟩) .nil) ⟨706,16,706,57⟩) ⟨706,16,706,57⟩) .nil) (.cons (.expr (.callN 82 ⟨708,16,708,21⟩ (.cons (.cstr 106 0 ⟨708,22,708,44⟩) .nil) ⟨708,16,708,45⟩) ⟨708,16,708,45⟩) .nil) ⟨705,12,708,45⟩) .nil) .nil ⟨704,8,708,45⟩) (.cons (.ret (.loc 104 ⟨709,15,709,21⟩) ⟨709,8,709,21⟩) .nil)))))
noncomputable def fTok_body : List Stmt := embSs nm fTok_0 ++ (fTok_0W :: (embSs nm fTok_1))
noncomputable def fTok_scope : Scope := ⟨.function, [((Str.ofString "self"), .local), ((Str.ofString "quoted"), .local), ((Str.ofString "escapedstate"), .local), ((Str.ofString "nextchar"), .local), ((Str.ofString "result"), .local), ((Str.ofString "print"), .globalImplicit), ((Str.ofString "ValueError"), .globalImplicit), ((Str.ofString "repr"), .globalImplicit)], false, false, []⟩
noncomputable def fTok_params : Arguments := ⟨[], [⟨(Str.ofString "self"), none, ⟨574,19,574,23⟩⟩], none, [], [], none, []⟩
noncomputable def fTok_locs : List Nat := [9, 91, 92, 93, 104]
noncomputable def fTok_globs : List Nat := [82, 84]
noncomputable def fAnd_0 : PS := (.cons (.ret (.bin (.loc 97 ⟨7,11,7,12⟩) .BitAnd (.loc 107 ⟨7,15,7,16⟩) ⟨7,11,7,16⟩) ⟨7,4,7,16⟩) .nil)
noncomputable def fAnd_body : List Stmt := embSs nm fAnd_0
noncomputable def fAnd_scope : Scope := ⟨.function, [((Str.ofString "a"), .local), ((Str.ofString "b"), .local)], false, false, []⟩
noncomputable def fAnd_params : Arguments := ⟨[], [⟨(Str.ofString "a"), none, ⟨6,9,6,10⟩⟩, ⟨(Str.ofString "b"), none, ⟨6,12,6,13⟩⟩], none, [], [], none, []⟩
noncomputable def fAnd_locs : List Nat := [97, 107]
noncomputable def fAnd_globs : List Nat := []
noncomputable def fOr_0 : PS := (.cons (.ret (.bin (.loc 97 ⟨9,11,9,12⟩) .BitOr (.loc 107 ⟨9,15,9,16⟩) ⟨9,11,9,16⟩) ⟨9,4,9,16⟩) .nil)
noncomputable def fOr_body : List Stmt := embSs nm fOr_0
noncomputable def fOr_scope : Scope := ⟨.function, [((Str.ofString "a"), .local), ((Str.ofString "b"), .local)], false, false, []⟩
noncomputable def fOr_params : Arguments := ⟨[], [⟨(Str.ofString "a"), none, ⟨8,8,8,9⟩⟩, ⟨(Str.ofString "b"), none, ⟨8,11,8,12⟩⟩], none, [], [], none, []⟩
noncomputable def fOr_locs : List Nat := [97, 107]
noncomputable def fOr_globs : List Nat := []
noncomputable def fXor_0 : PS := (.cons (.ret (.bin (.loc 97 ⟨11,11,11,12⟩) .BitXor (.loc 107 ⟨11,15,11,16⟩) ⟨11,11,11,16⟩) ⟨11,4,11,16⟩) .nil)
noncomputable def fXor_body : List Stmt := embSs nm fXor_0
noncomputable def fXor_scope : Scope := ⟨.function, [((Str.ofString "a"), .local), ((Str.ofString "b"), .local)], false, false, []⟩
noncomputable def fXor_params : Arguments := ⟨[], [⟨(Str.ofString "a"), none, ⟨10,8,10,9⟩⟩, ⟨(Str.ofString "b"), none, ⟨10,11,10,12⟩⟩], none, [], [], none, []⟩
noncomputable def fXor_locs : List Nat := [97, 107]
noncomputable def fXor_globs : List Nat := []
noncomputable def fFormula_0 : PS := (.cons (.assign 109 ⟨731,4,731,8⟩ (.list .nil ⟨731,11,731,13⟩) ⟨731,4,731,13⟩) .nil)
noncomputable def fFormula_0i : PE := (.loc 108 ⟨732,13,732,20⟩)
noncomputable def fFormula_0b_0 : PS := (.cons (.assign 111 ⟨733,8,733,12⟩ (.bin (.loc 110 ⟨733,15,733,16⟩) .Mod (.cint (8) 0 ⟨733,19,733,20⟩) ⟨733,15,733,20⟩) ⟨733,8,733,20⟩) (.cons (.ite (.bop .And (.cons (.cmp (.loc 111 ⟨734,11,734,15⟩) .Eq (.cint (3) 0 ⟨734,19,734,20⟩) ⟨734,11,734,20⟩) (.cons (.cmp (.loc 109 ⟨734,25,734,29⟩) .NotEq (.list .nil ⟨734,33,734,35⟩) ⟨734,25,734,35⟩) .nil)) ⟨734,11,734,35⟩) (.cons (.expr (.callM (.loc 109 ⟨735,12,735,16⟩) 0 ⟨735,12,735,23⟩ (.cons (.list (.cons (.cstr 112 0 ⟨735,25,735,28⟩) (.cons (.callM (.loc 109 ⟨735,30,735,34⟩) 1 ⟨735,30,735,38⟩ .nil ⟨735,30,735,40⟩) .nil)) ⟨735,24,735,41⟩) .nil) ⟨735,12,735,42⟩) ⟨735,12,735,42⟩) .nil) (.cons (.ite (.bop .And (.cons (.cmp2 (.cint (3) 0 ⟨736,13,736,14⟩) .Lt (.loc 111 ⟨736,17,736,21⟩) .Lt (.cint (7) 0 ⟨736,24,736,25⟩) ⟨736,13,736,25⟩) (.cons (.cmp (.callN 2 ⟨736,30,736,33⟩ (.cons (.loc 109 ⟨736,34,736,38⟩) .nil) ⟨736,30,736,39⟩) .Gt (.cint (1) 0 ⟨736,42,736,43⟩) ⟨736,30,736,43⟩) .nil)) ⟨736,13,736,43⟩) (.cons (.assign 113 ⟨737,12,737,16⟩ (.callM (.loc 109 ⟨737,19,737,23⟩) 1 ⟨737,19,737,27⟩ .nil ⟨737,19,737,29⟩) ⟨737,12,737,29⟩) (.cons (.expr (.callM (.loc 109 ⟨738,12,738,16⟩) 0 ⟨738,12,738,23⟩ (.cons (.list (.cons (.sub (.cstr 114 0 ⟨738,25,738,30⟩) (.bin (.loc 111 ⟨738,31,738,35⟩) .Sub (.cint (4) 0 ⟨738,38,738,39⟩) ⟨738,31,738,39⟩) ⟨738,25,738,40⟩) (.cons (.callM (.loc 109 ⟨738,42,738,46⟩) 1 ⟨738,42,738,50⟩ .nil ⟨738,42,738,52⟩) (.cons (.loc 113 ⟨738,54,738,58⟩) .nil))) ⟨738,24,738,59⟩) .nil) ⟨738,12,738,60⟩) ⟨738,12,738,60⟩) .nil)) (.cons (.expr (.callM (.loc 109 ⟨740,12,740,16⟩) 0 ⟨740,12,740,23⟩ (.cons (.list (.cons (.bin (.loc 110 ⟨740,25,740,26⟩) .Mod (.cint (3) 0 ⟨740,29,740,30⟩) ⟨740,25,740,30⟩) .nil) ⟨740,24,740,31⟩) .nil) ⟨740,12,740,32⟩) ⟨740,12,740,32⟩) .nil) ⟨736,8,740,32⟩) .nil) ⟨734,8,740,32⟩) .nil))
noncomputable def fFormula_0B : List Stmt := embSs nm fFormula_0b_0
noncomputable def fFormula_0F : Stmt := Stmt.For (Expr.Name (nm 110) ⟨732,8,732,9⟩) (emb nm fFormula_0i) fFormula_0B [] ⟨732,4,740,32⟩
noncomputable def fFormula_1 : PS := .nil
noncomputable def fFormula_1t : PE := (.cmp (.callN 2 ⟨741,10,741,13⟩ (.cons (.loc 109 ⟨741,14,741,18⟩) .nil) ⟨741,10,741,19⟩) .Gt (.cint (1) 0 ⟨741,22,741,23⟩) ⟨741,10,741,23⟩)
noncomputable def fFormula_1b_0 : PS := (.cons (.assign 113 ⟨742,8,742,12⟩ (.callM (.loc 109 ⟨742,15,742,19⟩) 1 ⟨742,15,742,23⟩ .nil ⟨742,15,742,25⟩) ⟨742,8,742,25⟩) (.cons (.expr (.callM (.loc 109 ⟨743,8,743,12⟩) 0 ⟨743,8,743,19⟩ (.cons (.list (.cons (.cstr 115 0 ⟨743,21,743,24⟩) (.cons (.callM (.loc 109 ⟨743,26,743,30⟩) 1 ⟨743,26,743,34⟩ .nil ⟨743,26,743,36⟩) (.cons (.loc 113 ⟨743,38,743,42⟩) .nil))) ⟨743,20,743,43⟩) .nil) ⟨743,8,743,44⟩) ⟨743,8,743,44⟩) .nil))
noncomputable def fFormula_1B : List Stmt := embSs nm fFormula_1b_0
noncomputable def fFormula_1W : Stmt := Stmt.While (emb nm fFormula_1t) fFormula_1B [] ⟨741,4,743,44⟩
noncomputable def fFormula_2 : PS := (.cons (.ret (.sub (.loc 109 ⟨744,11,744,15⟩) (.cint (0) 0 ⟨744,16,744,17⟩) ⟨744,11,744,18⟩) ⟨744,4,744,18⟩) .nil)
noncomputable def fFormula_body : List Stmt := embSs nm fFormula_0 ++ (fFormula_0F :: (embSs nm fFormula_1 ++ (fFormula_1W :: (embSs nm fFormula_2))))
noncomputable def fFormula_scope : Scope := ⟨.function, [((Str.ofString "numbers"), .local), ((Str.ofString "pile"), .local), ((Str.ofString "x"), .local), ((Str.ofString "kind"), .local), ((Str.ofString "last"), .local), ((Str.ofString "len"), .globalImplicit)], false, false, []⟩
noncomputable def fFormula_params : Arguments := ⟨[], [⟨(Str.ofString "numbers"), none, ⟨730,17,730,24⟩⟩], none, [], [], none, []⟩
noncomputable def fFormula_locs : List Nat := [108, 109, 111, 110, 113]
noncomputable def fFormula_globs : List Nat := [2]
noncomputable def fItems_0 : PS := (.cons (.ite (.cmp (.callN 2 ⟨746,7,746,10⟩ (.cons (.loc 116 ⟨746,11,746,18⟩) .nil) ⟨746,7,746,19⟩) .Eq (.cint (1) 0 ⟨746,23,746,24⟩) ⟨746,7,746,24⟩) (.cons (.ret (.list (.cons (.sub (.list (.cons (.cstr 117 0 ⟨747,17,747,21⟩) (.cons (.cstr 118 0 ⟨747,23,747,29⟩) (.cons (.cstr 119 0 ⟨747,31,747,40⟩) .nil))) ⟨747,16,747,41⟩) (.sub (.loc 116 ⟨747,42,747,49⟩) (.cint (0) 0 ⟨747,50,747,51⟩) ⟨747,42,747,52⟩) ⟨747,16,747,53⟩) .nil) ⟨747,15,747,54⟩) ⟨747,8,747,54⟩) .nil) .nil ⟨746,4,747,54⟩) (.cons (.ite (.cmp (.callN 2 ⟨748,7,748,10⟩ (.cons (.loc 116 ⟨748,11,748,18⟩) .nil) ⟨748,7,748,19⟩) .Eq (.cint (2) 0 ⟨748,23,748,24⟩) ⟨748,7,748,24⟩) (.cons (.ret (.bin (.list (.cons (.cstr 112 0 ⟨749,16,749,19⟩) .nil) ⟨749,15,749,20⟩) .Add (.callN 120 ⟨749,23,749,33⟩ (.cons (.sub (.loc 116 ⟨749,34,749,41⟩) (.cint (1) 0 ⟨749,42,749,43⟩) ⟨749,34,749,44⟩) .nil) ⟨749,23,749,45⟩) ⟨749,15,749,45⟩) ⟨749,8,749,45⟩) .nil) .nil ⟨748,4,749,45⟩) (.cons (.ret (.bin (.bin (.bin (.bin (.list (.cons (.cstr 121 0 ⟨750,12,750,15⟩) .nil) ⟨750,11,750,16⟩) .Add (.callN 120 ⟨750,19,750,29⟩ (.cons (.sub (.loc 116 ⟨750,30,750,37⟩) (.cint (1) 0 ⟨750,38,750,39⟩) ⟨750,30,750,40⟩) .nil) ⟨750,19,750,41⟩) ⟨750,11,750,41⟩) .Add (.list (.cons (.sub (.loc 116 ⟨750,45,750,52⟩) (.cint (0) 0 ⟨750,53,750,54⟩) ⟨750,45,750,55⟩) .nil) ⟨750,44,750,56⟩) ⟨750,11,750,56⟩) .Add (.callN 120 ⟨750,59,750,69⟩ (.cons (.sub (.loc 116 ⟨750,70,750,77⟩) (.cint (2) 0 ⟨750,78,750,79⟩) ⟨750,70,750,80⟩) .nil) ⟨750,59,750,81⟩) ⟨750,11,750,81⟩) .Add (.list (.cons (.cstr 122 0 ⟨750,85,750,88⟩) .nil) ⟨750,84,750,89⟩) ⟨750,11,750,89⟩) ⟨750,4,750,89⟩) .nil)))
noncomputable def fItems_body : List Stmt := embSs nm fItems_0
noncomputable def fItems_scope : Scope := ⟨.function, [((Str.ofString "formula"), .local), ((Str.ofString "len"), .globalImplicit), ((Str.ofString "_law_items"), .globalImplicit)], false, false, []⟩
noncomputable def fItems_params : Arguments := ⟨[], [⟨(Str.ofString "formula"), none, ⟨745,15,745,22⟩⟩], none, [], [], none, []⟩
noncomputable def fItems_locs : List Nat := [116]
noncomputable def fItems_globs : List Nat := [2, 120]
noncomputable def fText_0 : PS := (.cons (.assign 124 ⟨752,4,752,8⟩ (.cstr 15 0 ⟨752,11,752,13⟩) ⟨752,4,752,13⟩) .nil)
noncomputable def fText_0i : PE := (.callN 126 ⟨753,13,753,18⟩ (.cons (.callN 2 ⟨753,19,753,22⟩ (.cons (.loc 123 ⟨753,23,753,28⟩) .nil) ⟨753,19,753,29⟩) .nil) ⟨753,13,753,30⟩)
noncomputable def fText_0b_0 : PS := (.cons (.assign 127 ⟨754,8,754,11⟩ (.bin (.bin (.sub (.loc 108 ⟨754,14,754,21⟩) (.bin (.loc 125 ⟨754,22,754,23⟩) .Mod (.callN 2 ⟨754,26,754,29⟩ (.cons (.loc 108 ⟨754,30,754,37⟩) .nil) ⟨754,26,754,38⟩) ⟨754,22,754,38⟩) ⟨754,14,754,39⟩) .FloorDiv (.cint (8) 0 ⟨754,43,754,44⟩) ⟨754,14,754,44⟩) .Mod (.cint (4) 0 ⟨754,47,754,48⟩) ⟨754,14,754,48⟩) ⟨754,8,754,48⟩) (.cons (.assign 124 ⟨755,8,755,12⟩ (.bin (.bin (.loc 124 ⟨755,15,755,19⟩) .Add (.sub (.loc 123 ⟨755,22,755,27⟩) (.loc 125 ⟨755,28,755,29⟩) ⟨755,22,755,30⟩) ⟨755,15,755,30⟩) .Add (.sub (.list (.cons (.cstr 15 0 ⟨755,34,755,36⟩) (.cons (.cstr 63 0 ⟨755,38,755,41⟩) (.cons (.cstr 21 0 ⟨755,43,755,47⟩) (.cons (.cstr 128 0 ⟨755,49,755,63⟩) .nil)))) ⟨755,33,755,64⟩) (.loc 127 ⟨755,65,755,68⟩) ⟨755,33,755,69⟩) ⟨755,15,755,69⟩) ⟨755,8,755,69⟩) .nil))
noncomputable def fText_0B : List Stmt := embSs nm fText_0b_0
noncomputable def fText_0F : Stmt := Stmt.For (Expr.Name (nm 125) ⟨753,8,753,9⟩) (emb nm fText_0i) fText_0B [] ⟨753,4,755,69⟩
noncomputable def fText_1 : PS := (.cons (.ret (.loc 124 ⟨756,11,756,15⟩) ⟨756,4,756,15⟩) .nil)
noncomputable def fText_body : List Stmt := embSs nm fText_0 ++ (fText_0F :: (embSs nm fText_1))
noncomputable def fText_scope : Scope := ⟨.function, [((Str.ofString "items"), .local), ((Str.ofString "numbers"), .local), ((Str.ofString "text"), .local), ((Str.ofString "k"), .local), ((Str.ofString "gap"), .local), ((Str.ofString "range"), .globalImplicit), ((Str.ofString "len"), .globalImplicit)], false, false, []⟩
noncomputable def fText_params : Arguments := ⟨[], [⟨(Str.ofString "items"), none, ⟨751,14,751,19⟩⟩, ⟨(Str.ofString "numbers"), none, ⟨751,21,751,28⟩⟩], none, [], [], none, []⟩
noncomputable def fText_locs : List Nat := [123, 108, 124, 127, 125]
noncomputable def fText_globs : List Nat := [126, 2]
noncomputable def fHolds_0 : PS := (.cons (.ite (.cmp (.callN 2 ⟨758,7,758,10⟩ (.cons (.loc 116 ⟨758,11,758,18⟩) .nil) ⟨758,7,758,19⟩) .Eq (.cint (1) 0 ⟨758,23,758,24⟩) ⟨758,7,758,24⟩) (.cons (.ret (.cmp (.bin (.bin (.loc 129 ⟨759,15,759,20⟩) .FloorDiv (.sub (.list (.cons (.cint (1) 0 ⟨759,25,759,26⟩) (.cons (.cint (2) 0 ⟨759,28,759,29⟩) (.cons (.cint (4) 0 ⟨759,31,759,32⟩) .nil))) ⟨759,24,759,33⟩) (.sub (.loc 116 ⟨759,34,759,41⟩) (.cint (0) 0 ⟨759,42,759,43⟩) ⟨759,34,759,44⟩) ⟨759,24,759,45⟩) ⟨759,15,759,45⟩) .Mod (.cint (2) 0 ⟨759,48,759,49⟩) ⟨759,15,759,49⟩) .Eq (.cint (1) 0 ⟨759,53,759,54⟩) ⟨759,15,759,54⟩) ⟨759,8,759,54⟩) .nil) .nil ⟨758,4,759,54⟩) (.cons (.ite (.cmp (.callN 2 ⟨760,7,760,10⟩ (.cons (.loc 116 ⟨760,11,760,18⟩) .nil) ⟨760,7,760,19⟩) .Eq (.cint (2) 0 ⟨760,23,760,24⟩) ⟨760,7,760,24⟩) (.cons (.ret (.not (.callN 130 ⟨761,19,761,29⟩ (.cons (.sub (.loc 116 ⟨761,30,761,37⟩) (.cint (1) 0 ⟨761,38,761,39⟩) ⟨761,30,761,40⟩) (.cons (.loc 129 ⟨761,42,761,47⟩) .nil)) ⟨761,19,761,48⟩) ⟨761,15,761,48⟩) ⟨761,8,761,48⟩) .nil) .nil ⟨760,4,761,48⟩) (.cons (.assign 131 ⟨762,4,762,7⟩ (.callN 130 ⟨762,10,762,20⟩ (.cons (.sub (.loc 116 ⟨762,21,762,28⟩) (.cint (1) 0 ⟨762,29,762,30⟩) ⟨762,21,762,31⟩) (.cons (.loc 129 ⟨762,33,762,38⟩) .nil)) ⟨762,10,762,39⟩) ⟨762,4,762,39⟩) (.cons (.assign 132 ⟨763,4,763,9⟩ (.callN 130 ⟨763,12,763,22⟩ (.cons (.sub (.loc 116 ⟨763,23,763,30⟩) (.cint (2) 0 ⟨763,31,763,32⟩) ⟨763,23,763,33⟩) (.cons (.loc 129 ⟨763,35,763,40⟩) .nil)) ⟨763,12,763,41⟩) ⟨763,4,763,41⟩) (.cons (.ite (.cmp (.sub (.loc 116 ⟨764,7,764,14⟩) (.cint (0) 0 ⟨764,15,764,16⟩) ⟨764,7,764,17⟩) .Eq (.cstr 133 0 ⟨764,21,764,24⟩) ⟨764,7,764,24⟩) (.cons (.ret (.bop .And (.cons (.loc 131 ⟨765,15,765,18⟩) (.cons (.loc 132 ⟨765,23,765,28⟩) .nil)) ⟨765,15,765,28⟩) ⟨765,8,765,28⟩) .nil) .nil ⟨764,4,765,28⟩) (.cons (.ite (.cmp (.sub (.loc 116 ⟨766,7,766,14⟩) (.cint (0) 0 ⟨766,15,766,16⟩) ⟨766,7,766,17⟩) .Eq (.cstr 134 0 ⟨766,21,766,24⟩) ⟨766,7,766,24⟩) (.cons (.ret (.bop .Or (.cons (.loc 131 ⟨767,15,767,18⟩) (.cons (.loc 132 ⟨767,22,767,27⟩) .nil)) ⟨767,15,767,27⟩) ⟨767,8,767,27⟩) .nil) .nil ⟨766,4,767,27⟩) (.cons (.ret (.cmp (.loc 131 ⟨768,11,768,14⟩) .NotEq (.loc 132 ⟨768,18,768,23⟩) ⟨768,11,768,23⟩) ⟨768,4,768,23⟩) .nil)))))))
noncomputable def fHolds_body : List Stmt := embSs nm fHolds_0
noncomputable def fHolds_scope : Scope := ⟨.function, [((Str.ofString "formula"), .local), ((Str.ofString "place"), .local), ((Str.ofString "one"), .local), ((Str.ofString "other"), .local), ((Str.ofString "len"), .globalImplicit), ((Str.ofString "_law_holds"), .globalImplicit)], false, false, []⟩
noncomputable def fHolds_params : Arguments := ⟨[], [⟨(Str.ofString "formula"), none, ⟨757,15,757,22⟩⟩, ⟨(Str.ofString "place"), none, ⟨757,24,757,29⟩⟩], none, [], [], none, []⟩
noncomputable def fHolds_locs : List Nat := [116, 129, 131, 132]
noncomputable def fHolds_globs : List Nat := [2, 130]
noncomputable def fClosed_0 : PS := (.cons (.ite (.cmp (.loc 135 ⟨770,7,770,11⟩) .Eq (.cstr 133 0 ⟨770,15,770,18⟩) ⟨770,7,770,18⟩) (.cons (.ret (.callN 136 ⟨771,15,771,19⟩ (.cons (.loc 131 ⟨771,20,771,23⟩) (.cons (.loc 132 ⟨771,25,771,30⟩) .nil)) ⟨771,15,771,31⟩) ⟨771,8,771,31⟩) .nil) .nil ⟨770,4,771,31⟩) (.cons (.ite (.cmp (.loc 135 ⟨772,7,772,11⟩) .Eq (.cstr 134 0 ⟨772,15,772,18⟩) ⟨772,7,772,18⟩) (.cons (.ret (.callN 137 ⟨773,15,773,18⟩ (.cons (.loc 131 ⟨773,19,773,22⟩) (.cons (.loc 132 ⟨773,24,773,29⟩) .nil)) ⟨773,15,773,30⟩) ⟨773,8,773,30⟩) .nil) .nil ⟨772,4,773,30⟩) (.cons (.ret (.callN 138 ⟨774,11,774,14⟩ (.cons (.loc 131 ⟨774,15,774,18⟩) (.cons (.loc 132 ⟨774,20,774,25⟩) .nil)) ⟨774,11,774,26⟩) ⟨774,4,774,26⟩) .nil)))
noncomputable def fClosed_body : List Stmt := embSs nm fClosed_0
noncomputable def fClosed_scope : Scope := ⟨.function, [((Str.ofString "deed"), .local), ((Str.ofString "one"), .local), ((Str.ofString "other"), .local), ((Str.ofString "and_"), .globalImplicit), ((Str.ofString "or_"), .globalImplicit), ((Str.ofString "xor"), .globalImplicit)], false, false, []⟩
noncomputable def fClosed_params : Arguments := ⟨[], [⟨(Str.ofString "deed"), none, ⟨769,16,769,20⟩⟩, ⟨(Str.ofString "one"), none, ⟨769,22,769,25⟩⟩, ⟨(Str.ofString "other"), none, ⟨769,27,769,32⟩⟩], none, [], [], none, []⟩
noncomputable def fClosed_locs : List Nat := [135, 131, 132]
noncomputable def fClosed_globs : List Nat := [136, 137, 138]
noncomputable def fReck_0 : PS := (.cons (.assign 139 ⟨776,4,776,9⟩ (.opq (Expr.Dict [(some (Expr.Constant (.str (Str.ofString "x1")) 0 ⟨776,13,776,17⟩)), (some (Expr.Constant (.str (Str.ofString "b)")) 0 ⟨776,24,776,28⟩)), (some (Expr.Constant (.str (Str.ofString "it's")) 0 ⟨776,35,776,41⟩))] [(Expr.Constant (.int (170)) 0 ⟨776,19,776,22⟩), (Expr.Constant (.int (204)) 0 ⟨776,30,776,33⟩), (Expr.Constant (.int (240)) 0 ⟨776,43,776,46⟩)] ⟨776,12,776,47⟩)) ⟨776,4,776,47⟩) (.cons (.assign 140 ⟨777,4,777,9⟩ (.opq (Expr.Call (Expr.Name (Str.ofString "shlex") ⟨777,12,777,17⟩) [(Expr.Name (Str.ofString "text") ⟨777,18,777,22⟩)] [⟨some (Str.ofString "posix"), (Expr.Constant (.bool true) 0 ⟨777,30,777,34⟩), ⟨777,24,777,34⟩⟩, ⟨some (Str.ofString "punctuation_chars"), (Expr.Constant (.str (Str.ofString "&|^~()")) 0 ⟨777,54,777,62⟩), ⟨777,36,777,62⟩⟩] ⟨777,12,777,63⟩)) ⟨777,4,777,63⟩) (.cons (.assign 109 ⟨778,4,778,8⟩ (.list .nil ⟨778,11,778,13⟩) ⟨778,4,778,13⟩) (.cons (.assign 141 ⟨779,4,779,9⟩ (.list .nil ⟨779,12,779,14⟩) ⟨779,4,779,14⟩) (.cons (.assign 68 ⟨780,4,780,9⟩ (.callM (.loc 140 ⟨780,12,780,17⟩) 88 ⟨780,12,780,27⟩ .nil ⟨780,12,780,29⟩) ⟨780,4,780,29⟩) .nil)))))
noncomputable def fReck_0t : PE := (.cmp (.loc 68 ⟨781,10,781,15⟩) .IsNot (.cnone 0 ⟨781,23,781,27⟩) ⟨781,10,781,27⟩)
noncomputable def fReck_0b_0 : PS := .nil
noncomputable def fReck_0b_0i : PE := (.ite (.cmp (.loc 68 ⟨782,31,782,36⟩) .In (.loc 139 ⟨782,40,782,45⟩) ⟨782,31,782,45⟩) (.list (.cons (.loc 68 ⟨782,21,782,26⟩) .nil) ⟨782,20,782,27⟩) (.callN 143 ⟨782,51,782,55⟩ (.cons (.loc 68 ⟨782,56,782,61⟩) .nil) ⟨782,51,782,62⟩) ⟨782,20,782,62⟩)
noncomputable def fReck_0b_0b_0 : PS := (.cons (.ite (.cmp (.loc 142 ⟨783,15,783,19⟩) .In (.loc 139 ⟨783,23,783,28⟩) ⟨783,15,783,28⟩) (.cons (.expr (.callM (.loc 109 ⟨784,16,784,20⟩) 0 ⟨784,16,784,27⟩ (.cons (.sub (.loc 139 ⟨784,28,784,33⟩) (.loc 142 ⟨784,34,784,38⟩) ⟨784,28,784,39⟩) .nil) ⟨784,16,784,40⟩) ⟨784,16,784,40⟩) .nil) (.cons (.ite (.cmp (.loc 142 ⟨785,17,785,21⟩) .Eq (.cstr 122 0 ⟨785,25,785,28⟩) ⟨785,17,785,28⟩) (.cons (.assign 132 ⟨786,16,786,21⟩ (.callM (.loc 109 ⟨786,24,786,28⟩) 1 ⟨786,24,786,32⟩ .nil ⟨786,24,786,34⟩) ⟨786,16,786,34⟩) (.cons (.expr (.callM (.loc 109 ⟨787,16,787,20⟩) 0 ⟨787,16,787,27⟩ (.cons (.callN 144 ⟨787,28,787,39⟩ (.cons (.callM (.loc 141 ⟨787,40,787,45⟩) 1 ⟨787,40,787,49⟩ .nil ⟨787,40,787,51⟩) (.cons (.callM (.loc 109 ⟨787,53,787,57⟩) 1 ⟨787,53,787,61⟩ .nil ⟨787,53,787,63⟩) (.cons (.loc 132 ⟨787,65,787,70⟩) .nil))) ⟨787,28,787,71⟩) .nil) ⟨787,16,787,72⟩) ⟨787,16,787,72⟩) (.cons (.expr (.callM (.loc 141 ⟨788,16,788,21⟩) 1 ⟨788,16,788,25⟩ .nil ⟨788,16,788,27⟩) ⟨788,16,788,27⟩) .nil))) (.cons (.expr (.callM (.loc 141 ⟨790,16,790,21⟩) 0 ⟨790,16,790,28⟩ (.cons (.loc 142 ⟨790,29,790,33⟩) .nil) ⟨790,16,790,34⟩) ⟨790,16,790,34⟩) .nil) ⟨785,12,790,34⟩) .nil) ⟨783,12,790,34⟩) .nil)
noncomputable def fReck_0b_0b_0t : PE := (.bop .And (.cons (.cmp (.loc 141 ⟨791,18,791,23⟩) .NotEq (.list .nil ⟨791,27,791,29⟩) ⟨791,18,791,29⟩) (.cons (.cmp (.sub (.loc 141 ⟨791,34,791,39⟩) (.usub (.cint (1) 0 ⟨791,41,791,42⟩) ⟨791,40,791,42⟩) ⟨791,34,791,43⟩) .Eq (.cstr 112 0 ⟨791,47,791,50⟩) ⟨791,34,791,50⟩) (.cons (.bop .Or (.cons (.cmp (.loc 142 ⟨791,56,791,60⟩) .In (.loc 139 ⟨791,64,791,69⟩) ⟨791,56,791,69⟩) (.cons (.cmp (.loc 142 ⟨791,73,791,77⟩) .Eq (.cstr 122 0 ⟨791,81,791,84⟩) ⟨791,73,791,84⟩) .nil)) ⟨791,56,791,84⟩) .nil))) ⟨791,18,791,85⟩)
noncomputable def fReck_0b_0b_0b_0 : PS := (.cons (.expr (.callM (.loc 141 ⟨792,16,792,21⟩) 1 ⟨792,16,792,25⟩ .nil ⟨792,16,792,27⟩) ⟨792,16,792,27⟩) (.cons (.expr (.callM (.loc 109 ⟨793,16,793,20⟩) 0 ⟨793,16,793,27⟩ (.cons (.callN 138 ⟨793,28,793,31⟩ (.cons (.callM (.loc 109 ⟨793,32,793,36⟩) 1 ⟨793,32,793,40⟩ .nil ⟨793,32,793,42⟩) (.cons (.cint (255) 0 ⟨793,44,793,47⟩) .nil)) ⟨793,28,793,48⟩) .nil) ⟨793,16,793,49⟩) ⟨793,16,793,49⟩) .nil))
noncomputable def fReck_0b_0b_0B : List Stmt := embSs nm fReck_0b_0b_0b_0
noncomputable def fReck_0b_0b_0W : Stmt := Stmt.While (emb nm fReck_0b_0b_0t) fReck_0b_0b_0B [] ⟨791,12,793,49⟩
noncomputable def fReck_0b_0b_1 : PS := .nil
noncomputable def fReck_0b_0B : List Stmt := embSs nm fReck_0b_0b_0 ++ (fReck_0b_0b_0W :: (embSs nm fReck_0b_0b_1))
noncomputable def fReck_0b_0F : Stmt := Stmt.For (Expr.Name (nm 142) ⟨782,12,782,16⟩) (emb nm fReck_0b_0i) fReck_0b_0B [] ⟨782,8,793,49⟩
noncomputable def fReck_0b_1 : PS := (.cons (.assign 68 ⟨794,8,794,13⟩ (.callM (.loc 140 ⟨794,16,794,21⟩) 88 ⟨794,16,794,31⟩ .nil ⟨794,16,794,33⟩) ⟨794,8,794,33⟩) .nil)
noncomputable def fReck_0B : List Stmt := embSs nm fReck_0b_0 ++ (fReck_0b_0F :: (embSs nm fReck_0b_1))
noncomputable def fReck_0W : Stmt := Stmt.While (emb nm fReck_0t) fReck_0B [] ⟨781,4,794,33⟩
noncomputable def fReck_1 : PS := (.cons (.ret (.list (.cons (.loc 109 ⟨795,12,795,16⟩) (.cons (.loc 141 ⟨795,18,795,23⟩) .nil)) ⟨795,11,795,24⟩) ⟨795,4,795,24⟩) .nil)
noncomputable def fReck_body : List Stmt := embSs nm fReck_0 ++ (fReck_0W :: (embSs nm fReck_1))
noncomputable def fReck_scope : Scope := ⟨.function, [((Str.ofString "text"), .local), ((Str.ofString "masks"), .local), ((Str.ofString "lexer"), .local), ((Str.ofString "pile"), .local), ((Str.ofString "signs"), .local), ((Str.ofString "token"), .local), ((Str.ofString "item"), .local), ((Str.ofString "other"), .local), ((Str.ofString "shlex"), .globalImplicit), ((Str.ofString "list"), .globalImplicit), ((Str.ofString "_law_closed"), .globalImplicit), ((Str.ofString "xor"), .globalImplicit)], false, false, []⟩
noncomputable def fReck_params : Arguments := ⟨[], [⟨(Str.ofString "text"), none, ⟨775,18,775,22⟩⟩], none, [], [], none, []⟩
noncomputable def fReck_locs : List Nat := [124, 139, 140, 109, 141, 68, 142, 132]
noncomputable def fReck_globs : List Nat := [143, 144, 138]
noncomputable abbrev kS (s : String) (t : Tok) : Value := .str (Str.ofString s) t
noncomputable abbrev kD (P : Params) (s : String) (t : Tok) (v : Value) : DictEntry := ⟨PyData.keyHash P (Str.ofString s), kS s t, v⟩
noncomputable def KP (P : Params) : Frag := [(2, ⟨.none, none, .dict #[kD P "\x69mport.loaded._collections" 185 (.bool true), kD P "class._frozen_\x69mportlib.BuiltinImporter" 187 (.ref 15), kD P "watched.\x69mport" 208 (.ref 19), kD P "class._frozen_\x69mportlib.ModuleSpec" 218 (.ref 23), kD P "sys.modules.booked-epoch" 247 (.int 3 0), kD P "sys.modules.landed._collections" 248 (.bool true), kD P "\x69mport.later-laid._collections" 263 (.bool true), kD P "watched.library" 265 (.ref 28), kD P "watched.library-objects" 0 (kS "\r" 0), kD P "watched.library-deep._collections" 266 (kS "\x04\x00\x00\x0c\x04\x00\x00\x0c\x04\x00\x00\x03\x04\x00\x00\x0c\x08\x04dict\x02" 0), kD P "type.__subclasses__.OSError.0" 348 (.int 84 0), kD P "type.__subclasses__.OSError.n" 349 (.int 1 0)] 12, #[]⟩),
  (3, ⟨(.type "dict"), none, .dict #[kD P "__name__" 165 (kS "law_nq0180_01" 1168), kD P "__doc__" 166 .none, kD P "__package__" 167 .none, kD P "__loader__" 168 (.builtin "__main__.__loader__#opaque"), kD P "__spec__" 169 .none, kD P "__annotations__" 170 (.ref 6), kD P "__builtins__" 171 (.ref 4), kD P "__file__" 173 (kS "/claim/cut.py" 172), kD P "__cached__" 174 .none, kD P "deque" 272 (.type "collections.deque"), kD P "_wall" 285 (.ref 39), kD P "and_" 295 (.ref 46), kD P "or_" 303 (.ref 53), kD P "xor" 311 (.ref 60), kD P "_whence" 321 (.ref 67), kD P "_index" 329 (.ref 74), kD P "UnsupportedOperation" 351 (.ref 84), kD P "IOBase" 383 (.ref 104), kD P "BufferedIOBase" 401 (.ref 119), kD P "TextIOBase" 419 (.ref 131), kD P "BytesIO" 681 (.ref 361), kD P "StringIO" 968 (.ref 608), kD P "_kind" 979 (.ref 617), kD P "_fspath" 988 (.ref 624), kD P "_check_arg_types" 998 (.ref 631), kD P "isabs" 1005 (.ref 638), kD P "join" 1016 (.ref 645), kD P "dirname" 1026 (.ref 652), kD P "shlex" 1167 (.ref 743), kD P "_law_formula" 1180 (.ref 754), kD P "_law_items" 1187 (.ref 761), kD P "_law_text" 1198 (.ref 768), kD P "_law_holds" 1208 (.ref 775), kD P "_law_closed" 1217 (.ref 782), kD P "_law_reckoned" 1231 (.ref 789), kD P "law" 1237 (.ref 794)] 36, #[]⟩),
  (45, ⟨(.type "code"), none, .fields #[(kS "and_" 288), (kS "and_" 289), (kS "/claim/cut.py" 290), (.int 6 0), (.int 2 0), (.int 0 0), (.int 0 0), (.int 3 0), (.ref 40), (.bool true), (.int 273 0), (.ref 41), .none, (.ref 42), (.ref 43), (.ref 44), (.int 293 0), (.int 6 0), (kS "/claim/cut.py" 294)], #[]⟩),
  (46, ⟨.type "function", none, .func (fnOf (Str.ofString "and_") (Str.ofString "and_") fAnd_params fAnd_body fAnd_scope .none .none .none (.str (Str.ofString "cpy313.operator") 286) none (.ref 45) .none), #[]⟩),
  (52, ⟨(.type "code"), none, .fields #[(kS "or_" 296), (kS "or_" 297), (kS "/claim/cut.py" 298), (.int 8 0), (.int 2 0), (.int 0 0), (.int 0 0), (.int 3 0), (.ref 47), (.bool true), (.int 273 0), (.ref 48), .none, (.ref 49), (.ref 50), (.ref 51), (.int 301 0), (.int 8 0), (kS "/claim/cut.py" 302)], #[]⟩),
  (53, ⟨.type "function", none, .func (fnOf (Str.ofString "or_") (Str.ofString "or_") fOr_params fOr_body fOr_scope .none .none .none (.str (Str.ofString "cpy313.operator") 286) none (.ref 52) .none), #[]⟩),
  (59, ⟨(.type "code"), none, .fields #[(kS "xor" 304), (kS "xor" 305), (kS "/claim/cut.py" 306), (.int 10 0), (.int 2 0), (.int 0 0), (.int 0 0), (.int 3 0), (.ref 54), (.bool true), (.int 273 0), (.ref 55), .none, (.ref 56), (.ref 57), (.ref 58), (.int 309 0), (.int 10 0), (kS "/claim/cut.py" 310)], #[]⟩),
  (60, ⟨.type "function", none, .func (fnOf (Str.ofString "xor") (Str.ofString "xor") fXor_params fXor_body fXor_scope .none .none .none (.str (Str.ofString "cpy313.operator") 286) none (.ref 59) .none), #[]⟩),
  (73, ⟨(.type "code"), none, .fields #[(kS "_index" 322), (kS "_index" 323), (kS "/claim/cut.py" 324), (.int 18 0), (.int 2 0), (.int 0 0), (.int 0 0), (.int 3 0), (.ref 68), (.bool true), (.int 273 0), (.ref 69), .none, (.ref 70), (.ref 71), (.ref 72), (.int 327 0), (.int 18 0), (kS "/claim/cut.py" 328)], #[]⟩),
  (74, ⟨.type "function", none, .func (fnOf (Str.ofString "_index") (Str.ofString "_index") fIndex_params fIndex_body fIndex_scope .none .none .none (.str (Str.ofString "io") 312) none (.ref 73) .none), #[]⟩),
  (100, ⟨(.type "code"), none, .fields #[(kS "__new__" 366), (kS "IOBase.__new__" 367), (kS "/claim/cut.py" 368), (.int 30 0), (.int 1 0), (.int 1 0), (.int 0 0), (.int 15 0), (.ref 95), (.bool true), (.int 273 0), (.ref 96), .none, (.ref 97), (.ref 98), (.ref 99), (.int 372 0), (.int 30 0), (kS "/claim/cut.py" 373)], #[]⟩),
  (101, ⟨.type "function", none, .func (fnOf (Str.ofString "__new__") (Str.ofString "IOBase.__new__") fNew_params fNew_body fNew_scope .none .none .none (.str (Str.ofString "io") 312) none (.ref 100) .none), #[]⟩),
  (103, ⟨(.type "dict"), none, .dict #[kD P "__module__" 359 (kS "io" 364), kD P "__firstlineno__" 363 (.int 27 362), kD P "__new__" 374 (.ref 105), kD P "__static_attributes__" 375 (.ref 102), kD P "__dict__" 378 (.ref 106), kD P "__weakref__" 380 (.ref 107), kD P "__doc__" 381 .none] 4, #[]⟩),
  (104, ⟨(.type "type"), none, .cls { name := Str.ofString "IOBase", bases := [(.type "object")], mro := [(.ref 104), (.type "object")], ns := 103, qualname := Str.ofString "IOBase", subclasses := [(.ref 119), (.ref 131)] }, #[none, none, some (kS "IOBase" 352), some (kS "IOBase" 360), some .none, some (.bool true)]⟩),
  (105, ⟨(.type "staticmethod"), none, .fields #[(.ref 101)], #[]⟩),
  (130, ⟨(.type "dict"), none, .dict #[kD P "__module__" 409 (kS "io" 414), kD P "__firstlineno__" 413 (.int 36 412), kD P "__static_attributes__" 416 (.ref 129), kD P "__doc__" 417 .none] 2, #[]⟩),
  (131, ⟨(.type "type"), none, .cls { name := Str.ofString "TextIOBase", bases := [(.ref 104)], mro := [(.ref 131), (.ref 104), (.type "object")], ns := 130, qualname := Str.ofString "TextIOBase", subclasses := [(.ref 608)] }, #[some (.ref 122), none, some (kS "TextIOBase" 402), some (kS "TextIOBase" 410), some .none, some (.bool true)]⟩),
  (361, ⟨(.type "type"), none, .cls { name := Str.ofString "BytesIO", bases := [(.ref 119)], mro := [(.ref 361), (.ref 119), (.ref 104), (.type "object")], ns := 360, qualname := Str.ofString "BytesIO", subclasses := [] }, #[some (.ref 134), none, some (kS "BytesIO" 420), some (kS "BytesIO" 428), some .none, some (.bool true)]⟩),
  (371, ⟨(.type "tuple"), none, .seq #[(kS "" 696), (kS "\n" 697)] 0, #[]⟩),
  (377, ⟨(.type "code"), none, .fields #[(kS "__init__" 698), (kS "StringIO.__init__" 699), (kS "/claim/cut.py" 700), (.int 211 0), (.int 3 0), (.int 0 0), (.int 0 0), (.int 3 0), (.ref 372), (.bool true), (.int 273 0), (.ref 373), .none, (.ref 374), (.ref 375), (.ref 376), (.int 704 0), (.int 211 0), (kS "/claim/cut.py" 705)], #[]⟩),
  (378, ⟨.type "function", none, .func (fnOf (Str.ofString "__init__") (Str.ofString "StringIO.__init__") fSInit_params fSInit_body fSInit_scope (.ref 371) .none .none (.str (Str.ofString "io") 312) none (.ref 377) .none), #[]⟩),
  (384, ⟨(.type "code"), none, .fields #[(kS "__translated" 707), (kS "StringIO.__translated" 708), (kS "/claim/cut.py" 709), (.int 224 0), (.int 2 0), (.int 0 0), (.int 0 0), (.int 3 0), (.ref 379), (.bool true), (.int 273 0), (.ref 380), .none, (.ref 381), (.ref 382), (.ref 383), (.int 713 0), (.int 224 0), (kS "/claim/cut.py" 714)], #[]⟩),
  (385, ⟨.type "function", none, .func (fnOf (Str.ofString "__translated") (Str.ofString "StringIO.__translated") fTrans_params fTrans_body fTrans_scope .none .none .none (.str (Str.ofString "io") 312) none (.ref 384) .none), #[]⟩),
  (391, ⟨(.type "code"), none, .fields #[(kS "__check" 716), (kS "StringIO.__check" 717), (kS "/claim/cut.py" 718), (.int 232 0), (.int 1 0), (.int 0 0), (.int 0 0), (.int 3 0), (.ref 386), (.bool true), (.int 273 0), (.ref 387), .none, (.ref 388), (.ref 389), (.ref 390), (.int 720 0), (.int 232 0), (kS "/claim/cut.py" 721)], #[]⟩),
  (392, ⟨.type "function", none, .func (fnOf (Str.ofString "__check") (Str.ofString "StringIO.__check") fCheck_params fCheck_body fCheck_scope .none .none .none (.str (Str.ofString "io") 312) none (.ref 391) .none), #[]⟩),
  (405, ⟨(.type "code"), none, .fields #[(kS "__line" 730), (kS "StringIO.__line" 731), (kS "/claim/cut.py" 732), (.int 240 0), (.int 2 0), (.int 0 0), (.int 0 0), (.int 3 0), (.ref 400), (.bool true), (.int 273 0), (.ref 401), .none, (.ref 402), (.ref 403), (.ref 404), (.int 742 0), (.int 240 0), (kS "/claim/cut.py" 743)], #[]⟩),
  (406, ⟨.type "function", none, .func (fnOf (Str.ofString "__line") (Str.ofString "StringIO.__line") fLine_params fLine_body fLine_scope .none .none .none (.str (Str.ofString "io") 312) none (.ref 405) .none), #[]⟩),
  (547, ⟨(.type "tuple"), none, .seq #[(.int (-1) 889)] 0, #[]⟩),
  (553, ⟨(.type "code"), none, .fields #[(kS "read" 890), (kS "StringIO.read" 891), (kS "/claim/cut.py" 892), (.int 354 0), (.int 2 0), (.int 2 0), (.int 0 0), (.int 3 0), (.ref 548), (.bool true), (.int 273 0), (.ref 549), .none, (.ref 550), (.ref 551), (.ref 552), (.int 897 0), (.int 354 0), (kS "/claim/cut.py" 898)], #[]⟩),
  (554, ⟨.type "function", none, .func (fnOf (Str.ofString "read") (Str.ofString "StringIO.read") fRead_params fRead_body fRead_scope (.ref 547) .none .none (.str (Str.ofString "io") 312) none (.ref 553) .none), #[]⟩),
  (555, ⟨(.type "tuple"), none, .seq #[(.int (-1) 901)] 0, #[]⟩),
  (561, ⟨(.type "code"), none, .fields #[(kS "readline" 902), (kS "StringIO.readline" 903), (kS "/claim/cut.py" 904), (.int 368 0), (.int 2 0), (.int 2 0), (.int 0 0), (.int 3 0), (.ref 556), (.bool true), (.int 273 0), (.ref 557), .none, (.ref 558), (.ref 559), (.ref 560), (.int 907 0), (.int 368 0), (kS "/claim/cut.py" 908)], #[]⟩),
  (562, ⟨.type "function", none, .func (fnOf (Str.ofString "readline") (Str.ofString "StringIO.readline") fReadline_params fReadline_body fReadline_scope (.ref 555) .none .none (.str (Str.ofString "io") 312) none (.ref 561) .none), #[]⟩),
  (607, ⟨(.type "dict"), none, .dict #[kD P "__module__" 689 (kS "_io" 694), kD P "__firstlineno__" 693 (.int 208 692), kD P "__init__" 706 (.ref 378), kD P "_StringIO__translated" 715 (.ref 385), kD P "_StringIO__check" 722 (.ref 392), kD P "_StringIO__check_dot" 729 (.ref 399), kD P "_StringIO__line" 744 (.ref 406), kD P "closed" 752 (.ref 414), kD P "line_buffering" 760 (.ref 422), kD P "newlines" 768 (.ref 430), kD P "encoding" 776 (.ref 438), kD P "errors" 784 (.ref 446), kD P "close" 791 (.ref 453), kD P "__enter__" 798 (.ref 460), kD P "__exit__" 806 (.ref 467), kD P "readable" 813 (.ref 474), kD P "writable" 820 (.ref 481), kD P "seekable" 827 (.ref 488), kD P "isatty" 834 (.ref 495), kD P "flush" 841 (.ref 502), kD P "fileno" 848 (.ref 509), kD P "detach" 855 (.ref 516), kD P "getvalue" 862 (.ref 523), kD P "tell" 869 (.ref 530), kD P "seek" 879 (.ref 538), kD P "truncate" 887 (.ref 546), kD P "read" 899 (.ref 554), kD P "readline" 909 (.ref 562), kD P "readlines" 919 (.ref 570), kD P "__iter__" 926 (.ref 577), kD P "__next__" 934 (.ref 584), kD P "write" 946 (.ref 591), kD P "writelines" 954 (.ref 598), kD P "__repr__" 961 (.ref 605), kD P "__static_attributes__" 965 (.ref 606), kD P "__doc__" 966 .none] 2, #[]⟩),
  (608, ⟨(.type "type"), none, .cls { name := Str.ofString "StringIO", bases := [(.ref 131)], mro := [(.ref 608), (.ref 131), (.ref 104), (.type "object")], ns := 607, qualname := Str.ofString "StringIO", subclasses := [] }, #[some (.ref 364), none, some (kS "StringIO" 682), some (kS "StringIO" 690), some .none, some (.bool true)]⟩),
  (660, ⟨(.type "tuple"), none, .seq #[.none, .none, (.bool false), (.bool false)] 0, #[]⟩),
  (666, ⟨(.type "code"), none, .fields #[(kS "__init__" 1041), (kS "shlex.__init__" 1042), (kS "/claim/cut.py" 1043), (.int 479 0), (.int 5 0), (.int 0 0), (.int 0 0), (.int 3 0), (.ref 661), (.bool true), (.int 273 0), (.ref 662), .none, (.ref 663), (.ref 664), (.ref 665), (.int 1050 0), (.int 479 0), (kS "/claim/cut.py" 1051)], #[]⟩),
  (667, ⟨.type "function", none, .func (fnOf (Str.ofString "__init__") (Str.ofString "shlex.__init__") fInit_params fInit_body fInit_scope (.ref 660) .none .none (.str (Str.ofString "cpy313.shlex") 1027) none (.ref 666) .none), #[]⟩),
  (673, ⟨(.type "code"), none, .fields #[(kS "punctuation_chars" 1053), (kS "shlex.punctuation_chars" 1054), (kS "/claim/cut.py" 1055), (.int 520 0), (.int 1 0), (.int 0 0), (.int 0 0), (.int 3 0), (.ref 668), (.bool true), (.int 273 0), (.ref 669), .none, (.ref 670), (.ref 671), (.ref 672), (.int 1057 0), (.int 520 0), (kS "/claim/cut.py" 1058)], #[]⟩),
  (674, ⟨.type "function", none, .func (fnOf (Str.ofString "punctuation_chars") (Str.ofString "shlex.punctuation_chars") fPunct_params fPunct_body fPunct_scope .none .none .none (.str (Str.ofString "cpy313.shlex") 1027) none (.ref 673) .none), #[]⟩),
  (675, ⟨(.type "property"), none, .fields #[(.ref 674), .none, .none, .none, (kS "punctuation_chars" 1060), (.bool false)], #[]⟩),
  (703, ⟨(.type "code"), none, .fields #[(kS "get_token" 1085), (kS "shlex.get_token" 1086), (kS "/claim/cut.py" 1087), (.int 547 0), (.int 1 0), (.int 0 0), (.int 0 0), (.int 3 0), (.ref 698), (.bool true), (.int 273 0), (.ref 699), .none, (.ref 700), (.ref 701), (.ref 702), (.int 1094 0), (.int 547 0), (kS "/claim/cut.py" 1095)], #[]⟩),
  (704, ⟨.type "function", none, .func (fnOf (Str.ofString "get_token") (Str.ofString "shlex.get_token") fGet_params fGet_body fGet_scope .none .none .none (.str (Str.ofString "cpy313.shlex") 1027) none (.ref 703) .none), #[]⟩),
  (710, ⟨(.type "code"), none, .fields #[(kS "read_token" 1097), (kS "shlex.read_token" 1098), (kS "/claim/cut.py" 1099), (.int 574 0), (.int 1 0), (.int 0 0), (.int 0 0), (.int 3 0), (.ref 705), (.bool true), (.int 273 0), (.ref 706), .none, (.ref 707), (.ref 708), (.ref 709), (.int 1105 0), (.int 574 0), (kS "/claim/cut.py" 1106)], #[]⟩),
  (711, ⟨.type "function", none, .func (fnOf (Str.ofString "read_token") (Str.ofString "shlex.read_token") fTok_params fTok_body fTok_scope .none .none .none (.str (Str.ofString "cpy313.shlex") 1027) none (.ref 710) .none), #[]⟩),
  (742, ⟨(.type "dict"), none, .dict #[kD P "__module__" 1036 (kS "cpy313.shlex" 1027), kD P "__firstlineno__" 1040 (.int 477 1039), kD P "__init__" 1052 (.ref 667), kD P "punctuation_chars" 1060 (.ref 675), kD P "push_token" 1068 (.ref 682), kD P "push_source" 1077 (.ref 690), kD P "pop_source" 1084 (.ref 697), kD P "get_token" 1096 (.ref 704), kD P "read_token" 1107 (.ref 711), kD P "sourcehook" 1115 (.ref 718), kD P "error_leader" 1124 (.ref 726), kD P "__iter__" 1131 (.ref 733), kD P "__next__" 1139 (.ref 740), kD P "__static_attributes__" 1160 (.ref 741), kD P "__dict__" 1162 (.ref 744), kD P "__weakref__" 1164 (.ref 745), kD P "__doc__" 1165 .none] 4, #[]⟩),
  (743, ⟨(.type "type"), none, .cls { name := Str.ofString "shlex", bases := [(.type "object")], mro := [(.ref 743), (.type "object")], ns := 742, qualname := Str.ofString "shlex", subclasses := [] }, #[none, none, some (kS "shlex" 1029), some (kS "shlex" 1037), some (.builtin "object.__new__"), some (.bool true)]⟩),
  (753, ⟨(.type "code"), none, .fields #[(kS "_law_formula" 1170), (kS "_law_formula" 1171), (kS "/claim/cut.py" 1172), (.int 730 0), (.int 1 0), (.int 0 0), (.int 0 0), (.int 3 0), (.ref 748), (.bool true), (.int 273 0), (.ref 749), .none, (.ref 750), (.ref 751), (.ref 752), (.int 1178 0), (.int 730 0), (kS "/claim/cut.py" 1179)], #[]⟩),
  (754, ⟨.type "function", none, .func (fnOf (Str.ofString "_law_formula") (Str.ofString "_law_formula") fFormula_params fFormula_body fFormula_scope .none .none .none (.str (Str.ofString "law_nq0180_01") 1168) none (.ref 753) .none), #[]⟩),
  (760, ⟨(.type "code"), none, .fields #[(kS "_law_items" 1181), (kS "_law_items" 1182), (kS "/claim/cut.py" 1183), (.int 745 0), (.int 1 0), (.int 0 0), (.int 0 0), (.int 3 0), (.ref 755), (.bool true), (.int 273 0), (.ref 756), .none, (.ref 757), (.ref 758), (.ref 759), (.int 1185 0), (.int 745 0), (kS "/claim/cut.py" 1186)], #[]⟩),
  (761, ⟨.type "function", none, .func (fnOf (Str.ofString "_law_items") (Str.ofString "_law_items") fItems_params fItems_body fItems_scope .none .none .none (.str (Str.ofString "law_nq0180_01") 1168) none (.ref 760) .none), #[]⟩),
  (767, ⟨(.type "code"), none, .fields #[(kS "_law_text" 1188), (kS "_law_text" 1189), (kS "/claim/cut.py" 1190), (.int 751 0), (.int 2 0), (.int 0 0), (.int 0 0), (.int 3 0), (.ref 762), (.bool true), (.int 273 0), (.ref 763), .none, (.ref 764), (.ref 765), (.ref 766), (.int 1196 0), (.int 751 0), (kS "/claim/cut.py" 1197)], #[]⟩),
  (768, ⟨.type "function", none, .func (fnOf (Str.ofString "_law_text") (Str.ofString "_law_text") fText_params fText_body fText_scope .none .none .none (.str (Str.ofString "law_nq0180_01") 1168) none (.ref 767) .none), #[]⟩),
  (774, ⟨(.type "code"), none, .fields #[(kS "_law_holds" 1199), (kS "_law_holds" 1200), (kS "/claim/cut.py" 1201), (.int 757 0), (.int 2 0), (.int 0 0), (.int 0 0), (.int 3 0), (.ref 769), (.bool true), (.int 273 0), (.ref 770), .none, (.ref 771), (.ref 772), (.ref 773), (.int 1206 0), (.int 757 0), (kS "/claim/cut.py" 1207)], #[]⟩),
  (775, ⟨.type "function", none, .func (fnOf (Str.ofString "_law_holds") (Str.ofString "_law_holds") fHolds_params fHolds_body fHolds_scope .none .none .none (.str (Str.ofString "law_nq0180_01") 1168) none (.ref 774) .none), #[]⟩),
  (781, ⟨(.type "code"), none, .fields #[(kS "_law_closed" 1209), (kS "_law_closed" 1210), (kS "/claim/cut.py" 1211), (.int 769 0), (.int 3 0), (.int 0 0), (.int 0 0), (.int 3 0), (.ref 776), (.bool true), (.int 273 0), (.ref 777), .none, (.ref 778), (.ref 779), (.ref 780), (.int 1215 0), (.int 769 0), (kS "/claim/cut.py" 1216)], #[]⟩),
  (782, ⟨.type "function", none, .func (fnOf (Str.ofString "_law_closed") (Str.ofString "_law_closed") fClosed_params fClosed_body fClosed_scope .none .none .none (.str (Str.ofString "law_nq0180_01") 1168) none (.ref 781) .none), #[]⟩),
  (788, ⟨(.type "code"), none, .fields #[(kS "_law_reckoned" 1218), (kS "_law_reckoned" 1219), (kS "/claim/cut.py" 1220), (.int 775 0), (.int 1 0), (.int 0 0), (.int 0 0), (.int 3 0), (.ref 783), (.bool true), (.int 273 0), (.ref 784), .none, (.ref 785), (.ref 786), (.ref 787), (.int 1229 0), (.int 775 0), (kS "/claim/cut.py" 1230)], #[]⟩),
  (789, ⟨.type "function", none, .func (fnOf (Str.ofString "_law_reckoned") (Str.ofString "_law_reckoned") fReck_params fReck_body fReck_scope .none .none .none (.str (Str.ofString "law_nq0180_01") 1168) none (.ref 788) .none), #[]⟩)]
noncomputable abbrev KF (w : World) : Frag := KP w.params
noncomputable abbrev prg : Program := PySem.Challenge.pw_nq0180_01
inductive AV where
  | none
  | bool (b : Bool)
  | int (i : Int)
  | str (s : List Nat)
  | val (v : Value)
  | cell (i : Nat)
  | lst (l : List AV)
  | tup (l : List AV)
  | obj (a : Addr) (o : Obj)
  | rng (n : Nat)
  | that (P : Addr → Obj → Prop)
noncomputable def iterCls : Value → Bool
  | .type n => n == "list_iterator" || n == "range_iterator"
  | _ => false
noncomputable abbrev rngObj (n : Nat) (t u v : Tok) : Obj := { cls := .type "range", dict := none, data := .fields #[.int 0 t, .int n u, .int 1 v], slots := #[] }
noncomputable abbrev tupObj (vs : List Value) : Obj := { cls := .type "tuple", data := .seq vs.toArray }
structure Wd where
  imm : List (Addr × Obj)
  ca : List (Addr × Addr)
mutual
inductive RelV (W : Wd) : AV → Value → Prop
  | none : RelV W .none .none
  | bool (b : Bool) : RelV W (.bool b) (.bool b)
  | int (i : Int) (t : Tok) : RelV W (.int i) (.int i t)
  | str (l : List Nat) (t : Tok) : l.length ≤ 16777216 → RelV W (.str l) (.str ⟨l.toArray⟩ t)
  | val (v : Value) : RelV W (.val v) v
  | cell {i : Nat} {a d : Addr} : W.ca[i]? = some (a, d) → RelV W (.cell i) (.ref a)
  | lst {l : List AV} {a : Addr} {vs : List Value} {n : Nat} : (a, PySem.W.listOf vs.toArray n) ∈ W.imm → l.length ≤ 16777216 → RelVs W l vs → RelV W (.lst l) (.ref a)
  | tup {l : List AV} {a : Addr} {vs : List Value} : (a, tupObj vs) ∈ W.imm → l.length ≤ 16777216 → RelVs W l vs → RelV W (.tup l) (.ref a)
  | obj {a : Addr} {o : Obj} : (a, o) ∈ W.imm → iterCls o.cls = false → RelV W (.obj a o) (.ref a)
  | rng {n : Nat} {a : Addr} {t u v : Tok} : (a, rngObj n t u v) ∈ W.imm → RelV W (.rng n) (.ref a)
  | that {P : Addr → Obj → Prop} {a : Addr} {o : Obj} : (a, o) ∈ W.imm → iterCls o.cls = false → P a o → RelV W (.that P) (.ref a)
inductive RelVs (W : Wd) : List AV → List Value → Prop
  | nil : RelVs W [] []
  | cons {a : AV} {v : Value} {l : List AV} {vs : List Value} : RelV W a v → RelVs W l vs → RelVs W (a :: l) (v :: vs)
end
noncomputable def Wd.le (W W' : Wd) : Prop := (∀ p ∈ W.imm, p ∈ W'.imm) ∧ ∃ t, W'.ca = W.ca ++ t
theorem Wd.le_refl (W : Wd) : W.le W := ⟨fun _ h => h, [], by simp⟩
theorem Wd.le_trans {W W' W'' : Wd} (h : W.le W') (h' : W'.le W'') : W.le W'' := by
  obtain ⟨a, t, e⟩ := h
  obtain ⟨b, t', e'⟩ := h'
  exact ⟨fun p hp => b p (a p hp), t ++ t', by rw [e', e, List.append_assoc]⟩
theorem Wd.le_ca {W W' : Wd} (h : W.le W') {i : Nat} {q : Addr × Addr} (e : W.ca[i]? = some q) : W'.ca[i]? = some q := by
  obtain ⟨_, t, ht⟩ := h
  rw [ht]
  have hi : i < W.ca.length := by
    rcases Nat.lt_or_ge i W.ca.length with q | q
    · exact q
    · rw [List.getElem?_eq_none q] at e; cases e
  rw [List.getElem?_append_left hi]; exact e
noncomputable def Wd.to (W W' : Wd) : Prop := (∀ p ∈ W.imm, iterCls p.2.cls = false → p ∈ W'.imm) ∧ ∀ (i : Nat) (q : Addr × Addr), W.ca[i]? = some q → W'.ca[i]? = some q
theorem Wd.le.to {W W' : Wd} (h : W.le W') : W.to W' := ⟨fun p hp _ => h.1 p hp, fun _ _ e => Wd.le_ca h e⟩
theorem RelV.to {W W' : Wd} (hw : W.to W') {a : AV} {v : Value} (h : RelV W a v) : RelV W' a v :=
  RelV.rec (motive_1 := fun a v _ => RelV W' a v) (motive_2 := fun l vs _ => RelVs W' l vs) .none (fun b => .bool b) (fun i t => .int i t) (fun l t h => .str l t h) (fun v => .val v)
    (fun e => .cell (hw.2 _ _ e)) (fun hm hl _ ih => .lst (hw.1 _ hm rfl) hl ih) (fun hm hl _ ih => .tup (hw.1 _ hm rfl) hl ih)
    (fun hm hi => .obj (hw.1 _ hm hi) hi) (fun hm => .rng (hw.1 _ hm rfl)) (fun hm hi hp => .that (hw.1 _ hm hi) hi hp) .nil (fun _ _ h t => .cons h t) h
theorem RelVs.to {W W' : Wd} (hw : W.to W') {l : List AV} {vs : List Value} (h : RelVs W l vs) : RelVs W' l vs :=
  RelVs.rec (motive_1 := fun a v _ => RelV W' a v) (motive_2 := fun l vs _ => RelVs W' l vs) .none (fun b => .bool b) (fun i t => .int i t) (fun l t h => .str l t h) (fun v => .val v)
    (fun e => .cell (hw.2 _ _ e)) (fun hm hl _ ih => .lst (hw.1 _ hm rfl) hl ih) (fun hm hl _ ih => .tup (hw.1 _ hm rfl) hl ih)
    (fun hm hi => .obj (hw.1 _ hm hi) hi) (fun hm => .rng (hw.1 _ hm rfl)) (fun hm hi hp => .that (hw.1 _ hm hi) hi hp) .nil (fun _ _ h t => .cons h t) h
theorem RelV.mono {W W' : Wd} (hw : W.le W') {a : AV} {v : Value} (h : RelV W a v) : RelV W' a v := h.to hw.to
theorem RelVs.mono {W W' : Wd} (hw : W.le W') {l : List AV} {vs : List Value} (h : RelVs W l vs) : RelVs W' l vs := h.to hw.to
theorem RelVs.length {W : Wd} : ∀ {l : List AV} {vs : List Value}, RelVs W l vs → l.length = vs.length
  | _, _, .nil => rfl
  | _, _, .cons _ t => by rw [List.length_cons, List.length_cons, RelVs.length t]
theorem RelVs.get {W : Wd} : ∀ {l : List AV} {vs : List Value}, RelVs W l vs → ∀ {i : Nat} {a : AV}, l[i]? = some a → ∃ v, vs[i]? = some v ∧ RelV W a v
  | _, _, .nil, _, _, e => by simp at e
  | _, _, .cons h _, 0, _, e => by simp at e; subst e; exact ⟨_, by simp, h⟩
  | _, _, .cons _ t, i + 1, _, e => by simp at e; obtain ⟨v, a, b⟩ := RelVs.get t e; exact ⟨v, by simpa using a, b⟩
theorem RelVs.append {W : Wd} : ∀ {l l' : List AV} {vs vs' : List Value}, RelVs W l vs → RelVs W l' vs' → RelVs W (l ++ l') (vs ++ vs')
  | _, _, _, _, .nil, h => h
  | _, _, _, _, .cons h t, h' => .cons h (RelVs.append t h')
theorem RelVs.reverse {W : Wd} : ∀ {l : List AV} {vs : List Value}, RelVs W l vs → RelVs W l.reverse vs.reverse
  | _, _, .nil => .nil
  | _, _, .cons h t => by
    rw [List.reverse_cons, List.reverse_cons]
    exact (RelVs.reverse t).append (.cons h .nil)
inductive Cell where
  | list (l : List AV)
  | inst (C : Addr) (fs : List (Nat × AV))
  | deque (l : List AV)
  | strm (pre rest : List Nat)
noncomputable abbrev dqObj (vs : List Value) (k : Int) : Obj := { cls := .type "collections.deque", data := .fields (#[.none, rawInt k] ++ vs.toArray) }
inductive RelF (nm : Nat → Str) (W : Wd) : List (Nat × AV) → List DictEntry → Prop
  | nil : RelF nm W [] []
  | cons {i : Nat} {a : AV} {h : Int} {t : Tok} {v : Value} {fs : List (Nat × AV)} {es : List DictEntry} : RelV W a v → RelF nm W fs es → RelF nm W ((i, a) :: fs) (⟨h, .str (nm i) t, v⟩ :: es)
theorem RelF.to {nm : Nat → Str} {W W' : Wd} (hw : W.to W') {fs : List (Nat × AV)} {es : List DictEntry} (h : RelF nm W fs es) : RelF nm W' fs es := by
  induction h with
  | nil => exact .nil
  | cons h _ ih => exact .cons (h.to hw) ih
theorem RelF.mono {nm : Nat → Str} {W W' : Wd} (hw : W.le W') {fs : List (Nat × AV)} {es : List DictEntry} (h : RelF nm W fs es) : RelF nm W' fs es := h.to hw.to
theorem RelF.length {nm : Nat → Str} {W : Wd} : ∀ {fs : List (Nat × AV)} {es : List DictEntry}, RelF nm W fs es → fs.length = es.length
  | _, _, .nil => rfl
  | _, _, .cons _ t => by rw [List.length_cons, List.length_cons, RelF.length t]
inductive CellIs (nm : Nat → Str) (W : Wd) (a d : Addr) : Cell → List (Addr × Obj) → Prop
  | list {l : List AV} {vs : List Value} {n : Nat} : l.length ≤ 16777216 → RelVs W l vs → CellIs nm W a d (.list l) [(a, PySem.W.listOf vs.reverse.toArray n)]
  | inst {C : Addr} {fs : List (Nat × AV)} {es : List DictEntry} {n : Nat} : RelF nm W fs es → CellIs nm W a d (.inst C fs) [(a, instObj C d), (d, dictOf es n)]
  | deque {l : List AV} {vs : List Value} {k : Int} : l.length ≤ 16777216 → RelVs W l vs → CellIs nm W a d (.deque l) [(a, dqObj vs.reverse k)]
  | strm {pre rest : List Nat} {os : List (Addr × Obj)} : CellIs nm W a d (.inst 608 [(18, .str [10]), (10, .str (pre ++ rest)), (13, .int pre.length)]) os → CellIs nm W a d (.strm pre rest) os
theorem CellIs.to {nm : Nat → Str} {W W' : Wd} (hw : W.to W') {a d : Addr} {c : Cell} {os : List (Addr × Obj)} (h : CellIs nm W a d c os) : CellIs nm W' a d c os := by
  induction h with
  | list hl h => exact .list hl (h.to hw)
  | inst h => exact .inst (h.to hw)
  | deque hl h => exact .deque hl (h.to hw)
  | strm _ ih => exact .strm ih
theorem CellIs.mono {nm : Nat → Str} {W W' : Wd} (hw : W.le W') {a d : Addr} {c : Cell} {os : List (Addr × Obj)} (h : CellIs nm W a d c os) : CellIs nm W' a d c os := h.to hw.to
inductive CellsAre (nm : Nat → Str) (W : Wd) : List (Addr × Addr) → List Cell → List (Addr × Obj) → Prop
  | nil : CellsAre nm W [] [] []
  | cons {a d : Addr} {c : Cell} {os os' : List (Addr × Obj)} {ca : List (Addr × Addr)} {cs : List Cell} : CellIs nm W a d c os → CellsAre nm W ca cs os' → CellsAre nm W ((a, d) :: ca) (c :: cs) (os ++ os')
theorem CellsAre.to {nm : Nat → Str} {W W' : Wd} (hw : W.to W') {ca : List (Addr × Addr)} {cs : List Cell} {os : List (Addr × Obj)} (h : CellsAre nm W ca cs os) : CellsAre nm W' ca cs os := by
  induction h with
  | nil => exact .nil
  | cons h _ ih => exact .cons (h.to hw) ih
theorem CellsAre.mono {nm : Nat → Str} {W W' : Wd} (hw : W.le W') {ca : List (Addr × Addr)} {cs : List Cell} {os : List (Addr × Obj)} (h : CellsAre nm W ca cs os) : CellsAre nm W' ca cs os := h.to hw.to
theorem CellsAre.split {nm : Nat → Str} {W : Wd} : ∀ {ca : List (Addr × Addr)} {cs : List Cell} {os : List (Addr × Obj)}, CellsAre nm W ca cs os → ∀ {i : Nat} {c : Cell}, cs[i]? = some c →
    ∃ a d pre o post, ca[i]? = some (a, d) ∧ os = pre ++ (o ++ post) ∧ CellIs nm W a d c o ∧ ∀ {W' : Wd} (_ : W.le W') {c' : Cell} {o' : List (Addr × Obj)}, CellIs nm W' a d c' o' → CellsAre nm W' ca (cs.set i c') (pre ++ (o' ++ post))
  | _, _, _, .nil, _, _, e => by simp at e
  | _, _, _, .cons (a := a) (d := d) (os := o) (os' := o') h t, 0, c, e => by
    simp at e; subst e
    exact ⟨a, d, [], o, o', by simp, by simp, h, fun hw _ _ h' => by simpa using CellsAre.cons h' (t.mono hw)⟩
  | _, _, _, .cons (os := o0) h t, i + 1, c, e => by
    simp at e
    obtain ⟨a, d, pre, o, post, e1, e2, e3, e4⟩ := CellsAre.split t e
    refine ⟨a, d, o0 ++ pre, o, post, by simpa using e1, by rw [e2]; simp, e3, fun {W'} hw {c'} {o'} h' => ?_⟩
    have := CellsAre.cons (h.mono hw) (e4 hw h')
    simpa using this
theorem CellsAre.push {nm : Nat → Str} {W : Wd} : ∀ {ca : List (Addr × Addr)} {cs : List Cell} {os : List (Addr × Obj)}, CellsAre nm W ca cs os → ∀ {a d : Addr} {c : Cell} {o : List (Addr × Obj)}, CellIs nm W a d c o → CellsAre nm W (ca ++ [(a, d)]) (cs ++ [c]) (os ++ o)
  | _, _, _, .nil, _, _, _, o, h => by simpa using CellsAre.cons h .nil
  | _, _, _, .cons h t, _, _, _, _, h' => by
    have := CellsAre.cons h (t.push h')
    simpa using this
theorem CellsAre.length {nm : Nat → Str} {W : Wd} : ∀ {ca : List (Addr × Addr)} {cs : List Cell} {os : List (Addr × Obj)}, CellsAre nm W ca cs os → ca.length = cs.length
  | _, _, _, .nil => rfl
  | _, _, _, .cons _ t => by rw [List.length_cons, List.length_cons, CellsAre.length t]
structure AS where
  loc : List (Nat × AV)
  cells : List Cell
structure Cx where
  w : World
  h₀ : Heap
  L : Addr
  cn : Str
  cs : Scope
  f : Addr
  cd : Value
  A : Around
noncomputable abbrev Cx.env (X : Cx) : Env := envOf X.cn X.cs X.L X.f X.cd
noncomputable def LocOK (nm : Nat → Str) (W : Wd) (loc : List (Nat × AV)) (m : Str → Option Value) : Prop := ∀ i a, loc.lookup i = some a → ∃ v, m (nm i) = some v ∧ RelV W a v
theorem LocOK.to {nm : Nat → Str} {W W' : Wd} (hw : W.to W') {loc : List (Nat × AV)} {m : Str → Option Value} (h : LocOK nm W loc m) : LocOK nm W' loc m := fun i a e => by
  obtain ⟨v, h1, h2⟩ := h i a e
  exact ⟨v, h1, h2.to hw⟩
theorem LocOK.mono {nm : Nat → Str} {W W' : Wd} (hw : W.le W') {loc : List (Nat × AV)} {m : Str → Option Value} (h : LocOK nm W loc m) : LocOK nm W' loc m := h.to hw.to
noncomputable def St (nm : Nat → Str) (X : Cx) (W : Wd) (σ : AS) (s : Shared) : Prop :=
  ∃ m objs, Fr X.h₀ X.L s.heap m ∧ LocOK nm W σ.loc m ∧ CellsAre nm W W.ca σ.cells objs ∧ News X.h₀ X.L s.heap (W.imm ++ objs) ∧ ((W.imm ++ objs).map (·.1)).Nodup
noncomputable def EvAt (nm : Nat → Str) (X : Cx) (s : Shared) (W : Wd) (t : Sem Value) (r : AV) (σ' : AS) : Prop := ∀ (Q E : Value → Shared → Prop),
    (∀ v W' h' tk', W.le W' → RelV W' r v → St nm X W' σ' { s with heap := h', toks := tk' } → Q v { s with heap := h', toks := tk' }) →
    wpAny (model prg X.w) X.A t Q E s
noncomputable def TsAt (nm : Nat → Str) (X : Cx) (s : Shared) (W : Wd) (t : Sem Bool) (b : Bool) (σ' : AS) : Prop := ∀ (Q : Bool → Shared → Prop) (E : Value → Shared → Prop),
    (∀ W' h' tk', W.le W' → St nm X W' σ' { s with heap := h', toks := tk' } → Q b { s with heap := h', toks := tk' }) →
    wpAny (model prg X.w) X.A t Q E s
noncomputable def BinOK (nm : Nat → Str) (X : Cx) (t : Value → Value → Sem Value) (σ : AS) (a b r : AV) (σ' : AS) : Prop := ∀ s W va vb, St nm X W σ s → RelV W a va → RelV W b vb → EvAt nm X s W (t va vb) r σ'
noncomputable def TruOK (nm : Nat → Str) (X : Cx) (σ : AS) (a : AV) (b : Bool) : Prop := ∀ s W v, St nm X W σ s → RelV W a v → TsAt nm X s W (truthy v) b σ
noncomputable def EvOK (nm : Nat → Str) (X : Cx) (t : Sem Value) (σ : AS) (r : AV) (σ' : AS) : Prop :=
  ∀ s W, St nm X W σ s → ∀ (Q E : Value → Shared → Prop),
    (∀ v W' h' tk', W.le W' → RelV W' r v → St nm X W' σ' { s with heap := h', toks := tk' } → Q v { s with heap := h', toks := tk' }) →
    wpAny (model prg X.w) X.A t Q E s
noncomputable def TsOK (nm : Nat → Str) (X : Cx) (t : Sem Bool) (σ : AS) (b : Bool) (σ' : AS) : Prop :=
  ∀ s W, St nm X W σ s → ∀ (Q : Bool → Shared → Prop) (E : Value → Shared → Prop),
    (∀ W' h' tk', W.le W' → St nm X W' σ' { s with heap := h', toks := tk' } → Q b { s with heap := h', toks := tk' }) →
    wpAny (model prg X.w) X.A t Q E s
inductive AFl where
  | next | brk | cont
  | ret (a : AV)
inductive RelFl (W : Wd) : AFl → Flow → Prop
  | next : RelFl W .next .next
  | brk : RelFl W .brk .brk
  | cont : RelFl W .cont .cont
  | ret {a : AV} {v : Value} : RelV W a v → RelFl W (.ret a) (.ret v)
noncomputable def ExOK (nm : Nat → Str) (X : Cx) (t : Sem Flow) (σ : AS) (r : AFl) (σ' : AS) : Prop :=
  ∀ s W, St nm X W σ s → ∀ (Q : Flow → Shared → Prop) (E : Value → Shared → Prop),
    (∀ fl W' h' tk', W.le W' → RelFl W' r fl → St nm X W' σ' { s with heap := h', toks := tk' } → Q fl { s with heap := h', toks := tk' }) →
    wpAny (model prg X.w) X.A t Q E s
noncomputable def VsOK (nm : Nat → Str) (X : Cx) (t : Sem (List Value)) (σ : AS) (r : List AV) (σ' : AS) : Prop :=
  ∀ s W, St nm X W σ s → ∀ (Q : List Value → Shared → Prop) (E : Value → Shared → Prop),
    (∀ vs W' h' tk', W.le W' → RelVs W' r vs → St nm X W' σ' { s with heap := h', toks := tk' } → Q vs { s with heap := h', toks := tk' }) →
    wpAny (model prg X.w) X.A t Q E s
structure CxOK (X : Cx) (d u : Nat) : Prop where
  kin : (KF X.w).In X.h₀
  top : ∃ p loose mg mb, TopRead p loose mg mb X.h₀
  fn : X.cs.kind = .function
  room : X.A.depth + d < recursionLimit
  units : X.A.units + u < cLine
  hand : X.A.handled = none
section
variable {nm : Nat → Str} {X : Cx} {d u : Nat}
theorem R_loc (K : CxOK X d u) {i : Nat} {p : Pos} {σ : AS} {a : AV} (hk : X.env.kindOf (nm i) = some .local) (hd : (nm i == ("__debug__" : Str)) = false) (hl : σ.loc.lookup i = some a) :
    EvOK nm X (eval (emb nm (.loc i p)) X.env) σ a σ := by
  intro s W ⟨m, objs, F, hL, hc, N, nd⟩ Q E hQ
  obtain ⟨v, e, r⟩ := hL i a hl
  exact ld F e (hQ v W s.heap s.toks W.le_refl r ⟨m, objs, F, hL, hc, N, nd⟩) K.fn hk hd
theorem R_globK (K : CxOK X d u) {i : Nat} {p : Pos} {σ : AS} {v : Value} (hk : X.env.kindOf (nm i) = some .globalImplicit) (hd : (nm i == ("__debug__" : Str)) = false) (hv : nsIn (KF X.w) mainGlobals (nm i) = some (some v)) :
    EvOK nm X (eval (emb nm (.glob i p)) X.env) σ (.val v) σ := by
  intro s W S Q E hQ
  obtain ⟨m, objs, F, hL, hc, N, nd⟩ := S
  obtain ⟨_, _, _, _, T⟩ := K.top
  exact name_K F K.kin T hv (hQ v W s.heap s.toks W.le_refl (.val v) ⟨m, objs, F, hL, hc, N, nd⟩) K.fn hk hd
theorem R_globB (K : CxOK X d u) {i : Nat} {p : Pos} {σ : AS} {v : Value} (hk : X.env.kindOf (nm i) = some .globalImplicit) (hd : (nm i == ("__debug__" : Str)) = false) (hv : nsIn (KF X.w) mainGlobals (nm i) = some none)
    (hb : bootBuiltins (nm i) = some v) (hn : nm i ≠ Str.ofString "__name__") :
    EvOK nm X (eval (emb nm (.glob i p)) X.env) σ (.val v) σ := by
  intro s W S Q E hQ
  obtain ⟨m, objs, F, hL, hc, N, nd⟩ := S
  obtain ⟨_, _, _, _, T⟩ := K.top
  exact name_B F K.kin T hv hb hn (hQ v W s.heap s.toks W.le_refl (.val v) ⟨m, objs, F, hL, hc, N, nd⟩) K.fn hk hd
theorem R_cstr {i k : Nat} {p : Pos} {σ : AS} {l : List Nat} (hl : nm i = ⟨l.toArray⟩) (hz : l.length ≤ 16777216) : EvOK nm X (eval (emb nm (.cstr i k p)) X.env) σ (.str l) σ := by
  intro s W S Q E hQ
  refine wpAny_Constant_str ?_
  rw [hl]
  exact hQ _ W s.heap _ W.le_refl (.str l _ hz) S
theorem R_cint {n : Int} {k : Nat} {p : Pos} {σ : AS} : EvOK nm X (eval (emb nm (.cint n k p)) X.env) σ (.int n) σ := by
  intro s W S Q E hQ
  exact wpAny_Constant_int (hQ _ W s.heap _ W.le_refl (.int n _) S)
theorem R_cnone {k : Nat} {p : Pos} {σ : AS} : EvOK nm X (eval (emb nm (.cnone k p)) X.env) σ .none σ := by
  intro s W S Q E hQ
  exact wpAny_Constant_none (hQ _ W s.heap s.toks W.le_refl .none S)
theorem R_cbool {b : Bool} {k : Nat} {p : Pos} {σ : AS} : EvOK nm X (eval (emb nm (.cbool b k p)) X.env) σ (.bool b) σ := by
  intro s W S Q E hQ
  exact wpAny_Constant_bool (hQ _ W s.heap s.toks W.le_refl (.bool b) S)
theorem St.inst {W : Wd} {σ : AS} {s : Shared} (S : St nm X W σ s) {k : Nat} {C : Addr} {fs : List (Nat × AV)} (hc : σ.cells[k]? = some (.inst C fs)) :
    ∃ x dx es n, W.ca[k]? = some (x, dx) ∧ RelF nm W fs es ∧ InstAt s.heap x (instObj C dx) C (some (dictOf es n)) := by
  obtain ⟨m, objs, F, hL, hcs, N, nd⟩ := S
  obtain ⟨a, d, pre, o, post, e1, e2, e3, e4⟩ := hcs.split hc
  cases e3 with
  | inst hf =>
    rename_i es n
    refine ⟨a, d, es, n, e1, hf, InstAt.of_news N ?_ ?_⟩
    · rw [e2]; simp
    · rw [e2]; simp
theorem RelV.isRef {W : Wd} {k : Nat} {v : Value} (h : RelV W (.cell k) v) : ∃ a d, v = .ref a ∧ W.ca[k]? = some (a, d) := by
  cases h with
  | cell e => exact ⟨_, _, rfl, e⟩
noncomputable def AV.plain : AV → Bool
  | .val _ => false
  | _ => true
theorem RelV.handed {W : Wd} {a : AV} {v : Value} (h : RelV W a v) (p : a.plain = true) : handedIn v = true := by
  cases h <;> first | rfl | cases p
theorem getL_of {W : Wd} (hinj : ∀ i j, nm i = nm j → i = j) : ∀ {fs : List (Nat × AV)} {es : List DictEntry}, RelF nm W fs es → ∀ {i : Nat} {a : AV}, fs.lookup i = some a → ∃ v, getL (nm i) es = some (some v) ∧ RelV W a v
  | _, _, .nil, _, _, e => by cases e
  | _, _, .cons (i := j) (v := v) (t := t) hv hr, i, a, e => by
    by_cases q : i = j
    · subst q
      simp only [List.lookup, beq_self_eq_true] at e
      cases e
      refine ⟨v, ?_, hv⟩
      simp [getL, List.find?, Value.isStr]
    · have hb : (i == j) = false := by simpa using q
      simp only [List.lookup, hb] at e
      obtain ⟨v', h1, h2⟩ := getL_of hinj hr e
      refine ⟨v', ?_, h2⟩
      have hne : (nm j == nm i) = false := by
        cases hh : nm j == nm i with
        | false => rfl
        | true => exact absurd (hinj _ _ (eq_of_beq hh)).symm q
      unfold getL at h1 ⊢
      simp only [List.find?, Value.isStr, hne, List.any] at h1 ⊢
      simpa [DictEntry.refKey] using h1
end
section
variable {nm : Nat → Str} {X : Cx} {d u : Nat}
theorem getL_none {W : Wd} (hinj : ∀ i j, nm i = nm j → i = j) : ∀ {fs : List (Nat × AV)} {es : List DictEntry}, RelF nm W fs es → ∀ {i : Nat}, fs.lookup i = none → getL (nm i) es = some none
  | _, _, .nil, _, _ => rfl
  | _, _, .cons (i := j) (v := v) (t := t) hv hr, i, e => by
    by_cases q : i = j
    · subst q
      simp only [List.lookup, beq_self_eq_true] at e
      cases e
    · have hb : (i == j) = false := by simpa using q
      simp only [List.lookup, hb] at e
      have h1 := getL_none hinj hr e
      have hne : (nm j == nm i) = false := by
        cases hh : nm j == nm i with
        | false => rfl
        | true => exact absurd (hinj _ _ (eq_of_beq hh)).symm q
      unfold getL at h1 ⊢
      simp only [List.find?, Value.isStr, hne, List.any] at h1 ⊢
      simpa [DictEntry.refKey] using h1
structure OwnOK (w : World) (C : Addr) (name : Str) : Prop where
  g : plainGet (KF w) C name = true
  h : hasDictIn (KF w) C = true
  f : ∃ attr, findIn (KF w) (.ref C) name = some attr ∧ noGet (KF w) attr = true
structure SetOK (w : World) (C : Addr) (name : Str) : Prop where
  s : findIn (KF w) (.ref C) "__setattr__" = some (some (.builtin "object.__setattr__"))
  p : plainOver (KF w) C = true
  t : takerIn (KF w) C name = some none
  h : hasDictIn (KF w) C = true
theorem getAttr_own (hinj : ∀ i j, nm i = nm j → i = j) (K : CxOK X d u) {σ : AS} {W : Wd} {s : Shared} (S : St nm X W σ s) {k i : Nat} {C : Addr} {fs : List (Nat × AV)} {a : AV} {x dx : Addr} (hca : W.ca[k]? = some (x, dx))
    (hc : σ.cells[k]? = some (.inst C fs)) (hl : fs.lookup i = some a) (hp : a.plain = true) (O : OwnOK X.w C (nm i)) {Q E : Value → Shared → Prop}
    (h : ∀ v, RelV W a v → St nm X W σ { s with toks := s.toks + 1 } → Q v { s with toks := s.toks + 1 }) : wpAny (model prg X.w) X.A (getAttr (.ref x) (nm i) true) Q E s := by
  obtain ⟨x', dx', es, n, hca', hf, I⟩ := S.inst hc
  rw [hca] at hca'
  cases hca'
  obtain ⟨v, hv, hr⟩ := getL_of hinj hf hl
  obtain ⟨attr, ha, hn⟩ := O.f
  obtain ⟨m, objs, F, hL, hcs, N, nd⟩ := S
  exact get_own F K.kin I O.g O.h ha hn hv (hr.handed hp) (h v hr ⟨m, objs, F, hL, hcs, N, nd⟩)
noncomputable def PE.isBase : PE → Bool
  | .loc .. => true
  | .attr .. => true
  | .sub .. => true
  | .glob .. => true
  | _ => false
theorem base_emb {e : PE} (h : e.isBase = true) (name : Str) (env : Env) : attributeBase (emb nm e) name env (eval (emb nm e) env) = eval (emb nm e) env := by
  cases e <;> first | (cases h; done) | rfl
theorem attr_eq {e : PE} (h : e.isBase = true) (name : Str) (pos : Pos) (env : Env) : eval ((emb nm e).Attribute name pos) env = (do
          let o ← eval (emb nm e) env
          standAt pos.atName
          let r ← holding [o] (getAttr o name true)
          letTemporaryGo (emb nm e) o r
          pure r) := by
  have : eval ((emb nm e).Attribute name pos) env = (do
          let o ← attributeBase (emb nm e) name env (eval (emb nm e) env)
          standAt pos.atName
          let r ← holding [o] (getAttr o name true)
          letTemporaryGo (emb nm e) o r
          pure r) := arm_eval_Attribute _ _ _ _
  rw [this, base_emb h]
theorem R_attr (hinj : ∀ i j, nm i = nm j → i = j) (K : CxOK X d u) {e : PE} {i k : Nat} {p : Pos} {σ σ₁ : AS} {C : Addr} {fs : List (Nat × AV)} {a : AV} (hb : e.isBase = true) (he : EvOK nm X (eval (emb nm e) X.env) σ (.cell k) σ₁)
    (hc : σ₁.cells[k]? = some (.inst C fs)) (hl : fs.lookup i = some a) (hp : a.plain = true) (O : OwnOK X.w C (nm i)) : EvOK nm X (eval (emb nm (.attr e i p)) X.env) σ a σ₁ := by
  intro s W S Q E hQ
  refine Attribute_any_ ?_ (attr_eq hb _ _ _)
  refine he s W S _ _ ?_
  intro v W' h' tk' hw hv S'
  obtain ⟨x, dx, rfl, hca⟩ := hv.isRef
  exact getAttr_own hinj K S' hca hc hl hp O fun v hr S'' => hQ v W' h' _ hw hr S''
theorem nodup_upd {pre post : List (Addr × Obj)} {d : Addr} {o : Obj} (o' : Obj) (nd : ((pre ++ (d, o) :: post).map (·.1)).Nodup) : Upd d o o' (pre ++ (d, o) :: post) (pre ++ (d, o') :: post) := by
  induction pre with
  | nil =>
    refine Upd.head fun p hp e => ?_
    simp only [List.nil_append, List.map_cons, List.nodup_cons] at nd
    exact nd.1 (e ▸ List.mem_map_of_mem hp)
  | cons q pre ih =>
    simp only [List.cons_append, List.map_cons, List.nodup_cons] at nd
    refine Upd.tail (fun e => nd.1 ?_) (ih nd.2)
    rw [e]; simp
noncomputable def putF (i : Nat) (a : AV) : List (Nat × AV) → List (Nat × AV)
  | [] => [(i, a)]
  | p :: r => if i == p.1 then (i, a) :: r else p :: putF i a r
theorem putL_rel {W : Wd} (hinj : ∀ i j, nm i = nm j → i = j) {i : Nat} {a : AV} {v : Value} {hsh : Int} {t : Tok} (hv : RelV W a v) : ∀ {fs : List (Nat × AV)} {es : List DictEntry}, RelF nm W fs es → RelF nm W (putF i a fs) (putL (nm i) hsh (.str (nm i) t) v es)
  | _, _, .nil => .cons hv .nil
  | _, _, .cons (i := j) (v := v') (t := t') hv' hr => by
    by_cases q : i = j
    · subst q
      simp only [putF, beq_self_eq_true, if_true, putL, Value.isStr]
      exact .cons hv hr
    · have hb : (i == j) = false := by simpa using q
      have hne : (nm j == nm i) = false := by
        cases hh : nm j == nm i with
        | false => rfl
        | true => exact absurd (hinj _ _ (eq_of_beq hh)).symm q
      simp only [putF, hb, putL, Value.isStr, hne]
      exact .cons hv' (putL_rel hinj hv hr)
theorem getL_isSome {W : Wd} (hinj : ∀ i j, nm i = nm j → i = j) {fs : List (Nat × AV)} {es : List DictEntry} (h : RelF nm W fs es) (i : Nat) : (getL (nm i) es).isSome = true := by
  cases e : fs.lookup i with
  | none => rw [getL_none hinj h e]; rfl
  | some a => obtain ⟨v, e', _⟩ := getL_of hinj h e; rw [e']; rfl
theorem putF_length (i : Nat) (a : AV) : ∀ fs : List (Nat × AV), (putF i a fs).length ≤ fs.length + 1
  | [] => Nat.le_refl _
  | p :: r => by
    unfold putF
    split
    · simp
    · have := putF_length i a r; simp; exact this
theorem setAttr_own (hinj : ∀ i j, nm i = nm j → i = j) (K : CxOK X d u) {σ : AS} {W : Wd} {s : Shared} (S : St nm X W σ s) {k i : Nat} {C : Addr} {fs : List (Nat × AV)} {a : AV} {v : Value} {x dx : Addr} (hca : W.ca[k]? = some (x, dx))
    (hc : σ.cells[k]? = some (.inst C fs)) (hv : RelV W a v) (hz : fs.length < 1000) (O : SetOK X.w C (nm i)) {Q : Unit → Shared → Prop} {E : Value → Shared → Prop}
    (h : ∀ h', St nm X W { σ with cells := σ.cells.set k (.inst C (putF i a fs)) } { s with heap := h', toks := s.toks + 2 } → Q () { s with heap := h', toks := s.toks + 2 }) : wpAny (model prg X.w) X.A (setAttr (.ref x) (nm i) v) Q E s := by
  obtain ⟨x', dx', es, n, hca', hf, I⟩ := S.inst hc
  obtain ⟨m, objs, F, hL, hcs, N, nd⟩ := S
  obtain ⟨a', d', pre, o, post, e1, e2, e3, e4⟩ := hcs.split hc
  rw [hca] at hca' e1
  cases hca'
  cases e1
  cases e3 with
  | inst hf' =>
    rename_i es' n'
    have I' : InstAt s.heap x (instObj C dx) C (some (dictOf es' n')) := InstAt.of_news N (by rw [e2]; simp) (by rw [e2]; simp)
    have key : W.imm ++ objs = (W.imm ++ (pre ++ [(x, instObj C dx)])) ++ (dx, dictOf es' n') :: post := by rw [e2]; simp
    rw [key] at N nd
    have hR := putL_rel (i := i) hinj (hsh := PyData.keyHash X.w.params (nm i)) (t := s.toks + 1) hv hf'
    refine set_dict F K.kin N I' rfl O.s O.p O.t O.h (getL_isSome hinj hf' i) rfl (nodup_upd _ nd) ?_ ?_
    · rw [← hR.length]; exact Nat.le_trans (putF_length i a fs) hz
    · intro h' F' N'
      refine h h' ⟨m, pre ++ ([(x, instObj C dx), (dx, dictOf (putL (nm i) (PyData.keyHash X.w.params (nm i)) (.str (nm i) (s.toks + 1)) v es') (putN (nm i) es' n'))] ++ post), F', hL, e4 W.le_refl (.inst hR), ?_, ?_⟩
      · have : W.imm ++ (pre ++ ([(x, instObj C dx), (dx, dictOf (putL (nm i) (PyData.keyHash X.w.params (nm i)) (.str (nm i) (s.toks + 1)) v es') (putN (nm i) es' n'))] ++ post)) = (W.imm ++ (pre ++ [(x, instObj C dx)])) ++ (dx, dictOf (putL (nm i) (PyData.keyHash X.w.params (nm i)) (.str (nm i) (s.toks + 1)) v es') (putN (nm i) es' n')) :: post := by simp
        rw [this]; exact N'
      · have : W.imm ++ (pre ++ ([(x, instObj C dx), (dx, dictOf (putL (nm i) (PyData.keyHash X.w.params (nm i)) (.str (nm i) (s.toks + 1)) v es') (putN (nm i) es' n'))] ++ post)) = (W.imm ++ (pre ++ [(x, instObj C dx)])) ++ (dx, dictOf (putL (nm i) (PyData.keyHash X.w.params (nm i)) (.str (nm i) (s.toks + 1)) v es') (putN (nm i) es' n')) :: post := by simp
        rw [this]
        simp only [List.map_append, List.map_cons] at nd ⊢
        exact nd
theorem R_setattr (hinj : ∀ i j, nm i = nm j → i = j) (K : CxOK X d u) {o e : PE} {i k : Nat} {ap p : Pos} {σ σ₁ σ₂ : AS} {C : Addr} {fs : List (Nat × AV)} {a : AV} (hsw : swapsWith (emb nm e) (some ((emb nm o).Attribute (nm i) ap)) p.line X.env = pure false)
    (he : EvOK nm X (eval (emb nm e) X.env) σ a σ₁) (ho : EvOK nm X (eval (emb nm o) X.env) σ₁ (.cell k) σ₂)
    (hc : σ₂.cells[k]? = some (.inst C fs)) (hz : fs.length < 1000) (O : SetOK X.w C (nm i)) :
    ExOK nm X (exec (embS nm (.setattr o i ap e p)) X.env) σ .next { σ₂ with cells := σ₂.cells.set k (.inst C (putF i a fs)) } := by
  intro s W S Q E hQ
  refine plainObj_wpAny_Assign_Attribute ?_ hsw
  refine he s W S _ _ fun v W' h' tk' hw hv S' => ?_
  refine ho _ W' S' _ _ fun v₂ W₂ h₂ tk₂ hw₂ hv₂ S₂ => ?_
  obtain ⟨x, dx, rfl, hca⟩ := hv₂.isRef
  exact setAttr_own hinj K S₂ hca hc (hv.mono hw₂) hz O fun h₃ S₃ => hQ .next W₂ h₃ _ (Wd.le_trans hw hw₂) .next S₃
end
section
variable {nm : Nat → Str} {X : Cx} {d u : Nat}
noncomputable def PE.real : PE → Bool
  | .opq _ => false
  | .nil => false
  | .cons _ _ => false
  | _ => true
theorem noSwap {e : PE} (h : e.real = true) (t : Option Expr) (n : Nat) (env : Env) : swapsWith (emb nm e) t n env = pure false := by
  cases e <;> first | (cases h; done) | rfl
theorem noMarks {e : PE} (h : e.real = true) (op : CmpOp) : behindInMarks op (emb nm e) = false := by
  cases e <;> first | (cases h; done) | rfl
theorem St.same {W : Wd} {σ : AS} {s : Shared} (S : St nm X W σ s) {tk : Nat} : St nm X W σ { s with toks := tk } := S
theorem St.store {W : Wd} {σ : AS} {s : Shared} {i : Nat} {a : AV} {v : Value} (hinj : ∀ i j, nm i = nm j → i = j) (K : CxOK X d u) (S : St nm X W σ s) (hk : X.env.kindOf (nm i) = some .local) (hv : RelV W a v) {Q : Unit → Shared → Prop} {E : Value → Shared → Prop}
    (h : ∀ h', St nm X W { σ with loc := putF i a σ.loc } { s with heap := h', toks := s.toks + 1 } → Q () { s with heap := h', toks := s.toks + 1 }) : wpAny (model prg X.w) X.A (storeName X.env (nm i) v) Q E s := by
  obtain ⟨m, objs, F, hL, hc, N, nd⟩ := S
  refine stN F N (fun h' F' N' => h h' ⟨_, objs, F', ?_, hc, N', nd⟩) K.fn hk
  intro j b e
  have key : ∀ (l : List (Nat × AV)), (putF i a l).lookup j = if j = i then some a else l.lookup j := by
    intro l
    induction l with
    | nil =>
      by_cases q : j = i
      · subst q; simp [putF, List.lookup]
      · have : (j == i) = false := by simpa using q
        simp [putF, List.lookup, this, q]
    | cons p r ih =>
      unfold putF
      by_cases z : i = p.1
      · subst z
        simp only [beq_self_eq_true, if_true]
        by_cases q : j = p.1
        · subst q; simp [List.lookup]
        · have : (j == p.1) = false := by simpa using q
          simp [List.lookup, this, q]
      · have z' : (i == p.1) = false := by simpa using z
        simp only [z', Bool.false_eq_true, if_false]
        by_cases q : j = p.1
        · subst q
          have : p.1 ≠ i := fun e => z e.symm
          simp [List.lookup, this]
        · have : (j == p.1) = false := by simpa using q
          obtain ⟨p1, p2⟩ := p
          simp only [List.lookup, this]
          exact ih
  rw [key] at e
  by_cases q : j = i
  · subst q
    rw [if_pos rfl] at e
    cases e
    exact ⟨v, by simp, hv⟩
  · rw [if_neg q] at e
    obtain ⟨v', e1, e2⟩ := hL j b e
    exact ⟨v', (if_neg (fun z => q (hinj _ _ z))).trans e1, e2⟩
theorem R_assign (hinj : ∀ i j, nm i = nm j → i = j) (K : CxOK X d u) {i : Nat} {ip p : Pos} {e : PE} {σ σ₁ : AS} {a : AV} (hr : e.real = true) (hk : X.env.kindOf (nm i) = some .local) (he : EvOK nm X (eval (emb nm e) X.env) σ a σ₁) :
    ExOK nm X (exec (embS nm (.assign i ip e p)) X.env) σ .next { σ₁ with loc := putF i a σ₁.loc } := by
  intro s W S Q E hQ
  refine wpAny_Assign_Name ?_ (noSwap hr _ _ _)
  refine he s W S _ _ fun v W' h' tk' hw hv S' => ?_
  exact S'.store hinj K hk hv fun h₂ S₂ => hQ .next W' h₂ _ hw .next S₂
theorem R_ret {p : Pos} {e : PE} {σ σ₁ : AS} {a : AV} (he : EvOK nm X (eval (emb nm e) X.env) σ a σ₁) : ExOK nm X (exec (embS nm (.ret e p)) X.env) σ (.ret a) σ₁ := by
  intro s W S Q E hQ
  refine wpAny_Return_some ?_
  exact he s W S _ _ fun v W' h' tk' hw hv S' => hQ _ W' h' tk' hw (.ret hv) S'
theorem R_brk {p : Pos} {σ : AS} : ExOK nm X (exec (embS nm (.brk p)) X.env) σ .brk σ := by
  intro s W S Q E hQ
  exact wpAny_Break (hQ .brk W s.heap s.toks W.le_refl .brk S)
theorem R_cont {p : Pos} {σ : AS} : ExOK nm X (exec (embS nm (.cont p)) X.env) σ .cont σ := by
  intro s W S Q E hQ
  exact wpAny_Continue (hQ .cont W s.heap s.toks W.le_refl .cont S)
theorem R_expr (K : CxOK X d u) {p : Pos} {e : PE} {σ σ₁ : AS} {a : AV} (hr : e.real = true) (he : EvOK nm X (eval (emb nm e) X.env) σ a σ₁) : ExOK nm X (exec (embS nm (.expr e p)) X.env) σ .next σ₁ := by
  intro s W S Q E hQ
  refine wpAny_Expr_any ?_ ?_ (noSwap hr _ _ _)
  · exact he s W S _ _ fun v W' h' tk' hw hv S' => hQ _ W' h' tk' hw .next S'
  · unfold interactive
    have : X.env.scope.kind = .function := K.fn
    rw [this]; rfl
theorem R_if {t : PE} {b e : PS} {p : Pos} {σ σ₁ σ₂ : AS} {bb : Bool} {r : AFl} (ht : TsOK nm X (isTrue (emb nm t) X.env (eval (emb nm t) X.env)) σ bb σ₁)
    (hb : ExOK nm X (execs (embSs nm (bif bb then b else e)) X.env) σ₁ r σ₂) : ExOK nm X (exec (embS nm (.ite t b e p)) X.env) σ r σ₂ := by
  intro s W S Q E hQ
  refine wpAny_If ?_
  refine ht s W S _ _ fun W' h' tk' hw S' => ?_
  cases bb with
  | true =>
    rw [if_pos rfl]
    exact hb _ W' S' _ _ fun fl W₂ h₂ tk₂ hw₂ hf S₂ => hQ fl W₂ h₂ tk₂ (Wd.le_trans hw hw₂) hf S₂
  | false =>
    rw [if_neg (by simp)]
    exact hb _ W' S' _ _ fun fl W₂ h₂ tk₂ hw₂ hf S₂ => hQ fl W₂ h₂ tk₂ (Wd.le_trans hw hw₂) hf S₂
theorem R_execs_nil {σ : AS} : ExOK nm X (execs [] X.env) σ .next σ := by
  intro s W S Q E hQ
  exact wpAny_execs_nil (hQ .next W s.heap s.toks W.le_refl .next S)
theorem R_execs_next {st : Stmt} {rest : List Stmt} {σ σ₁ σ₂ : AS} {r : AFl} (h1 : ExOK nm X (exec st X.env) σ .next σ₁) (h2 : ExOK nm X (execs rest X.env) σ₁ r σ₂) : ExOK nm X (execs (st :: rest) X.env) σ r σ₂ := by
  intro s W S Q E hQ
  refine wpAny_execs_cons ?_
  refine h1 s W S _ _ fun fl W' h' tk' hw hf S' => ?_
  cases hf
  exact h2 _ W' S' _ _ fun fl W₂ h₂ tk₂ hw₂ hf S₂ => hQ fl W₂ h₂ tk₂ (Wd.le_trans hw hw₂) hf S₂
noncomputable def AFl.leaves : AFl → Bool
  | .next => false
  | _ => true
theorem R_execs_out {st : Stmt} {rest : List Stmt} {σ σ₁ : AS} {r : AFl} (h1 : ExOK nm X (exec st X.env) σ r σ₁) (hr : r.leaves = true) : ExOK nm X (execs (st :: rest) X.env) σ r σ₁ := by
  intro s W S Q E hQ
  refine wpAny_execs_cons ?_
  refine h1 s W S _ _ fun fl W' h' tk' hw hf S' => ?_
  cases hf with
  | next => cases hr
  | brk => exact hQ _ W' h' tk' hw .brk S'
  | cont => exact hQ _ W' h' tk' hw .cont S'
  | ret hv => exact hQ _ W' h' tk' hw (.ret hv) S'
theorem R_bin {l r : PE} {op : Operator} {p : Pos} {σ σ₁ σ₂ σ₃ : AS} {a b c : AV} (hl : EvOK nm X (eval (emb nm l) X.env) σ a σ₁) (hr : EvOK nm X (eval (emb nm r) X.env) σ₁ b σ₂) (ho : BinOK nm X (binaryOp op) σ₂ a b c σ₃) :
    EvOK nm X (eval (emb nm (.bin l op r p)) X.env) σ c σ₃ := by
  intro s W S Q E hQ
  refine wpAny_BinOp ?_
  refine hl s W S _ _ fun va W₁ h₁ tk₁ hw₁ ha S₁ => ?_
  refine hr _ W₁ S₁ _ _ fun vb W₂ h₂ tk₂ hw₂ hb S₂ => ?_
  exact ho _ W₂ va vb S₂ (ha.mono hw₂) hb _ _ fun v W₃ h₃ tk₃ hw₃ hv S₃ => hQ v W₃ h₃ tk₃ (Wd.le_trans hw₁ (Wd.le_trans hw₂ hw₃)) hv S₃
theorem R_cmp {l r : PE} {op : CmpOp} {p : Pos} {σ σ₁ σ₂ σ₃ : AS} {a b c : AV} (hreal : r.real = true) (hl : EvOK nm X (eval (emb nm l) X.env) σ a σ₁) (hr : EvOK nm X (eval (emb nm r) X.env) σ₁ b σ₂) (ho : BinOK nm X (compareOp op) σ₂ a b c σ₃) :
    EvOK nm X (eval (emb nm (.cmp l op r p)) X.env) σ c σ₃ := by
  intro s W S Q E hQ
  refine wpAny_Compare1 ?_ (noMarks hreal _)
  refine hl s W S _ _ fun va W₁ h₁ tk₁ hw₁ ha S₁ => ?_
  refine hr _ W₁ S₁ _ _ fun vb W₂ h₂ tk₂ hw₂ hb S₂ => ?_
  exact ho _ W₂ va vb S₂ (ha.mono hw₂) hb _ _ fun v W₃ h₃ tk₃ hw₃ hv S₃ => hQ v W₃ h₃ tk₃ (Wd.le_trans hw₁ (Wd.le_trans hw₂ hw₃)) hv S₃
theorem T_cmp {l r : PE} {op : CmpOp} {p : Pos} {whole : Sem Value} {σ σ₁ σ₂ σ₃ : AS} {a b : AV} {c : Bool} (hreal : r.real = true) (hl : EvOK nm X (eval (emb nm l) X.env) σ a σ₁) (hr : EvOK nm X (eval (emb nm r) X.env) σ₁ b σ₂) (ho : BinOK nm X (compareOp op) σ₂ a b (.bool c) σ₃) :
    TsOK nm X (isTrue (emb nm (.cmp l op r p)) X.env whole) σ c σ₃ := by
  intro s W S Q E hQ
  refine wpAny_isTrue_Compare1 ?_ (noMarks hreal _)
  refine hl s W S _ _ fun va W₁ h₁ tk₁ hw₁ ha S₁ => ?_
  refine hr _ W₁ S₁ _ _ fun vb W₂ h₂ tk₂ hw₂ hb S₂ => ?_
  refine ho _ W₂ va vb S₂ (ha.mono hw₂) hb _ _ fun v W₃ h₃ tk₃ hw₃ hv S₃ => ?_
  cases hv
  exact wpAny_truthy_bool (hQ W₃ h₃ tk₃ (Wd.le_trans hw₁ (Wd.le_trans hw₂ hw₃)) S₃)
theorem T_not {e : PE} {p : Pos} {whole : Sem Value} {σ σ₁ : AS} {b : Bool} (h : TsOK nm X (isTrue (emb nm e) X.env (eval (emb nm e) X.env)) σ b σ₁) : TsOK nm X (isTrue (emb nm (.not e p)) X.env whole) σ (!b) σ₁ := by
  intro s W S Q E hQ
  refine wpAny_isTrue_Not ?_
  exact h s W S _ _ fun W' h' tk' hw S' => hQ W' h' tk' hw S'
noncomputable def PE.asValue : PE → Bool
  | .loc .. | .glob .. | .cstr .. | .cint .. | .cnone .. | .cbool .. | .attr .. | .callN .. | .callM .. | .list .. | .tup .. | .sub .. | .slc .. | .bin .. => true
  | _ => false
theorem T_val {e : PE} {σ σ₁ : AS} {a : AV} {b : Bool} (hv : e.asValue = true) (h : EvOK nm X (eval (emb nm e) X.env) σ a σ₁) (ht : TruOK nm X σ₁ a b) : TsOK nm X (isTrue (emb nm e) X.env (eval (emb nm e) X.env)) σ b σ₁ := by
  intro s W S Q E hQ
  refine wpAny_isTrue_value ?_ ?_
  · refine h s W S _ _ fun v W' h' tk' hw hr S' => ?_
    exact ht _ W' v S' hr _ _ fun W₂ h₂ tk₂ hw₂ S₂ => hQ W₂ h₂ tk₂ (Wd.le_trans hw hw₂) S₂
  · cases e <;> first | (cases hv; done) | rfl
theorem T_all_nil {op : BoolOp} {σ : AS} : TsOK nm X (allTrue op [] X.env) σ (op == .And) σ := by
  intro s W S Q E hQ
  cases op
  · exact wpAny_allTrue_And_nil (hQ W s.heap s.toks W.le_refl S)
  · exact wpAny_allTrue_Or_nil (hQ W s.heap s.toks W.le_refl S)
theorem T_all_on {op : BoolOp} {h : PE} {rest : List Expr} {σ σ₁ σ₂ : AS} {b c : Bool} (hb : (b == (op == .And)) = true) (h1 : TsOK nm X (isTrue (emb nm h) X.env (eval (emb nm h) X.env)) σ b σ₁) (h2 : TsOK nm X (allTrue op rest X.env) σ₁ c σ₂) :
    TsOK nm X (allTrue op (emb nm h :: rest) X.env) σ c σ₂ := by
  intro s W S Q E hQ
  cases op with
  | And =>
    have : b = true := by cases b <;> simp_all
    subst this
    refine wpAny_allTrue_And_cons (h1 s W S _ _ fun W' h' tk' hw S' => ?_)
    rw [if_pos rfl]
    exact h2 _ W' S' _ _ fun W₂ h₂ tk₂ hw₂ S₂ => hQ W₂ h₂ tk₂ (Wd.le_trans hw hw₂) S₂
  | Or =>
    have : b = false := by cases b <;> simp_all
    subst this
    refine wpAny_allTrue_Or_cons (h1 s W S _ _ fun W' h' tk' hw S' => ?_)
    rw [if_neg (by simp)]
    exact h2 _ W' S' _ _ fun W₂ h₂ tk₂ hw₂ S₂ => hQ W₂ h₂ tk₂ (Wd.le_trans hw hw₂) S₂
theorem T_all_off {op : BoolOp} {h : PE} {rest : List Expr} {σ σ₁ : AS} {b : Bool} (hb : (b == (op == .Or)) = true) (h1 : TsOK nm X (isTrue (emb nm h) X.env (eval (emb nm h) X.env)) σ b σ₁) : TsOK nm X (allTrue op (emb nm h :: rest) X.env) σ b σ₁ := by
  intro s W S Q E hQ
  cases op with
  | And =>
    have : b = false := by cases b <;> simp_all
    subst this
    refine wpAny_allTrue_And_cons (h1 s W S _ _ fun W' h' tk' hw S' => ?_)
    rw [if_neg (by simp)]
    exact hQ W' h' tk' hw S'
  | Or =>
    have : b = true := by cases b <;> simp_all
    subst this
    refine wpAny_allTrue_Or_cons (h1 s W S _ _ fun W' h' tk' hw S' => ?_)
    rw [if_pos rfl]
    exact hQ W' h' tk' hw S'
theorem T_bop {op : BoolOp} {es : PE} {p : Pos} {whole : Sem Value} {σ σ₁ : AS} {b : Bool} (h : TsOK nm X (allTrue op (embL nm es) X.env) σ b σ₁) : TsOK nm X (isTrue (emb nm (.bop op es p)) X.env whole) σ b σ₁ := by
  intro s W S Q E hQ
  exact wpAny_isTrue_BoolOp (h s W S Q E hQ)
theorem R_ite {t a b : PE} {p : Pos} {σ σ₁ σ₂ : AS} {bb : Bool} {r : AV} (ht : TsOK nm X (isTrue (emb nm t) X.env (eval (emb nm t) X.env)) σ bb σ₁) (h : EvOK nm X (eval (emb nm (bif bb then a else b)) X.env) σ₁ r σ₂) :
    EvOK nm X (eval (emb nm (.ite t a b p)) X.env) σ r σ₂ := by
  intro s W S Q E hQ
  refine wpAny_IfExp ?_
  refine ht s W S _ _ fun W' h' tk' hw S' => ?_
  cases bb with
  | true =>
    rw [if_pos rfl]
    exact h _ W' S' _ _ fun v W₂ h₂ tk₂ hw₂ hv S₂ => hQ v W₂ h₂ tk₂ (Wd.le_trans hw hw₂) hv S₂
  | false =>
    rw [if_neg (by simp)]
    exact h _ W' S' _ _ fun v W₂ h₂ tk₂ hw₂ hv S₂ => hQ v W₂ h₂ tk₂ (Wd.le_trans hw hw₂) hv S₂
theorem R_aug (hinj : ∀ i j, nm i = nm j → i = j) (K : CxOK X d u) {o e : PE} {i k : Nat} {ap p : Pos} {op : Operator} {σ σ₁ σ₂ σ₃ : AS} {C : Addr} {fs fs' : List (Nat × AV)} {a b c : AV}
    (ho : EvOK nm X (eval (emb nm o) X.env) σ (.cell k) σ₁) (hc : σ₁.cells[k]? = some (.inst C fs)) (hl : fs.lookup i = some a) (hp : a.plain = true) (O : OwnOK X.w C (nm i))
    (he : EvOK nm X (eval (emb nm e) X.env) σ₁ b σ₂) (hop : BinOK nm X (inplaceOp op) σ₂ a b c σ₃) (hc' : σ₃.cells[k]? = some (.inst C fs')) (hz : fs'.length < 1000) (O' : SetOK X.w C (nm i)) :
    ExOK nm X (exec (embS nm (.aug o i ap op e p)) X.env) σ .next { σ₃ with cells := σ₃.cells.set k (.inst C (putF i c fs')) } := by
  intro s W S Q E hQ
  refine wpAny_AugAssign_AttributeAny ?_
  refine ho s W S _ _ fun v W₁ h₁ tk₁ hw₁ hv S₁ => ?_
  obtain ⟨x, dx, rfl, hca⟩ := hv.isRef
  refine getAttr_own hinj K S₁ hca hc hl hp O fun va ha S₁' => ?_
  refine he _ W₁ S₁' _ _ fun vb W₂ h₂ tk₂ hw₂ hb S₂ => ?_
  refine hop _ W₂ va vb S₂ (ha.mono hw₂) hb _ _ fun vc W₃ h₃ tk₃ hw₃ hvc S₃ => ?_
  exact setAttr_own hinj K S₃ (Wd.le_ca hw₃ (Wd.le_ca hw₂ hca)) hc' hvc hz O' fun h₄ S₄ => hQ .next W₃ h₄ _ (Wd.le_trans hw₁ (Wd.le_trans hw₂ hw₃)) .next S₄
end
noncomputable def HpOK (nm : Nat → Str) (h₀ : Heap) (W : Wd) (cells : List Cell) (h : Heap) : Prop :=
  (∀ b o, h₀.get? b = some o → h.get? b = some o) ∧ h₀.objs.size ≤ h.objs.size ∧
  ∃ objs, CellsAre nm W W.ca cells objs ∧ (∀ p ∈ W.imm ++ objs, h.get? p.1 = some p.2 ∧ h₀.get? p.1 = none) ∧ ((W.imm ++ objs).map (·.1)).Nodup
noncomputable def CallOK (nm : Nat → Str) (w : World) (dn un : Nat) (f : Addr) (args : List AV) (cells : List Cell) (r : AV) (cells' : List Cell) : Prop :=
  ∀ (A : Around) (h₀ : Heap) (s : Shared) (W : Wd) (vals : List Value), (KF w).In h₀ → (∃ p loose mg mb, TopRead p loose mg mb h₀) → A.depth + dn < recursionLimit → A.units + un < cLine → A.handled = none →
    HpOK nm h₀ W cells s.heap → RelVs W args vals → ∀ (R : Result → Shared → Prop),
    (∀ v W' h' tk', W.le W' → RelV W' r v → HpOK nm h₀ W' cells' h' → R (.ok (.ret v)) { s with heap := h', toks := tk' }) → codeAny (model prg w) A (.call (.ref f) ⟨vals, []⟩) R s
section
variable {nm : Nat → Str} {X : Cx} {d u : Nat}
theorem St.hp {W : Wd} {σ : AS} {s : Shared} (S : St nm X W σ s) : HpOK nm X.h₀ W σ.cells s.heap := by
  obtain ⟨m, objs, F, hL, hc, N, nd⟩ := S
  obtain ⟨oL, _, _, hgL, _⟩ := F.ns
  refine ⟨F.keep, Nat.le_trans F.above (Nat.le_of_lt (Heap.lt_size hgL)), objs, hc, fun p hp => ⟨(N p hp).1, (N p hp).2.2⟩, nd⟩
theorem call_at (K : CxOK X d u) {W : Wd} {σ : AS} {s : Shared} (S : St nm X W σ s) {f : Addr} {args : List AV} {vals : List Value} {r : AV} {cells' : List Cell} {dn un : Nat} (hd : dn ≤ d) (hu : un ≤ u)
    (C : CallOK nm X.w dn un f args σ.cells r cells') (ha : RelVs W args vals) {A' : Around} (hA : A'.depth = X.A.depth) (hA' : A'.units ≤ X.A.units + 1) (hu' : un + 1 ≤ u) (hH : A'.handled = X.A.handled) {R : Result → Shared → Prop}
    (hQ : ∀ v W' h' tk', W.le W' → RelV W' r v → St nm X W' { σ with cells := cells' } { s with heap := h', toks := tk' } → R (.ok (.ret v)) { s with heap := h', toks := tk' }) :
    codeAny (model prg X.w) A' (.call (.ref f) ⟨vals, []⟩) R s := by
  obtain ⟨m, objs, F, hL, hc, N, nd⟩ := S
  have notin : ∀ b o, X.h₀.get? b = some o → b ∉ (W.imm ++ objs).map (·.1) := fun b o e q => by
    obtain ⟨p, hp, rfl⟩ := List.mem_map.mp q
    rw [(N p hp).2.2] at e; cases e
  have hst : ∀ b o, X.h₀.get? b = some o → (hideAll s.heap ((W.imm ++ objs).map (·.1))).get? b = some o := fun b o e => hideAll_get _ (F.keep b o e) (notin b o e)
  have hLn : X.L ∉ (W.imm ++ objs).map (·.1) := fun q => by
    obtain ⟨p, hp, e⟩ := List.mem_map.mp q
    exact (N p hp).2.1 e
  obtain ⟨p, loose, mg, mb, T⟩ := K.top
  have h1 := K.room
  have h2 := K.units
  refine C A' (hideAll s.heap ((W.imm ++ objs).map (·.1))) s W vals (K.kin.keeps hst) ⟨p, loose, mg, mb, T.keeps hst⟩ (by omega) (by omega) (hH.trans K.hand) ⟨fun b o e => of_hideAll _ e, Nat.le_of_eq (hideAll_size _ _), objs, hc, fun p hp => ⟨(N p hp).1, hideAll_none _ (List.mem_map_of_mem hp)⟩, nd⟩ ha R ?_
  intro v W' h' tk' hw hv ⟨k1, k2, objs', hc', hp', nd'⟩
  refine hQ v W' h' tk' hw hv ⟨m, objs', ⟨?_, fun b o e => k1 b o (hst b o e), F.above⟩, hL.mono hw, hc', fun p hp => ⟨(hp' p hp).1, ?_, ?_⟩, nd'⟩
  · obtain ⟨oL, a1, a2, hgL, a3⟩ := F.ns
    exact ⟨oL, a1, a2, k1 _ _ (hideAll_get _ hgL hLn), a3⟩
  · intro e
    obtain ⟨oL, a1, a2, hgL, a3⟩ := F.ns
    have z := (hp' p hp).2
    rw [e, hideAll_get _ hgL hLn] at z
    cases z
  · cases q : X.h₀.get? p.1 with
    | none => rfl
    | some o =>
      have z := (hp' p hp).2
      rw [hst _ _ q] at z
      cases z
noncomputable def AFl.val : AFl → AV
  | .ret a => a
  | _ => .none
theorem CallOK.of_body {w : World} {f : Addr} {oc : Value} {od : Option Addr} {osl : Array (Option Value)} {name qual : Str} {params : Arguments} {body : List Stmt} {scope : Scope} {dV kV doc pm cdv ct : Value} {an : Option Addr}
    {args : List AV} {cells cells' : List Cell} {loc loc' : List (Nat × AV)} {fl : AFl}
    (ho : (KF w).lookup f = some ⟨oc, od, .func (fnOf name qual params body scope dV kV doc pm an cdv ct), osl⟩) (hcd : codeIn (KF w) cdv qual = true)
    (hb : ∀ (s : Shared) (W : Wd) (vals : List Value), (KF w).In s.heap → RelVs W args vals → ∃ binds, BindsTo s (fnOf name qual params body scope dV kV doc pm an cdv ct) ⟨vals, []⟩ binds ∧ (∀ y ∈ binds, scope.names.lookup y.1 = some .local) ∧ LocOK nm W loc (fun y => binds.reverse.lookup y))
    (hcell : ∀ x ∈ scope.names, x.2 ≠ .cell) (hco : scope.isCoroutine = false) (hgen : scope.isGenerator = false) (hk : scope.kind = .function)
    (h : ∀ X : Cx, X.w = w → X.cn = qual → X.cs = scope → X.f = f → X.cd = cdv → CxOK X d u → ExOK nm X (execs body X.env) ⟨loc, cells⟩ fl ⟨loc', cells'⟩) :
    CallOK nm w (d + 1) (u + 3) f args cells fl.val cells' := by
  intro A h₀ s W vals hK hT hd hu hH ⟨k1, k2, objs, hc, hp, nd⟩ ha R hQ
  have hKs : (KF w).In s.heap := hK.keeps k1
  obtain ⟨binds, hbt, hloc, hL⟩ := hb s W vals hKs ha
  obtain ⟨p, loose, mg, mb, T⟩ := hT
  refine codeAny_call_def (fd := fnOf name qual params body scope dV kV doc pm an cdv ct) (body := body) (binds := binds) (by omega) (hKs _ _ ho) rfl ((T.keeps k1).nolimit) (codeRec_of hKs hcd) rfl hbt hcell hloc (fun h₁ hns hk₁ => ?_) hco hgen hk
  let X : Cx := ⟨w, h₀, s.heap.objs.size, qual, scope, f, cdv, A.deeper (envOf qual scope s.heap.objs.size f cdv)⟩
  have KX : CxOK X d u := ⟨hK, ⟨p, loose, mg, mb, T⟩, hk, by show A.depth + 1 + d < _; omega, by show A.units + 3 + u < _; omega, hH⟩
  refine h X rfl rfl rfl rfl rfl KX { s with heap := h₁, toks := s.toks + binds.length } W ⟨_, objs, ⟨hns, fun b o e => hk₁ b o (k1 b o e), k2⟩, hL, hc, fun p hp' => ⟨hk₁ _ _ (hp p hp').1, Nat.ne_of_lt (Heap.lt_size (hp p hp').1), (hp p hp').2⟩, nd⟩ _ _ ?_
  intro fl' W' h' tk' hw hf S'
  have hp := S'.hp
  cases hf with
  | next => exact hQ _ W' h' tk' hw .none hp
  | brk => exact hQ _ W' h' tk' hw .none hp
  | cont => exact hQ _ W' h' tk' hw .none hp
  | ret hv => exact hQ _ W' h' tk' hw hv hp
end
section
variable {nm : Nat → Str} {X : Cx} {d u : Nat}
noncomputable def PE.realL : PE → Bool
  | .cons h t => h.real && t.realL
  | _ => true
theorem star_nil (env : Env) : starEach ([] : List Expr) env = [] := rfl
theorem star_cons {h : PE} (hr : h.real = true) (rest : List Expr) (env : Env) : starEach (emb nm h :: rest) env = (false, eval (emb nm h) env) :: starEach rest env := by
  cases h <;> first | (cases hr; done) | rfl
theorem star_any {l : PE} : ∀ (hr : l.realL = true) (pos : Pos) (env : Env), (backTo pos (starEach (embL nm l) env)).any (·.1) = false := by
  induction l with
  | cons h t _ ih =>
    intro hr pos env
    simp only [PE.realL, Bool.and_eq_true] at hr
    rw [embL, star_cons hr.1]
    show (false || (backTo pos (starEach (embL nm t) env)).any (·.1)) = false
    rw [ih hr.2]; rfl
  | _ => intro _ pos env; rw [embL, star_nil] <;> first | rfl | (intros; contradiction)
theorem V_nil {l : PE} (hl : embL nm l = []) {pos : Pos} {σ : AS} : VsOK nm X (spliced (backTo pos (starEach (embL nm l) X.env))) σ [] σ := by
  intro s W S Q E hQ
  rw [hl, star_nil]
  show wpAny _ _ (pure []) _ _ _
  exact wpAny_pure (hQ [] W s.heap s.toks W.le_refl .nil S)
theorem V_cons {h t : PE} {pos : Pos} {σ σ₁ σ₂ : AS} {a : AV} {l : List AV} (hr : h.real = true) (h1 : EvOK nm X (eval (emb nm h) X.env) σ a σ₁) (h2 : VsOK nm X (spliced (backTo pos (starEach (embL nm t) X.env))) σ₁ l σ₂) :
    VsOK nm X (spliced (backTo pos (starEach (embL nm (.cons h t)) X.env))) σ (a :: l) σ₂ := by
  intro s W S Q E hQ
  rw [embL, star_cons hr]
  show wpAny _ _ (do let v ← eval (emb nm h) X.env; let here ← pure [v]; return here ++ (← holding here (spliced (backTo pos (starEach (embL nm t) X.env))))) _ _ _
  refine wpAny_bind (h1 s W S _ _ fun v W₁ h₁ tk₁ hw₁ hv S₁ => ?_)
  refine wpAny_bind (wpAny_pure ?_)
  refine wpAny_bind (wpAny_holding (h2 _ W₁ S₁ _ _ fun vs W₂ h₂ tk₂ hw₂ hvs S₂ => ?_))
  exact wpAny_pure (hQ _ W₂ h₂ tk₂ (Wd.le_trans hw₁ hw₂) (.cons (hv.mono hw₂) hvs) S₂)
noncomputable def FnOK (nm : Nat → Str) (X : Cx) (f : Value) (args : List AV) (σ : AS) (r : AV) (σ' : AS) : Prop := ∀ s W vals, St nm X W σ s → RelVs W args vals → EvAt nm X s W (call f vals) r σ'
noncomputable def KeepOK (w : World) (f : Value) : Prop := ∀ (M : Model) (h : Heap), (KF w).In h → ∃ k, (k = Keeper.frame ∨ k = Keeper.machine ∨ k = Keeper.boundFrame) ∧ Looks M h (keeperOf f) k
theorem KeepOK.fn {w : World} {f : Value} (h : keepIn (KF w) f = true) : KeepOK w f := fun _ hp x => keeps_K h hp x
theorem KeepOK.bi {w : World} {id : String} : KeepOK w (.builtin id) := fun _ _ _ => ⟨.machine, .inr (.inl rfl), Looks.of_pure rfl⟩
theorem KeepOK.ty {w : World} {id : String} : KeepOK w (.type id) := fun _ _ _ => ⟨.machine, .inr (.inl rfl), Looks.of_pure rfl⟩
theorem St.kin (K : CxOK X d u) {W : Wd} {σ : AS} {s : Shared} (S : St nm X W σ s) : (KF X.w).In s.heap := by
  obtain ⟨m, objs, F, hL, hc, N, nd⟩ := S
  exact K.kin.keeps F.keep
theorem callWith_gen (K : CxOK X d u) {f : Value} (hf : KeepOK X.w f) {h t : PE} (hr : (PE.cons h t).realL = true) {pos : Pos} {first : List AV} {fv : List Value} {as : List AV} {σ σ₁ σ₂ : AS} {r : AV} {s : Shared} {W : Wd}
    (S : St nm X W σ s) (hfirst : RelVs W first fv) (ha : VsOK nm X (spliced (backTo pos (starEach (embL nm (.cons h t)) X.env))) σ as σ₁) (hc : FnOK nm X f (first ++ as) σ₁ r σ₂) :
    EvAt nm X s W (callWith pos f fv (backTo pos (starEach (embL nm (.cons h t)) X.env)) []) r σ₂ := by
  intro Q E hQ
  refine callWith_of (P := fun h => (KF X.w).In h) (by rw [star_any hr]; rfl) (hf _) ?_
  simp only [PE.realL, Bool.and_eq_true] at hr
  have hs : starEach (embL nm (.cons h t)) X.env = (false, eval (emb nm h) X.env) :: starEach (embL nm t) X.env := by rw [embL, star_cons hr.1]
  rw [hs] at ha ⊢
  refine evalArgs_plain (Q := fun a s₁ => (KF X.w).In s₁.heap ∧ wpAny (model prg X.w) X.A (call f (fv ++ a.pos) a.kw) Q E s₁) ?_
  refine ha s W S _ _ fun vs W₁ h₁ tk₁ hw₁ hvs S₁ => ?_
  exact ⟨S₁.kin K, hc _ W₁ (fv ++ vs) S₁ ((hfirst.mono hw₁).append hvs) Q E fun v W₂ h₂ tk₂ hw₂ hv S₂ => hQ v W₂ h₂ tk₂ (Wd.le_trans hw₁ hw₂) hv S₂⟩
theorem callWith_0 (K : CxOK X d u) {f : Value} (hf : KeepOK X.w f) {pos : Pos} {first : List AV} {fv : List Value} {σ σ₂ : AS} {r : AV} {s : Shared} {W : Wd}
    (S : St nm X W σ s) (hfirst : RelVs W first fv) (hc : FnOK nm X f first σ r σ₂) :
    EvAt nm X s W (callWith pos f fv (backTo pos (starEach [] X.env)) []) r σ₂ := by
  intro Q E hQ
  rw [star_nil]
  refine callWith_of (P := fun h => (KF X.w).In h) (by rfl) (hf _) ?_
  refine evalArgs_nil3 (Q := fun a s₁ => (KF X.w).In s₁.heap ∧ wpAny (model prg X.w) X.A (call f (fv ++ a.pos) a.kw) Q E s₁) ?_
  refine ⟨S.kin K, ?_⟩
  show wpAny _ _ (call f (fv ++ [])) _ _ _
  rw [List.append_nil]
  exact hc _ W fv S hfirst Q E hQ
theorem R_callN (K : CxOK X d u) {i : Nat} {fp p : Pos} {h t : PE} {f : Value} {as : List AV} {σ σ₁ σ₂ : AS} {r : AV} (hr : (PE.cons h t).realL = true) (hf : EvOK nm X (eval (emb nm (.glob i fp)) X.env) σ (.val f) σ) (hk : KeepOK X.w f)
    (ha : VsOK nm X (spliced (backTo p (starEach (embL nm (.cons h t)) X.env))) σ as σ₁) (hc : FnOK nm X f as σ₁ r σ₂) : EvOK nm X (eval (emb nm (.callN i fp (.cons h t) p)) X.env) σ r σ₂ := by
  intro s W S Q E hQ
  refine wpAny_Call_NameR ?_
  refine hf s W S _ _ fun v W₁ h₁ tk₁ hw₁ hv S₁ => ?_
  cases hv
  exact callWith_gen K hk hr S₁ .nil ha hc Q E fun v W₂ h₂ tk₂ hw₂ hv S₂ => hQ v W₂ h₂ tk₂ (Wd.le_trans hw₁ hw₂) hv S₂
theorem R_callN0 (K : CxOK X d u) {i : Nat} {fp p : Pos} {f : Value} {σ σ₂ : AS} {r : AV} (hf : EvOK nm X (eval (emb nm (.glob i fp)) X.env) σ (.val f) σ) (hk : KeepOK X.w f)
    (hc : FnOK nm X f [] σ r σ₂) : EvOK nm X (eval (emb nm (.callN i fp .nil p)) X.env) σ r σ₂ := by
  intro s W S Q E hQ
  refine wpAny_Call_NameR ?_
  refine hf s W S _ _ fun v W₁ h₁ tk₁ hw₁ hv S₁ => ?_
  cases hv
  rw [embL] <;> try (intros; contradiction)
  exact callWith_0 K hk S₁ .nil hc Q E fun v W₂ h₂ tk₂ hw₂ hv S₂ => hQ v W₂ h₂ tk₂ (Wd.le_trans hw₁ hw₂) hv S₂
noncomputable def MethOK (nm : Nat → Str) (X : Cx) (σ : AS) (a : AV) (name : Str) (f : Value) : Prop := ∀ s W ov (pl : Sem Bool), St nm X W σ s → RelV W a ov → ∀ (Q : Value × List Value → Shared → Prop) (E : Value → Shared → Prop), Q (f, [ov]) s → wpAny (model prg X.w) X.A (getMethod ov name pl) Q E s
noncomputable def PE.len : PE → Nat
  | .cons _ t => t.len + 1
  | _ => 0
theorem embL_length {l : PE} : (embL nm l).length = l.len := by
  induction l with
  | cons h t _ ih => rw [embL, List.length_cons, ih]; rfl
  | _ => rw [embL] <;> first | rfl | (intros; contradiction)
theorem all_not_of_any {α : Type} {p : α → Bool} : ∀ {l : List α}, l.any p = false → l.all (fun x => !p x) = true
  | [], _ => rfl
  | x :: l, h => by
    simp only [List.any_cons, Bool.or_eq_false_iff] at h
    simp only [List.all_cons, h.1, Bool.not_false, Bool.true_and]
    exact all_not_of_any h.2
theorem meth_gen (K : CxOK X d u) {o args : PE} {i : Nat} {ap p : Pos} {f : Value} {a : AV} {σ σ₁ σ₂ : AS} {r : AV} (hb : o.isBase = true) (hr : args.realL = true) (hlen : args.len < 30) (hline : (ap.endLine == p.line) = true)
    (ho : EvOK nm X (eval (emb nm o) X.env) σ a σ₁) (hm : MethOK nm X σ₁ a (nm i) f)
    (hc : ∀ s W ov, St nm X W σ₁ s → RelV W a ov → EvAt nm X s W (callWith p f [ov] (backTo p (starEach (embL nm args) X.env)) []) r σ₂) :
    EvOK nm X (eval (emb nm (.callM o i ap args p)) X.env) σ r σ₂ := by
  intro s W S Q E hQ
  show wpAny _ _ (eval (Expr.Call (Expr.Attribute (emb nm o) (nm i) ap) (embL nm args) [] p) X.env) _ _ _
  rw [arm_eval_Call, base_emb hb]
  refine wpAny_bind (ho s W S _ _ fun ov W₁ h₁ tk₁ hw₁ hv S₁ => ?_)
  refine wpAny_bind (wpAny_standAt ?_)
  have hform : methodCallForm ((embL nm args).length + ([] : List Keyword).length) (backTo p (starEach (embL nm args) X.env)) (backToKw p (keywordEach [] X.env)) = true := by
    unfold methodCallForm
    rw [embL_length, all_not_of_any (star_any hr p X.env)]
    show (true && true && decide (args.len + 0 + 0 < 30)) = true
    simp [hlen]
  have hpos : methodCallPos true (emb nm o) X.env ap p = pure p := by unfold methodCallPos; simp [hline]
  unfold methodCall
  rw [hform]
  refine wpAny_bind (wpAny_holding (hm _ W₁ ov _ S₁ hv _ _ ?_))
  refine wpAny_bind (wpAny_of_eq hpos ?_)
  exact hc _ W₁ ov S₁ hv Q E fun v W₂ h₂ tk₂ hw₂ hv S₂ => hQ v W₂ h₂ tk₂ (Wd.le_trans hw₁ hw₂) hv S₂
theorem R_callM (K : CxOK X d u) {o h t : PE} {i : Nat} {ap p : Pos} {f : Value} {a : AV} {as : List AV} {σ σ₁ σ₂ σ₃ : AS} {r : AV} (hb : o.isBase = true) (hr : (PE.cons h t).realL = true) (hlen : (PE.cons h t).len < 30) (hline : (ap.endLine == p.line) = true)
    (ho : EvOK nm X (eval (emb nm o) X.env) σ a σ₁) (hm : MethOK nm X σ₁ a (nm i) f) (hk : KeepOK X.w f)
    (ha : VsOK nm X (spliced (backTo p (starEach (embL nm (.cons h t)) X.env))) σ₁ as σ₂) (hc : FnOK nm X f (a :: as) σ₂ r σ₃) : EvOK nm X (eval (emb nm (.callM o i ap (.cons h t) p)) X.env) σ r σ₃ :=
  meth_gen K hb hr hlen hline ho hm fun s W ov S hv => callWith_gen K hk hr S (.cons hv .nil) ha hc
theorem R_callM0 (K : CxOK X d u) {o : PE} {i : Nat} {ap p : Pos} {f : Value} {a : AV} {σ σ₁ σ₃ : AS} {r : AV} (hb : o.isBase = true) (hline : (ap.endLine == p.line) = true)
    (ho : EvOK nm X (eval (emb nm o) X.env) σ a σ₁) (hm : MethOK nm X σ₁ a (nm i) f) (hk : KeepOK X.w f)
    (hc : FnOK nm X f [a] σ₁ r σ₃) : EvOK nm X (eval (emb nm (.callM o i ap .nil p)) X.env) σ r σ₃ :=
  meth_gen K hb rfl (by decide) hline ho hm fun s W ov S hv => by
    have : embL nm .nil = [] := rfl
    rw [this]
    exact callWith_0 K hk S (.cons hv .nil) hc
theorem MethOK.inst (hinj : ∀ i j, nm i = nm j → i = j) (K : CxOK X d u) {σ : AS} {k i : Nat} {C f : Addr} {fs : List (Nat × AV)} (hc : σ.cells[k]? = some (.inst C fs)) (hl : fs.lookup i = none) (hg : plainGet (KF X.w) C (nm i) = true)
    (hm : findIn (KF X.w) (.ref C) (nm i) = some (some (.ref f))) (hf : isFn (KF X.w) (.ref f) = true) : MethOK nm X σ (.cell k) (nm i) (.ref f) := by
  intro s W ov pl S hv Q E hQ
  obtain ⟨x, dx, rfl, hca⟩ := hv.isRef
  obtain ⟨x', dx', es, n, hca', hf', I⟩ := S.inst hc
  rw [hca] at hca'
  cases hca'
  obtain ⟨m, objs, F, hL, hcs, N, nd⟩ := S
  exact method_inst F K.kin I hg hm hf (getL_none hinj hf' hl) hQ
theorem St.strm {W : Wd} {σ : AS} {s : Shared} (S : St nm X W σ s) {k : Nat} {pre rest : List Nat} (hc : σ.cells[k]? = some (.strm pre rest)) : St nm X W { σ with cells := σ.cells.set k (.inst 608 [(18, .str [10]), (10, .str (pre ++ rest)), (13, .int pre.length)]) } s := by
  obtain ⟨m, objs, F, hL, hcs, N, nd⟩ := S
  obtain ⟨a, d, pr, o, post, e1, e2, e3, e4⟩ := hcs.split hc
  cases e3 with
  | strm h => exact ⟨m, objs, F, hL, by rw [e2]; exact e4 W.le_refl h, N, nd⟩
theorem MethOK.strm (hinj : ∀ i j, nm i = nm j → i = j) (K : CxOK X d u) {σ : AS} {k i : Nat} {f : Addr} {pre rest : List Nat} (hc : σ.cells[k]? = some (.strm pre rest)) (hl : i ≠ 10 ∧ i ≠ 13 ∧ i ≠ 18) (hg : plainGet (KF X.w) 608 (nm i) = true)
    (hm : findIn (KF X.w) (.ref 608) (nm i) = some (some (.ref f))) (hf : isFn (KF X.w) (.ref f) = true) : MethOK nm X σ (.cell k) (nm i) (.ref f) := by
  intro s W ov pl S hv Q E hQ
  have hk : k < σ.cells.length := by
    rcases Nat.lt_or_ge k σ.cells.length with q | q
    · exact q
    · rw [List.getElem?_eq_none q] at hc; cases hc
  refine MethOK.inst (σ := { σ with cells := σ.cells.set k (.inst 608 [(18, .str [10]), (10, .str (pre ++ rest)), (13, .int pre.length)]) }) hinj K (C := 608) (List.getElem?_set_self hk) ?_ hg hm hf s W ov pl (S.strm hc) hv Q E hQ
  obtain ⟨h1, h2, h3⟩ := hl
  have e1 : (i == 18) = false := by simpa using h3
  have e2 : (i == 10) = false := by simpa using h1
  have e3 : (i == 13) = false := by simpa using h2
  simp [List.lookup, e1, e2, e3]
theorem FnOK.of_call (K : CxOK X d u) {σ : AS} {f : Addr} {args : List AV} {r : AV} {cells' : List Cell} {dn un : Nat} (hd : dn ≤ d) (hu : un + 1 ≤ u) (C : CallOK nm X.w dn un f args σ.cells r cells') : FnOK nm X (.ref f) args σ r { σ with cells := cells' } := by
  intro s W vals S ha Q E hQ
  exact wpAny_call (call_at K S hd (by omega) C ha rfl (Nat.le_succ _) hu rfl hQ)
theorem R_prop (hinj : ∀ i j, nm i = nm j → i = j) (K : CxOK X d u) {e : PE} {i k : Nat} {p : Pos} {σ σ₁ : AS} {C q f : Addr} {rest : List Value} {fs : List (Nat × AV)} {a : AV} {cells' : List Cell} {dn un : Nat} (hb : e.isBase = true) (he : EvOK nm X (eval (emb nm e) X.env) σ (.cell k) σ₁)
    (hc : σ₁.cells[k]? = some (.inst C fs)) (hp : a.plain = true) (hg : plainGet (KF X.w) C (nm i) = true) (hh : hasDictIn (KF X.w) C = true) (hfi : findIn (KF X.w) (.ref C) (nm i) = some (some (.ref q)))
    (hs : specialIn (KF X.w) (.ref q) (Str.ofString "__get__") = some (some (.builtin "property.__get__"))) (ht : takesIn (KF X.w) (.ref q) = some true) (hr : recIn (KF X.w) q "property" = some (.ref f :: rest))
    (hd : dn ≤ d) (hu : un + 1 ≤ u) (Cl : CallOK nm X.w dn un f [.cell k] σ₁.cells a cells') : EvOK nm X (eval (emb nm (.attr e i p)) X.env) σ a { σ₁ with cells := cells' } := by
  intro s W S Q E hQ
  refine Attribute_any_ ?_ (attr_eq hb _ _ _)
  refine he s W S _ _ fun v W' h' tk' hw hv S' => ?_
  obtain ⟨x, dx, rfl, hca⟩ := hv.isRef
  obtain ⟨x', dx', es, n, hca', hf', I⟩ := S'.inst hc
  rw [hca] at hca'
  cases hca'
  have hq : codeAny (model prg X.w) X.A.in1 (.call (.ref f) ⟨[.ref x], []⟩) (fun r s' =>
                          match r with
                          | Except.ok (Flow.ret v) => wpAny (model prg X.w) X.A (handedOut v) Q E s'
                          | Except.ok a => False
                          | Except.error e =>
                            wpAny (model prg X.w) X.A (noteIf true (Value.ref x) (Value.str (nm i) tk') e)
                              (fun x s'' => E e s'') E s') { s with heap := h', toks := tk' + 1 } := by
    refine call_at (A' := X.A.in1) (s := { s with heap := h', toks := tk' + 1 }) K (S'.same (tk := tk' + 1)) hd (by omega) Cl (.cons (.cell hca) .nil) rfl (Nat.le_refl (X.A.units + 1)) hu rfl fun v W₂ h₂ tk₂ hw₂ hv₂ S₂ => ?_
    show wpAny (model prg X.w) X.A (handedOut v) Q E _
    rw [handedOut_of (hv₂.handed hp)]
    exact wpAny_pure (hQ v W₂ h₂ tk₂ (Wd.le_trans hw hw₂) hv₂ S₂)
  obtain ⟨m, objs, F, hL, hcs, N, nd⟩ := S'
  refine get_prop F K.kin I hg hh hfi hs ht hr ?_
  exact hq
end
section
variable {nm : Nat → Str} {X : Cx} {d u : Nat}
theorem EvAt.here {s : Shared} {W : Wd} {σ : AS} {t : Sem Value} {r : AV} (S : St nm X W σ s) (h : ∀ (Q E : Value → Shared → Prop), (∀ v tk, RelV W r v → Q v { s with toks := tk }) → wpAny (model prg X.w) X.A t Q E s) : EvAt nm X s W t r σ := by
  intro Q E hQ
  exact h Q E fun v tk hv => hQ v W s.heap tk W.le_refl hv S.same
noncomputable def isNoneA : AV → Option Bool
  | .none => some true
  | .bool _ => some false
  | .int _ => some false
  | .str _ => some false
  | .cell _ => some false
  | .lst _ => some false
  | .tup _ => some false
  | .obj _ _ => some false
  | .rng _ => some false
  | .that _ => some false
  | .val _ => none
noncomputable def strL : List AV → Option (List (List Nat))
  | [] => some []
  | .str s :: r => match strL r with
    | some l => some (s :: l)
    | none => none
  | _ :: _ => none
theorem strL_are {W : Wd} : ∀ {l : List AV} {vs : List Value} {ss : List (List Nat)}, strL l = some ss → RelVs W l vs → StrsAre vs (ss.map fun x => ⟨x.toArray⟩) := by
  intro l
  induction l with
  | nil => intro vs ss h hr; cases hr; cases h; exact .nil
  | cons a r ih =>
    intro vs ss h hr
    cases hr with
    | cons hv hr =>
      cases a with
      | str x =>
        have h' : (match strL r with | some l => some (x :: l) | none => none) = some ss := h
        cases e : strL r with
        | none => rw [e] at h'; cases h'
        | some l =>
          rw [e] at h'
          cases h'
          cases hv
          exact .cons _ _ (ih e hr)
      | _ => cases h
noncomputable def AV.int? : AV → Option Int
  | .int i => some i
  | _ => Option.none
noncomputable def AV.str? : AV → Option (List Nat)
  | .str l => some l
  | _ => Option.none
noncomputable def AV.none? : AV → Bool
  | .none => true
  | _ => false
noncomputable def AV.typ? : AV → Option String
  | .val (.type x) => some x
  | _ => Option.none
noncomputable def AV.tup? : AV → Option (List AV)
  | .tup l => some l
  | _ => Option.none
noncomputable def one? : List Nat → Option Nat
  | [c] => some c
  | _ => none
theorem int?_eq {a : AV} {i : Int} (h : a.int? = some i) : a = .int i := by cases a <;> first | (cases h; rfl) | (cases h; done)
theorem str?_eq {a : AV} {l : List Nat} (h : a.str? = some l) : a = .str l := by cases a <;> first | (cases h; rfl) | (cases h; done)
theorem none?_eq {a : AV} (h : a.none? = true) : a = .none := by cases a <;> first | rfl | (cases h; done)
theorem typ?_eq {a : AV} {x : String} (h : a.typ? = some x) : a = .val (.type x) := by
  cases a with
  | val v => cases v <;> first | (cases h; rfl) | (cases h; done)
  | _ => cases h
theorem tup?_eq {a : AV} {l : List AV} (h : a.tup? = some l) : a = .tup l := by cases a <;> first | (cases h; rfl) | (cases h; done)
theorem one?_eq {l : List Nat} {c : Nat} (h : one? l = some c) : l = [c] := by
  cases l with
  | nil => cases h
  | cons x r => cases r <;> first | (cases h; rfl) | (cases h; done)
noncomputable def two {α β γ : Type} (x : Option α) (y : Option β) (f : α → β → γ) : Option γ := x.bind fun a => y.map fun b => f a b
theorem two_eq {α β γ : Type} {x : Option α} {y : Option β} {f : α → β → γ} {c : γ} (h : two x y f = some c) : ∃ a b, x = some a ∧ y = some b ∧ f a b = c := by
  cases x with
  | none => cases h
  | some a => cases y with
    | none => cases h
    | some b => cases h; exact ⟨a, b, rfl, rfl, rfl⟩
noncomputable def intsA (a b : AV) (f : Int → Int → Bool) : Option Bool := two a.int? b.int? f
noncomputable def eqA (a b : AV) : Option Bool := match intsA a b (fun x y => x == y) with
  | some c => some c
  | none => match a.none? with
    | true => match b.none? with
      | true => some true
      | false => b.str?.map fun _ => false
    | false => match b.none? with
      | true => a.str?.map fun _ => false
      | false => two a.str? b.str? fun x y => x == y
noncomputable def isA (a b : AV) : Option Bool := match b.none? with
  | true => isNoneA a
  | false => two a.typ? b.typ? fun x y => x == y
noncomputable def inA (a b : AV) : Option Bool := a.str?.bind fun x => match b.str? with
  | some l => (one? x).map fun c => l.contains c
  | none => (b.tup?.bind strL).map fun ss => ss.any (· == x)
noncomputable def cmpA (op : CmpOp) (a b : AV) : Option Bool := match op with
  | .Eq => eqA a b
  | .NotEq => match intsA a b (fun x y => x != y) with
    | some c => some c
    | none => two a.str? b.str? fun x y => x != y
  | .Lt => intsA a b fun x y => decide (x < y)
  | .LtE => intsA a b fun x y => decide (x ≤ y)
  | .Gt => intsA a b fun x y => decide (y < x)
  | .GtE => intsA a b fun x y => decide (y ≤ x)
  | .Is => isA a b
  | .IsNot => (isA a b).map (!·)
  | .In => inA a b
  | .NotIn => a.str?.bind fun x => b.str?.bind fun l => (one? x).map fun c => !l.contains c
theorem str_beq (x y : List Nat) : ((⟨x.toArray⟩ : Str) == ⟨y.toArray⟩) = (x == y) := by
  rw [Bool.eq_iff_iff]
  simp only [beq_iff_eq, Str.mk.injEq]
  constructor
  · intro h; simpa using congrArg Array.toList h
  · rintro rfl; rfl
theorem found_list (l : List Nat) (c : Nat) : (!(Builtin.Str.occurrences ⟨l.toArray⟩ ⟨[c].toArray⟩ 0 (⟨l.toArray⟩ : Str).length 1).isEmpty) = l.contains c := by
  have := StrLaws.found_one ⟨l.toArray⟩ c
  rw [show (⟨[c].toArray⟩ : Str) = ⟨#[c]⟩ from rfl, this]
  rw [Bool.eq_iff_iff]
  simp
theorem isNone_eq {W : Wd} {a : AV} {v : Value} {b : Bool} (h : RelV W a v) (e : isNoneA a = some b) : plainIs v .none = true ∧ (v == Value.none) = b := by
  cases h <;> first | (cases e; exact ⟨rfl, rfl⟩) | (cases e; done)
theorem any_str (x : List Nat) : ∀ ss : List (List Nat), ((ss.map fun y => (⟨y.toArray⟩ : Str)).any (· == ⟨x.toArray⟩)) = ss.any (· == x)
  | [] => rfl
  | y :: r => by simp only [List.map_cons, List.any_cons, str_beq, any_str x r]
theorem St.imm {W : Wd} {σ : AS} {s : Shared} (S : St nm X W σ s) {p : Addr × Obj} (hp : p ∈ W.imm) : s.heap.get? p.1 = some p.2 := by
  obtain ⟨m, objs, F, hL, hcs, N, nd⟩ := S
  exact (N p (by simp [hp])).1
theorem ints_eq {a b : AV} {f : Int → Int → Bool} {c : Bool} (h : intsA a b f = some c) : ∃ x y, a = .int x ∧ b = .int y ∧ f x y = c := by
  obtain ⟨x, y, h1, h2, h3⟩ := two_eq h
  exact ⟨x, y, int?_eq h1, int?_eq h2, h3⟩
theorem strs_eq {a b : AV} {f : List Nat → List Nat → Bool} {c : Bool} (h : two a.str? b.str? f = some c) : ∃ x y, a = .str x ∧ b = .str y ∧ f x y = c := by
  obtain ⟨x, y, h1, h2, h3⟩ := two_eq h
  exact ⟨x, y, str?_eq h1, str?_eq h2, h3⟩
theorem map_eq {α β : Type} {x : Option α} {f : α → β} {c : β} (h : x.map f = some c) : ∃ a, x = some a ∧ f a = c := by
  cases x with
  | none => cases h
  | some a => cases h; exact ⟨a, rfl, rfl⟩
theorem bind_eq {α β : Type} {x : Option α} {f : α → Option β} {c : β} (h : x.bind f = some c) : ∃ a, x = some a ∧ f a = some c := by
  cases x with
  | none => cases h
  | some a => exact ⟨a, rfl, h⟩
noncomputable def grd {α : Type} (b : Bool) (r : Option α) : Option α := cond b r none
noncomputable def AV.cell? : AV → Option Nat
  | .cell k => some k
  | _ => Option.none
noncomputable def AV.lst? : AV → Option (List AV)
  | .lst l => some l
  | _ => Option.none
noncomputable def AV.bool? : AV → Option Bool
  | .bool b => some b
  | _ => Option.none
noncomputable def Cell.inst? : Cell → Option (Addr × List (Nat × AV))
  | .inst C fs => some (C, fs)
  | _ => none
noncomputable def Cell.list? : Cell → Option (List AV)
  | .list l => some l
  | _ => none
noncomputable def Cell.deque? : Cell → Option (List AV)
  | .deque l => some l
  | _ => none
noncomputable def only1 : List AV → Option AV
  | [x] => some x
  | _ => none
theorem grd_eq {α : Type} {b : Bool} {r : Option α} {x : α} (h : grd b r = some x) : b = true ∧ r = some x := by
  cases b with
  | true => exact ⟨rfl, h⟩
  | false => cases h
theorem cell?_eq {a : AV} {k : Nat} (h : a.cell? = some k) : a = .cell k := by cases a <;> first | (cases h; rfl) | (cases h; done)
theorem lst?_eq {a : AV} {l : List AV} (h : a.lst? = some l) : a = .lst l := by cases a <;> first | (cases h; rfl) | (cases h; done)
theorem bool?_eq {a : AV} {b : Bool} (h : a.bool? = some b) : a = .bool b := by cases a <;> first | (cases h; rfl) | (cases h; done)
theorem inst?_eq {c : Cell} {C : Addr} {fs : List (Nat × AV)} (h : c.inst? = some (C, fs)) : c = .inst C fs := by cases c <;> first | (cases h; rfl) | (cases h; done)
theorem list?_eq {c : Cell} {l : List AV} (h : c.list? = some l) : c = .list l := by cases c <;> first | (cases h; rfl) | (cases h; done)
theorem deque?_eq {c : Cell} {l : List AV} (h : c.deque? = some l) : c = .deque l := by cases c <;> first | (cases h; rfl) | (cases h; done)
theorem at_inst {o : Option Cell} {q : Addr × List (Nat × AV)} (h : o.bind Cell.inst? = some q) : o = some (.inst q.1 q.2) := by
  obtain ⟨c, rfl, h1⟩ := bind_eq h
  rw [inst?_eq h1]
theorem at_list {o : Option Cell} {l : List AV} (h : o.bind Cell.list? = some l) : o = some (.list l) := by
  obtain ⟨c, rfl, h1⟩ := bind_eq h
  rw [list?_eq h1]
theorem at_deque {o : Option Cell} {l : List AV} (h : o.bind Cell.deque? = some l) : o = some (.deque l) := by
  obtain ⟨c, rfl, h1⟩ := bind_eq h
  rw [deque?_eq h1]
theorem only1_eq {l : List AV} {x : AV} (h : only1 l = some x) : l = [x] := by
  cases l with
  | nil => cases h
  | cons y r => cases r <;> first | (cases h; rfl) | (cases h; done)
noncomputable def CmpAt (nm : Nat → Str) (X : Cx) (op : CmpOp) (a b : AV) (c : Bool) : Prop := ∀ s W va vb σ, St nm X W σ s → RelV W a va → RelV W b vb → ∀ (Q E : Value → Shared → Prop), Q (.bool c) s → wpAny (model prg X.w) X.A (compareOp op va vb) Q E s
theorem CmpAt.ok {op : CmpOp} {a b : AV} {c : Bool} (h : CmpAt nm X op a b c) (σ : AS) : BinOK nm X (compareOp op) σ a b (.bool c) σ := by
  intro s W va vb S ha hb
  exact EvAt.here S fun Q E hQ => h s W va vb σ S ha hb Q E (hQ _ s.toks (.bool _))
theorem eq_ok {a b : AV} {c : Bool} (h : eqA a b = some c) : CmpAt nm X .Eq a b c := by
  intro s W va vb σ S ha hb Q E fin
  unfold eqA at h
  cases hi : intsA a b (fun x y => x == y) with
  | some d =>
    rw [hi] at h
    cases h
    obtain ⟨x, y, rfl, rfl, rfl⟩ := ints_eq hi
    cases ha; cases hb; exact PyProof.Rows.eq_int fin
  | none =>
    rw [hi] at h
    cases hn : a.none? with
    | true =>
      rw [hn] at h
      have := none?_eq hn
      subst this
      cases hm : b.none? with
      | true =>
        rw [hm] at h
        have := none?_eq hm
        subst this
        cases h
        cases ha; cases hb; exact PySem.EqNone.eq_none_none fin
      | false =>
        rw [hm] at h
        obtain ⟨y, h1, rfl⟩ := map_eq h
        have := str?_eq h1
        subst this
        cases ha; cases hb; exact PySem.EqNone.eq_none_str fin
    | false =>
      rw [hn] at h
      cases hm : b.none? with
      | true =>
        rw [hm] at h
        have := none?_eq hm
        subst this
        obtain ⟨y, h1, rfl⟩ := map_eq h
        have := str?_eq h1
        subst this
        cases ha; cases hb; exact PySem.EqNone.eq_str_none fin
      | false =>
        rw [hm] at h
        obtain ⟨x, y, rfl, rfl, rfl⟩ := strs_eq h
        cases ha; cases hb; exact PyProof.Rows.eq_str (by rw [str_beq]; exact fin)
theorem ne_ok {a b : AV} {c : Bool} (h : cmpA .NotEq a b = some c) : CmpAt nm X .NotEq a b c := by
  intro s W va vb σ S ha hb Q E fin
  unfold cmpA at h
  dsimp only at h
  cases hi : intsA a b (fun x y => x != y) with
  | some d =>
    rw [hi] at h
    cases h
    obtain ⟨x, y, rfl, rfl, rfl⟩ := ints_eq hi
    cases ha; cases hb; exact PyProof.Rows.ne_int fin
  | none =>
    rw [hi] at h
    obtain ⟨x, y, rfl, rfl, rfl⟩ := strs_eq h
    cases ha; cases hb; exact PyProof.Rows.ne_str (by rw [bne, str_beq]; exact fin)
theorem is_ok {a b : AV} {c : Bool} (h : isA a b = some c) {W : Wd} {va vb : Value} (ha : RelV W a va) (hb : RelV W b vb) : plainIs va vb = true ∧ (va == vb) = c := by
  unfold isA at h
  cases hm : b.none? with
  | true =>
    rw [hm] at h
    have := none?_eq hm
    subst this
    cases hb
    exact isNone_eq ha h
  | false =>
    rw [hm] at h
    obtain ⟨x, y, h1, h2, rfl⟩ := two_eq h
    have := typ?_eq h1
    subst this
    have := typ?_eq h2
    subst this
    cases ha; cases hb
    refine ⟨rfl, ?_⟩
    rw [Bool.eq_iff_iff]; simp
theorem in_ok {a b : AV} {c : Bool} (h : inA a b = some c) : CmpAt nm X .In a b c := by
  intro s W va vb σ S ha hb Q E fin
  obtain ⟨x, h1, k⟩ := bind_eq h
  clear h
  have := str?_eq h1
  subst this
  cases hb' : b.str? with
  | some l =>
    rw [hb'] at k
    have := str?_eq hb'
    subst this
    obtain ⟨d, h2, rfl⟩ := map_eq k
    have := one?_eq h2
    subst this
    cases ha; cases hb; exact PyProof.Rows.in_str (by rw [found_list]; exact fin)
  | none =>
    rw [hb'] at k
    obtain ⟨ss, h2, rfl⟩ := map_eq k
    obtain ⟨l, h3, h4⟩ := bind_eq h2
    have := tup?_eq h3
    subst this
    cases ha
    cases hb with
    | tup hm hl hs => exact PyProof.Rows.in_tuple_strs ⟨_, S.imm hm, rfl, _, rfl⟩ (strL_are h4 hs) (by rw [any_str]; exact fin)
theorem notIn_ok {a b : AV} {c : Bool} (h : cmpA .NotIn a b = some c) : CmpAt nm X .NotIn a b c := by
  intro s W va vb σ S ha hb Q E fin
  obtain ⟨x, h1, k⟩ := bind_eq h
  clear h
  obtain ⟨l, h2, k'⟩ := bind_eq k
  clear k
  obtain ⟨d, h3, rfl⟩ := map_eq k'
  have := str?_eq h1
  subst this
  have := str?_eq h2
  subst this
  have := one?_eq h3
  subst this
  cases ha; cases hb; exact PyProof.Rows.notIn_str (by rw [found_list]; exact fin)
theorem cmp_ok {op : CmpOp} {a b : AV} {c : Bool} (h : cmpA op a b = some c) (σ : AS) : BinOK nm X (compareOp op) σ a b (.bool c) σ := by
  refine CmpAt.ok ?_ σ
  cases op with
  | Eq => exact eq_ok h
  | NotEq => exact ne_ok h
  | In => exact in_ok h
  | NotIn => exact notIn_ok h
  | Is => exact fun s W va vb σ S ha hb Q E fin => wpAny_is_plain (is_ok h ha hb).1 (by rw [(is_ok h ha hb).2]; exact fin)
  | IsNot =>
    obtain ⟨d, h1, rfl⟩ := map_eq h
    exact fun s W va vb σ S ha hb Q E fin => wpAny_isNot_plain (is_ok h1 ha hb).1 (by rw [(is_ok h1 ha hb).2]; exact fin)
  | Lt =>
    obtain ⟨x, y, rfl, rfl, rfl⟩ := ints_eq h
    exact fun s W va vb σ S ha hb Q E fin => by cases ha; cases hb; exact PyProof.Rows.lt_int fin
  | LtE =>
    obtain ⟨x, y, rfl, rfl, rfl⟩ := ints_eq h
    exact fun s W va vb σ S ha hb Q E fin => by cases ha; cases hb; exact PyProof.Rows.le_int fin
  | Gt =>
    obtain ⟨x, y, rfl, rfl, rfl⟩ := ints_eq h
    exact fun s W va vb σ S ha hb Q E fin => by cases ha; cases hb; exact PyProof.Rows.gt_int fin
  | GtE =>
    obtain ⟨x, y, rfl, rfl, rfl⟩ := ints_eq h
    exact fun s W va vb σ S ha hb Q E fin => by cases ha; cases hb; exact PyProof.Rows.ge_int fin
noncomputable def truA (a : AV) (cells : List Cell) : Option Bool := match a with
  | .none => some false
  | .bool b => some b
  | .int i => some (i != 0)
  | .str l => some (!l.isEmpty)
  | .lst l => some (!l.isEmpty)
  | .cell k => match cells[k]? with
    | some (.list l) => some (!l.isEmpty)
    | some (.deque l) => some (!l.isEmpty)
    | _ => none
  | .tup _ => none
  | .obj _ _ => none
  | .rng _ => none
  | .that _ => none
  | .val _ => none
theorem len_ne (l : List Nat) : (((⟨l.toArray⟩ : Str).length : Int) != 0) = !l.isEmpty := by
  cases l with
  | nil => rfl
  | cons a r =>
    have : ((⟨(a :: r).toArray⟩ : Str).length : Int) ≠ 0 := by simp [Str.length]; omega
    rw [bne_iff_ne.mpr this]; rfl
theorem isEmpty_toArray {α : Type} (l : List α) : l.toArray.isEmpty = l.isEmpty := by cases l <;> rfl
theorem St.get {W : Wd} {σ : AS} {s : Shared} (S : St nm X W σ s) {k : Nat} {c : Cell} (hc : σ.cells[k]? = some c) : ∃ a d os, W.ca[k]? = some (a, d) ∧ CellIs nm W a d c os ∧ ∀ p ∈ os, s.heap.get? p.1 = some p.2 := by
  obtain ⟨m, objs, F, hL, hcs, N, nd⟩ := S
  obtain ⟨a, d, pre, o, post, e1, e2, e3, e4⟩ := hcs.split hc
  exact ⟨a, d, o, e1, e3, fun p hp => (N p (by rw [e2]; simp [hp])).1⟩
theorem isList_of {h : Heap} {a : Addr} {vs : List Value} {n : Nat} (e : h.get? a = some (PySem.W.listOf vs.toArray n)) : h.IsList a vs.toArray := ⟨_, e, rfl, n, rfl⟩
noncomputable def listA (a : AV) (cells : List Cell) : Option (List AV) := match a with
  | .lst l => some l
  | .cell k => match cells[k]? with
    | some (.list l) => some l.reverse
    | _ => none
  | _ => none
theorem St.isList {W : Wd} {σ : AS} {s : Shared} (S : St nm X W σ s) {a : AV} {v : Value} {l : List AV} (hv : RelV W a v) (hl : listA a σ.cells = some l) : ∃ x vs, v = .ref x ∧ s.heap.IsList x vs.toArray ∧ RelVs W l vs ∧ l.length ≤ 16777216 := by
  cases a with
  | lst l' =>
    cases hl
    cases hv with
    | lst hm hz hs => exact ⟨_, _, rfl, isList_of (S.imm hm), hs, hz⟩
  | cell k =>
    unfold listA at hl
    dsimp only at hl
    cases e : σ.cells[k]? with
    | none => rw [e] at hl; cases hl
    | some c =>
      rw [e] at hl
      cases c with
      | list l' =>
        cases hl
        obtain ⟨a, d, os, hca, hc, hg⟩ := S.get e
        cases hc with
        | list hz hs =>
          obtain ⟨x, dx, rfl, hca'⟩ := hv.isRef
          rw [hca] at hca'
          cases hca'
          exact ⟨_, _, rfl, isList_of (hg _ (.head _)), hs.reverse, by rw [List.length_reverse]; exact hz⟩
      | _ => cases hl
  | _ => cases hl
end
namespace DQ
theorem slot_len : Slot "collections.deque" "__len__" "collections.deque.__len__" :=
  .of (owner := "collections.deque") (n := "__len__") (by rw [typeLookup_type, builtinLookup_eq_fast]; kernel_rfl) (by decide +kernel) (by decide +kernel) (by decide +kernel)
    (by first | exact .inl (by decide +kernel) | exact .inr (by decide +kernel)) (by rw [isSubtype_type]; kernel_rfl)
theorem entry_len : entryFor table "collections.deque.__len__" = some Builtin.«collections.deque.__len__» := entryFor_of_tree (by kernel_rfl)
theorem args_len (a : Value) : argsOk "collections.deque.__len__" ⟨[a], []⟩ := by unfold argsOk; kernel_rfl
theorem slot_pop : Slot "collections.deque" "pop" "collections.deque.pop" :=
  .of (owner := "collections.deque") (n := "pop") (by rw [typeLookup_type, builtinLookup_eq_fast]; kernel_rfl) (by decide +kernel) (by decide +kernel) (by decide +kernel)
    (by first | exact .inl (by decide +kernel) | exact .inr (by decide +kernel)) (by rw [isSubtype_type]; kernel_rfl)
theorem entry_pop : entryFor table "collections.deque.pop" = some Builtin.«collections.deque.pop» := entryFor_of_tree (by kernel_rfl)
theorem args_pop (a : Value) : argsOk "collections.deque.pop" ⟨[a], []⟩ := by unfold argsOk; kernel_rfl
theorem slot_append : Slot "collections.deque" "append" "collections.deque.append" :=
  .of (owner := "collections.deque") (n := "append") (by rw [typeLookup_type, builtinLookup_eq_fast]; kernel_rfl) (by decide +kernel) (by decide +kernel) (by decide +kernel)
    (by first | exact .inl (by decide +kernel) | exact .inr (by decide +kernel)) (by rw [isSubtype_type]; kernel_rfl)
theorem entry_append : entryFor table "collections.deque.append" = some Builtin.«collections.deque.append» := entryFor_of_tree (by kernel_rfl)
theorem args_append (a b : Value) : argsOk "collections.deque.append" ⟨[a, b], []⟩ := by unfold argsOk; kernel_rfl
theorem noBool : typeLookup (.type "collections.deque") "__bool__" = pure none := by rw [typeLookup_type, builtinLookup_eq_fast]; kernel_rfl
theorem plain : PlainAttrs "collections.deque" := ⟨⟨"collections.deque.__getattribute__", by rw [typeLookup_type, builtinLookup_eq_fast]; kernel_rfl, by decide +kernel⟩, by rw [typeLookup_type, builtinLookup_eq_fast]; kernel_rfl⟩
theorem ty_pop : typeOf (.builtin "collections.deque.pop") = pure (.type "method_descriptor") := by show builtinType _ = _; rw [builtinType_eq_fast]; kernel_rfl
theorem ty_append : typeOf (.builtin "collections.deque.append") = pure (.type "method_descriptor") := by show builtinType _ = _; rw [builtinType_eq_fast]; kernel_rfl
end DQ
section
variable {nm : Nat → Str} {X : Cx} {d u : Nat}
theorem nodup_ne {pre post : List (Addr × Obj)} {a : Addr} {o : Obj} (nd : ((pre ++ (a, o) :: post).map (·.1)).Nodup) : (∀ p ∈ pre, p.1 ≠ a) ∧ ∀ p ∈ post, p.1 ≠ a := by
  rw [List.map_append, List.map_cons, List.nodup_append] at nd
  refine ⟨fun p hp e => nd.2.2 p.1 (List.mem_map_of_mem hp) a (.head _) e, fun p hp e => ?_⟩
  have z := (List.nodup_cons.mp nd.2.1).1
  rw [← e] at z
  have y : p.1 ∈ post.map (·.1) := List.mem_map_of_mem hp
  exact z y
theorem St.upd1 {W : Wd} {σ : AS} {s : Shared} (S : St nm X W σ s) {k : Nat} {c : Cell} (hc : σ.cells[k]? = some c) : ∃ a d os, W.ca[k]? = some (a, d) ∧ CellIs nm W a d c os ∧ (∀ p ∈ os, s.heap.get? p.1 = some p.2) ∧
    ∀ o, os = [(a, o)] → ∀ (f : Obj → Obj) (c' : Cell), (f o).isFreed = false → CellIs nm W a d c' [(a, f o)] → ∀ tk, St nm X W { σ with cells := σ.cells.set k c' } { s with heap := s.heap.update a f, toks := tk } := by
  obtain ⟨m, objs, F, hL, hcs, N, nd⟩ := S
  obtain ⟨a, d, pre, os, post, e1, e2, e3, e4⟩ := hcs.split hc
  refine ⟨a, d, os, e1, e3, fun p hp => (N p (by rw [e2]; simp [hp])).1, ?_⟩
  rintro o rfl f c' hf hc' tk
  have key : ∀ o : Obj, W.imm ++ (pre ++ ([(a, o)] ++ post)) = (W.imm ++ pre) ++ (a, o) :: post := fun o => by simp
  rw [e2, key] at N nd
  obtain ⟨p1, p2⟩ := nodup_ne nd
  have z := N (a, o) (by simp)
  have hs : Heap.SameBut a s.heap (s.heap.update a f) := Heap.SameBut.update ..
  have ge : (s.heap.update a f).get? a = some (f o) := Heap.get?_update_self _ z.1 hf
  refine ⟨m, pre ++ ([(a, f o)] ++ post), F.change hs z.2.1 z.2.2, hL, e4 W.le_refl hc', ?_, ?_⟩
  · rw [key]; exact news_set N p1 p2 hs ge
  · rw [key]
    simp only [List.map_append, List.map_cons] at nd ⊢
    exact nd
theorem St.alloc {W : Wd} {σ : AS} {s : Shared} (S : St nm X W σ s) {o : Obj} {h' : Heap} {m : Str → Option Value} (hf : o.isFreed = false) (F' : ∀ {m}, Fr X.h₀ X.L s.heap m → Fr X.h₀ X.L h' m)
    (N' : ∀ {news}, News X.h₀ X.L s.heap news → News X.h₀ X.L h' ((s.heap.objs.size, o) :: news)) (tk : Nat) : W.le { W with imm := (s.heap.objs.size, o) :: W.imm } ∧ St nm X { W with imm := (s.heap.objs.size, o) :: W.imm } σ { s with heap := h', toks := tk } := by
  obtain ⟨m, objs, F, hL, hcs, N, nd⟩ := S
  have hw : W.le { W with imm := (s.heap.objs.size, o) :: W.imm } := ⟨fun p hp => List.mem_cons_of_mem _ hp, [], by simp⟩
  refine ⟨hw, m, objs, F' F, hL.mono hw, hcs.mono hw, N' N, ?_⟩
  show (((s.heap.objs.size, o) :: (W.imm ++ objs)).map (·.1)).Nodup
  rw [List.map_cons, List.nodup_cons]
  refine ⟨fun h => ?_, nd⟩
  obtain ⟨p, hp, e⟩ := List.mem_map.mp h
  have := Heap.lt_size (N p hp).1
  rw [e] at this
  exact Nat.lt_irrefl _ this
theorem newList_ok {σ : AS} {l : List AV} (hz : l.length ≤ 16777216) : ∀ s W vs, St nm X W σ s → RelVs W l vs → EvAt nm X s W (newList vs) (.lst l) σ := by
  intro s W vs S hvs Q E hQ
  obtain ⟨m, objs, F, hL, hcs, N, nd⟩ := id S
  have hlen := hvs.length
  have hsz : sizeLine = 16777216 := by decide
  have fr : (PySem.W.listOf vs.toArray 0).isFreed = false := rfl
  have A := S.alloc (m := m) (o := PySem.W.listOf vs.toArray 0) (h' := s.heap.push (PySem.W.listOf vs.toArray 0)) fr (fun F => F.push _) (fun N => N.push F _ fr) s.toks
  refine wpAny_newObj_type ?_ (by show vs.toArray.size ≤ sizeLine; rw [List.size_toArray, hsz, ← hlen]; exact hz)
  exact hQ _ _ _ s.toks A.1 (.lst (.head _) hz (hvs.mono A.1)) A.2
theorem R_list {es : PE} {p : Pos} {σ σ₁ : AS} {l : List AV} (hz : l.length ≤ 16777216) (h : VsOK nm X (spliced (backTo p (starEach (embL nm es) X.env))) σ l σ₁) : EvOK nm X (eval (emb nm (.list es p)) X.env) σ (.lst l) σ₁ := by
  intro s W S Q E hQ
  refine List_ (h s W S _ _ fun vs W₁ h₁ tk₁ hw₁ hvs S₁ => ?_)
  exact newList_ok hz _ W₁ vs S₁ hvs Q E fun v W₂ h₂ tk₂ hw₂ hv S₂ => hQ v W₂ h₂ tk₂ (Wd.le_trans hw₁ hw₂) hv S₂
theorem newTuple_ok {σ : AS} {l : List AV} (hz : l.length ≤ 16777216) : ∀ s W vs, St nm X W σ s → RelVs W l vs → EvAt nm X s W (newTuple vs) (.tup l) σ := by
  intro s W vs S hvs Q E hQ
  obtain ⟨m, objs, F, hL, hcs, N, nd⟩ := id S
  have hlen := hvs.length
  have hsz : sizeLine = 16777216 := by decide
  have fr : (tupObj vs).isFreed = false := rfl
  have A := S.alloc (m := m) (o := tupObj vs) (h' := s.heap.push (tupObj vs)) fr (fun F => F.push _) (fun N => N.push F _ fr) s.toks
  refine wpAny_newObj_type ?_ (by show vs.toArray.size ≤ sizeLine; rw [List.size_toArray, hsz, ← hlen]; exact hz)
  exact hQ _ _ _ s.toks A.1 (.tup (.head _) hz (hvs.mono A.1)) A.2
theorem R_tup {es : PE} {k : Nat} {p : Pos} {σ σ₁ : AS} {l : List AV} (hz : l.length ≤ 16777216) (h : VsOK nm X (spliced (backTo p (starEach (embL nm es) X.env))) σ l σ₁) : EvOK nm X (eval (emb nm (.tup es k p)) X.env) σ (.tup l) σ₁ := by
  intro s W S Q E hQ
  refine Tuple_ (h s W S _ _ fun vs W₁ h₁ tk₁ hw₁ hvs S₁ => ?_)
  exact newTuple_ok hz _ W₁ vs S₁ hvs Q E fun v W₂ h₂ tk₂ hw₂ hv S₂ => hQ v W₂ h₂ tk₂ (Wd.le_trans hw₁ hw₂) hv S₂
theorem TsAt.here {s : Shared} {W : Wd} {σ : AS} {t : Sem Bool} {b : Bool} (S : St nm X W σ s) (h : ∀ (Q : Bool → Shared → Prop) (E : Value → Shared → Prop), (∀ tk, Q b { s with toks := tk }) → wpAny (model prg X.w) X.A t Q E s) : TsAt nm X s W t b σ := by
  intro Q E hQ
  exact h Q E fun tk => hQ W s.heap tk W.le_refl S.same
theorem dq_truthy {s : Shared} {A : Around} {w : World} {a : Addr} {vs : List Value} {k : Int} {Q : Bool → Shared → Prop} {E : Value → Shared → Prop} (ho : s.heap.get? a = some (dqObj vs k)) (hz : vs.length ≤ 16777216)
    (h : Q (!vs.isEmpty) { s with toks := s.toks + 1 + 1 }) : wpAny (model prg w) A (truthy (.ref a)) Q E s := by
  have hT : s.TypeIs (.ref a) "collections.deque" := ⟨_, ho, rfl⟩
  have hne : ((vs.length : Int) != 0) = !vs.isEmpty := by
    cases vs with
    | nil => rfl
    | cons x r =>
      have : (((x :: r).length : Nat) : Int) ≠ 0 := by simp; omega
      rw [bne_iff_ne.mpr this]; rfl
  have body : wpAny (model prg w) A.in1 (Builtin.«len» ⟨[.ref a], []⟩) (fun fin s' => ∃ r, fin = .done (.ret r) ∧ (r = .int vs.length (s.toks + 1) ∧ Q (!vs.isEmpty) s')) E s := by
    unfold Builtin.«len»
    refine wpAny_bind (m := oneArg "len" _) (wpAny_pure ?_)
    refine wpAny_bind (m := callSpecial? (.ref a) (Str.ofString "__len__")) (wpAny_callSpecial?_slot (name := Str.ofString "__len__") hT DQ.slot_len
      (wpAny_call_entry DQ.slot_len hT DQ.entry_len ?_ (DQ.args_len _)))
    show wpAny _ _ (do retInt (← (do return (← Builtin.Deque.size (.ref a) : Nat)))) _ _ s
    unfold Builtin.Deque.size fieldsOf
    refine wpAny_bind (wpAny_bind (wpAny_bind (wpAny_bind (wpAny_load ho (wpAny_pure (wpAny_pure ?_))))))
    refine wpAny_pure (wpAny_bind (wpAny_mkInt (wpAny_pure ⟨_, rfl, ?_⟩)))
    refine wpAny_bind (wpAny_holding (wpAny_pure ?_))
    refine wpAny_bind (wpAny_letGo ?_)
    have hs : ((#[Value.none, rawInt k] ++ vs.toArray).size - 2 : Nat) = vs.length := by simp
    rw [hs]
    show wpAny _ _ (if ((vs.length : Nat) : Int) < 0 then _ else _) _ _ _
    rw [if_neg (by omega)]
    show wpAny _ _ (if ((vs.length : Nat) : Int) ≥ 2 ^ 63 then _ else _) _ _ _
    rw [if_neg (by omega)]
    exact wpAny_bind (wpAny_mkInt (wpAny_pure ⟨_, rfl, rfl, h⟩))
  have key : wpAny (model prg w) A (runValue (.builtin "len" ⟨[.ref a], []⟩)) (fun r s' => r = .int vs.length (s.toks + 1) ∧ Q (!vs.isEmpty) s') E s := by
    refine wpAny_runValue (codeAny_builtin entry_len ?_)
    rw [Around.under_plainId plain_len _]
    exact wpAny_mono body (fun fin s' h' => by obtain ⟨r, rfl, hq⟩ := h'; exact hq) fun _ _ e => e
  unfold truthy
  first
    | refine wpAny_bind (wpAny_callSpecial?_none (name := Str.ofString "__bool__") hT DQ.noBool ?_)
    | refine wpAny_bind (wpAny_pure (wpAny_bind (wpAny_callSpecial?_none (name := Str.ofString "__bool__") hT DQ.noBool ?_)))
  first
    | refine wpAny_bind (wpAny_specialOf (name := Str.ofString "__len__") hT DQ.slot_len.lookup ?_)
    | refine wpAny_bind (wpAny_pure (wpAny_bind (wpAny_specialOf (name := Str.ofString "__len__") hT DQ.slot_len.lookup ?_)))
  first
    | exact wpAny_bind (wpAny_mono key (fun r s' h' => by obtain ⟨rfl, hq⟩ := h'; exact wpAny_pure (hne ▸ hq)) fun _ _ e => e)
    | exact wpAny_bind (wpAny_pure (wpAny_bind (wpAny_mono key (fun r s' h' => by obtain ⟨rfl, hq⟩ := h'; exact wpAny_pure (hne ▸ hq)) fun _ _ e => e)))
theorem tru_ok {σ : AS} {a : AV} {b : Bool} (h : truA a σ.cells = some b) : TruOK nm X σ a b := by
  intro s W v S hv
  refine TsAt.here S fun Q E hQ => ?_
  cases a with
  | none => cases hv; cases h; exact fun _ _ _ => hQ s.toks
  | bool x => cases hv; cases h; exact wpAny_truthy_bool (hQ s.toks)
  | int i => cases hv; cases h; exact PyProof.Rows.truthy_int (hQ s.toks)
  | str l =>
    cases hv with
    | str l t hz =>
      cases h
      refine PySem.P.truthy_str ?_ ?_
      · show ¬ (((⟨l.toArray⟩ : Str).length : Nat) : Int) ≥ 2 ^ 63
        simp only [Str.length, List.size_toArray]; omega
      · rw [len_ne]; exact hQ _
  | lst l =>
    cases h
    obtain ⟨x, vs, rfl, hL, hs, hz⟩ := S.isList hv (l := l) rfl
    have he : vs.toArray.isEmpty = l.isEmpty := by cases hs <;> rfl
    exact wpAny_truthy_list hL (by have hlen := hs.length; simp only [List.size_toArray]; omega) (by rw [he]; exact hQ _)
  | cell k =>
    unfold truA at h
    dsimp only at h
    cases e : σ.cells[k]? with
    | none => rw [e] at h; cases h
    | some c =>
      rw [e] at h
      cases c with
      | list l =>
        cases h
        obtain ⟨x, vs, rfl, hL, hs, hz⟩ := S.isList hv (l := l.reverse) (by simp [listA, e])
        have he : vs.toArray.isEmpty = l.isEmpty := by
          have h1 := hs.length
          rw [List.length_reverse] at h1
          cases l <;> cases vs <;> first | rfl | (cases h1; done)
        exact wpAny_truthy_list hL (by have hlen := hs.length; simp only [List.size_toArray]; omega) (by rw [he]; exact hQ _)
      | deque l =>
        cases h
        obtain ⟨a, d, os, hca, hc, hg⟩ := S.get e
        cases hc with
        | deque hz hs =>
          obtain ⟨x, dx, rfl, hca'⟩ := hv.isRef
          rw [hca] at hca'
          cases hca'
          rename_i vs kk
          have he : vs.reverse.isEmpty = l.isEmpty := by rw [List.isEmpty_reverse]; cases hs <;> rfl
          exact dq_truthy (hg _ (.head _)) (by rw [List.length_reverse, ← hs.length]; exact hz) (by rw [he]; exact hQ _)
      | _ => cases h
  | _ => cases h
end
section
variable {nm : Nat → Str} {X : Cx} {d u : Nat}
theorem sizeLine_is : sizeLine = 16777216 := by decide
noncomputable def arA (op : Operator) (x y : Int) : Option (Int × Prop) := match op with
  | .Add => some (x + y, True)
  | .Sub => some (x - y, True)
  | .Mod => some (x.fmod y, y ≠ 0)
  | .FloorDiv => some (x.fdiv y, y ≠ 0 ∧ Builtin.divisionGoesByPylong x y = false)
  | .BitAnd => some (Builtin.bitAnd x y, True)
  | .BitOr => some (Builtin.bitOr x y, True)
  | .BitXor => some (Builtin.bitXor x y, True)
  | _ => none
theorem str_app (x y : List Nat) : (⟨x.toArray⟩ : Str) ++ (⟨y.toArray⟩ : Str) = ⟨(x ++ y).toArray⟩ := by
  show Str.mk _ = _
  congr 1
  simp
theorem bin_int {op : Operator} {x y z : Int} {P : Prop} (h : arA op x y = some (z, P)) (hP : P) (σ : AS) : BinOK nm X (binaryOp op) σ (.int x) (.int y) (.int z) σ := by
  intro s W va vb S ha hb
  refine EvAt.here S fun Q E hQ => ?_
  cases ha
  cases hb
  cases op with
  | Add => cases h; exact PyProof.Rows.add_int (hQ _ _ (.int _ _))
  | Sub => cases h; exact PyProof.Rows.sub_int (hQ _ _ (.int _ _))
  | Mod => cases h; exact PyProof.Rows.mod_int' hP (hQ _ _ (.int _ _))
  | FloorDiv => cases h; exact PyProof.Rows.floordiv_int hP.1 (hQ _ _ (.int _ _)) (.inl hP.2)
  | BitAnd => cases h; exact PyProof.Rows.and_int (hQ _ _ (.int _ _))
  | BitOr => cases h; exact PyProof.Rows.or_int (hQ _ _ (.int _ _))
  | BitXor => cases h; exact PyProof.Rows.xor_int (hQ _ _ (.int _ _))
  | _ => cases h
theorem bin_str {x y : List Nat} (hP : x.length + y.length ≤ 16777216) (σ : AS) : BinOK nm X (binaryOp .Add) σ (.str x) (.str y) (.str (x ++ y)) σ := by
  intro s W va vb S ha hb
  cases ha with
  | str x t hx => cases hb with
    | str y t' hy =>
      refine EvAt.here S fun Q E hQ => PyProof.Rows.add_str (fun t'' tk => ?_) ?_
      · rw [str_app]; exact hQ _ _ (.str _ _ (by rw [List.length_append]; exact hP))
      · rw [sizeLine_is]; simpa [Str.length] using hP
theorem bin_lst {x y : List AV} (hP : x.length + y.length ≤ 16777216) (σ : AS) : BinOK nm X (binaryOp .Add) σ (.lst x) (.lst y) (.lst (x ++ y)) σ := by
  intro s W va vb S ha hb
  obtain ⟨xa, vs, rfl, hL, hs, hz⟩ := S.isList ha (l := x) rfl
  obtain ⟨ya, vs', rfl, hL', hs', hz'⟩ := S.isList hb (l := y) rfl
  have l1 := hs.length
  have l2 := hs'.length
  intro Q E hQ
  obtain ⟨m, objs, F, hLo, hcs, N, nd⟩ := id S
  have hfin : ∀ h', Fr X.h₀ X.L h' m → News X.h₀ X.L h' ((s.heap.objs.size, { cls := .type "list", data := .seq (vs.toArray.toList ++ vs'.toArray.toList).toArray }) :: (W.imm ++ objs)) → Q (.ref s.heap.objs.size) { s with heap := h' } := by
    intro h' F' N'
    let W' : Wd := { W with imm := (s.heap.objs.size, PySem.W.listOf (vs ++ vs').toArray 0) :: W.imm }
    have hw : W.le W' := ⟨fun p hp => List.mem_cons_of_mem _ hp, [], by simp [W']⟩
    refine hQ _ W' h' s.toks hw (.lst (.head _) (by rw [List.length_append]; exact hP) ((hs.append hs').mono hw)) ⟨m, objs, F', hLo.mono hw, hcs.mono hw, ?_, ?_⟩
    · simpa [W'] using N'
    · show (((s.heap.objs.size, _) :: (W.imm ++ objs)).map (·.1)).Nodup
      rw [List.map_cons, List.nodup_cons]
      refine ⟨fun hm => ?_, nd⟩
      obtain ⟨p, hp, e⟩ := List.mem_map.mp hm
      have := Heap.lt_size (N p hp).1
      rw [e] at this
      exact Nat.lt_irrefl _ this
  exact add_arrays F N hL hL' hfin (by simp only [List.size_toArray]; rw [sizeLine_is]; omega)
theorem inpl_int {x y : Int} (σ : AS) : BinOK nm X (inplaceOp .Add) σ (.int x) (.int y) (.int (x + y)) σ := by
  intro s W va vb S ha hb
  cases ha; cases hb; exact EvAt.here S fun Q E hQ => PyProof.Rows.iadd_int (hQ _ _ (.int _ _))
theorem inpl_str {x y : List Nat} (hP : x.length + y.length ≤ 16777216) (σ : AS) : BinOK nm X (inplaceOp .Add) σ (.str x) (.str y) (.str (x ++ y)) σ := by
  intro s W va vb S ha hb
  cases ha with
  | str x t hx => cases hb with
    | str y t' hy =>
      refine EvAt.here S fun Q E hQ => PyProof.Rows.iadd_str (fun t'' tk => ?_) ?_
      · rw [str_app]; exact hQ _ _ (.str _ _ (by rw [List.length_append]; exact hP))
      · rw [sizeLine_is]; simpa [Str.length] using hP
theorem list_ty {s : Shared} {a : Addr} {vs : List Value} {n : Nat} (ho : s.heap.get? a = some (PySem.W.listOf vs.toArray n)) : s.TypeIs (.ref a) "list" := ⟨_, ho, rfl⟩
theorem append_ok {σ : AS} {k : Nat} {l : List AV} {a : AV} (hc : σ.cells[k]? = some (.list l)) (hz : l.length + 1 ≤ 16777216) : FnOK nm X (.builtin "list.append") [.cell k, a] σ .none { σ with cells := σ.cells.set k (.list (a :: l)) } := by
  intro s W vals S hv Q E hQ
  cases hv with
  | cons h1 hr => cases hr with
    | cons h2 hr => cases hr with
      | nil =>
        rename_i v
        obtain ⟨x, dx, rfl, hca⟩ := h1.isRef
        obtain ⟨a', d', os, hca', hci, hg, up⟩ := S.upd1 hc
        rw [hca] at hca'
        cases hca'
        cases hci with
        | list hz' hs =>
          rename_i vs n
          have ho := hg _ (.head _)
          have hlen := hs.length
          have key : Obj.mapSeq (fun x_1 => x_1.push v) (PySem.W.listOf vs.reverse.toArray n) = PySem.W.listOf (v :: vs).reverse.toArray (n + 1) := by simp [Obj.mapSeq, PySem.W.listOf]
          refine call_meets F.slot_list_append (list_ty ho) F.entry_list_append (F.args_list_append_2 _ _) (AutoListH.list_append_list_val_0 x vs.reverse.toArray n v (by rw [sizeLine_is]; simp; omega)) ⟨ho, ?_⟩
          refine hQ _ W _ s.toks W.le_refl .none (up _ rfl _ (.list (a :: l)) (by rw [key]; rfl) ?_ s.toks)
          rw [key]
          exact .list (by rw [List.length_cons]; exact hz) (.cons h2 hs)
theorem pop_ok {σ : AS} {k : Nat} {l : List AV} {a : AV} (hc : σ.cells[k]? = some (.list (a :: l))) : FnOK nm X (.builtin "list.pop") [.cell k] σ a { σ with cells := σ.cells.set k (.list l) } := by
  intro s W vals S hv Q E hQ
  cases hv with
  | cons h1 hr => cases hr with
    | nil =>
      obtain ⟨x, dx, rfl, hca⟩ := h1.isRef
      obtain ⟨a', d', os, hca', hci, hg, up⟩ := S.upd1 hc
      rw [hca] at hca'
      cases hca'
      cases hci with
      | list hz' hs => cases hs with
        | cons h2 hs =>
          rename_i n v vs
          have ho := hg _ (.head _)
          have hlen := hs.length
          have hsz : ((v :: vs).reverse.toArray.size - 1) = vs.length := by simp
          have key : Obj.mapSeq (fun xs => xs.eraseIdxIfInBounds ((v :: vs).reverse.toArray.size - 1)) (PySem.W.listOf (v :: vs).reverse.toArray n) = PySem.W.listOf vs.reverse.toArray (n + 1) := by
            rw [hsz]
            have e : (v :: vs).reverse.toArray.eraseIdxIfInBounds vs.length = vs.reverse.toArray := by
              apply Array.ext'
              simp [List.eraseIdx_append_of_length_le]
            simp only [Obj.mapSeq, PySem.W.listOf, e]
            simp
          refine call_meets F.slot_list_pop (list_ty ho) F.entry_list_pop (F.args_list_pop_1 _) (PySem.MeetsSeq.list_pop_last x (v :: vs).reverse.toArray n v (by simp) (by rw [sizeLine_is]; simp at hz' ⊢; omega)) ⟨ho, ?_⟩
          refine hQ _ W _ s.toks W.le_refl h2 (up _ rfl _ (.list l) (by rw [key]; rfl) ?_ s.toks)
          rw [key]
          exact .list (by simp at hz'; omega) hs
end
section
variable {nm : Nat → Str} {X : Cx} {d u : Nat}
theorem wpAny_fieldsOf {M : Model} {A : Around} {E : Value → Shared → Prop} {s : Shared} {a : Addr} {o : Obj} {vs : Array Value} {Q : Array Value → Shared → Prop} (ho : s.heap.get? a = some o) (hd : o.data = .fields vs) (h : Q vs s) : wpAny M A (fieldsOf (.ref a)) Q E s := by
  unfold fieldsOf
  refine wpAny_bind (wpAny_load ho ?_)
  rw [hd]
  exact wpAny_pure h
theorem dq_change {M : Model} {A : Around} {E : Value → Shared → Prop} {s : Shared} {a : Addr} {vs vs' : List Value} {k : Int} {f : Array Value → Array Value} {Q : Unit → Shared → Prop} (ho : s.heap.get? a = some (dqObj vs k)) (hf : f vs.toArray = vs'.toArray) (hz : vs'.length ≤ 16777216)
    (h : ∀ g : Obj → Obj, g (dqObj vs k) = dqObj vs' (k + 1) → Q () { s with heap := s.heap.update a g }) : wpAny M A (Builtin.Deque.change (.ref a) f) Q E s := by
  unfold Builtin.Deque.change Builtin.Deque.state field
  refine wpAny_bind (wpAny_bind (wpAny_bind (wpAny_fieldsOf ho rfl ?_)))
  have e1 : (#[Value.none, rawInt k] ++ vs.toArray)[1]? = some (rawInt k) := by simp
  rw [e1]
  refine wpAny_pure ?_
  refine wpAny_pure ?_
  unfold updateFields
  refine wpAny_bind (wpAny_load ho ?_)
  have key : Obj.mapFields (fun ws => #[ws.getD 0 .none, rawInt (if true = true then k + 1 else k)] ++ f (ws.extract 2 ws.size)) (dqObj vs k) = dqObj vs' (k + 1) := by
    have e2 : (#[Value.none, rawInt k] ++ vs.toArray).extract 2 (#[Value.none, rawInt k] ++ vs.toArray).size = vs.toArray := by
      apply Array.ext'; simp
    simp only [Obj.mapFields, e2, hf, if_true]
    simp
  refine wpAny_bind (wpAny_update ho ?_)
  refine wpAny_lookBehind (o := dqObj vs' (k + 1)) ?_ ?_ (h _ key)
  · rw [Heap.get?_update_self _ ho (by rw [key]; rfl), key]
  · exact pastItsLine_fields (by rw [sizeLine_is]; simp; omega)
theorem dq_ty {s : Shared} {a : Addr} {vs : List Value} {k : Int} (ho : s.heap.get? a = some (dqObj vs k)) : s.TypeIs (.ref a) "collections.deque" := ⟨_, ho, rfl⟩
theorem dq_pop_ok {σ : AS} {k : Nat} {l : List AV} {a : AV} (hc : σ.cells[k]? = some (.deque (a :: l))) : FnOK nm X (.builtin "collections.deque.pop") [.cell k] σ a { σ with cells := σ.cells.set k (.deque l) } := by
  intro s W vals S hv Q E hQ
  cases hv with
  | cons h1 hr => cases hr with
    | nil =>
      obtain ⟨x, dx, rfl, hca⟩ := h1.isRef
      obtain ⟨a', d', os, hca', hci, hg, up⟩ := S.upd1 hc
      rw [hca] at hca'
      cases hca'
      cases hci with
      | deque hz' hs => cases hs with
        | cons h2 hs =>
          rename_i kk v vs
          have ho := hg _ (.head _)
          have hlen := hs.length
          simp only [List.length_cons] at hz'
          refine wpAny_call_entry DQ.slot_pop (dq_ty ho) DQ.entry_pop ?_ (DQ.args_pop _)
          unfold Builtin.«collections.deque.pop»
          refine wpAny_bind (m := selfOnly "deque.pop" _) (wpAny_pure ?_)
          unfold Builtin.Deque.items
          refine wpAny_bind (wpAny_bind (wpAny_fieldsOf ho rfl (wpAny_pure ?_)))
          have e2 : (#[Value.none, rawInt kk] ++ (v :: vs).reverse.toArray).extract 2 (#[Value.none, rawInt kk] ++ (v :: vs).reverse.toArray).size = (v :: vs).reverse.toArray := by
            apply Array.ext'; simp [List.take_of_length_le]
          have e3 : ((v :: vs).reverse.toArray).back? = some v := by simp [Array.back?_eq_getElem?]
          simp only [e2, e3]
          refine wpAny_bind (dq_change (vs' := vs.reverse) ho ?_ (by rw [List.length_reverse]; omega) fun g hgk => ?_)
          · apply Array.ext'; simp
          · refine wpAny_pure ⟨_, rfl, ?_⟩
            exact hQ _ W _ s.toks W.le_refl h2 (up _ rfl g (.deque l) (by rw [hgk]; rfl) (by rw [hgk]; exact .deque (by omega) hs) s.toks)
theorem dq_append_ok {σ : AS} {k : Nat} {l : List AV} {a : AV} (hc : σ.cells[k]? = some (.deque l)) (hz : l.length + 1 ≤ 16777216) : FnOK nm X (.builtin "collections.deque.append") [.cell k, a] σ .none { σ with cells := σ.cells.set k (.deque (a :: l)) } := by
  intro s W vals S hv Q E hQ
  cases hv with
  | cons h1 hr => cases hr with
    | cons h2 hr => cases hr with
      | nil =>
        rename_i v
        obtain ⟨x, dx, rfl, hca⟩ := h1.isRef
        obtain ⟨a', d', os, hca', hci, hg, up⟩ := S.upd1 hc
        rw [hca] at hca'
        cases hca'
        cases hci with
        | deque hz' hs =>
          rename_i vs kk
          have ho := hg _ (.head _)
          have hlen := hs.length
          refine wpAny_call_entry DQ.slot_append (dq_ty ho) DQ.entry_append ?_ (DQ.args_append _ _)
          unfold Builtin.«collections.deque.append»
          refine wpAny_bind (m := selfAndOne "deque.append" _) (wpAny_pure ?_)
          unfold Builtin.Deque.pushRight
          refine wpAny_bind (wpAny_bind (dq_change (vs' := (v :: vs).reverse) ho (by apply Array.ext'; simp) (by rw [List.length_reverse, List.length_cons]; omega) fun g hgk => ?_))
          have ho' : (s.heap.update x g).get? x = some (dqObj (v :: vs).reverse (kk + 1)) := by rw [Heap.get?_update_self _ ho (by rw [hgk]; rfl), hgk]
          unfold Builtin.Deque.maxlen field
          refine wpAny_bind (wpAny_bind (wpAny_bind (wpAny_fieldsOf (s := { s with heap := s.heap.update x g }) ho' rfl ?_)))
          have e1 : (#[Value.none, rawInt (kk + 1)] ++ (v :: vs).reverse.toArray)[0]? = some Value.none := by simp
          rw [e1]
          refine wpAny_pure (wpAny_pure (wpAny_pure ?_))
          refine wpAny_pure ⟨_, rfl, ?_⟩
          exact hQ _ W _ s.toks W.le_refl .none (up _ rfl g (.deque (a :: l)) (by rw [hgk]; rfl) (by rw [hgk]; exact .deque (by rw [List.length_cons]; exact hz) (.cons h2 hs)) s.toks)
theorem MethOK.bi {σ : AS} {a : AV} {name : Str} {T id : String} (pa : PlainAttrs T) (slot : Slot T name id) (hty : typeOf (.builtin id) = pure (.type "method_descriptor"))
    (hT : ∀ s W v, St nm X W σ s → RelV W a v → s.TypeIs v T ∧ ∀ x, v = .ref x → ∃ o, s.heap.get? x = some o ∧ o.dict = none) : MethOK nm X σ a name (.builtin id) := by
  intro s W ov pl S hv Q E hQ
  obtain ⟨h1, h2⟩ := hT s W ov S hv
  exact getMethod_builtin h1 pa slot hty h2 hQ
theorem cell_list_ty {σ : AS} {k : Nat} {l : List AV} (hc : σ.cells[k]? = some (.list l)) : ∀ s W v, St nm X W σ s → RelV W (.cell k) v → s.TypeIs v "list" ∧ ∀ x, v = .ref x → ∃ o, s.heap.get? x = some o ∧ o.dict = none := by
  intro s W v S hv
  obtain ⟨a, d, os, hca, hci, hg⟩ := S.get hc
  obtain ⟨x, dx, rfl, hca'⟩ := hv.isRef
  rw [hca] at hca'
  cases hca'
  cases hci with
  | list hz hs =>
    have ho := hg _ (.head _)
    exact ⟨⟨_, ho, rfl⟩, fun y e => by cases e; exact ⟨_, ho, rfl⟩⟩
theorem cell_dq_ty {σ : AS} {k : Nat} {l : List AV} (hc : σ.cells[k]? = some (.deque l)) : ∀ s W v, St nm X W σ s → RelV W (.cell k) v → s.TypeIs v "collections.deque" ∧ ∀ x, v = .ref x → ∃ o, s.heap.get? x = some o ∧ o.dict = none := by
  intro s W v S hv
  obtain ⟨a, d, os, hca, hci, hg⟩ := S.get hc
  obtain ⟨x, dx, rfl, hca'⟩ := hv.isRef
  rw [hca] at hca'
  cases hca'
  cases hci with
  | deque hz hs =>
    have ho := hg _ (.head _)
    exact ⟨⟨_, ho, rfl⟩, fun y e => by cases e; exact ⟨_, ho, rfl⟩⟩
end
section
variable {nm : Nat → Str} {X : Cx} {d u : Nat}
theorem R_usub {e : PE} {p : Pos} {σ σ₁ : AS} {i : Int} (h : EvOK nm X (eval (emb nm e) X.env) σ (.int i) σ₁) : EvOK nm X (eval (emb nm (.usub e p)) X.env) σ (.int (-i)) σ₁ := by
  intro s W S Q E hQ
  refine wpAny_UnaryOp ?_
  refine h s W S _ _ fun v W₁ h₁ tk₁ hw₁ hv S₁ => ?_
  cases hv
  exact PyProof.Rows.neg_int (hQ _ W₁ h₁ _ hw₁ (.int _ _) S₁)
noncomputable def subN (a : AV) (n : Nat) (cells : List Cell) : Option AV := match a with
  | .lst l => grd (Nat.blt n 16777216) l[n]?
  | .str l => grd (Nat.blt n 16777216) ((l[n]?).map fun c => .str [c])
  | .cell k => grd (Nat.beq n 0) ((cells[k]?.bind Cell.list?).bind only1)
  | _ => none
noncomputable def subM (a : AV) (m : Nat) (cells : List Cell) : Option AV := grd (Nat.beq m 0) (a.cell?.bind fun k => (cells[k]?.bind Cell.list?).bind List.head?)
noncomputable def subI (a : AV) (cells : List Cell) : Int → Option AV
  | .ofNat n => subN a n cells
  | .negSucc m => subM a m cells
noncomputable def subA (a i : AV) (cells : List Cell) : Option AV := i.int?.bind fun n => subI a cells n
noncomputable def PE.idx : PE → Bool
  | .loc .. | .cint .. | .usub .. | .bin .. | .sub .. => true
  | _ => false
theorem subd {e : PE} (h : e.idx = true) (o i : Value) : subscripted (emb nm e) false o i = operate [o, i] (getItem o i) := by
  cases e <;> first | (cases h; done) | rfl
theorem R_not {e : PE} {p : Pos} {σ σ₁ : AS} {a : AV} {b : Bool} (h : EvOK nm X (eval (emb nm e) X.env) σ a σ₁) (ht : TruOK nm X σ₁ a b) : EvOK nm X (eval (emb nm (.not e p)) X.env) σ (.bool (!b)) σ₁ := by
  intro s W S Q E hQ
  refine wpAny_UnaryOp ?_
  refine h s W S _ _ fun v W' h' tk' hw hr S' => ?_
  exact not_value (ht _ W' v S' hr _ _ fun W₂ h₂ tk₂ hw₂ S₂ => hQ _ W₂ h₂ tk₂ (Wd.le_trans hw hw₂) (.bool _) S₂)
theorem R_subO {e i : PE} {p : Pos} {σ σ₁ σ₂ σ₃ : AS} {a b r : AV} (he : EvOK nm X (eval (emb nm e) X.env) σ a σ₁) (hi : EvOK nm X (eval (emb nm i) X.env) σ₁ b σ₂) (ho : BinOK nm X (subscriptTail (emb nm e) (emb nm i)) σ₂ a b r σ₃) :
    EvOK nm X (eval (emb nm (.sub e i p)) X.env) σ r σ₃ := by
  intro s W S Q E hQ
  refine Subscript_ ?_
  refine he s W S _ _ fun va W₁ h₁ tk₁ hw₁ ha S₁ => ?_
  refine hi _ W₁ S₁ _ _ fun vb W₂ h₂ tk₂ hw₂ hb S₂ => ?_
  exact ho _ W₂ va vb S₂ (ha.mono hw₂) hb _ _ fun v W₃ h₃ tk₃ hw₃ hv S₃ => hQ v W₃ h₃ tk₃ (Wd.le_trans hw₁ (Wd.le_trans hw₂ hw₃)) hv S₃
theorem R_sub {e i : PE} {p : Pos} {σ σ₁ σ₂ : AS} {a b r : AV} (hidx : i.idx = true) (he : EvOK nm X (eval (emb nm e) X.env) σ a σ₁) (hi : EvOK nm X (eval (emb nm i) X.env) σ₁ b σ₂) (hs : subA a b σ₂.cells = some r) :
    EvOK nm X (eval (emb nm (.sub e i p)) X.env) σ r σ₂ := by
  intro s W S Q E hQ
  refine Subscript_ ?_
  refine he s W S _ _ fun va W₁ h₁ tk₁ hw₁ ha S₁ => ?_
  refine hi _ W₁ S₁ _ _ fun vb W₂ h₂ tk₂ hw₂ hb S₂ => ?_
  replace ha := ha.mono hw₂
  have hw := Wd.le_trans hw₁ hw₂
  have hd := fun (o i' : Value) => subd (nm := nm) hidx o i'
  obtain ⟨n, hn, k1⟩ := bind_eq hs
  clear hs
  have := int?_eq hn
  subst this
  cases hb
  cases n with
  | ofNat n =>
    cases a with
    | lst l =>
      obtain ⟨hlt, k2⟩ := grd_eq (b := Nat.blt n 16777216) k1
      have hlt := Nat.le_of_ble_eq_true hlt
      obtain ⟨x, vs, rfl, hL, hr, hz⟩ := S₂.isList ha (l := l) rfl
      obtain ⟨v, hv, hrv⟩ := hr.get k2
      refine tail_any hL.typeIs slot_list_getitem.lookup (wpAny_getItem_list hL ?_ ?_ (by simpa using hv) (hQ v W₂ h₂ tk₂ hw hrv S₂)) (hd _ _)
      · exact Int.natCast_nonneg n
      · exact Int.ofNat_lt.mpr (Nat.lt_of_lt_of_le hlt (by decide))
    | str l =>
      obtain ⟨hlt', k2⟩ := grd_eq (b := Nat.blt n 16777216) k1
      have hlt' := Nat.le_of_ble_eq_true hlt'
      obtain ⟨c, hc, rfl⟩ := map_eq k2
      cases ha with
      | str l t hz =>
        have hlt : n < l.length := by
          rcases Nat.lt_or_ge n l.length with q | q
          · exact q
          · rw [List.getElem?_eq_none q] at hc; cases hc
        refine tail_any (T := "str") rfl F.slot_str_getitem.lookup (PySem.P.getItem_str (c := c) ?_ ?_ ?_) (hd _ _)
        · have h1 : ¬ (Int.ofNat n < -(2 ^ 63 : Int)) := by show ¬ ((n : Int) < _); omega
          have h2 : ¬ (Int.ofNat n ≥ 2 ^ 63) := by show ¬ ((n : Int) ≥ _); omega
          rw [decide_eq_false h1, decide_eq_false h2]; rfl
        · have : seqIndex? (Int.ofNat n) (⟨l.toArray⟩ : Str).length = some n := by
            unfold seqIndex?
            have h0 : ¬ ((n : Int) < 0) := by omega
            simp only [Str.length, List.size_toArray, Int.ofNat_eq_natCast, if_neg h0]
            rw [if_pos]
            · simp
            · simp; omega
          rw [this]
          simpa using hc
        · exact hQ _ W₂ h₂ _ hw (.str [c] _ (by simp)) S₂
    | cell k =>
      obtain ⟨h0, k2⟩ := grd_eq (b := Nat.beq n 0) k1
      clear k1
      have h0 := Nat.eq_of_beq_eq_true h0
      subst h0
      obtain ⟨l, h1, h3⟩ := bind_eq k2
      have e := at_list h1
      have := only1_eq h3
      subst this
      obtain ⟨ax, vs, rfl, hL, hr, hz⟩ := S₂.isList ha (l := [r].reverse) (by simp [listA, e])
      obtain ⟨v, hv, hrv⟩ := hr.get (i := 0) (a := r) (by simp)
      refine tail_any hL.typeIs slot_list_getitem.lookup (wpAny_getItem_list hL ?_ ?_ (by simpa using hv) (hQ v W₂ h₂ tk₂ hw hrv S₂)) (hd _ _)
      · decide
      · decide
    | _ => cases k1
  | negSucc m =>
    obtain ⟨h0, k2⟩ := grd_eq (b := Nat.beq m 0) k1
    clear k1
    have h0 := Nat.eq_of_beq_eq_true h0
    subst h0
    obtain ⟨k, h1, h3⟩ := bind_eq k2
    have := cell?_eq h1
    subst this
    obtain ⟨l, h4, h5⟩ := bind_eq h3
    have e := at_list h4
    cases l with
    | nil => cases h5
    | cons y xs =>
      cases h5
      obtain ⟨ax, vs, rfl, hL, hr, hz⟩ := S₂.isList ha (l := (r :: xs).reverse) (by simp [listA, e])
      obtain ⟨v, hv, hrv⟩ := hr.get (i := xs.length) (a := r) (by simp)
      have hlen := hr.length
      simp only [List.length_reverse, List.length_cons] at hlen hz
      refine tail_any hL.typeIs slot_list_getitem.lookup (wpAny_getItem_list_neg (x := v) hL ?_ ?_ ?_ ?_ (hQ v W₂ h₂ tk₂ hw hrv S₂)) (hd _ _)
      · decide
      · rw [List.size_toArray, ← hlen]; show -((xs.length + 1 : Nat) : Int) ≤ -1; omega
      · decide
      · have : (Int.negSucc 0 + (vs.toArray.size : Int)).toNat = xs.length := by rw [List.size_toArray, ← hlen]; show (-1 + ((xs.length + 1 : Nat) : Int)).toNat = _; omega
        rw [this]
        simpa using hv
theorem len_list_ok {σ : AS} {a : AV} {l : List AV} (hl : listA a σ.cells = some l) : FnOK nm X (.builtin "len") [a] σ (.int l.length) σ := by
  intro s W vals S hv
  cases hv with
  | cons h1 hr => cases hr with
    | nil =>
      obtain ⟨x, vs, rfl, hL, hs, hz⟩ := S.isList h1 hl
      have hlen := hs.length
      refine EvAt.here S fun Q E hQ => ?_
      have := PyProof.Rows.len_list (prog := prg) (w := X.w) (A := X.A) (E := E) (Q := Q) hL (by simp only [List.size_toArray]; omega)
      refine this ?_
      simp only [List.size_toArray, ← hlen]
      exact hQ _ _ (.int _ _)
theorem len_str_ok {σ : AS} {l : List Nat} : FnOK nm X (.builtin "len") [.str l] σ (.int l.length) σ := by
  intro s W vals S hv
  cases hv with
  | cons h1 hr => cases hr with
    | nil => cases h1 with
      | str l t hz =>
        refine EvAt.here S fun Q E hQ => ?_
        refine PySem.P.len_str ?_ ?_
        · simp only [Str.length, List.size_toArray]; omega
        · simp only [Str.length, List.size_toArray]
          exact hQ _ _ (.int _ _)
theorem T_cmp2 {l m r : PE} {o1 o2 : CmpOp} {p : Pos} {whole : Sem Value} {σ σ₁ σ₂ σ₃ : AS} {a b c : AV} {x y : Bool} (hm : m.real = true) (hr : r.real = true)
    (h1 : EvOK nm X (eval (emb nm l) X.env) σ a σ₁) (h2 : EvOK nm X (eval (emb nm m) X.env) σ₁ b σ₂) (hc : BinOK nm X (compareOp o1) σ₂ a b (.bool x) σ₂)
    (h3 : x = true → EvOK nm X (eval (emb nm r) X.env) σ₂ c σ₃ ∧ BinOK nm X (compareOp o2) σ₃ b c (.bool y) σ₃) (h4 : x = false → y = false ∧ σ₃ = σ₂) :
    TsOK nm X (isTrue (emb nm (.cmp2 l o1 m o2 r p)) X.env whole) σ y σ₃ := by
  intro s W S Q E hQ
  show wpAny _ _ (do testChain p (← eval (emb nm l) X.env) [o1, o2] (markedEach [o1, o2] [emb nm m, emb nm r] (evalEach [emb nm m, emb nm r] X.env))) _ _ _
  refine wpAny_bind (h1 s W S _ _ fun va W₁ h₁ tk₁ hw₁ ha S₁ => ?_)
  have hme : markedEach [o1, o2] [emb nm m, emb nm r] (evalEach [emb nm m, emb nm r] X.env) = [eval (emb nm m) X.env, eval (emb nm r) X.env] := by
    have : evalEach [emb nm m, emb nm r] X.env = [eval (emb nm m) X.env, eval (emb nm r) X.env] := by rw [evalEach, evalEach, evalEach]
    rw [this]
    show [eval (emb nm m) X.env, markedBehindIn o2 (emb nm r) (eval (emb nm r) X.env)] = _
    unfold markedBehindIn
    rw [noMarks hr]
  rw [hme]
  show wpAny _ _ (do
    let rv ← holding [va] (eval (emb nm m) X.env)
    standAt p
    let c ← holding [va, rv] (compareOp o1 va rv)
    release [va, rv] [c]
    if ← holding [c, rv] (truthy c) then testChain p rv [o2] [eval (emb nm r) X.env] else pure false) _ _ _
  refine wpAny_bind (wpAny_holding (h2 _ W₁ S₁ _ _ fun vb W₂ h₂ tk₂ hw₂ hb S₂ => ?_))
  refine wpAny_bind (wpAny_standAt ?_)
  refine wpAny_bind (wpAny_holding (hc _ W₂ va vb S₂ (ha.mono hw₂) hb _ _ fun vc W₃ h₃ tk₃ hw₃ hvc S₃ => ?_))
  cases hvc
  refine wpAny_bind (wpAny_release ?_)
  refine wpAny_bind (wpAny_holding (wpAny_truthy_bool ?_))
  have hwA := Wd.le_trans hw₁ (Wd.le_trans hw₂ hw₃)
  cases x with
  | false =>
    obtain ⟨rfl, rfl⟩ := h4 rfl
    rw [if_neg (by simp)]
    exact wpAny_pure (hQ W₃ h₃ tk₃ hwA S₃)
  | true =>
    obtain ⟨h5, h6⟩ := h3 rfl
    rw [if_pos rfl]
    show wpAny _ _ (do
      let rv ← holding [vb] (eval (emb nm r) X.env)
      standAt p
      let c ← operate [vb, rv] (compareOp o2 vb rv)
      holding [c] (truthy c)) _ _ _
    refine wpAny_bind (wpAny_holding (h5 _ W₃ S₃ _ _ fun vr W₄ h₄ tk₄ hw₄ hvr S₄ => ?_))
    refine wpAny_bind (wpAny_standAt ?_)
    refine wpAny_bind (PyProof.Rows.wpAny_operate' (h6 _ W₄ vb vr S₄ ((hb.mono hw₃).mono hw₄) hvr _ _ fun vc' W₅ h₅ tk₅ hw₅ hvc' S₅ => ?_))
    cases hvc'
    exact wpAny_holding (wpAny_truthy_bool (hQ W₅ h₅ tk₅ (Wd.le_trans hwA (Wd.le_trans hw₄ hw₅)) S₅))
end
inductive Ob where
  | str (a b : List Nat)
  | lst (a b : List AV)
  | app (a : List AV)
  | nz (y : Int)
  | div (x y : Int)
  | say (P : Prop)
noncomputable def Ob.holds : Ob → Prop
  | .str a b => a.length + b.length ≤ 16777216
  | .lst a b => a.length + b.length ≤ 16777216
  | .app a => a.length + 1 ≤ 16777216
  | .nz y => y ≠ 0
  | .div x y => y ≠ 0 ∧ Builtin.divisionGoesByPylong x y = false
  | .say P => P
noncomputable abbrev Rs (α : Type) := Option (α × AS × List Ob)
noncomputable abbrev Res := Rs AV
noncomputable def thn {α β : Type} (r : Rs α) (k : α → AS → Rs β) : Rs β := r.bind fun p => (k p.1 p.2.1).map fun q => (q.1, q.2.1, p.2.2 ++ q.2.2)
noncomputable def fin {α : Type} (a : α) (σ : AS) : Rs α := some (a, σ, [])
noncomputable def outC (σ : AS) (p : AV × List Cell × List Ob) : Res := some (p.1, { σ with cells := p.2.1 }, p.2.2)
structure Tb where
  loc : Nat → Bool
  glob : Nat → Option Value
  cp : Nat → Option (List Nat)
  own : Addr → Nat → Bool
  nAppend : Nat
  nPop : Nat
  nLen : Nat
structure Orc where
  fn : Nat → List AV → List Cell → Option (AV × List Cell × List Ob)
  mt : Addr → Nat → List AV → List Cell → Option (AV × List Cell × List Ob)
  pr : Addr → Nat → Nat → List Cell → Option (AV × List Cell × List Ob)
  cm : CmpOp → AV → AV → List Cell → Option (Bool × List Ob) := fun _ _ _ _ => none
  sb : AV → AV → List Cell → Option (AV × List Ob) := fun _ _ _ => none
inductive Md where
  | val | tst | all (op : BoolOp) | bov (op : BoolOp) | args
noncomputable def arO (op : Operator) (x y : Int) : Option (Int × List Ob) := match op with
  | .Add => some (x + y, [])
  | .Sub => some (x - y, [])
  | .Mod => some (x.fmod y, [.nz y])
  | .FloorDiv => some (x.fdiv y, [.div x y])
  | .BitAnd => some (Builtin.bitAnd x y, [])
  | .BitOr => some (Builtin.bitOr x y, [])
  | .BitXor => some (Builtin.bitXor x y, [])
  | _ => none
noncomputable def isAdd : Operator → Bool
  | .Add => true
  | _ => false
noncomputable def addS (op : Operator) (a b : AV) : Option (AV × List Ob) := grd (isAdd op) (two a.str? b.str? fun x y => (.str (x ++ y), [.str x y]))
noncomputable def binO (op : Operator) (a b : AV) : Option (AV × List Ob) := match two a.int? b.int? fun x y => arO op x y with
  | some r => r.map fun p => (.int p.1, p.2)
  | none => match addS op a b with
    | some r => some r
    | none => grd (isAdd op) (two a.lst? b.lst? fun x y => (.lst (x ++ y), [.lst x y]))
noncomputable def inplO (op : Operator) (a b : AV) : Option (AV × List Ob) := match two a.int? b.int? fun x y => x + y with
  | some z => grd (isAdd op) (some (.int z, []))
  | none => addS op a b
noncomputable def lenA (a : AV) (cells : List Cell) : Option AV := match a with
  | .str l => some (.int l.length)
  | .lst l => some (.int l.length)
  | .cell k => (cells[k]?.bind Cell.list?).map fun l => .int l.length
  | _ => none
section
variable (T : Tb) (O : Orc)
noncomputable def attrA (a : AV) (i : Nat) (σ : AS) : Res := a.cell?.bind fun k => (σ.cells[k]?.bind Cell.inst?).bind fun q => match q.2.lookup i with
  | some r => grd (T.own q.1 i && r.plain) (fin r σ)
  | none => (O.pr q.1 i k σ.cells).bind fun p => grd p.1.plain (outC σ p)
noncomputable def popA (mk : List AV → Cell) (k : Nat) (as l : List AV) (σ : AS) : Res := match as with
  | [] => match l with
    | x :: r => fin x { σ with cells := σ.cells.set k (mk r) }
    | [] => none
  | _ :: _ => none
noncomputable def seqA (mk : List AV → Cell) (k i : Nat) (as l : List AV) (σ : AS) : Res := cond (Nat.beq i T.nAppend)
  ((only1 as).bind fun x => some (.none, { σ with cells := σ.cells.set k (mk (x :: l)) }, [.app l]))
  (grd (Nat.beq i T.nPop) (popA mk k as l σ))
noncomputable def methC (a : AV) (k i : Nat) (as : List AV) (σ : AS) : Cell → Res
  | .inst C fs => grd (fs.lookup i).isNone ((O.mt C i (a :: as) σ.cells).bind (outC σ))
  | .list _ => (σ.cells[k]?.bind Cell.list?).bind fun l => seqA T .list k i as l σ
  | .deque _ => (σ.cells[k]?.bind Cell.deque?).bind fun l => seqA T .deque k i as l σ
  | .strm _ _ => grd (!(Nat.beq i 10 || Nat.beq i 13 || Nat.beq i 18)) ((O.mt 608 i (a :: as) σ.cells).bind (outC σ))
noncomputable def methA (a : AV) (i : Nat) (as : List AV) (σ₁ σ : AS) : Res := a.cell?.bind fun k => σ₁.cells[k]?.bind fun c => methC T O a k i as σ c
noncomputable def callA (i : Nat) (as : List AV) (σ : AS) : Res := (T.glob i).bind fun _ => cond (Nat.beq i T.nLen)
  ((only1 as).bind fun a => (lenA a σ.cells).bind fun r => fin r σ)
  ((O.fn i as σ.cells).bind (outC σ))
noncomputable def cmpW (op : CmpOp) (a b : AV) (σ : AS) : Res := match cmpA op a b with
  | some c => fin (.bool c) σ
  | none => (O.cm op a b σ.cells).map fun p => (.bool p.1, σ, p.2)
noncomputable def subW (a b : AV) (σ : AS) : Res := match subA a b σ.cells with
  | some r => fin r σ
  | none => (O.sb a b σ.cells).map fun p => (p.1, σ, p.2)
section
variable (ih : Md → PE → AS → Res)
noncomputable def cmpS (l : PE) (op : CmpOp) (r : PE) (σ : AS) : Res := grd r.real (thn (ih .val l σ) fun a σ₁ => thn (ih .val r σ₁) fun b σ₂ => cmpW O op a b σ₂)
noncomputable def evVal (σ : AS) : PE → Res
  | .loc i _ => grd (T.loc i) ((σ.loc.lookup i).bind fun a => fin a σ)
  | .cstr i _ _ => (T.cp i).bind fun l => fin (.str l) σ
  | .cint n _ _ => fin (.int n) σ
  | .cnone _ _ => fin .none σ
  | .cbool b _ _ => fin (.bool b) σ
  | .glob i _ => (T.glob i).bind fun v => fin (.val v) σ
  | .attr e i _ => grd e.isBase (thn (ih .val e σ) fun a σ₁ => attrA T O a i σ₁)
  | .callN i _ args _ => thn (ih .args args σ) fun l σ₁ => l.lst?.bind fun as => callA T O i as σ₁
  | .callM o i ap args p => grd (o.isBase && Nat.blt args.len 30 && Nat.beq ap.endLine p.line) (thn (ih .val o σ) fun a σ₁ => thn (ih .args args σ₁) fun l σ₂ => l.lst?.bind fun as => methA T O a i as σ₁ σ₂)
  | .cmp l op r _ => cmpS O ih l op r σ
  | .not e _ => grd e.asValue (thn (ih .val e σ) fun a σ₁ => (truA a σ₁.cells).bind fun b => fin (.bool (!b)) σ₁)
  | .usub e _ => thn (ih .val e σ) fun a σ₁ => a.int?.bind fun i => fin (.int (-i)) σ₁
  | .ite t a b _ => thn (ih .tst t σ) fun v σ₁ => v.bool?.bind fun c => ih .val (bif c then a else b) σ₁
  | .list es _ => thn (ih .args es σ) fun v σ₁ => v.lst?.bind fun l => grd (Nat.ble l.length 1000) (fin (.lst l) σ₁)
  | .tup es _ _ => thn (ih .args es σ) fun v σ₁ => v.lst?.bind fun l => grd (Nat.ble l.length 1000) (fin (.tup l) σ₁)
  | .sub e i _ => grd i.idx (thn (ih .val e σ) fun a σ₁ => thn (ih .val i σ₁) fun b σ₂ => subW O a b σ₂)
  | .bin l op r _ => thn (ih .val l σ) fun a σ₁ => thn (ih .val r σ₁) fun b σ₂ => (binO op a b).map fun p => (p.1, σ₂, p.2)
  | .bop op es _ => ih (.bov op) es σ
  | _ => none
noncomputable def tstW (e : PE) (σ : AS) : Res := grd e.asValue (thn (ih .val e σ) fun a σ₁ => (truA a σ₁.cells).bind fun b => fin (.bool b) σ₁)
noncomputable def evTst (σ : AS) : PE → Res
  | .not e _ => thn (ih .tst e σ) fun v σ₁ => v.bool?.bind fun b => fin (.bool (!b)) σ₁
  | .bop op es _ => ih (.all op) es σ
  | .cmp l op r _ => cmpS O ih l op r σ
  | .cmp2 l o1 m o2 r _ => grd (m.real && r.real) (thn (ih .val l σ) fun a σ₁ => thn (ih .val m σ₁) fun b σ₂ => (cmpA o1 a b).bind fun x =>
      cond x (thn (ih .val r σ₂) fun c σ₃ => (cmpA o2 b c).bind fun y => fin (.bool y) σ₃) (fin (.bool false) σ₂))
  | e => tstW ih e σ
noncomputable def evAll (op : BoolOp) (σ : AS) : PE → Res
  | .cons h t => thn (ih .tst h σ) fun v σ₁ => v.bool?.bind fun b => cond (b == (op == .And)) (ih (.all op) t σ₁) (fin (.bool b) σ₁)
  | .nil => fin (.bool (op == .And)) σ
  | _ => none
noncomputable def isNil : PE → Bool
  | .nil => true
  | _ => false
noncomputable def isCons : PE → Bool
  | .cons _ _ => true
  | _ => false
noncomputable def evBov (op : BoolOp) (σ : AS) : PE → Res
  | .cons h t => cond (isNil t) (ih .val h σ) (grd (isCons t) (thn (ih .val h σ) fun a σ₁ => (truA a σ₁.cells).bind fun b => cond (b == (op == .And)) (ih (.bov op) t σ₁) (fin a σ₁)))
  | _ => none
noncomputable def evArgs (σ : AS) : PE → Res
  | .nil => fin (.lst []) σ
  | .cons h t => grd h.real (thn (ih .val h σ) fun a σ₁ => thn (ih .args t σ₁) fun v σ₂ => v.lst?.bind fun l => fin (.lst (a :: l)) σ₂)
  | _ => none
noncomputable def evStep (md : Md) (e : PE) (σ : AS) : Res := match md with
  | .val => evVal T O ih σ e
  | .tst => evTst O ih σ e
  | .all op => evAll ih op σ e
  | .bov op => evBov ih op σ e
  | .args => evArgs ih σ e
end
noncomputable def ev : Nat → Md → PE → AS → Res
  | 0 => fun _ _ _ => none
  | n + 1 => evStep T O (ev n)
end
section
variable {nm : Nat → Str} {X : Cx} {d u : Nat} {T : Tb} {O : Orc}
structure TbOK (nm : Nat → Str) (X : Cx) (T : Tb) : Prop where
  inj : ∀ i j, nm i = nm j → i = j
  loc : ∀ i, T.loc i = true → X.env.kindOf (nm i) = some .local
  dbg : ∀ i, (nm i == ("__debug__" : Str)) = false
  glob : ∀ i v, T.glob i = some v → ∀ σ p, EvOK nm X (eval (emb nm (.glob i p)) X.env) σ (.val v) σ
  cp : ∀ i l, T.cp i = some l → nm i = ⟨l.toArray⟩ ∧ l.length ≤ 16777216
  own : ∀ C i, T.own C i = true → OwnOK X.w C (nm i) ∧ SetOK X.w C (nm i)
  app : nm T.nAppend = "append"
  pop : nm T.nPop = "pop"
  len : ∀ v, T.glob T.nLen = some v → v = .builtin "len"
structure PropOK (nm : Nat → Str) (w : World) (d u : Nat) (C : Addr) (i k : Nat) (cells : List Cell) (r : AV) (cs : List Cell) (q f : Addr) (rest : List Value) (dn un : Nat) : Prop where
  pg : plainGet (KF w) C (nm i) = true
  ph : hasDictIn (KF w) C = true
  pf : findIn (KF w) (.ref C) (nm i) = some (some (.ref q))
  ps : specialIn (KF w) (.ref q) (Str.ofString "__get__") = some (some (.builtin "property.__get__"))
  pt : takesIn (KF w) (.ref q) = some true
  pr : recIn (KF w) q "property" = some (.ref f :: rest)
  hd : dn ≤ d
  hu : un + 1 ≤ u
  pc : CallOK nm w dn un f [.cell k] cells r cs
structure OrcOK (nm : Nat → Str) (X : Cx) (d u : Nat) (T : Tb) (O : Orc) : Prop where
  fn : ∀ i f args cells r cs os, T.glob i = some f → O.fn i args cells = some (r, cs, os) → (∀ o ∈ os, o.holds) → KeepOK X.w f ∧ ∀ loc, FnOK nm X f args ⟨loc, cells⟩ r ⟨loc, cs⟩
  mt : ∀ C i args cells r cs os, O.mt C i args cells = some (r, cs, os) → (∀ o ∈ os, o.holds) → ∃ f, plainGet (KF X.w) C (nm i) = true ∧ findIn (KF X.w) (.ref C) (nm i) = some (some (.ref f)) ∧ isFn (KF X.w) (.ref f) = true ∧ KeepOK X.w (.ref f) ∧ ∀ loc, FnOK nm X (.ref f) args ⟨loc, cells⟩ r ⟨loc, cs⟩
  pr : ∀ C i k cells r cs os, O.pr C i k cells = some (r, cs, os) → (∀ o ∈ os, o.holds) → ∃ q f rest dn un, PropOK nm X.w d u C i k cells r cs q f rest dn un
  cm : ∀ op a b cells c os, O.cm op a b cells = some (c, os) → (∀ o ∈ os, o.holds) → ∀ loc, BinOK nm X (compareOp op) ⟨loc, cells⟩ a b (.bool c) ⟨loc, cells⟩ := by intro _ _ _ _ _ _ h; cases h
  sb : ∀ a b cells r os, O.sb a b cells = some (r, os) → (∀ o ∈ os, o.holds) → ∀ loc (e i : PE), i.idx = true → BinOK nm X (subscriptTail (emb nm e) (emb nm i)) ⟨loc, cells⟩ a b r ⟨loc, cells⟩ := by intro _ _ _ _ _ h; cases h
theorem none_ne {α : Type} {x : α} (h : (none : Option α) = some x) : False := nomatch h
theorem thn_eq {α β : Type} {r : Rs α} {k : α → AS → Rs β} {b : β} {σ' : AS} {os : List Ob} (h : thn r k = some (b, σ', os)) : ∃ a σ₁ o1 o2, r = some (a, σ₁, o1) ∧ k a σ₁ = some (b, σ', o2) ∧ os = o1 ++ o2 := by
  obtain ⟨⟨a, σ₁, o1⟩, h1, h2⟩ := bind_eq h
  obtain ⟨⟨b', σ₂, o2⟩, h3, h4⟩ := map_eq h2
  cases h4
  exact ⟨a, σ₁, o1, o2, h1, h3, rfl⟩
theorem fin_eq {α : Type} {a b : α} {σ σ' : AS} {os : List Ob} (h : fin a σ = some (b, σ', os)) : b = a ∧ σ' = σ ∧ os = [] := by cases h; exact ⟨rfl, rfl, rfl⟩
theorem isAdd_eq {op : Operator} (h : isAdd op = true) : op = .Add := by cases op <;> first | rfl | (cases h; done)
theorem addS_eq {op : Operator} {a b c : AV} {os : List Ob} (h : addS op a b = some (c, os)) : op = .Add ∧ ∃ x y, a = .str x ∧ b = .str y ∧ c = .str (x ++ y) ∧ os = [.str x y] := by
  obtain ⟨h1, h2⟩ := grd_eq h
  obtain ⟨x, y, h3, h4, h5⟩ := two_eq h2
  cases h5
  exact ⟨isAdd_eq h1, x, y, str?_eq h3, str?_eq h4, rfl, rfl⟩
theorem arO_ok {op : Operator} {x y z : Int} {os : List Ob} (h : arO op x y = some (z, os)) (ho : ∀ o ∈ os, o.holds) : ∃ P, arA op x y = some (z, P) ∧ P := by
  cases op with
  | Add => cases h; exact ⟨_, rfl, trivial⟩
  | Sub => cases h; exact ⟨_, rfl, trivial⟩
  | Mod => cases h; exact ⟨_, rfl, ho _ (.head _)⟩
  | FloorDiv => cases h; exact ⟨_, rfl, ho _ (.head _)⟩
  | BitAnd => cases h; exact ⟨_, rfl, trivial⟩
  | BitOr => cases h; exact ⟨_, rfl, trivial⟩
  | BitXor => cases h; exact ⟨_, rfl, trivial⟩
  | _ => cases h
theorem binO_ok {op : Operator} {a b c : AV} {os : List Ob} (h : binO op a b = some (c, os)) (ho : ∀ o ∈ os, o.holds) (σ : AS) : BinOK nm X (binaryOp op) σ a b c σ := by
  unfold binO at h
  cases hi : two a.int? b.int? fun x y => arO op x y with
  | some r =>
    rw [hi] at h
    obtain ⟨x, y, h1, h2, rfl⟩ := two_eq hi
    have := int?_eq h1
    subst this
    have := int?_eq h2
    subst this
    obtain ⟨⟨z, os'⟩, h3, h4⟩ := map_eq h
    cases h4
    obtain ⟨P, h5, h6⟩ := arO_ok h3 ho
    exact bin_int h5 h6 σ
  | none =>
    rw [hi] at h
    cases hs : addS op a b with
    | some r =>
      rw [hs] at h
      cases h
      obtain ⟨rfl, x, y, rfl, rfl, rfl, rfl⟩ := addS_eq hs
      exact bin_str (ho _ (.head _)) σ
    | none =>
      rw [hs] at h
      obtain ⟨h1, h2⟩ := grd_eq h
      obtain ⟨x, y, h3, h4, h5⟩ := two_eq h2
      cases h5
      rw [isAdd_eq h1, lst?_eq h3, lst?_eq h4]
      exact bin_lst (ho _ (.head _)) σ
theorem inplO_ok {op : Operator} {a b c : AV} {os : List Ob} (h : inplO op a b = some (c, os)) (ho : ∀ o ∈ os, o.holds) (σ : AS) : BinOK nm X (inplaceOp op) σ a b c σ := by
  unfold inplO at h
  cases hi : two a.int? b.int? fun x y => x + y with
  | some r =>
    rw [hi] at h
    obtain ⟨x, y, h1, h2, rfl⟩ := two_eq hi
    obtain ⟨h3, h4⟩ := grd_eq h
    cases h4
    rw [isAdd_eq h3, int?_eq h1, int?_eq h2]
    exact inpl_int σ
  | none =>
    rw [hi] at h
    obtain ⟨rfl, x, y, rfl, rfl, rfl, rfl⟩ := addS_eq h
    exact inpl_str (ho _ (.head _)) σ
theorem obs_app {a b : List Ob} (h : ∀ o ∈ a ++ b, o.holds) : (∀ o ∈ a, o.holds) ∧ ∀ o ∈ b, o.holds := ⟨fun o ho => h o (List.mem_append_left _ ho), fun o ho => h o (List.mem_append_right _ ho)⟩
theorem R_bov1 {op : BoolOp} {h : PE} {pos : Pos} {σ σ₁ : AS} {r : AV} (h1 : EvOK nm X (eval (emb nm h) X.env) σ r σ₁) : EvOK nm X (boolOp pos op (evalEach (embL nm (.cons h .nil)) X.env)) σ r σ₁ := by
  have e : evalEach (embL nm (.cons h .nil)) X.env = [eval (emb nm h) X.env] := by rw [embL, embL, evalEach, evalEach]; intros; contradiction
  rw [e]
  show EvOK nm X (boolOp pos op [eval (emb nm h) X.env]) σ r σ₁
  exact h1
theorem bov_eq (op : BoolOp) (h h' t : PE) (pos : Pos) (env : Env) : boolOp pos op (evalEach (embL nm (.cons h (.cons h' t))) env) = (do
    let v ← eval (emb nm h) env
    standAt pos
    let t' ← holding [v] (truthy v)
    match op, t' with
    | .And, false | .Or, true => pure v
    | _, _ => boolOp pos op (evalEach (embL nm (.cons h' t)) env)) := by
  have e : evalEach (embL nm (.cons h (.cons h' t))) env = eval (emb nm h) env :: eval (emb nm h') env :: evalEach (embL nm t) env := by rw [embL, embL, evalEach, evalEach]
  have e' : evalEach (embL nm (.cons h' t)) env = eval (emb nm h') env :: evalEach (embL nm t) env := by rw [embL, evalEach]
  rw [e, e']
  rfl
theorem R_bov_on {op : BoolOp} {h h' t : PE} {pos : Pos} {σ σ₁ σ₂ : AS} {a r : AV} {b : Bool} (hb : (b == (op == .And)) = true) (h1 : EvOK nm X (eval (emb nm h) X.env) σ a σ₁) (ht : TruOK nm X σ₁ a b)
    (h2 : EvOK nm X (boolOp pos op (evalEach (embL nm (.cons h' t)) X.env)) σ₁ r σ₂) : EvOK nm X (boolOp pos op (evalEach (embL nm (.cons h (.cons h' t))) X.env)) σ r σ₂ := by
  intro s W S Q E hQ
  rw [bov_eq]
  refine wpAny_bind (h1 s W S _ _ fun v W₁ h₁ tk₁ hw₁ hv S₁ => ?_)
  refine wpAny_bind (wpAny_standAt ?_)
  refine wpAny_bind (wpAny_holding (ht _ W₁ v S₁ hv _ _ fun W₂ h₂ tk₂ hw₂ S₂ => ?_))
  have fin := h2 _ W₂ S₂ Q E fun v W₃ h₃ tk₃ hw₃ hv S₃ => hQ v W₃ h₃ tk₃ (Wd.le_trans hw₁ (Wd.le_trans hw₂ hw₃)) hv S₃
  cases op <;> cases b <;> first | (cases hb; done) | exact fin
theorem R_bov_off {op : BoolOp} {h h' t : PE} {pos : Pos} {σ σ₁ : AS} {a : AV} {b : Bool} (hb : (b == (op == .And)) = false) (h1 : EvOK nm X (eval (emb nm h) X.env) σ a σ₁) (ht : TruOK nm X σ₁ a b) :
    EvOK nm X (boolOp pos op (evalEach (embL nm (.cons h (.cons h' t))) X.env)) σ a σ₁ := by
  intro s W S Q E hQ
  rw [bov_eq]
  refine wpAny_bind (h1 s W S _ _ fun v W₁ h₁ tk₁ hw₁ hv S₁ => ?_)
  refine wpAny_bind (wpAny_standAt ?_)
  refine wpAny_bind (wpAny_holding (ht _ W₁ v S₁ hv _ _ fun W₂ h₂ tk₂ hw₂ S₂ => ?_))
  have fin := hQ v W₂ h₂ tk₂ (Wd.le_trans hw₁ hw₂) (hv.mono hw₂) S₂
  cases op <;> cases b <;> first | (cases hb; done) | exact wpAny_pure fin
noncomputable def Says (nm : Nat → Str) (X : Cx) : Md → PE → AS → AV → AS → Prop
  | .val, e, σ, r, σ' => EvOK nm X (eval (emb nm e) X.env) σ r σ'
  | .tst, e, σ, r, σ' => ∃ b, r = .bool b ∧ TsOK nm X (isTrue (emb nm e) X.env (eval (emb nm e) X.env)) σ b σ'
  | .all op, e, σ, r, σ' => ∃ b, r = .bool b ∧ TsOK nm X (allTrue op (embL nm e) X.env) σ b σ'
  | .bov op, e, σ, r, σ' => ∀ pos, EvOK nm X (boolOp pos op (evalEach (embL nm e) X.env)) σ r σ'
  | .args, e, σ, r, σ' => ∃ l, r = .lst l ∧ e.realL = true ∧ (e = .nil ∨ ∃ h t, e = .cons h t) ∧ (e = .nil → l = [] ∧ σ' = σ) ∧ ∀ pos, VsOK nm X (spliced (backTo pos (starEach (embL nm e) X.env))) σ l σ'
noncomputable def Sound (nm : Nat → Str) (X : Cx) (f : Md → PE → AS → Res) : Prop := ∀ md e σ r σ' os, f md e σ = some (r, σ', os) → (∀ o ∈ os, o.holds) → Says nm X md e σ r σ'
theorem lenA_ok {σ : AS} {a r : AV} (h : lenA a σ.cells = some r) : FnOK nm X (.builtin "len") [a] σ r σ := by
  cases a with
  | str l => cases h; exact len_str_ok
  | lst l => cases h; exact len_list_ok rfl
  | cell k =>
    obtain ⟨l, h1, rfl⟩ := map_eq (f := fun l : List AV => AV.int l.length) h
    have e := at_list h1
    have := len_list_ok (nm := nm) (X := X) (σ := σ) (a := .cell k) (l := l.reverse) (by simp [listA, e])
    rw [List.length_reverse] at this
    exact this
  | _ => cases h
noncomputable def GoodR {α : Type} (r : Rs α) (Q : α → AS → Prop) : Prop := ∀ a σ' os, r = some (a, σ', os) → (∀ o ∈ os, o.holds) → Q a σ'
section
variable {α β : Type} {Q : α → AS → Prop}
theorem g_none : GoodR none Q := fun _ _ _ h => nomatch h
theorem g_fin {a : α} {σ : AS} (h : Q a σ) : GoodR (fin a σ) Q := fun _ _ _ e _ => by cases e; exact h
theorem g_grd {b : Bool} {r : Rs α} (h : b = true → GoodR r Q) : GoodR (grd b r) Q := fun _ _ _ e ho => h (grd_eq e).1 _ _ _ (grd_eq e).2 ho
theorem g_bind {x : Option β} {f : β → Rs α} (h : ∀ a, x = some a → GoodR (f a) Q) : GoodR (x.bind f) Q := fun _ _ _ e ho => have ⟨a, h1, h2⟩ := bind_eq e; h a h1 _ _ _ h2 ho
theorem g_cond {b : Bool} {x y : Rs α} (h1 : b = true → GoodR x Q) (h2 : b = false → GoodR y Q) : GoodR (cond b x y) Q := by
  cases b
  · exact h2 rfl
  · exact h1 rfl
theorem g_thn {r : Rs β} {P : β → AS → Prop} {k : β → AS → Rs α} (h : GoodR r P) (H : ∀ a σ₁, P a σ₁ → GoodR (k a σ₁) Q) : GoodR (thn r k) Q := fun _ _ _ e ho => by
  obtain ⟨a, σ₁, o1, o2, h2, h3, rfl⟩ := thn_eq e
  exact H a σ₁ (h _ _ _ h2 (obs_app ho).1) _ _ _ h3 (obs_app ho).2
theorem g_out {q : Option (AV × List Cell × List Ob)} {σ : AS} {Q : AV → AS → Prop} (h : ∀ r cs os, q = some (r, cs, os) → (∀ o ∈ os, o.holds) → Q r { σ with cells := cs }) : GoodR (q.bind (outC σ)) Q := g_bind fun ⟨r, cs, os⟩ e => fun _ _ _ e' ho => by
  cases e'
  exact h r cs os e ho
theorem g_map {x : Option (α × List Ob)} {σ : AS} (h : ∀ r os, x = some (r, os) → (∀ o ∈ os, o.holds) → Q r σ) : GoodR (x.map fun p => (p.1, σ, p.2)) Q := fun _ _ _ e ho => by
  obtain ⟨⟨r, os⟩, h1, h2⟩ := map_eq e
  cases h2
  exact h r os h1 ho
end
theorem attrA_ok (K : CxOK X d u) (hT : TbOK nm X T) (hO : OrcOK nm X d u T O) {e : PE} {i : Nat} {p : Pos} {σ σ₁ : AS} {a : AV} (hb : e.isBase = true) (he : EvOK nm X (eval (emb nm e) X.env) σ a σ₁) :
    GoodR (attrA T O a i σ₁) (EvOK nm X (eval (emb nm (.attr e i p)) X.env) σ) := by
  refine g_bind (x := a.cell?) fun k h1 => g_bind fun ⟨C, fs⟩ h3 => ?_
  have hc := at_inst h3
  replace he := cell?_eq h1 ▸ he
  show GoodR (match fs.lookup i with | some r => grd (T.own C i && r.plain) (fin r σ₁) | none => (O.pr C i k σ₁.cells).bind fun p => grd p.1.plain (outC σ₁ p)) _
  cases hl : fs.lookup i with
  | some r' => exact g_grd fun hq => g_fin (R_attr hT.inj K hb he hc hl (Bool.and_eq_true_iff.mp hq).2 (hT.own _ _ (Bool.and_eq_true_iff.mp hq).1).1)
  | none =>
    refine g_bind (x := O.pr C i k σ₁.cells) fun ⟨r', cs, os'⟩ hp => g_grd fun hpl => fun _ _ _ e' ho => ?_
    cases e'
    obtain ⟨q, f, rest, dn, un, P⟩ := hO.pr _ _ _ _ _ _ _ hp ho
    exact R_prop hT.inj K hb he hc hpl P.pg P.ph P.pf P.ps P.pt P.pr P.hd P.hu P.pc
end
section
variable {nm : Nat → Str} {X : Cx} {d u : Nat} {T : Tb} {O : Orc}
theorem beq_of {a b : Nat} (h : Nat.beq a b = true) : a = b := Nat.eq_of_beq_eq_true h
theorem seqA_ok {mk : List AV → Cell} {k i : Nat} {as l : List AV} {σ : AS} {Q : AV → AS → Prop}
    (happ : ∀ x, i = T.nAppend → as = [x] → l.length + 1 ≤ 16777216 → Q .none { σ with cells := σ.cells.set k (mk (x :: l)) })
    (hpop : ∀ r l', i = T.nPop → as = [] → l = r :: l' → Q r { σ with cells := σ.cells.set k (mk l') }) : GoodR (seqA T mk k i as l σ) Q := by
  refine g_cond (b := Nat.beq i T.nAppend) (fun hi => g_bind (x := only1 as) fun x hx => fun _ _ _ e ho => ?_) fun _ => g_grd fun hi => ?_
  · cases e
    exact happ x (beq_of hi) (only1_eq hx) (ho _ (.head _))
  · cases as with
    | cons _ _ => exact g_none
    | nil => cases l with
      | nil => exact g_none
      | cons x l' => exact g_fin (hpop x l' (beq_of hi) rfl rfl)
theorem methA_ok (K : CxOK X d u) (hT : TbOK nm X T) (hO : OrcOK nm X d u T O) {o args : PE} {i : Nat} {ap p : Pos} {σ σ₁ σ₂ : AS} {a : AV} {as : List AV} (hb : o.isBase = true) (hlen : args.len < 30) (hline : (ap.endLine == p.line) = true)
    (ho : EvOK nm X (eval (emb nm o) X.env) σ a σ₁) (ha : Says nm X .args args σ₁ (.lst as) σ₂) :
    GoodR (methA T O a i as σ₁ σ₂) (EvOK nm X (eval (emb nm (.callM o i ap args p)) X.env) σ) := by
  obtain ⟨l, hl, hreal, hform, hnil, hvs⟩ := ha
  cases hl
  have key : ∀ {f : Value} {r : AV} {σ₃ : AS}, MethOK nm X σ₁ a (nm i) f → KeepOK X.w f → FnOK nm X f (a :: as) σ₂ r σ₃ → EvOK nm X (eval (emb nm (.callM o i ap args p)) X.env) σ r σ₃ := by
    intro f r σ₃ hm hk hf
    rcases hform with rfl | ⟨x, t, rfl⟩
    · obtain ⟨rfl, rfl⟩ := hnil rfl
      exact R_callM0 K hb hline ho hm hk hf
    · exact R_callM K hb hreal hlen hline ho hm hk (hvs _) hf
  clear hreal hform hnil hvs ho
  refine g_bind (x := a.cell?) fun k h1 => ?_
  have := cell?_eq h1
  subst this
  refine g_bind fun c hc₁ => ?_
  cases c with
  | inst C fs =>
    refine g_grd fun hl => g_out fun r cs os hm ho => ?_
    obtain ⟨f, f1, f2, f3, f4, f5⟩ := hO.mt _ _ _ _ _ _ _ hm ho
    exact key (MethOK.inst hT.inj K hc₁ (Option.isNone_iff_eq_none.mp hl) f1 f2 f3) f4 (f5 σ₂.loc)
  | list l₁ =>
    refine g_bind (x := σ₂.cells[k]?.bind Cell.list?) fun l hc => ?_
    replace hc := at_list hc
    refine seqA_ok (fun x e1 e2 hz => ?_) (fun r l' e1 e2 e3 => ?_)
    · have hn : nm i = "append" := e1 ▸ hT.app
      subst e2
      exact key (MethOK.bi F.plainAttrs_list (hn ▸ F.slot_list_append) F.type_list_append (cell_list_ty hc₁)) KeepOK.bi (append_ok hc hz)
    · have hn : nm i = "pop" := e1 ▸ hT.pop
      subst e2 e3
      exact key (MethOK.bi F.plainAttrs_list (hn ▸ F.slot_list_pop) F.type_list_pop (cell_list_ty hc₁)) KeepOK.bi (pop_ok hc)
  | deque l₁ =>
    refine g_bind (x := σ₂.cells[k]?.bind Cell.deque?) fun l hc => ?_
    replace hc := at_deque hc
    refine seqA_ok (fun x e1 e2 hz => ?_) (fun r l' e1 e2 e3 => ?_)
    · have hn : nm i = "append" := e1 ▸ hT.app
      subst e2
      exact key (MethOK.bi DQ.plain (hn ▸ DQ.slot_append) DQ.ty_append (cell_dq_ty hc₁)) KeepOK.bi (dq_append_ok hc hz)
    · have hn : nm i = "pop" := e1 ▸ hT.pop
      subst e2 e3
      exact key (MethOK.bi DQ.plain (hn ▸ DQ.slot_pop) DQ.ty_pop (cell_dq_ty hc₁)) KeepOK.bi (dq_pop_ok hc)
  | strm pre rest =>
    refine g_grd fun hne => g_out fun r cs os hm ho => ?_
    rw [Bool.not_eq_true', Bool.or_eq_false_iff, Bool.or_eq_false_iff] at hne
    obtain ⟨f, f1, f2, f3, f4, f5⟩ := hO.mt _ _ _ _ _ _ _ hm ho
    exact key (MethOK.strm hT.inj K hc₁ ⟨Nat.ne_of_beq_eq_false hne.1.1, Nat.ne_of_beq_eq_false hne.1.2, Nat.ne_of_beq_eq_false hne.2⟩ f1 f2 f3) f4 (f5 σ₂.loc)
theorem callA_ok (K : CxOK X d u) (hT : TbOK nm X T) (hO : OrcOK nm X d u T O) {args : PE} {i : Nat} {fp p : Pos} {σ σ₁ : AS} {as : List AV}
    (ha : Says nm X .args args σ (.lst as) σ₁) : GoodR (callA T O i as σ₁) (EvOK nm X (eval (emb nm (.callN i fp args p)) X.env) σ) := by
  obtain ⟨l, hl, hreal, hform, hnil, hvs⟩ := ha
  cases hl
  refine g_bind (x := T.glob i) fun f hg => ?_
  have key : ∀ {r : AV} {σ₂ : AS}, KeepOK X.w f → FnOK nm X f as σ₁ r σ₂ → EvOK nm X (eval (emb nm (.callN i fp args p)) X.env) σ r σ₂ := by
    intro r σ₂ hk hf
    rcases hform with rfl | ⟨x, t, rfl⟩
    · obtain ⟨rfl, rfl⟩ := hnil rfl
      exact R_callN0 K (hT.glob _ _ hg _ _) hk hf
    · exact R_callN K hreal (hT.glob _ _ hg _ _) hk (hvs _) hf
  clear hreal hform hnil hvs
  refine g_cond (fun hi => g_bind fun a h2 => g_bind fun r hla => g_fin ?_) fun _ => g_out fun r cs os hf ho => ?_
  · have : f = .builtin "len" := hT.len _ (by rw [← beq_of hi]; exact hg)
    subst this
    exact key KeepOK.bi (only1_eq h2 ▸ lenA_ok hla)
  · obtain ⟨k1, k2⟩ := hO.fn _ _ _ _ _ _ _ hg hf ho
    exact key k1 (k2 σ₁.loc)
theorem off_of {b : Bool} {op : BoolOp} (h : (b == (op == .And)) = false) : (b == (op == .Or)) = true := by cases op <;> cases b <;> first | rfl | (cases h; done)
section
variable {ih : Md → PE → AS → Res} (IH : Sound nm X ih)
include IH
theorem val_go {α : Type} {Q : α → AS → Prop} {e : PE} {σ : AS} {k : AV → AS → Rs α} (H : ∀ a σ₁, EvOK nm X (eval (emb nm e) X.env) σ a σ₁ → GoodR (k a σ₁) Q) : GoodR (thn (ih .val e σ) k) Q := g_thn (IH .val e σ) H
theorem tst_go {α : Type} {Q : α → AS → Prop} {e : PE} {σ : AS} {g : Bool → AS → Rs α} (H : ∀ b σ₁, TsOK nm X (isTrue (emb nm e) X.env (eval (emb nm e) X.env)) σ b σ₁ → GoodR (g b σ₁) Q) : GoodR (thn (ih .tst e σ) fun v σ₁ => v.bool?.bind fun b => g b σ₁) Q :=
  g_thn (IH .tst e σ) fun v σ₁ ⟨b, e, ht⟩ => g_bind fun c hc => by
    subst e
    cases hc
    exact H _ _ ht
theorem args_go {α : Type} {Q : α → AS → Prop} {e : PE} {σ : AS} {g : List AV → AS → Rs α} (H : ∀ l σ₁, Says nm X .args e σ (.lst l) σ₁ → GoodR (g l σ₁) Q) : GoodR (thn (ih .args e σ) fun v σ₁ => v.lst?.bind fun l => g l σ₁) Q :=
  g_thn (IH .args e σ) fun v σ₁ hs => g_bind fun l hl => H l σ₁ (lst?_eq hl ▸ hs)
theorem cmpS_ok (hO : OrcOK nm X d u T O) {Q : AV → AS → Prop} {l r' : PE} {op : CmpOp} {σ : AS}
    (H : ∀ a b c σ₁ σ', r'.real = true → EvOK nm X (eval (emb nm l) X.env) σ a σ₁ → EvOK nm X (eval (emb nm r') X.env) σ₁ b σ' → BinOK nm X (compareOp op) σ' a b (.bool c) σ' → Q (.bool c) σ') : GoodR (cmpS O ih l op r' σ) Q := by
  refine g_grd fun hr => val_go IH fun a σ₁ h1 => val_go IH fun b σ₂ h2 => ?_
  show GoodR (match cmpA op a b with | some c => fin (AV.bool c) σ₂ | none => (O.cm op a b σ₂.cells).map fun p => (.bool p.1, σ₂, p.2)) Q
  cases hc : cmpA op a b with
  | some c => exact g_fin (H a b c _ _ hr h1 h2 (cmp_ok hc _))
  | none =>
    intro r σ' os e ho
    obtain ⟨⟨c, os'⟩, e1, e2⟩ := map_eq e
    cases e2
    exact H a b c _ _ hr h1 h2 (hO.cm _ _ _ _ _ _ e1 ho _)
end
section
variable (K : CxOK X d u) (hT : TbOK nm X T) (hO : OrcOK nm X d u T O) {ih : Md → PE → AS → Res} (IH : Sound nm X ih)
include K hT hO IH
theorem evVal_ok (e : PE) (σ : AS) : GoodR (evVal T O ih σ e) (EvOK nm X (eval (emb nm e) X.env) σ) := by
  cases e with
  | loc i p => exact g_grd fun hl => g_bind fun a ha => g_fin (R_loc K (hT.loc _ hl) (hT.dbg _) ha)
  | cstr i k p => exact g_bind fun l hl => g_fin (R_cstr (hT.cp _ _ hl).1 (hT.cp _ _ hl).2)
  | cint n k p => exact g_fin R_cint
  | cnone k p => exact g_fin R_cnone
  | cbool b k p => exact g_fin R_cbool
  | glob i p => exact g_bind fun v hg => g_fin (hT.glob _ _ hg _ _)
  | attr e i p => exact g_grd fun hb => val_go IH fun a σ₁ ha => attrA_ok K hT hO hb ha
  | callN i fp args p => exact args_go (g := fun as σ₁ => callA T O i as σ₁) IH fun as σ₁ ha => callA_ok K hT hO ha
  | callM o i ap args p =>
    refine g_grd fun hb => ?_
    rw [Bool.and_eq_true, Bool.and_eq_true] at hb
    exact val_go IH fun a σ₁ ha => args_go (g := fun as σ₂ => methA T O a i as σ₁ σ₂) IH fun as σ₂ hs => methA_ok K hT hO hb.1.1 (Nat.le_of_ble_eq_true hb.1.2) (by rw [beq_iff_eq]; exact beq_of hb.2) ha hs
  | cmp l op r' p => exact cmpS_ok IH hO fun a b c σ₁ σ' hr h1 h2 h3 => R_cmp hr h1 h2 h3
  | not e p => exact g_grd fun hv => val_go IH fun a σ₁ ha => g_bind fun b hb => g_fin (R_not ha (tru_ok hb))
  | usub e p => exact val_go (k := fun a σ₁ => a.int?.bind fun i => fin (AV.int (-i)) σ₁) IH fun a σ₁ ha => g_bind fun i hi => g_fin (R_usub (int?_eq hi ▸ ha))
  | ite t a b p => exact tst_go (g := fun c σ₁ => ih .val (bif c then a else b) σ₁) IH fun c σ₁ ht => fun _ _ _ h ho => R_ite ht (IH _ _ _ _ _ _ h ho)
  | list es p =>
    refine args_go (g := fun l σ₁ => grd (Nat.ble l.length 1000) (fin (AV.lst l) σ₁)) IH fun as σ₁ ⟨l, hl, _, _, _, hvs⟩ => g_grd fun hn => g_fin ?_
    cases hl
    exact R_list (Nat.le_trans (Nat.le_of_ble_eq_true hn) (by decide)) (hvs _)
  | tup es k p =>
    refine args_go (g := fun l σ₁ => grd (Nat.ble l.length 1000) (fin (AV.tup l) σ₁)) IH fun as σ₁ ⟨l, hl, _, _, _, hvs⟩ => g_grd fun hn => g_fin ?_
    cases hl
    exact R_tup (Nat.le_trans (Nat.le_of_ble_eq_true hn) (by decide)) (hvs _)
  | sub e i p =>
    refine g_grd fun hi => val_go IH fun a σ₁ h1 => val_go IH fun b σ₂ h2 => ?_
    show GoodR (match subA a b σ₂.cells with | some r => fin r σ₂ | none => (O.sb a b σ₂.cells).map fun p => (p.1, σ₂, p.2)) _
    cases hs : subA a b σ₂.cells with
    | some r' => exact g_fin (R_sub hi h1 h2 hs)
    | none => exact g_map fun r os h6 ho => R_subO h1 h2 (hO.sb _ _ _ _ _ h6 ho _ _ _ hi)
  | bin l op r' p => exact val_go (k := fun a σ₁ => thn (ih .val r' σ₁) fun b σ₂ => (binO op a b).map fun p : AV × List Ob => ((p.1, σ₂, p.2) : AV × AS × List Ob)) IH fun a σ₁ h1 => val_go IH fun b σ₂ h2 => g_map fun r os h6 ho => R_bin h1 h2 (binO_ok h6 ho _)
  | bop op es p => exact fun _ _ _ h ho => IH (.bov op) es σ _ _ _ h ho p
  | _ => exact g_none
omit K hT hO in
theorem tstW_ok (e : PE) (σ : AS) : GoodR (tstW ih e σ) (Says nm X .tst e σ) := g_grd fun hv => val_go IH fun a σ₁ ha => g_bind fun b hb => g_fin ⟨_, rfl, T_val hv ha (tru_ok hb)⟩
theorem evTst_ok (e : PE) (σ : AS) : GoodR (evTst O ih σ e) (Says nm X .tst e σ) := by
  cases e with
  | not e p => exact tst_go (g := fun b σ₁ => fin (AV.bool (!b)) σ₁) IH fun b σ₁ ht => g_fin ⟨_, rfl, T_not ht⟩
  | bop op es p => exact fun _ _ _ h ho => have ⟨b, e, ht⟩ := IH (.all op) es σ _ _ _ h ho; ⟨b, e, T_bop ht⟩
  | cmp l op r' p => exact cmpS_ok IH hO fun a b c σ₁ σ' hr h1 h2 h3 => ⟨_, rfl, T_cmp hr h1 h2 h3⟩
  | cmp2 l o1 m o2 r' p =>
    refine g_grd fun hr => val_go IH fun a σ₁ h1 => val_go IH fun b σ₂ h2 => g_bind fun x h3 => ?_
    rw [Bool.and_eq_true] at hr
    cases x with
    | true => exact val_go (k := fun c σ₃ => (cmpA o2 b c).bind fun y => fin (AV.bool y) σ₃) IH fun c σ₃ h4 => g_bind fun y h5 => g_fin ⟨_, rfl, T_cmp2 hr.1 hr.2 h1 h2 (cmp_ok h3 _) (fun _ => ⟨h4, cmp_ok h5 _⟩) (fun e => nomatch e)⟩
    | false => exact g_fin (a := AV.bool false) ⟨_, rfl, T_cmp2 (c := .none) hr.1 hr.2 h1 h2 (cmp_ok h3 _) (fun e => nomatch e) (fun _ => ⟨rfl, rfl⟩)⟩
  | _ => exact tstW_ok IH _ σ
omit K hT hO in
theorem evAll_ok (op : BoolOp) (e : PE) (σ : AS) : GoodR (evAll ih op σ e) (Says nm X (.all op) e σ) := by
  cases e with
  | cons x t =>
    refine tst_go (g := fun b σ₁ => cond (b == (op == .And)) (ih (.all op) t σ₁) (fin (AV.bool b) σ₁)) IH fun b σ₁ ht => g_cond (fun hb => ?_) fun hb => g_fin ⟨_, rfl, T_all_off (off_of hb) ht⟩
    exact fun _ _ _ h ho => have ⟨c, e, hc⟩ := IH (.all op) t σ₁ _ _ _ h ho; ⟨c, e, T_all_on hb ht hc⟩
  | nil => exact g_fin ⟨_, rfl, T_all_nil⟩
  | _ => exact g_none
omit K hT hO in
theorem evBov_ok (op : BoolOp) (e : PE) (σ : AS) : GoodR (evBov ih op σ e) (Says nm X (.bov op) e σ) := by
  cases e with
  | cons x t =>
    cases t with
    | nil => exact fun _ _ _ h ho pos => R_bov1 (IH .val x σ _ _ _ h ho)
    | cons x' t' =>
      refine val_go (k := fun a σ₁ => (truA a σ₁.cells).bind fun b => cond (b == (op == .And)) (ih (.bov op) (.cons x' t') σ₁) (fin a σ₁)) IH fun a σ₁ ha => g_bind fun b ht => g_cond (fun hb => ?_) fun hb => g_fin fun pos => R_bov_off hb ha (tru_ok ht)
      exact fun _ _ _ h ho pos => R_bov_on hb ha (tru_ok ht) (IH (.bov op) (.cons x' t') σ₁ _ _ _ h ho pos)
    | _ => exact g_none
  | _ => exact g_none
omit K hT hO in
theorem evArgs_ok (e : PE) (σ : AS) : GoodR (evArgs ih σ e) (Says nm X .args e σ) := by
  cases e with
  | nil => exact g_fin ⟨[], rfl, rfl, .inl rfl, fun _ => ⟨rfl, rfl⟩, fun pos => V_nil rfl⟩
  | cons x t =>
    refine g_grd fun hr => val_go IH fun a σ₁ ha => args_go (g := fun l σ₂ => fin (AV.lst (a :: l)) σ₂) IH fun l σ₂ ⟨l', hl, hreal, _, _, hvs⟩ => g_fin ?_
    cases hl
    refine ⟨_, rfl, ?_, .inr ⟨_, _, rfl⟩, (fun e => nomatch e), fun pos => V_cons hr ha (hvs pos)⟩
    show (x.real && t.realL) = true
    rw [hr, hreal]; rfl
  | _ => exact g_none
theorem evStep_sound : Sound nm X (evStep T O ih) := by
  intro md e σ
  cases md with
  | val => exact evVal_ok K hT hO IH e σ
  | tst => exact evTst_ok K hT hO IH e σ
  | all op => exact evAll_ok IH op e σ
  | bov op => exact evBov_ok IH op e σ
  | args => exact evArgs_ok IH e σ
end
theorem ev_sound (K : CxOK X d u) (hT : TbOK nm X T) (hO : OrcOK nm X d u T O) : ∀ n, Sound nm X (ev T O n)
  | 0 => fun _ _ _ _ _ _ h => nomatch h
  | n + 1 => evStep_sound K hT hO (ev_sound K hT hO n)
end
noncomputable abbrev ResS := Rs AFl
section
variable (T : Tb)
section
variable (evf : Md → PE → AS → Res) (ih : Bool → PS → AS → ResS)
noncomputable def putI (i k : Nat) (a : AV) (q : Addr × List (Nat × AV)) (σ : AS) : ResS := grd (T.own q.1 i && Nat.blt q.2.length 1000) (fin .next { σ with cells := σ.cells.set k (.inst q.1 (putF i a q.2)) })
noncomputable def setK (i : Nat) (a v : AV) (σ : AS) : ResS := v.cell?.bind fun k => (σ.cells[k]?.bind Cell.inst?).bind fun q => putI T i k a q σ
noncomputable def augK (i k : Nat) (C : Addr) (c : AV) (σ : AS) : ResS := (σ.cells[k]?.bind Cell.inst?).bind fun q => grd (Nat.beq C q.1) (putI T i k c q σ)
noncomputable def augP (op : Operator) (a b : AV) (σ : AS) : Res := (inplO op a b).map fun p => (p.1, σ, p.2)
noncomputable def augO (op : Operator) (i k : Nat) (C : Addr) (a b : AV) (σ : AS) : ResS := thn (augP op a b σ) (augK T i k C)
noncomputable def augI (op : Operator) (e : PE) (i k : Nat) (q : Addr × List (Nat × AV)) (σ : AS) : ResS := (q.2.lookup i).bind fun a => grd (T.own q.1 i && a.plain) (thn (evf .val e σ) (augO T op i k q.1 a))
noncomputable def augV (op : Operator) (e : PE) (i : Nat) (v : AV) (σ : AS) : ResS := v.cell?.bind fun k => (σ.cells[k]?.bind Cell.inst?).bind fun q => augI T evf op e i k q σ
noncomputable def exOne (σ : AS) : PS → ResS
  | .assign i _ e _ => grd (e.real && T.loc i) (thn (evf .val e σ) fun a σ₁ => fin .next { σ₁ with loc := putF i a σ₁.loc })
  | .setattr o i _ e _ => grd e.real (thn (evf .val e σ) fun a σ₁ => thn (evf .val o σ₁) (setK T i a))
  | .aug o i _ op e _ => thn (evf .val o σ) (augV T evf op e i)
  | .ite t b e _ => thn (evf .tst t σ) fun v σ₁ => v.bool?.bind fun c => ih true (bif c then b else e) σ₁
  | .ret e _ => thn (evf .val e σ) fun a σ₁ => fin (.ret a) σ₁
  | .expr e _ => grd e.real (thn (evf .val e σ) fun _ σ₁ => fin .next σ₁)
  | .brk _ => fin .brk σ
  | .cont _ => fin .cont σ
  | _ => none
noncomputable def goOn (t : PS) (r : AFl) (σ : AS) : ResS := match r with
  | .next => ih true t σ
  | .brk => fin .brk σ
  | .cont => fin .cont σ
  | .ret a => fin (.ret a) σ
noncomputable def exMany (σ : AS) : PS → ResS
  | .nil => fin .next σ
  | .cons h t => thn (ih false h σ) fun r σ₁ => goOn ih t r σ₁
  | _ => none
noncomputable def exStep (md : Bool) (e : PS) (σ : AS) : ResS := cond md (exMany ih σ e) (exOne T evf ih σ e)
end
noncomputable def ex (evf : Md → PE → AS → Res) : Nat → Bool → PS → AS → ResS
  | 0 => fun _ _ _ => none
  | n + 1 => exStep T evf (ex evf n)
end
section
variable {nm : Nat → Str} {X : Cx} {d u : Nat} {T : Tb} {O : Orc}
noncomputable def SaysS (nm : Nat → Str) (X : Cx) : Bool → PS → AS → AFl → AS → Prop
  | false, s, σ, r, σ' => ExOK nm X (exec (embS nm s) X.env) σ r σ'
  | true, s, σ, r, σ' => ExOK nm X (execs (embSs nm s) X.env) σ r σ'
noncomputable def SoundS (nm : Nat → Str) (X : Cx) (f : Bool → PS → AS → ResS) : Prop := ∀ md e σ r σ' os, f md e σ = some (r, σ', os) → (∀ o ∈ os, o.holds) → SaysS nm X md e σ r σ'
section
variable (K : CxOK X d u) (hT : TbOK nm X T) {evf : Md → PE → AS → Res} (EV : Sound nm X evf) {ih : Bool → PS → AS → ResS} (IH : SoundS nm X ih)
include K hT EV IH
omit K hT EV IH in
theorem putI_ok {Q : AFl → AS → Prop} {i k : Nat} {a : AV} {q : Addr × List (Nat × AV)} {σ : AS} (H : T.own q.1 i = true → q.2.length < 1000 → Q .next { σ with cells := σ.cells.set k (.inst q.1 (putF i a q.2)) }) : GoodR (putI T i k a q σ) Q :=
  g_grd fun hq => g_fin (H (Bool.and_eq_true_iff.mp hq).1 (Nat.le_of_ble_eq_true (Bool.and_eq_true_iff.mp hq).2))
theorem exOne_ok (e : PS) (σ : AS) : GoodR (exOne T evf ih σ e) (ExOK nm X (exec (embS nm e) X.env) σ) := by
  cases e with
  | assign i ip e p => exact g_grd fun hr => val_go EV fun a σ₁ ha => g_fin (R_assign hT.inj K (Bool.and_eq_true_iff.mp hr).1 (hT.loc _ (Bool.and_eq_true_iff.mp hr).2) ha)
  | setattr o i ap e p =>
    refine g_grd fun hr => val_go EV fun a σ₁ ha => val_go EV fun v σ₂ hv => g_bind (x := v.cell?) fun k hk => g_bind fun ⟨C, fs⟩ hc => putI_ok fun h1 h2 => ?_
    exact R_setattr hT.inj K (noSwap hr _ _ _) ha (cell?_eq hk ▸ hv) (at_inst hc) h2 (hT.own _ _ h1).2
  | aug o i ap op e p =>
    refine val_go (k := augV T evf op e i) EV fun v σ₁ hv => g_bind (x := v.cell?) fun k hk => g_bind fun ⟨C, fs⟩ hc => g_bind (x := fs.lookup i) fun a hl => g_grd fun hq => val_go EV fun b σ₂ hb => ?_
    rw [Bool.and_eq_true] at hq
    refine g_thn (P := fun c σ₃ => σ₃ = σ₂ ∧ BinOK nm X (inplaceOp op) σ₂ a b c σ₂) (g_map fun c os h ho => ⟨rfl, inplO_ok h ho _⟩) fun c σ₃ ⟨e3, hi⟩ => ?_
    subst e3
    refine g_bind fun ⟨C', fs'⟩ hc' => g_grd fun hz => putI_ok fun h1 h2 => ?_
    have e : C = C' := beq_of hz
    subst e
    exact R_aug (fs := fs) (fs' := fs') hT.inj K (cell?_eq hk ▸ hv) (at_inst hc) hl hq.2 (hT.own _ _ hq.1).1 hb hi (at_inst hc') h2 (hT.own _ _ hq.1).2
  | ite t b e p => exact tst_go (g := fun c σ₁ => ih true (bif c then b else e) σ₁) EV fun c σ₁ ht => fun _ _ _ h ho => R_if ht (IH _ _ _ _ _ _ h ho)
  | ret e p => exact val_go (k := fun a σ₁ => fin (AFl.ret a) σ₁) EV fun a σ₁ ha => g_fin (R_ret ha)
  | expr e p => exact g_grd fun hr => val_go EV fun a σ₁ ha => g_fin (R_expr K hr ha)
  | brk p => exact g_fin R_brk
  | cont p => exact g_fin R_cont
  | _ => exact g_none
omit K hT EV in
theorem exMany_ok (e : PS) (σ : AS) : GoodR (exMany ih σ e) (ExOK nm X (execs (embSs nm e) X.env) σ) := by
  cases e with
  | nil => exact g_fin R_execs_nil
  | cons x t =>
    show GoodR _ (ExOK nm X (execs (embS nm x :: embSs nm t) X.env) σ)
    refine g_thn (k := fun r σ₁ => goOn ih t r σ₁) (r := ih false x σ) (IH false x σ) fun r' σ₁ h1 => ?_
    cases r' with
    | next => exact fun _ _ _ h ho => R_execs_next h1 (IH true t σ₁ _ _ _ h ho)
    | brk => exact g_fin (R_execs_out h1 rfl)
    | cont => exact g_fin (R_execs_out h1 rfl)
    | ret a => exact g_fin (R_execs_out h1 rfl)
  | _ => exact g_none
theorem exStep_sound : SoundS nm X (exStep T evf ih) := by
  intro md e σ
  cases md with
  | true => exact exMany_ok IH e σ
  | false => exact exOne_ok K hT EV IH e σ
end
theorem ex_sound (K : CxOK X d u) (hT : TbOK nm X T) {evf : Md → PE → AS → Res} (EV : Sound nm X evf) : ∀ n, SoundS nm X (ex T evf n)
  | 0 => fun _ _ _ _ _ _ h => nomatch h
  | n + 1 => exStep_sound K hT EV (ex_sound K hT EV n)
theorem run_ok (K : CxOK X d u) (hT : TbOK nm X T) (hO : OrcOK nm X d u T O) {m n : Nat} {b : PS} {σ σ' : AS} {r : AFl} {os : List Ob} (h : ex T (ev T O m) n true b σ = some (r, σ', os)) (hos : ∀ o ∈ os, o.holds) : ExOK nm X (execs (embSs nm b) X.env) σ r σ' :=
  ex_sound K hT (ev_sound K hT hO m) n true b σ r σ' os h hos
end
noncomputable def only2 : List AV → Option (AV × AV)
  | [x, y] => some (x, y)
  | _ => none
noncomputable def only3 : List AV → Option (AV × AV × AV)
  | [x, y, z] => some (x, y, z)
  | _ => none
noncomputable def sec? : List Cell → Option (Cell × Cell × List Cell)
  | c :: c' :: r => some (c, c', r)
  | _ => none
noncomputable def Cell.strm? : Cell → Option (List Nat × List Nat)
  | .strm a b => some (a, b)
  | _ => none
theorem only2_eq {l : List AV} {q : AV × AV} (h : only2 l = some q) : l = [q.1, q.2] := by
  cases l with
  | nil => cases h
  | cons x l => cases l with
    | nil => cases h
    | cons y l => cases l with
      | nil => cases h; rfl
      | cons _ _ => cases h
theorem only3_eq {l : List AV} {q : AV × AV × AV} (h : only3 l = some q) : l = [q.1, q.2.1, q.2.2] := by
  cases l with
  | nil => cases h
  | cons x l => cases l with
    | nil => cases h
    | cons y l => cases l with
      | nil => cases h
      | cons z l => cases l with
        | nil => cases h; rfl
        | cons _ _ => cases h
theorem sec?_eq {l : List Cell} {q : Cell × Cell × List Cell} (h : sec? l = some q) : l = q.1 :: q.2.1 :: q.2.2 := by
  cases l with
  | nil => cases h
  | cons x l => cases l with
    | nil => cases h
    | cons y l => cases h; rfl
theorem strm?_eq {c : Cell} {q : List Nat × List Nat} (h : c.strm? = some q) : c = .strm q.1 q.2 := by cases c <;> first | (cases h; rfl) | (cases h; done)
noncomputable def isC (k : Nat) (a : AV) : Bool := match a.cell? with
  | some j => Nat.beq j k
  | none => false
theorem isC_eq {k : Nat} {a : AV} (h : isC k a = true) : a = .cell k := by
  unfold isC at h
  cases e : a.cell? with
  | none => rw [e] at h; cases h
  | some j =>
    rw [e] at h
    rw [cell?_eq e, beq_of h]
noncomputable def ints2 (as : List AV) : Option (Int × Int) := (only2 as).bind fun q => two q.1.int? q.2.int? Prod.mk
theorem ints2_eq {as : List AV} {x y : Int} (h : ints2 as = some (x, y)) : as = [.int x, .int y] := by
  obtain ⟨q, h1, h2⟩ := bind_eq h
  obtain ⟨x', y', h3, h4, h5⟩ := two_eq h2
  cases h5
  rw [only2_eq h1, int?_eq h3, int?_eq h4]
noncomputable def strF? : List (Nat × AV) → Option (List Nat × Int)
  | [a, b, c] => grd (Nat.beq a.1 18 && Nat.beq b.1 10 && Nat.beq c.1 13) (a.2.str?.bind fun l => (one? l).bind fun n => grd (Nat.beq n 10) (two b.2.str? c.2.int? Prod.mk))
  | _ => none
noncomputable def strI? (c : Cell) : Option (List Nat × Int) := c.inst?.bind fun q => grd (Nat.beq q.1 608) (strF? q.2)
theorem strF?_eq {l : List (Nat × AV)} {buf : List Nat} {p : Int} (h : strF? l = some (buf, p)) : l = [(18, .str [10]), (10, .str buf), (13, .int p)] := by
  match l, h with
  | [(a, x), (b, y), (c, z)], h =>
    obtain ⟨h1, h2⟩ := grd_eq h
    rw [Bool.and_eq_true, Bool.and_eq_true] at h1
    obtain ⟨l, h3, h4⟩ := bind_eq h2
    obtain ⟨n, h5, h6⟩ := bind_eq h4
    obtain ⟨h7, h8⟩ := grd_eq h6
    obtain ⟨u, v, h9, h10, h11⟩ := two_eq h8
    cases h11
    have e1 := beq_of h1.1.1
    have e2 := beq_of h1.1.2
    have e3 := beq_of h1.2
    have e4 := beq_of h7
    have e5 := str?_eq h3
    have e6 := str?_eq h9
    have e7 := int?_eq h10
    have e8 := one?_eq h5
    dsimp only at e1 e2 e3 e5 e6 e7
    rw [e1, e2, e3, e5, e6, e7, e8, e4]
theorem strI?_eq {c : Cell} {buf : List Nat} {p : Int} (h : strI? c = some (buf, p)) : c = .inst 608 [(18, .str [10]), (10, .str buf), (13, .int p)] := by
  obtain ⟨⟨C, fs⟩, h1, h2⟩ := bind_eq h
  obtain ⟨h3, h4⟩ := grd_eq h2
  rw [inst?_eq h1, show fs = _ from strF?_eq h4, show C = 608 from beq_of h3]
noncomputable def pm1 : Int → Bool
  | .ofNat m => Nat.beq m 1
  | .negSucc m => Nat.beq m 0
theorem pm1_eq {n : Int} (h : pm1 n = true) : n = 1 ∨ n = -1 := by
  cases n with
  | ofNat m => exact .inl (by rw [show m = 1 from beq_of h]; rfl)
  | negSucc m => exact .inr (by rw [show m = 0 from beq_of h]; rfl)
noncomputable def leq : List Nat → List Nat → Bool
  | [], [] => true
  | a :: x, b :: y => Nat.beq a b && leq x y
  | _, _ => false
theorem leq_eq : ∀ {x y : List Nat}, leq x y = true → x = y
  | [], [], _ => rfl
  | a :: x, b :: y, h => by
    have h' : (Nat.beq a b && leq x y) = true := h
    rw [Bool.and_eq_true] at h'
    rw [beq_of h'.1, leq_eq h'.2]
  | [], _ :: _, h => by cases h
  | _ :: _, [], h => by cases h
theorem mem_sub {l m : List Nat} {n c : Nat} (h : (l.all fun c => Nat.beq c n || m.any (Nat.beq c)) = true) (hc : c ∈ l) (hn : c ≠ n) : c ∈ m := by
  have := List.all_eq_true.mp h c hc
  rw [Bool.or_eq_true] at this
  rcases this with e | e
  · exact absurd (beq_of e) hn
  · obtain ⟨x, hx, e⟩ := List.any_eq_true.mp e
    rw [beq_of e]; exact hx
theorem cond_eq {α : Type} {b : Bool} {x y : Option α} {z : α} (h : cond b x y = some z) : (b = true ∧ x = some z) ∨ (b = false ∧ y = some z) := by
  cases b with
  | true => exact .inl ⟨rfl, h⟩
  | false => exact .inr ⟨rfl, h⟩
theorem fIndex_at (w : World) : (KF w).lookup 74 = some ⟨.type "function", none, .func (fnOf (Str.ofString "_index") (Str.ofString "_index") fIndex_params fIndex_body fIndex_scope .none .none .none (.str (Str.ofString "io") 312) none (.ref 73) .none), #[]⟩ := by kernel_rfl
theorem fCheck_at (w : World) : (KF w).lookup 392 = some ⟨.type "function", none, .func (fnOf (Str.ofString "__check") (Str.ofString "StringIO.__check") fCheck_params fCheck_body fCheck_scope .none .none .none (.str (Str.ofString "io") 312) none (.ref 391) .none), #[]⟩ := by kernel_rfl
theorem fLine_at (w : World) : (KF w).lookup 406 = some ⟨.type "function", none, .func (fnOf (Str.ofString "__line") (Str.ofString "StringIO.__line") fLine_params fLine_body fLine_scope .none .none .none (.str (Str.ofString "io") 312) none (.ref 405) .none), #[]⟩ := by kernel_rfl
theorem fRead_at (w : World) : (KF w).lookup 554 = some ⟨.type "function", none, .func (fnOf (Str.ofString "read") (Str.ofString "StringIO.read") fRead_params fRead_body fRead_scope (.ref 547) .none .none (.str (Str.ofString "io") 312) none (.ref 553) .none), #[]⟩ := by kernel_rfl
theorem fReadline_at (w : World) : (KF w).lookup 562 = some ⟨.type "function", none, .func (fnOf (Str.ofString "readline") (Str.ofString "StringIO.readline") fReadline_params fReadline_body fReadline_scope (.ref 555) .none .none (.str (Str.ofString "io") 312) none (.ref 561) .none), #[]⟩ := by kernel_rfl
theorem fTrans_at (w : World) : (KF w).lookup 385 = some ⟨.type "function", none, .func (fnOf (Str.ofString "__translated") (Str.ofString "StringIO.__translated") fTrans_params fTrans_body fTrans_scope .none .none .none (.str (Str.ofString "io") 312) none (.ref 384) .none), #[]⟩ := by kernel_rfl
theorem fSInit_at (w : World) : (KF w).lookup 378 = some ⟨.type "function", none, .func (fnOf (Str.ofString "__init__") (Str.ofString "StringIO.__init__") fSInit_params fSInit_body fSInit_scope (.ref 371) .none .none (.str (Str.ofString "io") 312) none (.ref 377) .none), #[]⟩ := by kernel_rfl
theorem fNew_at (w : World) : (KF w).lookup 101 = some ⟨.type "function", none, .func (fnOf (Str.ofString "__new__") (Str.ofString "IOBase.__new__") fNew_params fNew_body fNew_scope .none .none .none (.str (Str.ofString "io") 312) none (.ref 100) .none), #[]⟩ := by kernel_rfl
theorem fInit_at (w : World) : (KF w).lookup 667 = some ⟨.type "function", none, .func (fnOf (Str.ofString "__init__") (Str.ofString "shlex.__init__") fInit_params fInit_body fInit_scope (.ref 660) .none .none (.str (Str.ofString "cpy313.shlex") 1027) none (.ref 666) .none), #[]⟩ := by kernel_rfl
theorem fPunct_at (w : World) : (KF w).lookup 674 = some ⟨.type "function", none, .func (fnOf (Str.ofString "punctuation_chars") (Str.ofString "shlex.punctuation_chars") fPunct_params fPunct_body fPunct_scope .none .none .none (.str (Str.ofString "cpy313.shlex") 1027) none (.ref 673) .none), #[]⟩ := by kernel_rfl
theorem fGet_at (w : World) : (KF w).lookup 704 = some ⟨.type "function", none, .func (fnOf (Str.ofString "get_token") (Str.ofString "shlex.get_token") fGet_params fGet_body fGet_scope .none .none .none (.str (Str.ofString "cpy313.shlex") 1027) none (.ref 703) .none), #[]⟩ := by kernel_rfl
theorem fTok_at (w : World) : (KF w).lookup 711 = some ⟨.type "function", none, .func (fnOf (Str.ofString "read_token") (Str.ofString "shlex.read_token") fTok_params fTok_body fTok_scope .none .none .none (.str (Str.ofString "cpy313.shlex") 1027) none (.ref 710) .none), #[]⟩ := by kernel_rfl
theorem fAnd_at (w : World) : (KF w).lookup 46 = some ⟨.type "function", none, .func (fnOf (Str.ofString "and_") (Str.ofString "and_") fAnd_params fAnd_body fAnd_scope .none .none .none (.str (Str.ofString "cpy313.operator") 286) none (.ref 45) .none), #[]⟩ := by kernel_rfl
theorem fOr_at (w : World) : (KF w).lookup 53 = some ⟨.type "function", none, .func (fnOf (Str.ofString "or_") (Str.ofString "or_") fOr_params fOr_body fOr_scope .none .none .none (.str (Str.ofString "cpy313.operator") 286) none (.ref 52) .none), #[]⟩ := by kernel_rfl
theorem fXor_at (w : World) : (KF w).lookup 60 = some ⟨.type "function", none, .func (fnOf (Str.ofString "xor") (Str.ofString "xor") fXor_params fXor_body fXor_scope .none .none .none (.str (Str.ofString "cpy313.operator") 286) none (.ref 59) .none), #[]⟩ := by kernel_rfl
theorem fFormula_at (w : World) : (KF w).lookup 754 = some ⟨.type "function", none, .func (fnOf (Str.ofString "_law_formula") (Str.ofString "_law_formula") fFormula_params fFormula_body fFormula_scope .none .none .none (.str (Str.ofString "law_nq0180_01") 1168) none (.ref 753) .none), #[]⟩ := by kernel_rfl
theorem fItems_at (w : World) : (KF w).lookup 761 = some ⟨.type "function", none, .func (fnOf (Str.ofString "_law_items") (Str.ofString "_law_items") fItems_params fItems_body fItems_scope .none .none .none (.str (Str.ofString "law_nq0180_01") 1168) none (.ref 760) .none), #[]⟩ := by kernel_rfl
theorem fText_at (w : World) : (KF w).lookup 768 = some ⟨.type "function", none, .func (fnOf (Str.ofString "_law_text") (Str.ofString "_law_text") fText_params fText_body fText_scope .none .none .none (.str (Str.ofString "law_nq0180_01") 1168) none (.ref 767) .none), #[]⟩ := by kernel_rfl
theorem fHolds_at (w : World) : (KF w).lookup 775 = some ⟨.type "function", none, .func (fnOf (Str.ofString "_law_holds") (Str.ofString "_law_holds") fHolds_params fHolds_body fHolds_scope .none .none .none (.str (Str.ofString "law_nq0180_01") 1168) none (.ref 774) .none), #[]⟩ := by kernel_rfl
theorem fClosed_at (w : World) : (KF w).lookup 782 = some ⟨.type "function", none, .func (fnOf (Str.ofString "_law_closed") (Str.ofString "_law_closed") fClosed_params fClosed_body fClosed_scope .none .none .none (.str (Str.ofString "law_nq0180_01") 1168) none (.ref 781) .none), #[]⟩ := by kernel_rfl
theorem fReck_at (w : World) : (KF w).lookup 789 = some ⟨.type "function", none, .func (fnOf (Str.ofString "_law_reckoned") (Str.ofString "_law_reckoned") fReck_params fReck_body fReck_scope .none .none .none (.str (Str.ofString "law_nq0180_01") 1168) none (.ref 788) .none), #[]⟩ := by kernel_rfl
theorem nmL_facts : (nmL.all fun s => s.cps.toList.all (fun c => Nat.blt c 2000000) && !(s == ("__debug__" : Str)) && !(s == ("__name__" : Str))) = true := by kernel_rfl
noncomputable def nodupB : List (List Nat) → Bool
  | [] => true
  | a :: r => !r.contains a && nodupB r
theorem nodupB_ne : ∀ {l : List (List Nat)}, nodupB l = true → ∀ {i j : Nat} {a : List Nat}, l[i]? = some a → l[j]? = some a → i = j
  | [], _, _, _, _, h, _ => by simp at h
  | x :: r, h, i, j, a, hi, hj => by
    simp only [nodupB, Bool.and_eq_true, Bool.not_eq_true'] at h
    have nin : ∀ {k : Nat}, r[k]? = some x → False := fun {k} e => by
      have : x ∈ r := List.mem_of_getElem? e
      have := List.contains_iff_mem.mpr this
      rw [this] at h
      cases h.1
    cases i with
    | zero => cases j with
      | zero => rfl
      | succ j => simp at hi hj; subst hi; exact (nin hj).elim
    | succ i => cases j with
      | zero => simp at hi hj; subst hj; exact (nin hi).elim
      | succ j => simp at hi hj; rw [nodupB_ne h.2 hi hj]
theorem nmL_nodup : nodupB (nmL.map fun s => s.cps.toList) = true := by kernel_rfl
theorem nm_some {i : Nat} {s : Str} (h : nmL[i]? = some s) : nm i = s := by unfold nm; rw [h]; rfl
theorem nm_none {i : Nat} (h : nmL[i]? = none) : nm i = ⟨#[2000000 + i]⟩ := by unfold nm; rw [h]; rfl
theorem nmL_small {i : Nat} {s : Str} (h : nmL[i]? = some s) : (s.cps.toList.all (fun c => Nat.blt c 2000000) = true) ∧ (s == ("__debug__" : Str)) = false ∧ (s == ("__name__" : Str)) = false := by
  have := List.all_eq_true.mp nmL_facts s (List.mem_of_getElem? h)
  simp only [Bool.and_eq_true, Bool.not_eq_true'] at this
  exact ⟨this.1.1, this.1.2, this.2⟩
theorem nm_inj : ∀ i j, nm i = nm j → i = j := by
  intro i j h
  cases hi : nmL[i]? with
  | none =>
    rw [nm_none hi] at h
    cases hj : nmL[j]? with
    | none =>
      rw [nm_none hj] at h
      have : #[2000000 + i] = #[2000000 + j] := congrArg Str.cps h
      simp at this
      exact this
    | some s =>
      rw [nm_some hj] at h
      have := (nmL_small hj).1
      rw [← h] at this
      simp [Nat.blt] at this
      omega
  | some s =>
    rw [nm_some hi] at h
    cases hj : nmL[j]? with
    | none =>
      rw [nm_none hj] at h
      have := (nmL_small hi).1
      rw [h] at this
      simp [Nat.blt] at this
      omega
    | some s' =>
      rw [nm_some hj] at h
      subst h
      refine nodupB_ne nmL_nodup (a := s.cps.toList) ?_ ?_
      · rw [List.getElem?_map, hi]; rfl
      · rw [List.getElem?_map, hj]; rfl
theorem dbg_lit : ((⟨#[2000000]⟩ : Str) == ("__debug__" : Str)) = false := by decide
theorem nm_dbg (i : Nat) : (nm i == ("__debug__" : Str)) = false := by
  cases hi : nmL[i]? with
  | none =>
    rw [nm_none hi]
    cases h : ((⟨#[2000000 + i]⟩ : Str) == ("__debug__" : Str)) with
    | false => rfl
    | true =>
      have := congrArg (fun s : Str => s.cps.size) (eq_of_beq h)
      have h2 : ("__debug__" : Str).cps.size = 9 := by decide
      simp [h2] at this
  | some s => rw [nm_some hi]; exact (nmL_small hi).2.1
theorem nm_name (i : Nat) : nm i ≠ Str.ofString "__name__" := by
  intro h
  cases hi : nmL[i]? with
  | none =>
    rw [nm_none hi] at h
    have := congrArg (fun s : Str => s.cps.size) h
    have h2 : (Str.ofString "__name__").cps.size = 8 := by decide
    simp [h2] at this
  | some s =>
    rw [nm_some hi] at h
    have := (nmL_small hi).2.2
    rw [h] at this
    simp at this
theorem cpL_ok : (cpL.all fun p => (nm p.1 == ⟨p.2.toArray⟩) && Nat.ble p.2.length 16777216) = true := by kernel_rfl
theorem lookup_mem {α : Type} {i : Nat} {a : α} : ∀ {l : List (Nat × α)}, l.lookup i = some a → (i, a) ∈ l
  | [], h => by cases h
  | (j, b) :: r, h => by
    by_cases q : i = j
    · subst q; simp only [List.lookup, beq_self_eq_true] at h; cases h; exact .head _
    · have : (i == j) = false := by simpa using q
      simp only [List.lookup, this] at h
      exact .tail _ (lookup_mem h)
theorem cp_ok {i : Nat} {l : List Nat} (h : cpL.lookup i = some l) : nm i = ⟨l.toArray⟩ ∧ l.length ≤ 16777216 := by
  have := List.all_eq_true.mp cpL_ok _ (lookup_mem h)
  simp only [Bool.and_eq_true] at this
  exact ⟨eq_of_beq this.1, Nat.le_of_ble_eq_true this.2⟩
noncomputable def gK : List (Nat × Value) := [(27, .ref 74), (8, .ref 39), (38, .ref 361), (39, .ref 608), (65, .type "collections.deque"), (120, .ref 761), (130, .ref 775), (136, .ref 46), (137, .ref 53), (138, .ref 60), (144, .ref 782)]
noncomputable def gB : List (Nat × Value) := [(2, .builtin "len"), (5, .type "type"), (6, .type "int"), (7, .type "bool"), (35, .type "str"), (40, .type "object"), (46, .builtin "isinstance"), (77, .type "dict"), (126, .type "range"), (143, .type "list")]
theorem gK_ok (w : World) : (gK.all fun p => nsIn (KF w) mainGlobals (nm p.1) == some (some p.2)) = true := by kernel_rfl
theorem gB_ok (w : World) : (gB.all fun p => (nsIn (KF w) mainGlobals (nm p.1) == some none) && (bootBuiltins (nm p.1) == some p.2)) = true := by kernel_rfl
noncomputable def ownL : List (Addr × Nat) := [(743, 42), (743, 43), (743, 44), (743, 47), (743, 48), (743, 50), (743, 53), (743, 55), (743, 56), (743, 58), (743, 60), (743, 62), (743, 64), (743, 66), (743, 67), (743, 68), (743, 69), (743, 70), (743, 72), (743, 73), (608, 10), (608, 13), (608, 18)]
theorem own_ok (w : World) : (ownL.all fun p => plainGet (KF w) p.1 (nm p.2) && hasDictIn (KF w) p.1 && (match findIn (KF w) (.ref p.1) (nm p.2) with | some a => noGet (KF w) a | none => false) &&
    (findIn (KF w) (.ref p.1) "__setattr__" == some (some (.builtin "object.__setattr__"))) && plainOver (KF w) p.1 && (takerIn (KF w) p.1 (nm p.2) == some none)) = true := by kernel_rfl
noncomputable def hasB (i : Nat) : List Nat → Bool
  | [] => false
  | j :: r => match Nat.beq i j with
    | true => true
    | false => hasB i r
theorem hasB_mem {i : Nat} : ∀ {l : List Nat}, hasB i l = true → i ∈ l
  | [], h => by cases h
  | j :: r, h => by
    unfold hasB at h
    split at h
    · rename_i e; rw [beq_of e]; exact .head _
    · exact .tail _ (hasB_mem h)
noncomputable def hasP (C i : Nat) : List (Addr × Nat) → Bool
  | [] => false
  | p :: r => match Nat.beq C p.1 && Nat.beq i p.2 with
    | true => true
    | false => hasP C i r
theorem hasP_mem {C i : Nat} : ∀ {l : List (Addr × Nat)}, hasP C i l = true → (C, i) ∈ l
  | [], h => by cases h
  | p :: r, h => by
    unfold hasP at h
    split at h
    · rename_i e
      rw [Bool.and_eq_true] at e
      have : p = (C, i) := Prod.ext (beq_of e.1).symm (beq_of e.2).symm
      rw [this]; exact .head _
    · exact .tail _ (hasP_mem h)
noncomputable def mkT (locs globs : List Nat) : Tb where
  loc := fun i => hasB i locs
  glob := fun i => match hasB i globs with
    | true => (gK ++ gB).lookup i
    | false => none
  cp := fun i => cpL.lookup i
  own := fun C i => hasP C i ownL
  nAppend := 0
  nPop := 1
  nLen := 2
theorem ownOK {w : World} {C i : Nat} (h : hasP C i ownL = true) : OwnOK w C (nm i) ∧ SetOK w C (nm i) := by
  have := List.all_eq_true.mp (own_ok w) _ (hasP_mem h)
  simp only [Bool.and_eq_true] at this
  obtain ⟨⟨⟨⟨⟨h1, h2⟩, h3⟩, h4⟩, h5⟩, h6⟩ := this
  refine ⟨⟨h1, h2, ?_⟩, ⟨eq_of_beq h4, h5, eq_of_beq h6, h2⟩⟩
  split at h3
  · rename_i a e; exact ⟨a, e, h3⟩
  · cases h3
section
variable {X : Cx} {d u : Nat}
theorem mkT_ok (K : CxOK X d u) {locs globs : List Nat} (hl : (locs.all fun i => X.cs.names.lookup (nm i) == some .local) = true) (hg : (globs.all fun i => X.cs.names.lookup (nm i) == some .globalImplicit) = true) : TbOK nm X (mkT locs globs) where
  inj := nm_inj
  loc := fun i h => eq_of_beq (List.all_eq_true.mp hl i (hasB_mem h))
  dbg := nm_dbg
  glob := fun i v h => by
    have h' : (match hasB i globs with | true => (gK ++ gB).lookup i | false => none) = some v := h
    split at h'
    · rename_i hb
      have hk : X.env.kindOf (nm i) = some .globalImplicit := eq_of_beq (List.all_eq_true.mp hg i (hasB_mem hb))
      have hm := lookup_mem h'
      intro σ p
      rcases List.mem_append.mp hm with hm | hm
      · exact R_globK K hk (nm_dbg i) (eq_of_beq (List.all_eq_true.mp (gK_ok X.w) _ hm))
      · have := List.all_eq_true.mp (gB_ok X.w) _ hm
        simp only [Bool.and_eq_true] at this
        exact R_globB K hk (nm_dbg i) (eq_of_beq this.1) (eq_of_beq this.2) (nm_name i)
    · cases h'
  cp := fun i l h => cp_ok h
  own := fun C i h => ownOK h
  app := rfl
  pop := rfl
  len := fun v h => by
    have h' : (match hasB 2 globs with | true => (gK ++ gB).lookup 2 | false => none) = some v := h
    split at h'
    · have : (gK ++ gB).lookup 2 = some (.builtin "len") := by kernel_rfl
      rw [this] at h'; cases h'; rfl
    · cases h'
end
theorem lookup_append' {α : Type} (x : Str) : ∀ (l l' : List (Str × α)), (l ++ l').lookup x = (match l.lookup x with | some v => some v | none => l'.lookup x)
  | [], _ => rfl
  | (y, b) :: r, l' => by
    by_cases q : x = y
    · subst q; simp [List.lookup]
    · have : (x == y) = false := by simpa using q
      simp only [List.cons_append, List.lookup, this]
      exact lookup_append' x r l'
theorem rev_none {ids : List Nat} {i : Nat} : ∀ {ids : List Nat} {vals : List Value}, i ∉ ids → ((ids.map nm).zip vals).reverse.lookup (nm i) = none
  | [], vals, _ => by simp
  | j :: ids, [], _ => by simp
  | j :: ids, v :: vals, h => by
    simp only [List.map_cons, List.zip_cons_cons, List.reverse_cons]
    rw [lookup_append', rev_none (ids := ids) (fun q => h (.tail _ q))]
    have : (nm i == nm j) = false := by
      cases e : nm i == nm j with
      | false => rfl
      | true => exact absurd (nm_inj _ _ (eq_of_beq e)) (fun q => h (q ▸ .head _))
    simp [List.lookup, this]
theorem locOK_zip {W : Wd} : ∀ {ids : List Nat} {args : List AV} {vals : List Value}, RelVs W args vals → ids.Nodup → LocOK nm W (ids.zip args) (fun y => ((ids.map nm).zip vals).reverse.lookup y)
  | [], _, _, _, _ => fun i a e => by simp at e
  | j :: ids, _, _, .nil, _ => fun i a e => by simp at e
  | j :: ids, _, _, .cons (v := v) (vs := vals) hv hs, nd => by
    intro i a e
    rw [List.nodup_cons] at nd
    simp only [List.map_cons, List.zip_cons_cons, List.reverse_cons]
    rw [lookup_append']
    by_cases q : i = j
    · subst q
      simp only [List.zip_cons_cons, List.lookup, beq_self_eq_true] at e
      cases e
      rw [rev_none (ids := ids) (vals := vals) nd.1]
      exact ⟨v, by simp [List.lookup], hv⟩
    · have hb : (i == j) = false := by simpa using q
      simp only [List.zip_cons_cons, List.lookup, hb] at e
      obtain ⟨v', h1, h2⟩ := locOK_zip hs nd.2 i a e
      refine ⟨v', ?_, h2⟩
      have h1' : ((ids.map nm).zip vals).reverse.lookup (nm i) = some v' := h1
      rw [h1']
noncomputable def noO : Orc := { fn := fun _ _ _ => none, mt := fun _ _ _ _ => none, pr := fun _ _ _ _ => none }
theorem noO_ok {X : Cx} {d u : Nat} {T : Tb} : OrcOK nm X d u T noO where
  fn := fun _ _ _ _ _ _ _ _ h => by cases h
  mt := fun _ _ _ _ _ _ _ h => by cases h
  pr := fun _ _ _ _ _ _ _ h => by cases h
theorem no_obs : ∀ o ∈ ([] : List Ob), o.holds := fun _ h => nomatch h
section
variable {X : Cx} {d u : Nat}
theorem type_ok {σ : AS} {n : Int} : FnOK nm X (.type "type") [.int n] σ (.val (.type "int")) σ := by
  intro s W vals S hv
  cases hv with
  | cons h1 hr => cases hr with
    | nil => cases h1 with
      | int n t => exact EvAt.here S fun Q E hQ => call_type_of (typeIs_int s n t) (by decide) (hQ _ s.toks (.val _))
theorem int_ok {σ : AS} {n : Int} : FnOK nm X (.type "int") [.int n] σ (.int n) σ := by
  intro s W vals S hv
  cases hv with
  | cons h1 hr => cases hr with
    | nil => cases h1 with
      | int n t => exact EvAt.here S fun Q E hQ => call_int_int (hQ _ s.toks (.int _ _))
end
noncomputable def OIndex : Orc := ⟨fun i as cs => (only1 as).bind fun a => a.int?.bind fun n => cond (Nat.beq i 5) (some (.val (.type "int"), cs, [])) (grd (Nat.beq i 6) (some (.int n, cs, []))), fun _ _ _ _ => none, fun _ _ _ _ => none, fun _ _ _ _ => none, fun _ _ _ => none⟩
noncomputable abbrev TIndex : Tb := mkT fIndex_locs fIndex_globs
theorem OIndex_ok {X : Cx} {d u : Nat} : OrcOK nm X d u TIndex OIndex where
  fn := fun i f as cs r cs' os hg h ho => by
    obtain ⟨a, h1, h2⟩ := bind_eq h
    obtain ⟨n, h3, h4⟩ := bind_eq h2
    rw [only1_eq h1, int?_eq h3]
    cases hi : Nat.beq i 5 with
    | true =>
      rw [hi] at h4
      cases h4
      have e := beq_of hi
      subst e
      have : TIndex.glob 5 = some (.type "type") := by kernel_rfl
      rw [this] at hg; cases hg
      exact ⟨KeepOK.ty, fun loc => type_ok⟩
    | false =>
      rw [hi] at h4
      obtain ⟨h5, h6⟩ := grd_eq h4
      cases h6
      have e := beq_of h5
      subst e
      have : TIndex.glob 6 = some (.type "int") := by kernel_rfl
      rw [this] at hg; cases hg
      exact ⟨KeepOK.ty, fun loc => int_ok⟩
  mt := fun _ _ _ _ _ _ _ h => by cases h
  pr := fun _ _ _ _ _ _ _ h => by cases h
theorem index_loc : (fIndex_locs.all fun i => fIndex_scope.names.lookup (nm i) == some .local) = true := by kernel_rfl
theorem index_glob : (fIndex_globs.all fun i => fIndex_scope.names.lookup (nm i) == some .globalImplicit) = true := by kernel_rfl
theorem index_run1 (what : List Nat) (cells : List Cell) : ex TIndex (ev TIndex OIndex 20) 20 true fIndex_0 ⟨[(3, .int 1), (4, .str what)], cells⟩ = some (.ret (.int 1), ⟨[(3, .int 1), (4, .str what)], cells⟩, []) := by kernel_rfl
theorem index_run2 (what : List Nat) (cells : List Cell) : ex TIndex (ev TIndex OIndex 20) 20 true fIndex_0 ⟨[(3, .int (-1)), (4, .str what)], cells⟩ = some (.ret (.int (-1)), ⟨[(3, .int (-1)), (4, .str what)], cells⟩, []) := by kernel_rfl
theorem index_ok (w : World) {n : Int} (hn : n = 1 ∨ n = -1) (what : List Nat) (cells : List Cell) : CallOK nm w 1 3 74 [.int n, .str what] cells (.int n) cells := by
  refine CallOK.of_body (d := 0) (u := 0) (fl := .ret (.int n)) (loc := [(3, .int n), (4, .str what)]) (loc' := [(3, .int n), (4, .str what)]) (fIndex_at w) (by kernel_rfl) ?_ (by decide +kernel) rfl rfl rfl ?_
  · intro s W vals hK ha
    cases ha with
    | cons h1 hr => cases hr with
      | cons h2 hr => cases hr with
        | nil => exact ⟨([3, 4].map nm).zip [_, _], BindsTo.of_eq rfl, locs rfl, locOK_zip (ids := [3, 4]) (.cons h1 (.cons h2 .nil)) (by decide)⟩
  · intro X e1 e2 e3 e4 e5 K
    have hT : TbOK nm X TIndex := mkT_ok K (by rw [e3]; exact index_loc) (by rw [e3]; exact index_glob)
    rcases hn with rfl | rfl
    · exact run_ok K hT OIndex_ok (index_run1 what cells) no_obs
    · exact run_ok K hT OIndex_ok (index_run2 what cells) no_obs
noncomputable abbrev strI (buf : List Nat) (p : Int) : Cell := .inst 608 [(18, .str [10]), (10, .str buf), (13, .int p)]
noncomputable abbrev TCheck : Tb := mkT fCheck_locs fCheck_globs
theorem check_loc : (fCheck_locs.all fun i => fCheck_scope.names.lookup (nm i) == some .local) = true := by kernel_rfl
theorem check_run (c0 : Cell) (buf : List Nat) (p : Int) (r : List Cell) : ex TCheck (ev TCheck noO 20) 20 true fCheck_0 ⟨[(9, .cell 1)], c0 :: strI buf p :: r⟩ = some (.next, ⟨[(9, .cell 1)], c0 :: strI buf p :: r⟩, []) := by kernel_rfl
theorem check_ok (w : World) (c0 : Cell) (buf : List Nat) (p : Int) (r : List Cell) : CallOK nm w 1 3 392 [.cell 1] (c0 :: strI buf p :: r) .none (c0 :: strI buf p :: r) := by
  refine CallOK.of_body (d := 0) (u := 0) (fl := .next) (loc := [(9, .cell 1)]) (loc' := [(9, .cell 1)]) (fCheck_at w) (by kernel_rfl) ?_ (by decide +kernel) rfl rfl rfl ?_
  · intro s W vals hK ha
    cases ha with
    | cons h1 hr => cases hr with
      | nil => exact ⟨([9].map nm).zip [_], BindsTo.of_eq rfl, locs rfl, locOK_zip (ids := [9]) (.cons h1 .nil) (by decide)⟩
  · intro X e1 e2 e3 e4 e5 K
    have hT : TbOK nm X TCheck := mkT_ok K (by rw [e3]; exact check_loc) (by rw [e3]; rfl)
    exact run_ok K hT noO_ok (check_run c0 buf p r) no_obs
section
variable {X : Cx} {d u : Nat}
theorem lt_str (e : Expr) (x : Str) (t : Tok) (r : Value) : letTemporaryGo e (.str x t) r = pure () := by
  cases e <;> rfl
theorem R_slc {e lo hi : PE} {sp p : Pos} {σ σ₁ σ₂ σ₃ : AS} {l : List Nat} {i j : Int} (h1 : EvOK nm X (eval (emb nm e) X.env) σ (.str l) σ₁) (h2 : EvOK nm X (eval (emb nm lo) X.env) σ₁ (.int i) σ₂) (h3 : EvOK nm X (eval (emb nm hi) X.env) σ₂ (.int j) σ₃)
    (hij : 0 ≤ i ∧ i ≤ j ∧ j ≤ l.length) : EvOK nm X (eval (emb nm (.slc e (.cons lo .nil) (.cons hi .nil) sp p)) X.env) σ (.str ((l.drop i.toNat).take (j - i).toNat)) σ₃ := by
  intro s W S Q E hQ
  show wpAny _ _ (eval (Expr.Subscript (emb nm e) (Expr.Slice (some (emb nm lo)) (some (emb nm hi)) none sp) p) X.env) _ _ _
  refine Subscript_ ?_
  refine h1 s W S _ _ fun v1 W₁ hp₁ tk₁ hw₁ hv₁ S₁ => ?_
  refine wpAny_Slice ?_
  rw [evalPart_some, evalPart_some, evalPart_none]
  refine h2 _ W₁ S₁ _ _ fun v2 W₂ hp₂ tk₂ hw₂ hv₂ S₂ => ?_
  refine h3 _ W₂ S₂ _ _ fun v3 W₃ hp₃ tk₃ hw₃ hv₃ S₃ => ?_
  refine wpAny_pure ?_
  cases hv₁ with
  | str l t hz => cases hv₂ with
    | int i ti => cases hv₃ with
      | int j tj =>
        obtain ⟨m, objs, F, hL, hcs, N, nd⟩ := S₃
        have key : Txt.slice ⟨l.toArray⟩ (some i) (some j) = ⟨((l.drop i.toNat).take (j - i).toNat).toArray⟩ := by
          have := eq_of_beq (slice_closes (x := ⟨l.toArray⟩) (i := i) (j := j) (by simpa using hij))
          simpa using this
        refine slice_strN_ss (s := { s with heap := hp₃, toks := tk₃ }) F N (fun h' t' k F' N' => ?_) rfl (lt_str _ _ _) (by rw [sizeLine_is]; simpa [Str.length] using hz)
        rw [key]
        refine hQ _ W₃ h' k (Wd.le_trans hw₁ (Wd.le_trans hw₂ hw₃)) (.str _ _ ?_) ⟨m, objs, F', hL, hcs, N', nd⟩
        simp; omega
theorem find_gives (x y : Str) (i j : Int) (t v z : Tok) (tu : Tok) : Gives (Builtin.«str.find» ⟨[.str x t, .str y tu, .int i v, .int j z], []⟩) (.int (match Builtin.Str.occurrences x y (fromIndex x.length i) (min (fromIndex x.length j) x.length) 1 with | k :: _ => (k : Int) | [] => -1)) := by
  show Gives (match Builtin.Str.occurrences x y (fromIndex x.length i) (min (fromIndex x.length j) x.length) 1 with | k :: _ => retInt k | [] => (do rule "str.find.not-found"; retInt (-1))) _
  cases Builtin.Str.occurrences x y (fromIndex x.length i) (min (fromIndex x.length j) x.length) 1 with
  | nil => exact .rule (.of_eq rfl)
  | cons k _ => exact .of_eq rfl
theorem at_one {l : List Nat} {c k : Nat} : StrLaws.At ⟨l.toArray⟩ ⟨#[c]⟩ (⟨l.toArray⟩ : Str).length k ↔ l[k]? = some c := by
  have := StrLaws.subAt_one ⟨l.toArray⟩ c k
  unfold StrLaws.At
  rw [this]
theorem find_first {pre line rest : List Nat} (hn : 10 ∉ line) : (match Builtin.Str.occurrences ⟨(pre ++ (line ++ 10 :: rest)).toArray⟩ ⟨[10].toArray⟩ (fromIndex (⟨(pre ++ (line ++ 10 :: rest)).toArray⟩ : Str).length (pre.length : Int)) (min (fromIndex (⟨(pre ++ (line ++ 10 :: rest)).toArray⟩ : Str).length ((pre ++ (line ++ 10 :: rest)).length : Int)) (⟨(pre ++ (line ++ 10 :: rest)).toArray⟩ : Str).length) 1 with | k :: _ => (k : Int) | [] => (-1 : Int)) = ((pre.length + line.length : Nat) : Int) := by
  have e1 : fromIndex (⟨(pre ++ (line ++ 10 :: rest)).toArray⟩ : Str).length (pre.length : Int) = pre.length := by
    unfold fromIndex
    have : ¬ ((pre.length : Int) < 0) := by omega
    simp [this]
  have e2 : min (fromIndex (⟨(pre ++ (line ++ 10 :: rest)).toArray⟩ : Str).length ((pre ++ (line ++ 10 :: rest)).length : Int)) (⟨(pre ++ (line ++ 10 :: rest)).toArray⟩ : Str).length = (⟨(pre ++ (line ++ 10 :: rest)).toArray⟩ : Str).length := by
    unfold fromIndex
    have : ¬ (((pre ++ (line ++ 10 :: rest)).length : Int) < 0) := by omega
    simp [this, Str.length]
    omega
  rw [e1, e2]
  have hat : (pre ++ (line ++ 10 :: rest))[pre.length + line.length]? = some 10 := by
    rw [List.getElem?_append_right (by omega)]
    simp
  rcases StrLaws.occ_head_from ⟨(pre ++ (line ++ 10 :: rest)).toArray⟩ ⟨#[10]⟩ pre.length 1 (Nat.le_refl 1) with ⟨h0, hno⟩ | ⟨i, r, h0, hlo, ha, hno⟩
  · exact absurd (at_one.mpr hat) (hno _ (by omega))
  · have h0' : Builtin.Str.occurrences ⟨(pre ++ (line ++ 10 :: rest)).toArray⟩ ⟨[10].toArray⟩ pre.length (⟨(pre ++ (line ++ 10 :: rest)).toArray⟩ : Str).length 1 = i :: r := h0
    rw [h0']
    have hi := at_one.mp ha
    have : i = pre.length + line.length := by
      rcases Nat.lt_trichotomy i (pre.length + line.length) with q | q | q
      · exfalso
        rw [List.getElem?_append_right hlo, List.getElem?_append_left (by omega)] at hi
        exact hn (List.mem_of_getElem? hi)
      · exact q
      · exact absurd (at_one.mpr hat) (hno _ (by omega) q)
    simp only [this]
theorem find_ok {σ : AS} {pre line rest : List Nat} (hn : 10 ∉ line) : FnOK nm X (.builtin "str.find") [.str (pre ++ (line ++ 10 :: rest)), .str [10], .int pre.length, .int (pre ++ (line ++ 10 :: rest)).length] σ (.int (pre.length + line.length : Nat)) σ := by
  intro s W vals S hv
  cases hv with
  | cons h1 hr => cases hr with
    | cons h2 hr => cases hr with
      | cons h3 hr => cases hr with
        | cons h4 hr => cases hr with
          | nil => cases h1 with
            | str _ t1 _ => cases h2 with
              | str _ t2 _ => cases h3 with
                | int _ t3 => cases h4 with
                  | int _ t4 =>
                    refine EvAt.here S fun Q E hQ => ?_
                    refine call_gives F.slot_str_find (typeIs_str _ _ _) F.entry_str_find (F.args_str_find_4 _ _ _ _) (find_gives _ _ _ _ _ _ _ _) ?_
                    rw [find_first hn]
                    exact hQ _ _ (.int _ _)
theorem str_ty {σ : AS} {l : List Nat} : ∀ s W v, St nm X W σ s → RelV W (.str l) v → s.TypeIs v "str" ∧ ∀ x, v = .ref x → ∃ o, s.heap.get? x = some o ∧ o.dict = none := by
  intro s W v S hv
  cases hv
  exact ⟨typeIs_str _ _ _, fun x e => by cases e⟩
theorem find_meth {σ : AS} {l : List Nat} : MethOK nm X σ (.str l) (nm 20) (.builtin "str.find") := MethOK.bi F.plainAttrs_str F.slot_str_find F.type_str_find str_ty
end
noncomputable def PS.take : Nat → PS → PS
  | 0, _ => .nil
  | n + 1, .cons h t => .cons h (t.take n)
  | _ + 1, _ => .nil
noncomputable def PS.drop : Nat → PS → PS
  | 0, l => l
  | n + 1, .cons _ t => t.drop n
  | _ + 1, _ => .nil
noncomputable def PS.head : PS → PS
  | .cons h _ => h
  | s => s
theorem execs_app {M : Model} {A : Around} {env : Env} {Q : Flow → Shared → Prop} {E : Value → Shared → Prop} {l₂ : List Stmt} {Γ : Ctx} (hΓ : Γ.In A) : ∀ (l₁ : List Stmt) (p : Pos) (s : Shared),
    Sem.wp M Γ (execs l₁ env) (fun f _ s' => match f with | .next => wpAny M A (execs l₂ env) Q E s' | f => Q f s') (fun e _ s' => E e s') p s → Sem.wp M Γ (execs (l₁ ++ l₂) env) (fun f _ s' => Q f s') (fun e _ s' => E e s') p s
  | [], p, s, h => by
    have h' : wpAny M A (execs l₂ env) Q E s := h
    exact h' Γ p hΓ
  | st :: l, p, s, h => by
    have e : ∀ r : List Stmt, execs (st :: r) env = (exec st env >>= fun f => match f with | .next => execs r env | f => pure f) := fun r => rfl
    rw [List.cons_append, e]
    rw [e] at h
    rw [Sem.wp_bind'] at h ⊢
    refine Sem.wp_mono M Γ _ (fun f p' s' h' => ?_) (fun _ _ _ x => x) p s h
    cases f with
    | next => exact execs_app hΓ l p' s' h'
    | brk => exact h'
    | cont => exact h'
    | ret v => exact h'
section
variable {X : Cx} {d u : Nat} {T : Tb} {O : Orc}
theorem R_execs_app {l₁ l₂ : List Stmt} {σ σ₁ σ₂ : AS} {r : AFl} (h1 : ExOK nm X (execs l₁ X.env) σ .next σ₁) (h2 : ExOK nm X (execs l₂ X.env) σ₁ r σ₂) : ExOK nm X (execs (l₁ ++ l₂) X.env) σ r σ₂ := by
  intro s W S Q E hQ Γ p hΓ
  refine execs_app hΓ l₁ p s ?_
  refine h1 s W S _ E (fun fl W₁ h₁ tk₁ hw₁ hf S₁ => ?_) Γ p hΓ
  cases hf
  exact h2 _ W₁ S₁ Q E fun fl W₂ h₂ tk₂ hw₂ hf S₂ => hQ fl W₂ h₂ tk₂ (Wd.le_trans hw₁ hw₂) hf S₂
theorem R_execs_app_out {l₁ l₂ : List Stmt} {σ σ₁ : AS} {r : AFl} (h1 : ExOK nm X (execs l₁ X.env) σ r σ₁) (hr : r.leaves = true) : ExOK nm X (execs (l₁ ++ l₂) X.env) σ r σ₁ := by
  intro s W S Q E hQ Γ p hΓ
  refine execs_app hΓ l₁ p s ?_
  refine h1 s W S _ E (fun fl W₁ h₁ tk₁ hw₁ hf S₁ => ?_) Γ p hΓ
  cases hf with
  | next => cases hr
  | brk => exact hQ _ W₁ h₁ tk₁ hw₁ .brk S₁
  | cont => exact hQ _ W₁ h₁ tk₁ hw₁ .cont S₁
  | ret hv => exact hQ _ W₁ h₁ tk₁ hw₁ (.ret hv) S₁
theorem embSs_split : ∀ (n : Nat) (l : PS), embSs nm l = embSs nm (l.take n) ++ embSs nm (l.drop n)
  | 0, l => by
    have : embSs nm (PS.take 0 l) = [] := by show embSs nm .nil = []; rw [embSs]; intros; contradiction
    rw [this]; rfl
  | n + 1, .cons h t => by
    show embSs nm (.cons h t) = embSs nm (.cons h (t.take n)) ++ embSs nm (t.drop n)
    rw [embSs, embSs, embSs_split n t, List.cons_append]
  | n + 1, .assign .. | n + 1, .setattr .. | n + 1, .aug .. | n + 1, .ite .. | n + 1, .ret .. | n + 1, .expr .. | n + 1, .brk .. | n + 1, .cont .. | n + 1, .opq .. | n + 1, .nil => by
    simp only [PS.take, PS.drop, embSs, List.append_nil, List.nil_append]
theorem tst_ok (K : CxOK X d u) (hT : TbOK nm X T) (hO : OrcOK nm X d u T O) {n : Nat} {t : PE} {σ σ' : AS} {b b' : Bool} {os : List Ob} (h : ev T O n .tst t σ = some (.bool b, σ', os)) (hos : ∀ o ∈ os, o.holds) (e : b = b') :
    TsOK nm X (isTrue (emb nm t) X.env (eval (emb nm t) X.env)) σ b' σ' := by
  obtain ⟨c, hc, ht⟩ := ev_sound K hT hO n .tst t σ _ _ _ h hos
  cases hc
  exact e ▸ ht
theorem val_ok (K : CxOK X d u) (hT : TbOK nm X T) (hO : OrcOK nm X d u T O) {n : Nat} {t : PE} {σ σ' : AS} {r : AV} {os : List Ob} (h : ev T O n .val t σ = some (r, σ', os)) (hos : ∀ o ∈ os, o.holds) :
    EvOK nm X (eval (emb nm t) X.env) σ r σ' := ev_sound K hT hO n .val t σ _ _ _ h hos
end
theorem T_and2 {X : Cx} {a b : PE} {p : Pos} {whole : Sem Value} {σ : AS} {x : Bool} (h1 : TsOK nm X (isTrue (emb nm a) X.env (eval (emb nm a) X.env)) σ true σ) (h2 : TsOK nm X (isTrue (emb nm b) X.env (eval (emb nm b) X.env)) σ x σ) :
    TsOK nm X (isTrue (emb nm (.bop .And (.cons a (.cons b .nil)) p)) X.env whole) σ x σ := by
  refine T_bop ?_
  rw [embL]
  refine T_all_on rfl h1 ?_
  rw [embL]
  cases x with
  | true =>
    refine T_all_on rfl h2 ?_
    rw [embL] <;> try (intros; contradiction)
    exact T_all_nil
  | false => exact T_all_off rfl h2
theorem hp_strm {nm : Nat → Str} {h₀ h : Heap} {W : Wd} {c0 : Cell} {pre rest : List Nat} {r : List Cell} : HpOK nm h₀ W (c0 :: .strm pre rest :: r) h ↔ HpOK nm h₀ W (c0 :: strI (pre ++ rest) pre.length :: r) h := by
  constructor
  · rintro ⟨k1, k2, objs, hc, hp, nd⟩
    refine ⟨k1, k2, objs, ?_, hp, nd⟩
    cases hW : W.ca with
    | nil => rw [hW] at hc; cases hc
    | cons q ca =>
      rw [hW] at hc
      cases hc with
      | cons h1 hr => cases hr with
        | cons h2 hr => cases h2 with
          | strm h2 => exact .cons h1 (.cons h2 hr)
  · rintro ⟨k1, k2, objs, hc, hp, nd⟩
    refine ⟨k1, k2, objs, ?_, hp, nd⟩
    cases hW : W.ca with
    | nil => rw [hW] at hc; cases hc
    | cons q ca =>
      rw [hW] at hc
      cases hc with
      | cons h1 hr => cases hr with
        | cons h2 hr => exact .cons h1 (.cons (.strm h2) hr)
theorem CallOK.strm {nm : Nat → Str} {w : World} {dn un : Nat} {f : Addr} {args : List AV} {c0 : Cell} {pre rest pre' rest' : List Nat} {r : List Cell} {v : AV}
    (h : CallOK nm w dn un f args (c0 :: strI (pre ++ rest) pre.length :: r) v (c0 :: strI (pre' ++ rest') pre'.length :: r)) : CallOK nm w dn un f args (c0 :: .strm pre rest :: r) v (c0 :: .strm pre' rest' :: r) := by
  intro A h₀ s W vals hK hT hd hu hH hp ha R hR
  exact h A h₀ s W vals hK hT hd hu hH (hp_strm.mp hp) ha R fun v W' h' tk' hw hv hp' => hR v W' h' tk' hw hv (hp_strm.mpr hp')
noncomputable def OStr : Orc where
  fn := fun i as cs => grd (Nat.beq i 27) ((only2 as).bind fun q => q.1.int?.bind fun n => q.2.str?.bind fun _ => grd (pm1 n) (some (.int n, cs, [])))
  mt := fun C i as cs => grd (Nat.beq C 608 && Nat.beq i 29) ((only1 as).bind fun a => grd (isC 1 a) ((sec? cs).bind fun q => (strI? q.2.1).bind fun _ => some (.none, cs, [])))
  pr := fun _ _ _ _ => none
theorem check_meth (w : World) : (plainGet (KF w) 608 (nm 29) && (findIn (KF w) (.ref 608) (nm 29) == some (some (.ref 392))) && isFn (KF w) (.ref 392) && keepIn (KF w) (.ref 392)) = true := by kernel_rfl
theorem keep_index (w : World) : keepIn (KF w) (.ref 74) = true := by kernel_rfl
theorem OStr_ok {X : Cx} {d u : Nat} (K : CxOK X d u) (hd : 1 ≤ d) (hu : 4 ≤ u) {T : Tb} (hT : ∀ f, T.glob 27 = some f → f = .ref 74) : OrcOK nm X d u T OStr where
  fn := fun i f as cs r cs' os hg h ho => by
    obtain ⟨hi, h1⟩ := grd_eq h
    obtain ⟨q, h2, h3⟩ := bind_eq h1
    obtain ⟨n, h4, h5⟩ := bind_eq h3
    obtain ⟨l, h6, h7⟩ := bind_eq h5
    obtain ⟨hn, h8⟩ := grd_eq h7
    cases h8
    have e := beq_of hi
    subst e
    rw [hT f hg, only2_eq h2, int?_eq h4, str?_eq h6]
    exact ⟨KeepOK.fn (keep_index _), fun loc => FnOK.of_call (σ := ⟨loc, cs⟩) K hd hu (index_ok X.w (pm1_eq hn) _ cs)⟩
  mt := fun C i as cs r cs' os h ho => by
    obtain ⟨hi, h1⟩ := grd_eq h
    rw [Bool.and_eq_true] at hi
    obtain ⟨a, h2, h3⟩ := bind_eq h1
    obtain ⟨h4, h5⟩ := grd_eq h3
    obtain ⟨q, h6, h7⟩ := bind_eq h5
    obtain ⟨⟨buf, p⟩, h8, h9⟩ := bind_eq h7
    cases h9
    have := check_meth X.w
    simp only [Bool.and_eq_true] at this
    rw [show C = 608 from beq_of hi.1, show i = 29 from beq_of hi.2, only1_eq h2, isC_eq h4, sec?_eq h6, strI?_eq h8]
    exact ⟨392, this.1.1.1, eq_of_beq this.1.1.2, this.1.2, KeepOK.fn this.2, fun loc => FnOK.of_call (σ := ⟨loc, _⟩) K hd hu (check_ok X.w _ _ _ _)⟩
  pr := fun _ _ _ _ _ _ _ h => by cases h
noncomputable abbrev TRead : Tb := mkT fRead_locs fRead_globs
theorem read_loc : (fRead_locs.all fun i => fRead_scope.names.lookup (nm i) == some .local) = true := by kernel_rfl
theorem read_glob : (fRead_globs.all fun i => fRead_scope.names.lookup (nm i) == some .globalImplicit) = true := by kernel_rfl
theorem read_27 : ∀ f, TRead.glob 27 = some f → f = .ref 74 := by
  intro f h
  have : TRead.glob 27 = some (.ref 74) := by kernel_rfl
  rw [this] at h; cases h; rfl
noncomputable abbrev rdL (p n : Int) : List (Nat × AV) := [(9, .cell 1), (26, .int 1), (12, .int p), (14, .int n)]
theorem read_a (c0 : Cell) (buf : List Nat) (p : Int) (r : List Cell) : ex TRead (ev TRead OStr 20) 20 true (fRead_0.take 5) ⟨[(9, .cell 1), (26, .int 1)], c0 :: strI buf p :: r⟩ = some (.next, ⟨rdL p buf.length, c0 :: strI buf p :: r⟩, []) := by kernel_rfl
theorem read_t1 (c0 : Cell) (buf : List Nat) (p n : Int) (r : List Cell) : ev TRead OStr 20 .tst (.cmp (.loc 12 ⟨361,11,361,16⟩) .GtE (.loc 14 ⟨361,20,361,24⟩) ⟨361,11,361,24⟩) ⟨rdL p n, c0 :: strI buf p :: r⟩ = some (.bool (decide (n ≤ p)), ⟨rdL p n, c0 :: strI buf p :: r⟩, []) := by kernel_rfl
theorem dfl547 (w : World) : (KF w).lookup 547 = some ⟨.type "tuple", none, .seq #[.int (-1) 889] 0, #[]⟩ := by kernel_rfl
theorem dfl555 (w : World) : (KF w).lookup 555 = some ⟨.type "tuple", none, .seq #[.int (-1) 901] 0, #[]⟩ := by kernel_rfl
theorem read_bind (w : World) (a b : AV) : ∀ (s : Shared) (W : Wd) (vals : List Value), (KF w).In s.heap → RelVs W [a, b] vals → ∃ binds, BindsTo s (fnOf (Str.ofString "read") (Str.ofString "StringIO.read") fRead_params fRead_body fRead_scope (.ref 547) .none .none (.str (Str.ofString "io") 312) none (.ref 553) .none) ⟨vals, []⟩ binds ∧ (∀ y ∈ binds, fRead_scope.names.lookup y.1 = some .local) ∧ LocOK nm W [(9, a), (26, b)] (fun y => binds.reverse.lookup y) := by
  intro s W vals hK ha
  cases ha with
  | cons h1 hr => cases hr with
    | cons h2 hr => cases hr with
      | nil => exact ⟨([9, 26].map nm).zip [_, _], binds_K hK rfl (dfl547 w) rfl rfl rfl, locs rfl, locOK_zip (ids := [9, 26]) (.cons h1 (.cons h2 .nil)) (by decide)⟩
theorem read_split : fRead_body = embSs nm (fRead_0.take 5) ++ (embS nm (.ite (.cmp (.loc 12 ⟨361,11,361,16⟩) .GtE (.loc 14 ⟨361,20,361,24⟩) ⟨361,11,361,24⟩) (.cons (.ret (.cstr 15 0 ⟨362,19,362,21⟩) ⟨362,12,362,21⟩) .nil) .nil ⟨361,8,362,21⟩) :: embSs nm (fRead_0.drop 6)) := by kernel_rfl
theorem read_end (w : World) (c0 : Cell) (buf : List Nat) (p : Int) (r : List Cell) (hp : (buf.length : Int) ≤ p) : CallOK nm w 2 7 554 [.cell 1, .int 1] (c0 :: strI buf p :: r) (.str []) (c0 :: strI buf p :: r) := by
  refine CallOK.of_body (d := 1) (u := 4) (fl := .ret (.str [])) (loc' := rdL p buf.length) (fRead_at w) (by kernel_rfl) (read_bind w _ _) (by decide +kernel) rfl rfl rfl ?_
  intro X e1 e2 e3 e4 e5 K
  have hT : TbOK nm X TRead := mkT_ok K (by rw [e3]; exact read_loc) (by rw [e3]; exact read_glob)
  have hO := OStr_ok (T := TRead) K (Nat.le_refl 1) (Nat.le_refl 4) read_27
  rw [read_split]
  refine R_execs_app (run_ok K hT hO (read_a c0 buf p r) no_obs) ?_
  refine R_execs_out (R_if (tst_ok K hT hO (read_t1 c0 buf p buf.length r) no_obs (decide_eq_true hp)) ?_) rfl
  exact run_ok (m := 5) (n := 5) (b := .cons (.ret (.cstr 15 0 ⟨362,19,362,21⟩) ⟨362,12,362,21⟩) .nil) K hT hO (os := []) (by kernel_rfl) no_obs
noncomputable abbrev rdI : PS := .ite (.bop .And (.cons (.cmp (.loc 26 ⟨363,11,363,15⟩) .GtE (.cint (0) 0 ⟨363,19,363,20⟩) ⟨363,11,363,20⟩) (.cons (.cmp (.bin (.loc 12 ⟨363,25,363,30⟩) .Add (.loc 26 ⟨363,33,363,37⟩) ⟨363,25,363,37⟩) .Lt (.loc 14 ⟨363,40,363,44⟩) ⟨363,25,363,44⟩) .nil)) ⟨363,11,363,44⟩) (.cons (.assign 14 ⟨364,12,364,16⟩ (.bin (.loc 12 ⟨364,19,364,24⟩) .Add (.loc 26 ⟨364,27,364,31⟩) ⟨364,19,364,31⟩) ⟨364,12,364,31⟩) .nil) .nil ⟨363,8,364,31⟩
noncomputable abbrev rdS : PS := .setattr (.loc 9 ⟨365,8,365,12⟩) 13 ⟨365,8,365,18⟩ (.loc 14 ⟨365,21,365,25⟩) ⟨365,8,365,25⟩
noncomputable abbrev rdR : PS := .ret (.slc (.attr (.loc 9 ⟨366,15,366,19⟩) 10 ⟨366,15,366,25⟩) (.cons (.loc 12 ⟨366,26,366,31⟩) .nil) (.cons (.loc 14 ⟨366,32,366,36⟩) .nil) ⟨366,26,366,36⟩ ⟨366,15,366,37⟩) ⟨366,8,366,37⟩
theorem read_split2 : embSs nm (fRead_0.drop 6) = [embS nm rdI, embS nm rdS, embS nm rdR] := by kernel_rfl
theorem read_one (w : World) (c0 : Cell) (pre : List Nat) (c : Nat) (rest : List Nat) (r : List Cell) : CallOK nm w 2 7 554 [.cell 1, .int 1] (c0 :: strI (pre ++ c :: rest) pre.length :: r) (.str [c]) (c0 :: strI ((pre ++ [c]) ++ rest) (pre ++ [c]).length :: r) := by
  have hlen : ((pre ++ c :: rest).length : Int) = pre.length + 1 + rest.length := by simp; omega
  have hnew : ((pre ++ [c]).length : Int) = pre.length + 1 := by simp
  refine CallOK.of_body (d := 1) (u := 4) (fl := .ret (.str [c])) (loc' := rdL pre.length (pre.length + 1)) (fRead_at w) (by kernel_rfl) (read_bind w _ _) (by decide +kernel) rfl rfl rfl ?_
  intro X e1 e2 e3 e4 e5 K
  have hT : TbOK nm X TRead := mkT_ok K (by rw [e3]; exact read_loc) (by rw [e3]; exact read_glob)
  have hO := OStr_ok (T := TRead) K (Nat.le_refl 1) (Nat.le_refl 4) read_27
  rw [read_split]
  refine R_execs_app (run_ok K hT hO (read_a c0 _ _ r) no_obs) ?_
  refine R_execs_next (R_if (tst_ok K hT hO (read_t1 c0 _ _ _ r) no_obs (b' := false) (decide_eq_false (by omega))) (run_ok (m := 5) (n := 5) (b := .nil) K hT hO (os := []) rfl no_obs)) ?_
  rw [read_split2]
  -- where to stop
  have hI : ExOK nm X (exec (embS nm rdI) X.env) ⟨rdL pre.length (pre ++ c :: rest).length, c0 :: strI (pre ++ c :: rest) pre.length :: r⟩ .next ⟨rdL pre.length (pre.length + 1), c0 :: strI (pre ++ c :: rest) pre.length :: r⟩ := by
    refine R_if (bb := decide ((pre.length : Int) + 1 < (pre ++ c :: rest).length)) (T_and2 (tst_ok (n := 9) K hT hO (os := []) (b := true) (by kernel_rfl) no_obs rfl) (tst_ok (n := 9) K hT hO (os := []) (b := decide ((pre.length : Int) + 1 < (pre ++ c :: rest).length)) (by kernel_rfl) no_obs rfl)) ?_
    cases rest with
    | nil =>
      rw [decide_eq_false (by simp)]
      have e : ((pre ++ [c]).length : Int) = pre.length + 1 := by simp
      rw [e]
      exact run_ok (m := 5) (n := 5) (b := .nil) K hT hO (os := []) rfl no_obs
    | cons y ys =>
      rw [decide_eq_true (by simp; omega)]
      exact run_ok (m := 9) (n := 9) (b := .cons (.assign 14 ⟨364,12,364,16⟩ (.bin (.loc 12 ⟨364,19,364,24⟩) .Add (.loc 26 ⟨364,27,364,31⟩) ⟨364,19,364,31⟩) ⟨364,12,364,31⟩) .nil) K hT hO (os := []) (by kernel_rfl) no_obs
  refine R_execs_next hI ?_
  have hS : ExOK nm X (exec (embS nm rdS) X.env) ⟨rdL pre.length (pre.length + 1), c0 :: strI (pre ++ c :: rest) pre.length :: r⟩ .next ⟨rdL pre.length (pre.length + 1), c0 :: strI (pre ++ c :: rest) (pre.length + 1) :: r⟩ :=
    ex_sound K hT (ev_sound K hT hO 9) 9 false rdS _ _ _ [] (by kernel_rfl) no_obs
  refine R_execs_next hS ?_
  have e : (pre ++ [c]) ++ rest = pre ++ c :: rest := by simp
  rw [e, hnew]
  refine R_execs_out (R_ret ?_) rfl
  have hsl := R_slc (σ₁ := ⟨rdL pre.length (pre.length + 1), c0 :: strI (pre ++ c :: rest) (pre.length + 1) :: r⟩) (σ₂ := ⟨rdL pre.length (pre.length + 1), c0 :: strI (pre ++ c :: rest) (pre.length + 1) :: r⟩) (σ₃ := ⟨rdL pre.length (pre.length + 1), c0 :: strI (pre ++ c :: rest) (pre.length + 1) :: r⟩) (sp := ⟨366,26,366,36⟩) (p := ⟨366,15,366,37⟩) (val_ok (n := 9) (t := .attr (.loc 9 ⟨366,15,366,19⟩) 10 ⟨366,15,366,25⟩) (σ := ⟨rdL pre.length (pre.length + 1), c0 :: strI (pre ++ c :: rest) (pre.length + 1) :: r⟩) K hT hO (os := []) (by kernel_rfl) no_obs)
    (val_ok (n := 9) (t := .loc 12 ⟨366,26,366,31⟩) K hT hO (os := []) (by kernel_rfl) no_obs) (val_ok (n := 9) (t := .loc 14 ⟨366,32,366,36⟩) (r := .int (pre.length + 1)) K hT hO (os := []) (by kernel_rfl) no_obs)
    (l := pre ++ c :: rest) (i := pre.length) (j := pre.length + 1) (by simp; omega)
  have e2 : ((pre ++ c :: rest).drop (pre.length : Int).toNat).take ((pre.length : Int) + 1 - pre.length).toNat = [c] := by
    have : ((pre.length : Int) + 1 - pre.length).toNat = 1 := by omega
    rw [this]; simp
  rw [e2] at hsl
  exact hsl
theorem read_ok (w : World) (c0 : Cell) (pre : List Nat) (c : Nat) (rest : List Nat) (r : List Cell) : CallOK nm w 2 7 554 [.cell 1, .int 1] (c0 :: .strm pre (c :: rest) :: r) (.str [c]) (c0 :: .strm (pre ++ [c]) rest :: r) := CallOK.strm (read_one w c0 pre c rest r)
theorem read_ok0 (w : World) (c0 : Cell) (pre : List Nat) (r : List Cell) : CallOK nm w 2 7 554 [.cell 1, .int 1] (c0 :: .strm pre [] :: r) (.str []) (c0 :: .strm pre [] :: r) := CallOK.strm (read_end w c0 (pre ++ []) pre.length r (by simp))
noncomputable abbrev TLine : Tb := mkT fLine_locs fLine_globs
theorem line_loc : (fLine_locs.all fun i => fLine_scope.names.lookup (nm i) == some .local) = true := by kernel_rfl
theorem line_glob : (fLine_globs.all fun i => fLine_scope.names.lookup (nm i) == some .globalImplicit) = true := by kernel_rfl
noncomputable abbrev lnA (p n : Int) : List (Nat × AV) := [(9, .cell 1), (11, .int (-1)), (12, .int p), (14, .int n)]
noncomputable abbrev lnB (p n : Int) : List (Nat × AV) := [(9, .cell 1), (11, .int (-1)), (12, .int p), (14, .int n), (16, .bool false), (17, .str [10])]
noncomputable abbrev lnC (p n : Int) : List (Nat × AV) := [(9, .cell 1), (11, .int (-1)), (12, .int p), (14, .int n), (16, .bool false), (17, .str [10]), (24, .str [10])]
noncomputable abbrev lnD (p n i : Int) : List (Nat × AV) := [(9, .cell 1), (11, .int (-1)), (12, .int p), (14, .int n), (16, .bool false), (17, .str [10]), (24, .str [10]), (19, .int i)]
noncomputable def PS.tst : PS → PE
  | .ite t _ _ _ => t
  | _ => .nil
noncomputable def PS.els : PS → PS
  | .ite _ _ e _ => e
  | _ => .nil
noncomputable def PS.thn : PS → PS
  | .ite _ b _ _ => b
  | _ => .nil
noncomputable def PS.ps : PS → Pos
  | .ite _ _ _ p => p
  | _ => default
noncomputable abbrev ln2 : PS := (fLine_0.drop 2).head
noncomputable abbrev ln6 : PS := (fLine_0.drop 6).head
noncomputable abbrev lnF : PS := (ln6.els.drop 2).head
noncomputable abbrev lnG : PS := (ln6.els.drop 3).head
noncomputable abbrev lnS : PS := (fLine_0.drop 7).head
noncomputable abbrev lnSl : PE := .slc (.attr (.loc 9 ⟨270,15,270,19⟩) 10 ⟨270,15,270,25⟩) (.cons (.loc 12 ⟨270,26,270,31⟩) .nil) (.cons (.loc 14 ⟨270,32,270,36⟩) .nil) ⟨270,26,270,36⟩ ⟨270,15,270,37⟩
noncomputable abbrev lnFe : PE := .callM (.attr (.loc 9 ⟨266,16,266,20⟩) 10 ⟨266,16,266,26⟩) 20 ⟨266,16,266,31⟩ (.cons (.loc 24 ⟨266,32,266,35⟩) (.cons (.loc 12 ⟨266,37,266,42⟩) (.cons (.loc 14 ⟨266,44,266,48⟩) .nil))) ⟨266,16,266,49⟩
theorem line_split : fLine_body = embSs nm (fLine_0.take 2) ++ (embS nm (.ite ln2.tst ln2.thn ln2.els ln2.ps) :: (embSs nm ((fLine_0.drop 3).take 3) ++ [embS nm (.ite ln6.tst ln6.thn ln6.els ln6.ps), embS nm lnS, embS nm (.ret lnSl ⟨270,8,270,37⟩)])) := by kernel_rfl
theorem line_split6 : embSs nm ln6.els = embSs nm (ln6.els.take 2) ++ [embS nm (.assign 19 ⟨266,12,266,13⟩ lnFe ⟨266,12,266,49⟩), embS nm (.ite lnG.tst lnG.thn lnG.els lnG.ps)] := by kernel_rfl
theorem line_a (c0 : Cell) (buf : List Nat) (p : Int) (r : List Cell) : ex TLine (ev TLine noO 20) 20 true (fLine_0.take 2) ⟨[(9, .cell 1), (11, .int (-1))], c0 :: strI buf p :: r⟩ = some (.next, ⟨lnA p buf.length, c0 :: strI buf p :: r⟩, []) := by kernel_rfl
theorem line_b (c0 : Cell) (buf : List Nat) (p n : Int) (r : List Cell) : ex TLine (ev TLine noO 20) 20 true ((fLine_0.drop 3).take 3) ⟨lnA p n, c0 :: strI buf p :: r⟩ = some (.next, ⟨lnB p n, c0 :: strI buf p :: r⟩, []) := by kernel_rfl
theorem line_c (c0 : Cell) (buf : List Nat) (p n : Int) (r : List Cell) : ex TLine (ev TLine noO 20) 20 true (ln6.els.take 2) ⟨lnB p n, c0 :: strI buf p :: r⟩ = some (.next, ⟨lnC p n, c0 :: strI buf p :: r⟩, []) := by kernel_rfl
theorem line_ok (w : World) (c0 : Cell) (pre line rest : List Nat) (r : List Cell) (hn : 10 ∉ line) : CallOK nm w 1 3 406 [.cell 1, .int (-1)] (c0 :: strI (pre ++ (line ++ 10 :: rest)) pre.length :: r) (.str (line ++ [10])) (c0 :: strI (pre ++ (line ++ 10 :: rest)) (pre.length + line.length + 1 : Nat) :: r) := by
  have hlen : ((pre ++ (line ++ 10 :: rest)).length : Int) = pre.length + line.length + 1 + rest.length := by simp; omega
  refine CallOK.of_body (d := 0) (u := 0) (fl := .ret (.str (line ++ [10]))) (loc := [(9, .cell 1), (11, .int (-1))]) (loc' := lnD pre.length (pre.length + line.length + 1 : Nat) (pre.length + line.length : Nat)) (fLine_at w) (by kernel_rfl) ?_ (by decide +kernel) rfl rfl rfl ?_
  · intro s W vals hK ha
    cases ha with
    | cons h1 hr => cases hr with
      | cons h2 hr => cases hr with
        | nil => exact ⟨([9, 11].map nm).zip [_, _], BindsTo.of_eq rfl, locs rfl, locOK_zip (ids := [9, 11]) (.cons h1 (.cons h2 .nil)) (by decide)⟩
  intro X e1 e2 e3 e4 e5 K
  have hT : TbOK nm X TLine := mkT_ok K (by rw [e3]; exact line_loc) (by rw [e3]; exact line_glob)
  have hO := noO_ok (X := X) (d := 0) (u := 0) (T := TLine)
  rw [line_split]
  refine R_execs_app (run_ok K hT hO (line_a c0 _ _ r) no_obs) ?_
  refine R_execs_next (σ₁ := ⟨lnA pre.length (pre ++ (line ++ 10 :: rest)).length, c0 :: strI (pre ++ (line ++ 10 :: rest)) pre.length :: r⟩) (R_if (bb := false) (σ₁ := ⟨lnA pre.length (pre ++ (line ++ 10 :: rest)).length, c0 :: strI (pre ++ (line ++ 10 :: rest)) pre.length :: r⟩) (tst_ok (n := 9) K hT hO (os := []) (b := decide (((pre ++ (line ++ 10 :: rest)).length : Int) ≤ pre.length)) (by kernel_rfl) no_obs (decide_eq_false (by omega))) (run_ok (m := 5) (n := 5) (b := .nil) K hT hO (os := []) rfl no_obs)) ?_
  refine R_execs_app (run_ok K hT hO (line_b c0 _ _ _ r) no_obs) ?_
  have h6 : ExOK nm X (exec (embS nm (.ite ln6.tst ln6.thn ln6.els ln6.ps)) X.env) ⟨lnB pre.length (pre ++ (line ++ 10 :: rest)).length, c0 :: strI (pre ++ (line ++ 10 :: rest)) pre.length :: r⟩ .next ⟨lnD pre.length (pre.length + line.length + 1 : Nat) (pre.length + line.length : Nat), c0 :: strI (pre ++ (line ++ 10 :: rest)) pre.length :: r⟩ := by
    refine R_if (bb := false) (σ₁ := ⟨lnB pre.length (pre ++ (line ++ 10 :: rest)).length, c0 :: strI (pre ++ (line ++ 10 :: rest)) pre.length :: r⟩) (tst_ok (n := 9) K hT hO (os := []) (b := false) (by kernel_rfl) no_obs rfl) ?_
    show ExOK nm X (execs (embSs nm ln6.els) X.env) _ _ _
    rw [line_split6]
    refine R_execs_app (run_ok K hT hO (line_c c0 _ _ _ r) no_obs) ?_
    have hF : EvOK nm X (eval (emb nm lnFe) X.env) ⟨lnC pre.length (pre ++ (line ++ 10 :: rest)).length, c0 :: strI (pre ++ (line ++ 10 :: rest)) pre.length :: r⟩ (.int (pre.length + line.length : Nat)) ⟨lnC pre.length (pre ++ (line ++ 10 :: rest)).length, c0 :: strI (pre ++ (line ++ 10 :: rest)) pre.length :: r⟩ := by
      refine R_callM (σ₁ := ⟨lnC pre.length (pre ++ (line ++ 10 :: rest)).length, c0 :: strI (pre ++ (line ++ 10 :: rest)) pre.length :: r⟩) (σ₂ := ⟨lnC pre.length (pre ++ (line ++ 10 :: rest)).length, c0 :: strI (pre ++ (line ++ 10 :: rest)) pre.length :: r⟩) (as := [.str [10], .int pre.length, .int (pre ++ (line ++ 10 :: rest)).length]) K rfl rfl (by decide) rfl (val_ok (n := 9) (r := .str (pre ++ (line ++ 10 :: rest))) K hT hO (os := []) (by kernel_rfl) no_obs) find_meth KeepOK.bi ?_ (find_ok hn)
      obtain ⟨l, hl, _, _, _, hvs⟩ := ev_sound K hT hO 9 .args (.cons (.loc 24 ⟨266,32,266,35⟩) (.cons (.loc 12 ⟨266,37,266,42⟩) (.cons (.loc 14 ⟨266,44,266,48⟩) .nil))) ⟨lnC pre.length (pre ++ (line ++ 10 :: rest)).length, c0 :: strI (pre ++ (line ++ 10 :: rest)) pre.length :: r⟩
        (.lst [.str [10], .int pre.length, .int (pre ++ (line ++ 10 :: rest)).length]) ⟨lnC pre.length (pre ++ (line ++ 10 :: rest)).length, c0 :: strI (pre ++ (line ++ 10 :: rest)) pre.length :: r⟩ [] (by kernel_rfl) no_obs
      cases hl
      exact hvs _
    refine R_execs_next (R_assign nm_inj K rfl (hT.loc 19 (by kernel_rfl)) hF) ?_
    refine R_execs_next (σ₁ := ⟨lnD pre.length (pre.length + line.length + 1 : Nat) (pre.length + line.length : Nat), c0 :: strI (pre ++ (line ++ 10 :: rest)) pre.length :: r⟩) (R_if (bb := true) (σ₁ := ⟨lnD pre.length (pre ++ (line ++ 10 :: rest)).length (pre.length + line.length : Nat), c0 :: strI (pre ++ (line ++ 10 :: rest)) pre.length :: r⟩) (tst_ok (n := 9) K hT hO (os := []) (b := decide ((0 : Int) ≤ ((pre.length + line.length : Nat) : Int))) (by kernel_rfl) no_obs (decide_eq_true (by omega))) ?_) R_execs_nil
    exact run_ok (m := 9) (n := 9) (b := lnG.thn) K hT hO (os := []) (by kernel_rfl) no_obs
  refine R_execs_next h6 ?_
  have hS : ExOK nm X (exec (embS nm lnS) X.env) ⟨lnD pre.length (pre.length + line.length + 1 : Nat) (pre.length + line.length : Nat), c0 :: strI (pre ++ (line ++ 10 :: rest)) pre.length :: r⟩ .next ⟨lnD pre.length (pre.length + line.length + 1 : Nat) (pre.length + line.length : Nat), c0 :: strI (pre ++ (line ++ 10 :: rest)) (pre.length + line.length + 1 : Nat) :: r⟩ :=
    ex_sound K hT (ev_sound K hT hO 9) 9 false lnS _ _ _ [] (by kernel_rfl) no_obs
  refine R_execs_next hS ?_
  refine R_execs_out (R_ret ?_) rfl
  have hsl := R_slc (σ₁ := ⟨lnD pre.length (pre.length + line.length + 1 : Nat) (pre.length + line.length : Nat), c0 :: strI (pre ++ (line ++ 10 :: rest)) (pre.length + line.length + 1 : Nat) :: r⟩) (σ₂ := ⟨lnD pre.length (pre.length + line.length + 1 : Nat) (pre.length + line.length : Nat), c0 :: strI (pre ++ (line ++ 10 :: rest)) (pre.length + line.length + 1 : Nat) :: r⟩) (σ₃ := ⟨lnD pre.length (pre.length + line.length + 1 : Nat) (pre.length + line.length : Nat), c0 :: strI (pre ++ (line ++ 10 :: rest)) (pre.length + line.length + 1 : Nat) :: r⟩)
    (sp := ⟨270,26,270,36⟩) (p := ⟨270,15,270,37⟩) (val_ok (n := 9) (t := .attr (.loc 9 ⟨270,15,270,19⟩) 10 ⟨270,15,270,25⟩) (σ := ⟨lnD pre.length (pre.length + line.length + 1 : Nat) (pre.length + line.length : Nat), c0 :: strI (pre ++ (line ++ 10 :: rest)) (pre.length + line.length + 1 : Nat) :: r⟩) K hT hO (os := []) (by kernel_rfl) no_obs)
    (val_ok (n := 9) (t := .loc 12 ⟨270,26,270,31⟩) K hT hO (os := []) (by kernel_rfl) no_obs) (val_ok (n := 9) (t := .loc 14 ⟨270,32,270,36⟩) (r := .int (pre.length + line.length + 1 : Nat)) K hT hO (os := []) (by kernel_rfl) no_obs)
    (l := pre ++ (line ++ 10 :: rest)) (i := pre.length) (j := (pre.length + line.length + 1 : Nat)) (by simp; omega)
  have e2 : ((pre ++ (line ++ 10 :: rest)).drop (pre.length : Int).toNat).take (((pre.length + line.length + 1 : Nat) : Int) - pre.length).toNat = line ++ [10] := by
    have : (((pre.length + line.length + 1 : Nat) : Int) - pre.length).toNat = line.length + 1 := by omega
    rw [this]
    simp [List.take_append, List.take_of_length_le]
  rw [e2] at hsl
  exact hsl
noncomputable abbrev TRl : Tb := mkT fReadline_locs fReadline_globs
theorem rl_loc : (fReadline_locs.all fun i => fReadline_scope.names.lookup (nm i) == some .local) = true := by kernel_rfl
theorem rl_glob : (fReadline_globs.all fun i => fReadline_scope.names.lookup (nm i) == some .globalImplicit) = true := by kernel_rfl
theorem rl_27 : ∀ f, TRl.glob 27 = some f → f = .ref 74 := by
  intro f h
  have : TRl.glob 27 = some (.ref 74) := by kernel_rfl
  rw [this] at h; cases h; rfl
noncomputable abbrev rlL : List (Nat × AV) := [(9, .cell 1), (26, .int (-1))]
theorem rl_a (c0 : Cell) (buf : List Nat) (p : Int) (r : List Cell) : ex TRl (ev TRl OStr 20) 20 true (fReadline_0.take 3) ⟨rlL, c0 :: strI buf p :: r⟩ = some (.next, ⟨rlL, c0 :: strI buf p :: r⟩, []) := by kernel_rfl
theorem rl_split : fReadline_body = embSs nm (fReadline_0.take 3) ++ [embS nm (.ret (.callM (.loc 9 ⟨373,15,373,19⟩) 31 ⟨373,15,373,26⟩ (.cons (.loc 26 ⟨373,27,373,31⟩) .nil) ⟨373,15,373,32⟩) ⟨373,8,373,32⟩)] := by kernel_rfl
theorem line_meth (w : World) : (plainGet (KF w) 608 (nm 31) && (findIn (KF w) (.ref 608) (nm 31) == some (some (.ref 406))) && isFn (KF w) (.ref 406) && keepIn (KF w) (.ref 406)) = true := by kernel_rfl
theorem readline_one (w : World) (c0 : Cell) (pre line rest : List Nat) (r : List Cell) (hn : 10 ∉ line) : CallOK nm w 2 7 562 [.cell 1] (c0 :: strI (pre ++ (line ++ 10 :: rest)) pre.length :: r) (.str (line ++ [10])) (c0 :: strI (pre ++ (line ++ 10 :: rest)) (pre.length + line.length + 1 : Nat) :: r) := by
  refine CallOK.of_body (d := 1) (u := 4) (fl := .ret (.str (line ++ [10]))) (loc := rlL) (loc' := rlL) (fReadline_at w) (by kernel_rfl) ?_ (by decide +kernel) rfl rfl rfl ?_
  · intro s W vals hK ha
    cases ha with
    | cons h1 hr => cases hr with
      | nil => exact ⟨([9, 26].map nm).zip [_, .int (-1) 901], binds_K hK rfl (dfl555 w) rfl rfl rfl, locs rfl, locOK_zip (ids := [9, 26]) (args := [_, .int (-1)]) (.cons h1 (.cons (.int _ _) .nil)) (by decide)⟩
  intro X e1 e2 e3 e4 e5 K
  have hT : TbOK nm X TRl := mkT_ok K (by rw [e3]; exact rl_loc) (by rw [e3]; exact rl_glob)
  have hO := OStr_ok (T := TRl) K (Nat.le_refl 1) (Nat.le_refl 4) rl_27
  rw [rl_split]
  refine R_execs_app (run_ok K hT hO (rl_a c0 _ _ r) no_obs) ?_
  refine R_execs_out (R_ret ?_) rfl
  have hm := line_meth X.w
  simp only [Bool.and_eq_true] at hm
  refine R_callM (σ₁ := ⟨rlL, c0 :: strI (pre ++ (line ++ 10 :: rest)) pre.length :: r⟩) (σ₂ := ⟨rlL, c0 :: strI (pre ++ (line ++ 10 :: rest)) pre.length :: r⟩) (as := [.int (-1)]) (a := .cell 1) K rfl rfl (by decide) rfl (val_ok (n := 9) K hT hO (os := []) (by kernel_rfl) no_obs) (MethOK.inst nm_inj K (C := 608) (fs := [(18, .str [10]), (10, .str (pre ++ (line ++ 10 :: rest))), (13, .int pre.length)]) rfl rfl hm.1.1.1 (eq_of_beq hm.1.1.2) hm.1.2) (KeepOK.fn hm.2) ?_ (FnOK.of_call K (Nat.le_refl 1) (Nat.le_refl 4) (line_ok X.w c0 pre line rest r hn))
  obtain ⟨l, hl, _, _, _, hvs⟩ := ev_sound K hT hO 9 .args (.cons (.loc 26 ⟨373,27,373,31⟩) .nil) ⟨rlL, c0 :: strI (pre ++ (line ++ 10 :: rest)) pre.length :: r⟩ (.lst [.int (-1)]) ⟨rlL, c0 :: strI (pre ++ (line ++ 10 :: rest)) pre.length :: r⟩ [] (by kernel_rfl) no_obs
  cases hl
  exact hvs _
theorem readline_ok (w : World) (c0 : Cell) (pre line rest : List Nat) (r : List Cell) (hn : 10 ∉ line) : CallOK nm w 2 7 562 [.cell 1] (c0 :: .strm pre (line ++ 10 :: rest) :: r) (.str (line ++ [10])) (c0 :: .strm (pre ++ (line ++ [10])) rest :: r) := by
  refine CallOK.strm ?_
  have h := readline_one w c0 pre line rest r hn
  have e1 : (pre ++ (line ++ [10])) ++ rest = pre ++ (line ++ 10 :: rest) := by simp
  have e2 : ((pre ++ (line ++ [10])).length : Int) = (pre.length + line.length + 1 : Nat) := by simp; omega
  rw [e1, e2]
  exact h
section
variable {X : Cx} {d u : Nat}
noncomputable def LpOK (X : Cx) (test : Expr) (body : List Stmt) (σ : AS) (fl : AFl) (σ' : AS) : Prop := ∀ s W, St nm X W σ s → ∀ (R : Result → Shared → Prop),
  (∀ fl' W' h' tk', W.le W' → RelFl W' fl fl' → St nm X W' σ' { s with heap := h', toks := tk' } → R (.ok fl') { s with heap := h', toks := tk' }) → codeAny (model prg X.w) X.A (.whileLoop test body [] X.env) R s
theorem under_while {A : Around} {test : Expr} {body orelse : List Stmt} {env : Env} : A.under (.whileLoop test body orelse env) = A := Around.under_of_weight rfl rfl
theorem R_while {test : Expr} {body : List Stmt} {p : Pos} {σ σ' : AS} {fl : AFl} (h : LpOK X test body σ fl σ') : ExOK nm X (exec (.While test body [] p) X.env) σ fl σ' := by
  intro s W S Q E hQ
  refine wpAny_While ?_
  exact h s W S _ fun fl' W' h' tk' hw hf S' => hQ fl' W' h' tk' hw hf S'
theorem L_turn {test : PE} {body : List Stmt} {σ σ₁ σ₂ σ' : AS} {r fl : AFl} (ht : TsOK nm X (isTrue (emb nm test) X.env (eval (emb nm test) X.env)) σ true σ₁) (hb : ExOK nm X (execs body X.env) σ₁ r σ₂)
    (h : match r with | .next => LpOK X (emb nm test) body σ₂ fl σ' | .cont => LpOK X (emb nm test) body σ₂ fl σ' | .brk => fl = .next ∧ σ' = σ₂ | .ret a => fl = .ret a ∧ σ' = σ₂) : LpOK X (emb nm test) body σ fl σ' := by
  intro s W S R hR
  refine codeAny_of_tree ?_
  rw [under_while]
  show wpAny _ _ ((whileTurn (emb nm test) body [] X.env).onRaise _) _ _ _
  refine wpAny_onRaise ?_
  unfold whileTurn
  refine wpAny_bind (ht s W S _ _ fun W₁ h₁ tk₁ hw₁ S₁ => ?_)
  rw [if_pos rfl]
  refine wpAny_bind (hb _ W₁ S₁ _ _ fun f W₂ h₂ tk₂ hw₂ hf S₂ => ?_)
  have hw := Wd.le_trans hw₁ hw₂
  have again : LpOK X (emb nm test) body σ₂ fl σ' → codeAny (model prg X.w) X.A (.whileLoop (emb nm test) body [] X.env) R { s with heap := h₂, toks := tk₂ } := fun hl =>
    hl _ W₂ S₂ R fun fl' W₃ h₃ tk₃ hw₃ hf S₃ => hR fl' W₃ h₃ tk₃ (Wd.le_trans hw hw₃) hf S₃
  cases hf with
  | next => exact wpAny_pure ⟨rfl, again h⟩
  | cont => exact wpAny_pure ⟨rfl, again h⟩
  | brk =>
    obtain ⟨rfl, rfl⟩ := h
    exact wpAny_pure (hR .next W₂ h₂ tk₂ hw .next S₂)
  | ret hv =>
    obtain ⟨rfl, rfl⟩ := h
    exact wpAny_pure (hR _ W₂ h₂ tk₂ hw (.ret hv) S₂)
theorem L_done {test : PE} {body : List Stmt} {σ σ₁ : AS} (ht : TsOK nm X (isTrue (emb nm test) X.env (eval (emb nm test) X.env)) σ false σ₁) : LpOK X (emb nm test) body σ .next σ₁ := by
  intro s W S R hR
  refine codeAny_of_tree ?_
  rw [under_while]
  show wpAny _ _ ((whileTurn (emb nm test) body [] X.env).onRaise _) _ _ _
  refine wpAny_onRaise ?_
  unfold whileTurn
  refine wpAny_bind (ht s W S _ _ fun W₁ h₁ tk₁ hw₁ S₁ => ?_)
  rw [if_neg (by simp)]
  refine wpAny_bind (wpAny_execs_nil ?_)
  exact wpAny_pure (hR .next W₁ h₁ tk₁ hw₁ .next S₁)
end
noncomputable def wch : List Nat := [97, 98, 99, 100, 102, 101, 103, 104, 105, 106, 107, 108, 109, 110, 111, 112, 113, 114, 115, 116, 117, 118, 119, 120, 121, 122, 65, 66, 67, 68, 69, 70, 71, 72, 73, 74, 75, 76, 77, 78, 79, 80, 81, 82, 83, 84, 85, 86, 87, 88, 89, 90, 48, 49, 50, 51, 52, 53, 54, 55, 56, 57, 95, 223, 224, 225, 226, 227, 228, 229, 230, 231, 232, 233, 234, 235, 236, 237, 238, 239, 240, 241, 242, 243, 244, 245, 246, 248, 249, 250, 251, 252, 253, 254, 255, 192, 193, 194, 195, 196, 197, 198, 199, 200, 201, 202, 203, 204, 205, 206, 207, 208, 209, 210, 211, 212, 213, 214, 216, 217, 218, 219, 220, 221, 222, 45, 46, 47, 42, 63, 61]
noncomputable def pch : List Nat := [38, 124, 94, 126, 40, 41]
noncomputable def lexF (st : AV) (tok : List Nat) (ln : Int) : List (Nat × AV) := [(42, .cell 1), (43, .none), (44, .bool true), (47, .none), (48, .str [35]), (50, .str wch), (53, .str [32, 9, 13, 10]), (55, .bool false), (56, .str [39, 34]), (58, .str [92]), (60, .str [34]), (62, st), (64, .cell 2), (66, .int ln), (67, .int 0), (68, .str tok), (69, .cell 3), (70, .none), (72, .str pch), (73, .cell 4)]
noncomputable abbrev lexC (st : AV) (tok : List Nat) (ln : Int) : Cell := .inst 743 (lexF st tok ln)
noncomputable abbrev lexCs (st : AV) (tok : List Nat) (ln : Int) (pre rest : List Nat) (pb : List AV) (r : List Cell) : List Cell := lexC st tok ln :: .strm pre rest :: .deque [] :: .deque [] :: .deque pb :: r
noncomputable abbrev TPunct : Tb := mkT fPunct_locs fPunct_globs
theorem punct_loc : (fPunct_locs.all fun i => fPunct_scope.names.lookup (nm i) == some .local) = true := by kernel_rfl
theorem punct_split : fPunct_body = [embS nm (.ret (.attr (.loc 9 ⟨522,15,522,19⟩) 72 ⟨522,15,522,38⟩) ⟨522,8,522,38⟩)] := by kernel_rfl
theorem punct_ok (w : World) {k : Nat} {cells : List Cell} {fs : List (Nat × AV)} {a : AV} (hc : cells[k]? = some (.inst 743 fs)) (hl : fs.lookup 72 = some a) (hp : a.plain = true) : CallOK nm w 1 3 674 [.cell k] cells a cells := by
  refine CallOK.of_body (d := 0) (u := 0) (fl := .ret a) (loc := [(9, .cell k)]) (loc' := [(9, .cell k)]) (fPunct_at w) (by kernel_rfl) ?_ (by decide +kernel) rfl rfl rfl ?_
  · intro s W vals hK ha
    cases ha with
    | cons h1 hr => cases hr with
      | nil => exact ⟨([9].map nm).zip [_], BindsTo.of_eq rfl, locs rfl, locOK_zip (ids := [9]) (.cons h1 .nil) (by decide)⟩
  · intro X e1 e2 e3 e4 e5 K
    have hT : TbOK nm X TPunct := mkT_ok K (by rw [e3]; exact punct_loc) (by rw [e3]; rfl)
    rw [punct_split]
    exact R_execs_out (R_ret (R_attr nm_inj K rfl (R_loc K (hT.loc 9 (by kernel_rfl)) (hT.dbg 9) rfl) hc hl hp (ownOK (by kernel_rfl)).1)) rfl
noncomputable def takeLine : List Nat → List Nat
  | [] => []
  | c :: r => match Nat.beq c 10 with
    | true => [c]
    | false => c :: takeLine r
noncomputable def dropLine : List Nat → List Nat
  | [] => []
  | c :: r => match Nat.beq c 10 with
    | true => r
    | false => dropLine r
theorem line_parts : ∀ {l : List Nat}, 10 ∈ l → ∃ line, 10 ∉ line ∧ l = line ++ 10 :: dropLine l ∧ takeLine l = line ++ [10]
  | [], h => by cases h
  | c :: r, h => by
    unfold takeLine dropLine
    cases q : Nat.beq c 10 with
    | true => exact ⟨[], by simp, by rw [beq_of q]; rfl, by rw [beq_of q]; rfl⟩
    | false =>
      have hne := Nat.ne_of_beq_eq_false q
      have hr : 10 ∈ r := by
        rcases List.mem_cons.mp h with e | e
        · exact absurd e.symm hne
        · exact e
      obtain ⟨line, h1, h2, h3⟩ := line_parts hr
      refine ⟨c :: line, ?_, ?_, ?_⟩
      · intro hm
        rcases List.mem_cons.mp hm with e | e
        · exact hne e.symm
        · exact h1 e
      · show c :: r = (c :: line) ++ 10 :: dropLine r
        rw [List.cons_append, ← h2]
      · rw [h3]; rfl
noncomputable def rdA (q : Cell × Cell × List Cell) (s : List Nat × List Nat) : Option (AV × List Cell × List Ob) := match s.2 with
  | c :: rest => some (.str [c], q.1 :: .strm (s.1 ++ [c]) rest :: q.2.2, [])
  | [] => some (.str [], q.1 :: .strm s.1 [] :: q.2.2, [])
noncomputable def one1 : Int → Bool
  | .ofNat m => Nat.beq m 1
  | .negSucc _ => false
theorem one1_eq {n : Int} (h : one1 n = true) : n = 1 := by
  cases n with
  | ofNat m => rw [show m = 1 from beq_of h]; rfl
  | negSucc m => cases h
noncomputable def OTok : Orc where
  fn := fun _ _ _ => none
  mt := fun C i as cs => grd (Nat.beq C 608) ((sec? cs).bind fun q => q.2.1.strm?.bind fun s => cond (Nat.beq i 94)
    ((only2 as).bind fun a => grd (isC 1 a.1) (a.2.int?.bind fun n => grd (one1 n) (rdA q s)))
    (grd (Nat.beq i 96) ((only1 as).bind fun a => grd (isC 1 a) (some (.str (takeLine s.2), q.1 :: .strm (s.1 ++ takeLine s.2) (dropLine s.2) :: q.2.2, [.say (10 ∈ s.2)])))))
  pr := fun C i k cs => grd (Nat.beq C 743 && Nat.beq i 45) ((cs[k]?.bind Cell.inst?).bind fun q => grd (Nat.beq q.1 743) ((q.2.lookup 72).bind fun a => grd a.plain (some (a, cs, []))))
theorem read_meth (w : World) : (plainGet (KF w) 608 (nm 94) && (findIn (KF w) (.ref 608) (nm 94) == some (some (.ref 554))) && isFn (KF w) (.ref 554) && keepIn (KF w) (.ref 554)) = true := by kernel_rfl
theorem readline_meth (w : World) : (plainGet (KF w) 608 (nm 96) && (findIn (KF w) (.ref 608) (nm 96) == some (some (.ref 562))) && isFn (KF w) (.ref 562) && keepIn (KF w) (.ref 562)) = true := by kernel_rfl
theorem prop_facts (w : World) : (plainGet (KF w) 743 (nm 45) && hasDictIn (KF w) 743 && (findIn (KF w) (.ref 743) (nm 45) == some (some (.ref 675))) && (specialIn (KF w) (.ref 675) (Str.ofString "__get__") == some (some (.builtin "property.__get__"))) && (takesIn (KF w) (.ref 675) == some true) && (recIn (KF w) 675 "property" == some [.ref 674, .none, .none, .none, .str (Str.ofString "punctuation_chars") 1060, .bool false])) = true := by kernel_rfl
theorem OTok_ok {X : Cx} {d u : Nat} (K : CxOK X d u) (hd : 2 ≤ d) (hu : 8 ≤ u) {T : Tb} : OrcOK nm X d u T OTok where
  fn := fun _ _ _ _ _ _ _ _ h => by cases h
  mt := fun C i as cs r cs' os h ho => by
    obtain ⟨hC, h1⟩ := grd_eq h
    obtain ⟨⟨c0, c1, r'⟩, h2, h3⟩ := bind_eq h1
    obtain ⟨⟨pre, rest⟩, h4, h5⟩ := bind_eq h3
    clear h h1 h3
    rw [show C = 608 from beq_of hC, sec?_eq h2]
    dsimp only at h4 h5 ⊢
    rw [strm?_eq h4]
    dsimp only
    cases hi : Nat.beq i 94 with
    | true =>
      rw [hi] at h5
      obtain ⟨⟨a1, a2⟩, h6, h7⟩ := bind_eq h5
      obtain ⟨h8, h9⟩ := grd_eq h7
      obtain ⟨n, h10, h11⟩ := bind_eq h9
      obtain ⟨h12, h13⟩ := grd_eq h11
      have := read_meth X.w
      simp only [Bool.and_eq_true] at this
      rw [show i = 94 from beq_of hi, only2_eq h6]
      dsimp only at h8 h10 ⊢
      rw [isC_eq h8, int?_eq h10, one1_eq h12]
      cases rest with
      | cons c rest =>
        cases h13
        exact ⟨554, this.1.1.1, eq_of_beq this.1.1.2, this.1.2, KeepOK.fn this.2, fun loc => FnOK.of_call (σ := ⟨loc, _⟩) K hd hu (read_ok X.w _ _ _ _ _)⟩
      | nil =>
        cases h13
        exact ⟨554, this.1.1.1, eq_of_beq this.1.1.2, this.1.2, KeepOK.fn this.2, fun loc => FnOK.of_call (σ := ⟨loc, _⟩) K hd hu (read_ok0 X.w _ _ _)⟩
    | false =>
      rw [hi] at h5
      obtain ⟨h6, h7⟩ := grd_eq h5
      obtain ⟨a, h8, h9⟩ := bind_eq h7
      obtain ⟨h10, h11⟩ := grd_eq h9
      cases h11
      have := readline_meth X.w
      simp only [Bool.and_eq_true] at this
      have h10' : 10 ∈ rest := ho _ (.head _)
      obtain ⟨line, k1, k2, k3⟩ := line_parts h10'
      rw [show i = 96 from beq_of h6, only1_eq h8, isC_eq h10]
      refine ⟨562, this.1.1.1, eq_of_beq this.1.1.2, this.1.2, KeepOK.fn this.2, fun loc => FnOK.of_call (σ := ⟨loc, _⟩) K hd hu ?_⟩
      have := readline_ok X.w c0 pre line (dropLine rest) r' k1
      rw [← k2, ← k3] at this
      exact this
  pr := fun C i k cs r cs' os h ho => by
    obtain ⟨hq, h1⟩ := grd_eq h
    rw [Bool.and_eq_true] at hq
    obtain ⟨⟨D, fs⟩, h2, h3⟩ := bind_eq h1
    obtain ⟨hD, h4⟩ := grd_eq h3
    obtain ⟨a, hl, h5⟩ := bind_eq h4
    obtain ⟨hp, h6⟩ := grd_eq h5
    cases h6
    have hc := at_inst h2
    have e1 := beq_of hq.1
    have e2 := beq_of hq.2
    have e3 : D = 743 := beq_of hD
    subst e1 e2 e3
    have := prop_facts X.w
    simp only [Bool.and_eq_true] at this
    obtain ⟨⟨⟨⟨⟨p1, p2⟩, p3⟩, p4⟩, p5⟩, p6⟩ := this
    exact ⟨675, 674, _, 1, 3, p1, p2, eq_of_beq p3, eq_of_beq p4, eq_of_beq p5, eq_of_beq p6, by omega, by omega, punct_ok X.w hc hl hp⟩
noncomputable abbrev TTok : Tb := mkT fTok_locs fTok_globs
noncomputable abbrev fetch (σ : AS) : ResS := ex TTok (ev TTok OTok 30) 40 true (fTok_0b_0.take 1) σ
noncomputable abbrev proc (σ : AS) : ResS := ex TTok (ev TTok OTok 30) 40 true (fTok_0b_0.drop 1) σ
noncomputable abbrev tkL (q : Bool) : List (Nat × AV) := [(9, .cell 0), (91, .bool q), (92, .str [32])]
noncomputable abbrev tkN (q : Bool) (c : List Nat) : List (Nat × AV) := [(9, .cell 0), (91, .bool q), (92, .str [32]), (93, .str c)]
theorem turn_split : fTok_0B = embSs nm (fTok_0b_0.take 1) ++ embSs nm (fTok_0b_0.drop 1) := by kernel_rfl
section
variable (q : Bool) (c c0 : List Nat) (st : AV) (t : Nat) (tok : List Nat) (ln : Int) (pre rest : List Nat) (a : AV) (pb : List AV) (r : List Cell)
theorem fetchL_strm (c : Nat) : fetch ⟨tkL q, lexCs st tok ln pre (c :: rest) [] r⟩ = some (.next, ⟨tkN q [c], lexCs st tok ln (pre ++ [c]) rest [] r⟩, []) := by kernel_rfl
theorem fetchL_pb (c : List Nat) : fetch ⟨tkL q, lexCs st tok ln pre rest [.str c] r⟩ = some (.next, ⟨tkN q c, lexCs st tok ln pre rest [] r⟩, []) := by kernel_rfl
theorem fetchL_eof : fetch ⟨tkL q, lexCs st tok ln pre [] [] r⟩ = some (.next, ⟨tkN q [], lexCs st tok ln pre [] [] r⟩, []) := by kernel_rfl
theorem fetchN_strm (c : Nat) : fetch ⟨tkN q c0, lexCs st tok ln pre (c :: rest) [] r⟩ = some (.next, ⟨tkN q [c], lexCs st tok ln (pre ++ [c]) rest [] r⟩, []) := by kernel_rfl
theorem fetchN_pb (c : List Nat) : fetch ⟨tkN q c0, lexCs st tok ln pre rest [.str c] r⟩ = some (.next, ⟨tkN q c, lexCs st tok ln pre rest [] r⟩, []) := by kernel_rfl
theorem fetchN_eof : fetch ⟨tkN q c0, lexCs st tok ln pre [] [] r⟩ = some (.next, ⟨tkN q [], lexCs st tok ln pre [] [] r⟩, []) := by kernel_rfl
theorem p_sp_eof : proc ⟨tkN q [], lexCs (.str [32]) [] ln pre rest pb r⟩ = some (.brk, ⟨tkN q [], lexCs .none [] (ln) (pre) (rest) pb r⟩, []) := by kernel_rfl
theorem p_sp_x : proc ⟨tkN q [120], lexCs (.str [32]) [] ln pre rest pb r⟩ = some (.next, ⟨tkN q [120], lexCs (.str [97]) [120] (ln) (pre) (rest) pb r⟩, []) := by kernel_rfl
theorem p_sp_38 : proc ⟨tkN q [38], lexCs (.str [32]) [] ln pre rest pb r⟩ = some (.next, ⟨tkN q [38], lexCs (.str [99]) [38] (ln) (pre) (rest) pb r⟩, []) := by kernel_rfl
theorem p_sp_124 : proc ⟨tkN q [124], lexCs (.str [32]) [] ln pre rest pb r⟩ = some (.next, ⟨tkN q [124], lexCs (.str [99]) [124] (ln) (pre) (rest) pb r⟩, []) := by kernel_rfl
theorem p_sp_94 : proc ⟨tkN q [94], lexCs (.str [32]) [] ln pre rest pb r⟩ = some (.next, ⟨tkN q [94], lexCs (.str [99]) [94] (ln) (pre) (rest) pb r⟩, []) := by kernel_rfl
theorem p_sp_126 : proc ⟨tkN q [126], lexCs (.str [32]) [] ln pre rest pb r⟩ = some (.next, ⟨tkN q [126], lexCs (.str [99]) [126] (ln) (pre) (rest) pb r⟩, []) := by kernel_rfl
theorem p_sp_40 : proc ⟨tkN q [40], lexCs (.str [32]) [] ln pre rest pb r⟩ = some (.next, ⟨tkN q [40], lexCs (.str [99]) [40] (ln) (pre) (rest) pb r⟩, []) := by kernel_rfl
theorem p_sp_41 : proc ⟨tkN q [41], lexCs (.str [32]) [] ln pre rest pb r⟩ = some (.next, ⟨tkN q [41], lexCs (.str [99]) [41] (ln) (pre) (rest) pb r⟩, []) := by kernel_rfl
theorem p_sp_q39 : proc ⟨tkN q [39], lexCs (.str [32]) [] ln pre rest pb r⟩ = some (.next, ⟨tkN q [39], lexCs (.str [39]) [] (ln) (pre) (rest) pb r⟩, []) := by kernel_rfl
theorem p_sp_q34 : proc ⟨tkN q [34], lexCs (.str [32]) [] ln pre rest pb r⟩ = some (.next, ⟨tkN q [34], lexCs (.str [34]) [] (ln) (pre) (rest) pb r⟩, []) := by kernel_rfl
theorem p_q39_end : proc ⟨tkN q [39], lexCs (.str [39]) tok ln pre rest pb r⟩ = some (.next, ⟨tkN true [39], lexCs (.str [97]) tok (ln) (pre) (rest) pb r⟩, []) := by kernel_rfl
theorem p_q39_98 : proc ⟨tkN q [98], lexCs (.str [39]) tok ln pre rest pb r⟩ = some (.next, ⟨tkN true [98], lexCs (.str [39]) (tok ++ [98]) (ln) (pre) (rest) pb r⟩, [.str tok [98]]) := by kernel_rfl
theorem p_q39_41 : proc ⟨tkN q [41], lexCs (.str [39]) tok ln pre rest pb r⟩ = some (.next, ⟨tkN true [41], lexCs (.str [39]) (tok ++ [41]) (ln) (pre) (rest) pb r⟩, [.str tok [41]]) := by kernel_rfl
theorem p_q34_end : proc ⟨tkN q [34], lexCs (.str [34]) tok ln pre rest pb r⟩ = some (.next, ⟨tkN true [34], lexCs (.str [97]) tok (ln) (pre) (rest) pb r⟩, []) := by kernel_rfl
theorem p_q34_105 : proc ⟨tkN q [105], lexCs (.str [34]) tok ln pre rest pb r⟩ = some (.next, ⟨tkN true [105], lexCs (.str [34]) (tok ++ [105]) (ln) (pre) (rest) pb r⟩, [.str tok [105]]) := by kernel_rfl
theorem p_q34_116 : proc ⟨tkN q [116], lexCs (.str [34]) tok ln pre rest pb r⟩ = some (.next, ⟨tkN true [116], lexCs (.str [34]) (tok ++ [116]) (ln) (pre) (rest) pb r⟩, [.str tok [116]]) := by kernel_rfl
theorem p_q34_39 : proc ⟨tkN q [39], lexCs (.str [34]) tok ln pre rest pb r⟩ = some (.next, ⟨tkN true [39], lexCs (.str [34]) (tok ++ [39]) (ln) (pre) (rest) pb r⟩, [.str tok [39]]) := by kernel_rfl
theorem p_q34_115 : proc ⟨tkN q [115], lexCs (.str [34]) tok ln pre rest pb r⟩ = some (.next, ⟨tkN true [115], lexCs (.str [34]) (tok ++ [115]) (ln) (pre) (rest) pb r⟩, [.str tok [115]]) := by kernel_rfl
theorem p_a_eof : proc ⟨tkN q [], lexCs (.str [97]) (t :: tok) ln pre rest pb r⟩ = some (.brk, ⟨tkN q [], lexCs .none (t :: tok) (ln) (pre) (rest) pb r⟩, []) := by kernel_rfl
theorem p_a_32 : proc ⟨tkN q [32], lexCs (.str [97]) (t :: tok) ln pre rest pb r⟩ = some (.brk, ⟨tkN q [32], lexCs (.str [32]) (t :: tok) (ln) (pre) (rest) pb r⟩, []) := by kernel_rfl
theorem p_a_10 : proc ⟨tkN q [10], lexCs (.str [97]) (t :: tok) ln pre rest pb r⟩ = some (.brk, ⟨tkN q [10], lexCs (.str [32]) (t :: tok) (ln + 1) (pre) (rest) pb r⟩, []) := by kernel_rfl
theorem p_a_35 : proc ⟨tkN q [35], lexCs (.str [97]) (t :: tok) ln pre rest pb r⟩ = some (.brk, ⟨tkN q [35], lexCs (.str [32]) (t :: tok) (ln + 1) (pre ++ takeLine rest) (dropLine rest) pb r⟩, [.say (10 ∈ rest)]) := by kernel_rfl
theorem p_c_eof : proc ⟨tkN q [], lexCs (.str [99]) (t :: tok) ln pre rest pb r⟩ = some (.brk, ⟨tkN q [], lexCs .none (t :: tok) (ln) (pre) (rest) pb r⟩, []) := by kernel_rfl
theorem p_c_32 : proc ⟨tkN q [32], lexCs (.str [99]) (t :: tok) ln pre rest pb r⟩ = some (.brk, ⟨tkN q [32], lexCs (.str [32]) (t :: tok) (ln) (pre) (rest) pb r⟩, []) := by kernel_rfl
theorem p_c_10 : proc ⟨tkN q [10], lexCs (.str [99]) (t :: tok) ln pre rest pb r⟩ = some (.brk, ⟨tkN q [10], lexCs (.str [32]) (t :: tok) (ln + 1) (pre) (rest) pb r⟩, []) := by kernel_rfl
theorem p_c_35 : proc ⟨tkN q [35], lexCs (.str [99]) (t :: tok) ln pre rest pb r⟩ = some (.brk, ⟨tkN q [35], lexCs (.str [32]) (t :: tok) (ln + 1) (pre ++ takeLine rest) (dropLine rest) pb r⟩, [.say (10 ∈ rest)]) := by kernel_rfl
theorem p_a_49 : proc ⟨tkN q [49], lexCs (.str [97]) tok ln pre rest pb r⟩ = some (.next, ⟨tkN q [49], lexCs (.str [97]) (tok ++ [49]) (ln) (pre) (rest) pb r⟩, [.str tok [49]]) := by kernel_rfl
theorem p_a_38 : proc ⟨tkN q [38], lexCs (.str [97]) (t :: tok) ln pre rest [] r⟩ = some (.brk, ⟨tkN q [38], lexCs (.str [32]) (t :: tok) (ln) (pre) (rest) [.str [38]] r⟩, [.app []]) := by kernel_rfl
theorem p_a_124 : proc ⟨tkN q [124], lexCs (.str [97]) (t :: tok) ln pre rest [] r⟩ = some (.brk, ⟨tkN q [124], lexCs (.str [32]) (t :: tok) (ln) (pre) (rest) [.str [124]] r⟩, [.app []]) := by kernel_rfl
theorem p_a_94 : proc ⟨tkN q [94], lexCs (.str [97]) (t :: tok) ln pre rest [] r⟩ = some (.brk, ⟨tkN q [94], lexCs (.str [32]) (t :: tok) (ln) (pre) (rest) [.str [94]] r⟩, [.app []]) := by kernel_rfl
theorem p_a_126 : proc ⟨tkN q [126], lexCs (.str [97]) (t :: tok) ln pre rest [] r⟩ = some (.brk, ⟨tkN q [126], lexCs (.str [32]) (t :: tok) (ln) (pre) (rest) [.str [126]] r⟩, [.app []]) := by kernel_rfl
theorem p_a_40 : proc ⟨tkN q [40], lexCs (.str [97]) (t :: tok) ln pre rest [] r⟩ = some (.brk, ⟨tkN q [40], lexCs (.str [32]) (t :: tok) (ln) (pre) (rest) [.str [40]] r⟩, [.app []]) := by kernel_rfl
theorem p_a_41 : proc ⟨tkN q [41], lexCs (.str [97]) (t :: tok) ln pre rest [] r⟩ = some (.brk, ⟨tkN q [41], lexCs (.str [32]) (t :: tok) (ln) (pre) (rest) [.str [41]] r⟩, [.app []]) := by kernel_rfl
theorem p_c_38 : proc ⟨tkN q [38], lexCs (.str [99]) tok ln pre rest pb r⟩ = some (.next, ⟨tkN q [38], lexCs (.str [99]) (tok ++ [38]) (ln) (pre) (rest) pb r⟩, [.str tok [38]]) := by kernel_rfl
theorem p_c_124 : proc ⟨tkN q [124], lexCs (.str [99]) tok ln pre rest pb r⟩ = some (.next, ⟨tkN q [124], lexCs (.str [99]) (tok ++ [124]) (ln) (pre) (rest) pb r⟩, [.str tok [124]]) := by kernel_rfl
theorem p_c_94 : proc ⟨tkN q [94], lexCs (.str [99]) tok ln pre rest pb r⟩ = some (.next, ⟨tkN q [94], lexCs (.str [99]) (tok ++ [94]) (ln) (pre) (rest) pb r⟩, [.str tok [94]]) := by kernel_rfl
theorem p_c_126 : proc ⟨tkN q [126], lexCs (.str [99]) tok ln pre rest pb r⟩ = some (.next, ⟨tkN q [126], lexCs (.str [99]) (tok ++ [126]) (ln) (pre) (rest) pb r⟩, [.str tok [126]]) := by kernel_rfl
theorem p_c_40 : proc ⟨tkN q [40], lexCs (.str [99]) tok ln pre rest pb r⟩ = some (.next, ⟨tkN q [40], lexCs (.str [99]) (tok ++ [40]) (ln) (pre) (rest) pb r⟩, [.str tok [40]]) := by kernel_rfl
theorem p_c_41 : proc ⟨tkN q [41], lexCs (.str [99]) tok ln pre rest pb r⟩ = some (.next, ⟨tkN q [41], lexCs (.str [99]) (tok ++ [41]) (ln) (pre) (rest) pb r⟩, [.str tok [41]]) := by kernel_rfl
theorem p_c_w120 : proc ⟨tkN q [120], lexCs (.str [99]) tok ln pre rest [] r⟩ = some (.brk, ⟨tkN q [120], lexCs (.str [32]) tok (ln) (pre) (rest) [.str [120]] r⟩, [.app []]) := by kernel_rfl
theorem p_c_w39 : proc ⟨tkN q [39], lexCs (.str [99]) tok ln pre rest [] r⟩ = some (.brk, ⟨tkN q [39], lexCs (.str [32]) tok (ln) (pre) (rest) [.str [39]] r⟩, [.app []]) := by kernel_rfl
theorem p_c_w34 : proc ⟨tkN q [34], lexCs (.str [99]) tok ln pre rest [] r⟩ = some (.brk, ⟨tkN q [34], lexCs (.str [32]) tok (ln) (pre) (rest) [.str [34]] r⟩, [.app []]) := by kernel_rfl
theorem p_none : proc ⟨tkN q [], lexCs .none tok ln pre rest pb r⟩ = some (.brk, ⟨tkN q [], lexCs .none [] (ln) (pre) (rest) pb r⟩, []) := by kernel_rfl
end
inductive It where
  | w0 | w1 | w2
  | p (c : Nat)
noncomputable def It.txt : It → List Nat
  | .w0 => [120, 49]
  | .w1 => [39, 98, 41, 39]
  | .w2 => [34, 105, 116, 39, 115, 34]
  | .p c => [c]
noncomputable def It.tok : It → List Nat
  | .w0 => [120, 49]
  | .w1 => [98, 41]
  | .w2 => [105, 116, 39, 115]
  | .p c => [c]
noncomputable def It.isW : It → Bool
  | .p _ => false
  | _ => true
noncomputable def It.ok : It → Prop
  | .p c => c ∈ pch
  | _ => True
noncomputable def gapT : Nat → List Nat
  | 0 => []
  | 1 => [32]
  | 2 => [10]
  | _ => [35, 126, 40, 120, 49, 39, 32, 98, 41, 38, 10]
noncomputable abbrev Its := List (It × Nat)
noncomputable def render : Its → List Nat
  | [] => []
  | (i, g) :: L => i.txt ++ (gapT g ++ render L)
inductive Conf : List Nat → List Nat → List AV → Prop
  | strm (R : List Nat) : Conf R R []
  | pb (c : Nat) (R : List Nat) : Conf (c :: R) R [.str [c]]
noncomputable def After (L : Its) (st : AV) (rest : List Nat) (pb : List AV) : Prop := (st = .str [32] ∧ Conf (render L) rest pb) ∨ (st = .none ∧ L = [] ∧ rest = [] ∧ pb = [])
noncomputable abbrev Lx (X : Cx) (σ σ' : AS) : Prop := LpOK X (emb nm fTok_0t) fTok_0B σ .next σ'
section
variable {X : Cx} {d u : Nat}
structure LxIn (X : Cx) (d u : Nat) : Prop where
  K : CxOK X d u
  T : TbOK nm X TTok
  O : OrcOK nm X d u TTok OTok
variable (H : LxIn X d u)
include H
theorem lx_test {σ : AS} : TsOK nm X (isTrue (emb nm fTok_0t) X.env (eval (emb nm fTok_0t) X.env)) σ true σ := tst_ok (n := 5) (b := true) H.K H.T H.O (os := []) (by kernel_rfl) no_obs rfl
theorem lx_body {σ σ₁ σ₂ : AS} {r : AFl} {os : List Ob} (hf : fetch σ = some (.next, σ₁, [])) (hp : proc σ₁ = some (r, σ₂, os)) (ho : ∀ o ∈ os, o.holds) : ExOK nm X (execs fTok_0B X.env) σ r σ₂ := by
  rw [turn_split]
  exact R_execs_app (run_ok H.K H.T H.O hf no_obs) (run_ok H.K H.T H.O hp ho)
theorem lx_step {σ σ₁ σ₂ σ' : AS} {os : List Ob} (hf : fetch σ = some (.next, σ₁, [])) (hp : proc σ₁ = some (.next, σ₂, os)) (ho : ∀ o ∈ os, o.holds) (h : Lx X σ₂ σ') : Lx X σ σ' :=
  L_turn (lx_test H) (lx_body H hf hp ho) h
theorem lx_break {σ σ₁ σ₂ : AS} {os : List Ob} (hf : fetch σ = some (.next, σ₁, [])) (hp : proc σ₁ = some (.brk, σ₂, os)) (ho : ∀ o ∈ os, o.holds) : Lx X σ σ₂ :=
  L_turn (r := .brk) (lx_test H) (lx_body H hf hp ho) ⟨rfl, rfl⟩
omit H in
theorem ob1 {o : Ob} (h : o.holds) : ∀ o' ∈ [o], o'.holds := fun o' hm => by cases hm with | head => exact h | tail _ hm => cases hm
omit H in
theorem fetchL {q : Bool} {st : AV} {tok : List Nat} {ln : Int} {pre rest : List Nat} {pb : List AV} {r : List Cell} {c : Nat} {R : List Nat} (h : Conf (c :: R) rest pb) :
    ∃ pre' , fetch ⟨tkL q, lexCs st tok ln pre rest pb r⟩ = some (.next, ⟨tkN q [c], lexCs st tok ln pre' R [] r⟩, []) := by
  cases h with
  | strm => exact ⟨pre ++ [c], fetchL_strm q st tok ln pre R r c⟩
  | pb => exact ⟨pre, fetchL_pb q st tok ln pre _ r [c]⟩
omit H in
theorem lx_word {i : It} (hi : i.isW = true) {R rest : List Nat} {pb : List AV} {ln : Int} {pre : List Nat} {r : List Cell} (h : Conf (i.txt ++ R) rest pb) :
    ∃ q c pre' t tok, i.tok = t :: tok ∧ (q = true ∨ i = .w0) ∧ ∀ (X : Cx) (d u : Nat), LxIn X d u → ∀ σ', Lx X ⟨tkN q c, lexCs (.str [97]) (t :: tok) ln pre' R [] r⟩ σ' → Lx X ⟨tkL false, lexCs (.str [32]) [] ln pre rest pb r⟩ σ' := by
  cases i with
  | p c => cases hi
  | w0 =>
    obtain ⟨pre', hf⟩ := fetchL (q := false) (st := .str [32]) (tok := []) (ln := ln) (pre := pre) (r := r) h
    refine ⟨false, [49], pre' ++ [49], 120, [49], rfl, .inr rfl, fun X d u H σ' h' => ?_⟩
    refine lx_step H hf (p_sp_x false ln _ _ [] r) no_obs ?_
    refine lx_step H (fetchN_strm false [120] (.str [97]) [120] ln _ R r 49) (p_a_49 false [120] ln _ R [] r) (ob1 (by show _ ≤ _; decide)) ?_
    exact h'
  | w1 =>
    obtain ⟨pre', hf⟩ := fetchL (q := false) (st := .str [32]) (tok := []) (ln := ln) (pre := pre) (r := r) h
    refine ⟨true, [39], ((pre' ++ [98]) ++ [41]) ++ [39], 98, [41], rfl, .inl rfl, fun X d u H σ' h' => ?_⟩
    refine lx_step H hf (p_sp_q39 false ln _ _ [] r) no_obs ?_
    refine lx_step H (fetchN_strm false [39] (.str [39]) [] ln _ _ r 98) (p_q39_98 false [] ln _ _ [] r) (ob1 (by show _ ≤ _; decide)) ?_
    refine lx_step H (fetchN_strm true [98] (.str [39]) [98] ln _ _ r 41) (p_q39_41 true [98] ln _ _ [] r) (ob1 (by show _ ≤ _; decide)) ?_
    refine lx_step H (fetchN_strm true [41] (.str [39]) [98, 41] ln _ R r 39) (p_q39_end true [98, 41] ln _ R [] r) no_obs ?_
    exact h'
  | w2 =>
    obtain ⟨pre', hf⟩ := fetchL (q := false) (st := .str [32]) (tok := []) (ln := ln) (pre := pre) (r := r) h
    refine ⟨true, [34], ((((pre' ++ [105]) ++ [116]) ++ [39]) ++ [115]) ++ [34], 105, [116, 39, 115], rfl, .inl rfl, fun X d u H σ' h' => ?_⟩
    refine lx_step H hf (p_sp_q34 false ln _ _ [] r) no_obs ?_
    refine lx_step H (fetchN_strm false [34] (.str [34]) [] ln _ _ r 105) (p_q34_105 false [] ln _ _ [] r) (ob1 (by show _ ≤ _; decide)) ?_
    refine lx_step H (fetchN_strm true [105] (.str [34]) [105] ln _ _ r 116) (p_q34_116 true [105] ln _ _ [] r) (ob1 (by show _ ≤ _; decide)) ?_
    refine lx_step H (fetchN_strm true [116] (.str [34]) [105, 116] ln _ _ r 39) (p_q34_39 true [105, 116] ln _ _ [] r) (ob1 (by show _ ≤ _; decide)) ?_
    refine lx_step H (fetchN_strm true [39] (.str [34]) [105, 116, 39] ln _ _ r 115) (p_q34_115 true [105, 116, 39] ln _ _ [] r) (ob1 (by show _ ≤ _; decide)) ?_
    refine lx_step H (fetchN_strm true [115] (.str [34]) [105, 116, 39, 115] ln _ R r 34) (p_q34_end true [105, 116, 39, 115] ln _ R [] r) no_obs ?_
    exact h'
end
noncomputable def hdW : Its → Bool
  | (i, _) :: _ => i.isW
  | [] => false
noncomputable def Good : Its → Prop
  | [] => True
  | (i, g) :: L => i.ok ∧ (i.isW = true → hdW L = false) ∧ Good L
noncomputable def cut : Nat → Its → List Nat × Its
  | 0, (.p c, g) :: L => (c :: (cut g L).1, (cut g L).2)
  | _, L => ([], L)
noncomputable def nextT : Its → List Nat
  | [] => []
  | (.p c, g) :: L => c :: (cut g L).1
  | (i, _) :: _ => i.tok
noncomputable def nextL : Its → Its
  | [] => []
  | (.p _, g) :: L => (cut g L).2
  | _ :: L => L
theorem cut_succ (g : Nat) (L : Its) : cut (g + 1) L = ([], L) := by simp [cut]
theorem cut_len : ∀ (g : Nat) (L : Its), (cut g L).1.length + (cut g L).2.length = L.length
  | 0, (.p c, g) :: L => by have := cut_len g L; simp only [cut, List.length_cons]; omega
  | 0, (.w0, _) :: L => by simp [cut]
  | 0, (.w1, _) :: L => by simp [cut]
  | 0, (.w2, _) :: L => by simp [cut]
  | 0, [] => by simp [cut]
  | _ + 1, L => by simp [cut]
theorem cut_good : ∀ (g : Nat) (L : Its), Good L → Good (cut g L).2
  | 0, (.p c, g) :: L, h => cut_good g L h.2.2
  | 0, (.w0, _) :: L, h => h
  | 0, (.w1, _) :: L, h => h
  | 0, (.w2, _) :: L, h => h
  | 0, [], h => h
  | g + 1, L, h => by rw [cut_succ]; exact h
noncomputable def rem : List Nat := [126, 40, 120, 49, 39, 32, 98, 41, 38, 10]
theorem gap3 (g : Nat) (R : List Nat) : gapT (g + 3) ++ R = 35 :: (rem ++ R) := rfl
theorem drop_rem (R : List Nat) : dropLine (rem ++ R) = R := rfl
theorem rem_in (R : List Nat) : 10 ∈ rem ++ R := by simp [rem]
section
noncomputable def Ends (q : Bool) (σ : AS) (tok : List Nat) (r : List Cell) (L : Its) : Prop :=
  ∃ c st ln pre rest pb, After L st rest pb ∧ ∀ (X : Cx) (d u : Nat), LxIn X d u → Lx X σ ⟨tkN q c, lexCs st tok ln pre rest pb r⟩
theorem Ends.step {q : Bool} {σ σ' : AS} {tok : List Nat} {r : List Cell} {L : Its} (h : ∀ (X : Cx) (d u : Nat), LxIn X d u → ∀ τ, Lx X σ' τ → Lx X σ τ) (e : Ends q σ' tok r L) : Ends q σ tok r L := by
  obtain ⟨c, st, ln, pre, rest, pb, h1, h2⟩ := e
  exact ⟨c, st, ln, pre, rest, pb, h1, fun X d u H => h X d u H _ (h2 X d u H)⟩
theorem after_sp {L : Its} : After L (.str [32]) (render L) [] := .inl ⟨rfl, .strm _⟩
theorem app_nil : Ob.holds (.app []) := by show [].length + 1 ≤ 16777216; decide
theorem word_end {q : Bool} {c0 : List Nat} {t : Nat} {tok : List Nat} {ln : Int} {pre : List Nat} {r : List Cell} {g : Nat} {L : Its} (hg : Good L) (hw : hdW L = false) :
    Ends q ⟨tkN q c0, lexCs (.str [97]) (t :: tok) ln pre (gapT g ++ render L) [] r⟩ (t :: tok) r L := by
  match g with
  | 1 => exact ⟨_, _, _, _, _, _, after_sp, fun X d u H => lx_break H (fetchN_strm q c0 (.str [97]) (t :: tok) ln pre (render L) r 32) (p_a_32 q t tok ln _ (render L) [] r) no_obs⟩
  | 2 => exact ⟨_, _, _, _, _, _, after_sp, fun X d u H => lx_break H (fetchN_strm q c0 (.str [97]) (t :: tok) ln pre (render L) r 10) (p_a_10 q t tok ln _ (render L) [] r) no_obs⟩
  | g + 3 =>
    rw [gap3]
    have ha : After L (.str [32]) (dropLine (rem ++ render L)) [] := after_sp
    exact ⟨_, _, _, _, _, _, ha, fun X d u H => lx_break H (fetchN_strm q c0 (.str [97]) (t :: tok) ln pre (rem ++ render L) r 35) (p_a_35 q t tok ln _ (rem ++ render L) [] r) (ob1 (rem_in _))⟩
  | 0 =>
    match L, hg, hw with
    | [], _, _ => exact ⟨_, _, _, _, _, _, .inr ⟨rfl, rfl, rfl, rfl⟩, fun X d u H => lx_break H (fetchN_eof q c0 (.str [97]) (t :: tok) ln pre r) (p_a_eof q t tok ln _ _ [] r) no_obs⟩
    | (.p c, g) :: L, hg, _ =>
      have hc : c ∈ pch := hg.1
      have hf := fetchN_strm q c0 (.str [97]) (t :: tok) ln pre (gapT g ++ render L) r c
      have ha : After ((.p c, g) :: L) (.str [32]) (gapT g ++ render L) [.str [c]] := .inl ⟨rfl, .pb c _⟩
      unfold pch at hc
      simp only [List.mem_cons, List.not_mem_nil, or_false] at hc
      rcases hc with rfl | rfl | rfl | rfl | rfl | rfl
      · exact ⟨_, _, _, _, _, _, ha, fun X d u H => lx_break H hf (p_a_38 q t tok ln _ _ r) (ob1 app_nil)⟩
      · exact ⟨_, _, _, _, _, _, ha, fun X d u H => lx_break H hf (p_a_124 q t tok ln _ _ r) (ob1 app_nil)⟩
      · exact ⟨_, _, _, _, _, _, ha, fun X d u H => lx_break H hf (p_a_94 q t tok ln _ _ r) (ob1 app_nil)⟩
      · exact ⟨_, _, _, _, _, _, ha, fun X d u H => lx_break H hf (p_a_126 q t tok ln _ _ r) (ob1 app_nil)⟩
      · exact ⟨_, _, _, _, _, _, ha, fun X d u H => lx_break H hf (p_a_40 q t tok ln _ _ r) (ob1 app_nil)⟩
      · exact ⟨_, _, _, _, _, _, ha, fun X d u H => lx_break H hf (p_a_41 q t tok ln _ _ r) (ob1 app_nil)⟩
    | (.w0, _) :: _, _, hw => cases hw
    | (.w1, _) :: _, _, hw => cases hw
    | (.w2, _) :: _, _, hw => cases hw
theorem run_end {q : Bool} {r : List Cell} : ∀ (g : Nat) (L : Its) (c0 : List Nat) (t : Nat) (tok : List Nat) (ln : Int) (pre : List Nat), Good L → (t :: tok).length + L.length ≤ 16777216 →
    Ends q ⟨tkN q c0, lexCs (.str [99]) (t :: tok) ln pre (gapT g ++ render L) [] r⟩ (t :: tok ++ (cut g L).1) r (cut g L).2
  | 1, L, c0, t, tok, ln, pre, hg, hn => by
    simp only [cut, List.append_nil]
    exact ⟨_, _, _, _, _, _, after_sp, fun X d u H => lx_break H (fetchN_strm q c0 (.str [99]) (t :: tok) ln pre (render L) r 32) (p_c_32 q t tok ln _ (render L) [] r) no_obs⟩
  | 2, L, c0, t, tok, ln, pre, hg, hn => by
    simp only [cut, List.append_nil]
    exact ⟨_, _, _, _, _, _, after_sp, fun X d u H => lx_break H (fetchN_strm q c0 (.str [99]) (t :: tok) ln pre (render L) r 10) (p_c_10 q t tok ln _ (render L) [] r) no_obs⟩
  | g + 3, L, c0, t, tok, ln, pre, hg, hn => by
    rw [gap3, cut_succ, List.append_nil]
    have ha : After L (.str [32]) (dropLine (rem ++ render L)) [] := after_sp
    exact ⟨_, _, _, _, _, _, ha, fun X d u H => lx_break H (fetchN_strm q c0 (.str [99]) (t :: tok) ln pre (rem ++ render L) r 35) (p_c_35 q t tok ln _ (rem ++ render L) [] r) (ob1 (rem_in _))⟩
  | 0, [], c0, t, tok, ln, pre, hg, hn => by
    simp only [cut, List.append_nil]
    exact ⟨_, _, _, _, _, _, .inr ⟨rfl, rfl, rfl, rfl⟩, fun X d u H => lx_break H (fetchN_eof q c0 (.str [99]) (t :: tok) ln pre r) (p_c_eof q t tok ln _ _ [] r) no_obs⟩
  | 0, (.w0, g) :: L, c0, t, tok, ln, pre, hg, hn => by
    simp only [cut, List.append_nil]
    exact ⟨_, _, _, _, _, _, .inl ⟨rfl, .pb 120 (49 :: (gapT g ++ render L))⟩, fun X d u H => lx_break H (fetchN_strm q c0 (.str [99]) (t :: tok) ln pre (49 :: (gapT g ++ render L)) r 120) (p_c_w120 q (t :: tok) ln _ _ r) (ob1 app_nil)⟩
  | 0, (.w1, g) :: L, c0, t, tok, ln, pre, hg, hn => by
    simp only [cut, List.append_nil]
    exact ⟨_, _, _, _, _, _, .inl ⟨rfl, .pb 39 (98 :: 41 :: 39 :: (gapT g ++ render L))⟩, fun X d u H => lx_break H (fetchN_strm q c0 (.str [99]) (t :: tok) ln pre (98 :: 41 :: 39 :: (gapT g ++ render L)) r 39) (p_c_w39 q (t :: tok) ln _ _ r) (ob1 app_nil)⟩
  | 0, (.w2, g) :: L, c0, t, tok, ln, pre, hg, hn => by
    simp only [cut, List.append_nil]
    exact ⟨_, _, _, _, _, _, .inl ⟨rfl, .pb 34 (105 :: 116 :: 39 :: 115 :: 34 :: (gapT g ++ render L))⟩, fun X d u H => lx_break H (fetchN_strm q c0 (.str [99]) (t :: tok) ln pre (105 :: 116 :: 39 :: 115 :: 34 :: (gapT g ++ render L)) r 34) (p_c_w34 q (t :: tok) ln _ _ r) (ob1 app_nil)⟩
  | 0, (.p c, g) :: L, c0, t, tok, ln, pre, hg, hn => by
    have hc : c ∈ pch := hg.1
    have hf := fetchN_strm q c0 (.str [99]) (t :: tok) ln pre (gapT g ++ render L) r c
    have ih := run_end (q := q) (r := r) g L [c] t (tok ++ [c]) ln (pre ++ [c]) hg.2.2 (by simp at hn ⊢; omega)
    have e : t :: (tok ++ [c]) ++ (cut g L).1 = t :: tok ++ (cut 0 ((.p c, g) :: L)).1 := by simp [cut]
    rw [e] at ih
    have hl : Ob.holds (.str (t :: tok) [c]) := by show _ ≤ _; simp at hn ⊢; omega
    refine Ends.step (fun X d u H τ hτ => ?_) ih
    unfold pch at hc
    simp only [List.mem_cons, List.not_mem_nil, or_false] at hc
    rcases hc with rfl | rfl | rfl | rfl | rfl | rfl
    · exact lx_step H hf (p_c_38 q (t :: tok) ln _ _ [] r) (ob1 hl) hτ
    · exact lx_step H hf (p_c_124 q (t :: tok) ln _ _ [] r) (ob1 hl) hτ
    · exact lx_step H hf (p_c_94 q (t :: tok) ln _ _ [] r) (ob1 hl) hτ
    · exact lx_step H hf (p_c_126 q (t :: tok) ln _ _ [] r) (ob1 hl) hτ
    · exact lx_step H hf (p_c_40 q (t :: tok) ln _ _ [] r) (ob1 hl) hτ
    · exact lx_step H hf (p_c_41 q (t :: tok) ln _ _ [] r) (ob1 hl) hτ
theorem tok_end {r : List Cell} {L : Its} {st : AV} {rest : List Nat} {pb : List AV} {ln : Int} {pre : List Nat} (ha : After L st rest pb) (hg : Good L) (hn : L.length ≤ 16777216) :
    ∃ q, (L = [] → q = false) ∧ Ends q ⟨tkL false, lexCs st [] ln pre rest pb r⟩ (nextT L) r (nextL L) := by
  match L, hg, hn with
  | [], hg, hn =>
    refine ⟨false, fun _ => rfl, ?_⟩
    rcases ha with ⟨rfl, hc⟩ | ⟨rfl, _, rfl, rfl⟩
    · cases hc with
      | strm => exact ⟨_, _, _, _, _, _, .inr ⟨rfl, rfl, rfl, rfl⟩, fun X d u H => lx_break H (fetchL_eof false (.str [32]) [] ln pre r) (p_sp_eof false ln _ _ [] r) no_obs⟩
    · exact ⟨_, _, _, _, _, _, .inr ⟨rfl, rfl, rfl, rfl⟩, fun X d u H => lx_break H (fetchL_eof false .none [] ln pre r) (p_none false [] ln _ _ [] r) no_obs⟩
  | (.p c, g) :: L, hg, hn =>
    refine ⟨false, fun _ => rfl, ?_⟩
    rcases ha with ⟨rfl, hc⟩ | ⟨_, h, _⟩
    · obtain ⟨pre', hf⟩ := fetchL (q := false) (st := .str [32]) (tok := []) (ln := ln) (pre := pre) (r := r) (show Conf (c :: (gapT g ++ render L)) rest pb from hc)
      have ih := run_end (q := false) (r := r) g L [c] c [] ln pre' hg.2.2 (by simp at hn ⊢; omega)
      refine Ends.step (fun X d u H τ hτ => ?_) ih
      have hc : c ∈ pch := hg.1
      unfold pch at hc
      simp only [List.mem_cons, List.not_mem_nil, or_false] at hc
      rcases hc with rfl | rfl | rfl | rfl | rfl | rfl
      · exact lx_step H hf (p_sp_38 false ln _ _ [] r) no_obs hτ
      · exact lx_step H hf (p_sp_124 false ln _ _ [] r) no_obs hτ
      · exact lx_step H hf (p_sp_94 false ln _ _ [] r) no_obs hτ
      · exact lx_step H hf (p_sp_126 false ln _ _ [] r) no_obs hτ
      · exact lx_step H hf (p_sp_40 false ln _ _ [] r) no_obs hτ
      · exact lx_step H hf (p_sp_41 false ln _ _ [] r) no_obs hτ
    · cases h
  | (.w0, g) :: L, hg, hn =>
    rcases ha with ⟨rfl, hc⟩ | ⟨_, h, _⟩
    · obtain ⟨q, c, pre', t, tok, e, _, hs⟩ := lx_word (i := .w0) rfl (R := gapT g ++ render L) (ln := ln) (pre := pre) (r := r) hc
      refine ⟨q, (fun h => nomatch h), Ends.step hs ?_⟩
      show Ends q _ It.w0.tok r L
      rw [e]
      exact word_end hg.2.2 (hg.2.1 rfl)
    · cases h
  | (.w1, g) :: L, hg, hn =>
    rcases ha with ⟨rfl, hc⟩ | ⟨_, h, _⟩
    · obtain ⟨q, c, pre', t, tok, e, _, hs⟩ := lx_word (i := .w1) rfl (R := gapT g ++ render L) (ln := ln) (pre := pre) (r := r) hc
      refine ⟨q, (fun h => nomatch h), Ends.step hs ?_⟩
      show Ends q _ It.w1.tok r L
      rw [e]
      exact word_end hg.2.2 (hg.2.1 rfl)
    · cases h
  | (.w2, g) :: L, hg, hn =>
    rcases ha with ⟨rfl, hc⟩ | ⟨_, h, _⟩
    · obtain ⟨q, c, pre', t, tok, e, _, hs⟩ := lx_word (i := .w2) rfl (R := gapT g ++ render L) (ln := ln) (pre := pre) (r := r) hc
      refine ⟨q, (fun h => nomatch h), Ends.step hs ?_⟩
      show Ends q _ It.w2.tok r L
      rw [e]
      exact word_end hg.2.2 (hg.2.1 rfl)
    · cases h
end
theorem nextL_good : ∀ {L : Its}, Good L → Good (nextL L)
  | [], h => h
  | (.p _, g) :: L, h => cut_good g L h.2.2
  | (.w0, _) :: L, h => h.2.2
  | (.w1, _) :: L, h => h.2.2
  | (.w2, _) :: L, h => h.2.2
theorem nextL_len : ∀ {L : Its}, (nextL L).length ≤ L.length
  | [] => Nat.le_refl _
  | (.p _, g) :: L => by have := cut_len g L; simp only [nextL, List.length_cons]; omega
  | (.w0, _) :: L => Nat.le_succ _
  | (.w1, _) :: L => Nat.le_succ _
  | (.w2, _) :: L => Nat.le_succ _
theorem tok_loc : (fTok_locs.all fun i => fTok_scope.names.lookup (nm i) == some .local) = true := by kernel_rfl
theorem tok_glob : (fTok_globs.all fun i => fTok_scope.names.lookup (nm i) == some .globalImplicit) = true := by kernel_rfl
noncomputable abbrev tkR (q : Bool) (c : List Nat) (a : AV) : List (Nat × AV) := [(9, .cell 0), (91, .bool q), (92, .str [32]), (93, .str c), (104, a)]
theorem tok_a (cs : List Cell) : ex TTok (ev TTok OTok 20) 20 true fTok_0 ⟨[(9, .cell 0)], cs⟩ = some (.next, ⟨tkL false, cs⟩, []) := by kernel_rfl
theorem tok_z (q : Bool) (c : List Nat) (st : AV) (t : Nat) (tok : List Nat) (ln : Int) (pre rest : List Nat) (pb : List AV) (r : List Cell) : ex TTok (ev TTok OTok 20) 20 true fTok_1 ⟨tkN q c, lexCs st (t :: tok) ln pre rest pb r⟩ = some (.ret (.str (t :: tok)), ⟨tkR q c (.str (t :: tok)), lexCs st [] ln pre rest pb r⟩, []) := by
  cases q <;> kernel_rfl
theorem tok_z0 (c : List Nat) (st : AV) (ln : Int) (pre rest : List Nat) (pb : List AV) (r : List Cell) : ex TTok (ev TTok OTok 20) 20 true fTok_1 ⟨tkN false c, lexCs st [] ln pre rest pb r⟩ = some (.ret .none, ⟨tkR false c .none, lexCs st [] ln pre rest pb r⟩, []) := by kernel_rfl
noncomputable def tokV : List Nat → AV
  | [] => .none
  | l => .str l
theorem nextT_cons : ∀ {L : Its}, L ≠ [] → ∃ t tok, nextT L = t :: tok
  | [], h => absurd rfl h
  | (.p c, g) :: L, _ => ⟨_, _, rfl⟩
  | (.w0, _) :: _, _ => ⟨_, _, rfl⟩
  | (.w1, _) :: _, _ => ⟨_, _, rfl⟩
  | (.w2, _) :: _, _ => ⟨_, _, rfl⟩
theorem tok_split : fTok_body = embSs nm fTok_0 ++ (.While (emb nm fTok_0t) fTok_0B [] ⟨577,8,699,32⟩ :: embSs nm fTok_1) := rfl
theorem read_token_ok {r : List Cell} {L : Its} {st : AV} {rest : List Nat} {pb : List AV} {ln : Int} {pre : List Nat} (ha : After L st rest pb) (hg : Good L) (hn : L.length ≤ 16777216) :
    ∃ st' ln' pre' rest' pb', After (nextL L) st' rest' pb' ∧ ∀ w, CallOK nm w 3 11 711 [.cell 0] (lexCs st [] ln pre rest pb r) (tokV (nextT L)) (lexCs st' [] ln' pre' rest' pb' r) := by
  obtain ⟨q, hq, c, st', ln', pre', rest', pb', ha', hl⟩ := tok_end (r := r) (ln := ln) (pre := pre) ha hg hn
  refine ⟨st', ln', pre', rest', pb', ha', fun w => ?_⟩
  refine CallOK.of_body (d := 2) (u := 8) (fl := .ret (tokV (nextT L))) (loc := [(9, .cell 0)]) (loc' := tkR q c (tokV (nextT L))) (fTok_at w) (by kernel_rfl) ?_ (by decide +kernel) rfl rfl rfl ?_
  · intro s W vals hK ha
    cases ha with
    | cons h1 hr => cases hr with
      | nil => exact ⟨([9].map nm).zip [_], BindsTo.of_eq rfl, locs rfl, locOK_zip (ids := [9]) (.cons h1 .nil) (by decide)⟩
  · intro X e1 e2 e3 e4 e5 K
    have hT : TbOK nm X TTok := mkT_ok K (by rw [e3]; exact tok_loc) (by rw [e3]; exact tok_glob)
    have hO := OTok_ok (T := TTok) K (Nat.le_refl 2) (Nat.le_refl 8)
    rw [tok_split]
    refine R_execs_app (run_ok K hT hO (tok_a _) no_obs) ?_
    refine R_execs_next (R_while (hl X 2 8 ⟨K, hT, hO⟩)) ?_
    by_cases hL : L = []
    · have e := hq hL
      subst hL e
      exact run_ok K hT hO (tok_z0 c st' ln' pre' rest' pb' r) no_obs
    · obtain ⟨t, tok, e⟩ := nextT_cons hL
      rw [e]
      exact run_ok K hT hO (tok_z q c st' t tok ln' pre' rest' pb' r) no_obs
noncomputable def OGet (a : AV) (cs₀ cs' : List Cell) : Orc where
  fn := fun _ _ _ => none
  mt := fun C i as cs => grd (Nat.beq C 743 && Nat.beq i 86) ((only1 as).bind fun x => grd (isC 0 x) (some (a, cs', [.say (cs = cs₀)])))
  pr := fun _ _ _ _ => none
theorem rt_meth (w : World) : (plainGet (KF w) 743 (nm 86) && (findIn (KF w) (.ref 743) (nm 86) == some (some (.ref 711))) && isFn (KF w) (.ref 711) && keepIn (KF w) (.ref 711)) = true := by kernel_rfl
theorem OGet_ok {X : Cx} {d u : Nat} (K : CxOK X d u) {a : AV} {cs₀ cs' : List Cell} (h : CallOK nm X.w 3 11 711 [.cell 0] cs₀ a cs') (hd : 3 ≤ d) (hu : 12 ≤ u) {T : Tb} : OrcOK nm X d u T (OGet a cs₀ cs') where
  fn := fun _ _ _ _ _ _ _ _ h => by cases h
  mt := fun C i as cs r cs' os h' ho => by
    obtain ⟨hi, k1⟩ := grd_eq h'
    rw [Bool.and_eq_true] at hi
    obtain ⟨x, k2, k3⟩ := bind_eq k1
    obtain ⟨k4, k5⟩ := grd_eq k3
    cases k5
    rw [show C = 743 from beq_of hi.1, show i = 86 from beq_of hi.2, only1_eq k2, isC_eq k4]
    have := rt_meth X.w
    simp only [Bool.and_eq_true] at this
    have e : cs = cs₀ := ho _ (.head _)
    subst e
    exact ⟨711, this.1.1.1, eq_of_beq this.1.1.2, this.1.2, KeepOK.fn this.2, fun loc => FnOK.of_call (σ := ⟨loc, _⟩) K hd hu h⟩
  pr := fun _ _ _ _ _ _ _ h => by cases h
noncomputable abbrev TGet : Tb := mkT fGet_locs fGet_globs
theorem get_loc : (fGet_locs.all fun i => fGet_scope.names.lookup (nm i) == some .local) = true := by kernel_rfl
theorem get_glob : (fGet_globs.all fun i => fGet_scope.names.lookup (nm i) == some .globalImplicit) = true := by kernel_rfl
noncomputable abbrev gtL (a : AV) : List (Nat × AV) := [(9, .cell 0), (85, a)]
theorem get_a (a : AV) (cs₀ : List Cell) (st st' : AV) (ln ln' : Int) (pre rest pre' rest' : List Nat) (pb pb' : List AV) (r : List Cell) : ex TGet (ev TGet (OGet a cs₀ (lexCs st' [] ln' pre' rest' pb' r)) 20) 20 true fGet_0 ⟨[(9, .cell 0)], lexCs st [] ln pre rest pb r⟩ = some (.next, ⟨gtL a, lexCs st' [] ln' pre' rest' pb' r⟩, [.say (lexCs st [] ln pre rest pb r = cs₀)]) := by kernel_rfl
theorem get_t0 (O : Orc) (cs : List Cell) (st : AV) (ln : Int) (pre rest : List Nat) (pb : List AV) (r : List Cell) : ev TGet O 20 .tst fGet_0t ⟨gtL .none, lexCs st [] ln pre rest pb r⟩ = some (.bool true, ⟨gtL .none, lexCs st [] ln pre rest pb r⟩, []) := by kernel_rfl
theorem get_b0 (O : Orc) (cs : List Cell) (st : AV) (ln : Int) (pre rest : List Nat) (pb : List AV) (r : List Cell) : ex TGet (ev TGet O 20) 20 true fGet_0b_0 ⟨gtL .none, lexCs st [] ln pre rest pb r⟩ = some (.ret .none, ⟨gtL .none, lexCs st [] ln pre rest pb r⟩, []) := by kernel_rfl
theorem get_t1 (O : Orc) (cs : List Cell) (st : AV) (t : List Nat) (ln : Int) (pre rest : List Nat) (pb : List AV) (r : List Cell) : ev TGet O 20 .tst fGet_0t ⟨gtL (.str t), lexCs st [] ln pre rest pb r⟩ = some (.bool false, ⟨gtL (.str t), lexCs st [] ln pre rest pb r⟩, []) := by kernel_rfl
theorem get_z (O : Orc) (cs : List Cell) (st : AV) (t : List Nat) (ln : Int) (pre rest : List Nat) (pb : List AV) (r : List Cell) : ex TGet (ev TGet O 20) 20 true fGet_1 ⟨gtL (.str t), lexCs st [] ln pre rest pb r⟩ = some (.ret (.str t), ⟨gtL (.str t), lexCs st [] ln pre rest pb r⟩, []) := by kernel_rfl
theorem get_split : fGet_body = embSs nm fGet_0 ++ (.While (emb nm fGet_0t) fGet_0B [] ⟨561,8,566,38⟩ :: embSs nm fGet_1) := rfl
theorem get_token_ok {r : List Cell} {L : Its} {st : AV} {rest : List Nat} {pb : List AV} {ln : Int} {pre : List Nat} (ha : After L st rest pb) (hg : Good L) (hn : L.length ≤ 16777216) :
    ∃ st' ln' pre' rest' pb', After (nextL L) st' rest' pb' ∧ ∀ w, CallOK nm w 4 15 704 [.cell 0] (lexCs st [] ln pre rest pb r) (tokV (nextT L)) (lexCs st' [] ln' pre' rest' pb' r) := by
  obtain ⟨st', ln', pre', rest', pb', ha', hc⟩ := read_token_ok (r := r) (ln := ln) (pre := pre) ha hg hn
  refine ⟨st', ln', pre', rest', pb', ha', fun w => ?_⟩
  refine CallOK.of_body (d := 3) (u := 12) (fl := .ret (tokV (nextT L))) (loc := [(9, .cell 0)]) (loc' := gtL (tokV (nextT L))) (fGet_at w) (by kernel_rfl) ?_ (by decide +kernel) rfl rfl rfl ?_
  · intro s W vals hK ha
    cases ha with
    | cons h1 hr => cases hr with
      | nil => exact ⟨([9].map nm).zip [_], BindsTo.of_eq rfl, locs rfl, locOK_zip (ids := [9]) (.cons h1 .nil) (by decide)⟩
  · intro X e1 e2 e3 e4 e5 K
    have hT : TbOK nm X TGet := mkT_ok K (by rw [e3]; exact get_loc) (by rw [e3]; exact get_glob)
    have hO := OGet_ok (T := TGet) K (hc X.w) (Nat.le_refl 3) (Nat.le_refl 12)
    rw [get_split]
    refine R_execs_app (run_ok K hT hO (get_a _ _ st st' ln ln' pre rest pre' rest' pb pb' r) (ob1 rfl)) ?_
    by_cases hL : L = []
    · subst hL
      refine R_execs_out (R_while (L_turn (r := .ret .none) (tst_ok K hT hO (get_t0 _ [] st' ln' pre' rest' pb' r) no_obs rfl) (run_ok K hT hO (get_b0 _ [] st' ln' pre' rest' pb' r) no_obs) ⟨rfl, rfl⟩)) rfl
    · obtain ⟨t, tok, e⟩ := nextT_cons hL
      rw [e]
      refine R_execs_next (R_while (L_done (tst_ok K hT hO (get_t1 _ [] st' (t :: tok) ln' pre' rest' pb' r) no_obs rfl))) ?_
      exact run_ok K hT hO (get_z _ [] st' (t :: tok) ln' pre' rest' pb' r) no_obs
noncomputable def cmL (op : CmpOp) (a b : AV) (cs : List Cell) : Option (Bool × List Ob) := match op, a, b with
  | .NotEq, .cell k, .lst [] => match cs[k]? with
    | some (.list l) => some (!l.isEmpty, [])
    | _ => none
  | .NotEq, .bool x, .bool y => some (x != y, [])
  | _, _, _ => none
theorem cmL_ok {X : Cx} {d u : Nat} (K : CxOK X d u) {op : CmpOp} {a b : AV} {cells : List Cell} {c : Bool} {os : List Ob} (h : cmL op a b cells = some (c, os)) (loc : List (Nat × AV)) : BinOK nm X (compareOp op) ⟨loc, cells⟩ a b (.bool c) ⟨loc, cells⟩ := by
  intro s W va vb S ha hb
  refine EvAt.here S fun Q E hQ => ?_
  unfold cmL at h
  split at h
  · split at h
    · rename_i k l hc
      cases h
      obtain ⟨x, vs, rfl, hL, hs, hz⟩ := S.isList ha (l := l.reverse) (by simp [listA, hc])
      obtain ⟨y, vs', rfl, hL', hs', hz'⟩ := S.isList hb (l := []) rfl
      cases hs'
      have hlen := hs.length
      have hu := K.units
      cases l with
      | nil =>
        cases hs
        exact (SeqAt.RcNeAt.lists (e := fun _ => true) hL hL' rfl (by omega) (fun j j1 => absurd j1 (by simp))) prg X.w E Q (hQ _ s.toks (.bool _))
      | cons x r =>
        simp at hlen
        exact (SeqAt.RcNeAt.lists_lengths hL hL' (by simp; intro e; subst e; simp at hlen) (by omega)) prg X.w E Q (hQ _ s.toks (.bool _))
    · cases h
  · cases ha; cases hb; cases h
    exact PyProof.Rows.ne_bool (hQ _ s.toks (.bool _))
  · cases h
noncomputable abbrev TAnd : Tb := mkT [97, 107] []
noncomputable abbrev abL (x y : Int) : List (Nat × AV) := [(97, .int x), (107, .int y)]
theorem and_loc : (fAnd_locs.all fun i => fAnd_scope.names.lookup (nm i) == some .local) = true := by kernel_rfl
theorem or_loc : (fOr_locs.all fun i => fOr_scope.names.lookup (nm i) == some .local) = true := by kernel_rfl
theorem xor_loc : (fXor_locs.all fun i => fXor_scope.names.lookup (nm i) == some .local) = true := by kernel_rfl
theorem and_ok (w : World) (x y : Int) (cells : List Cell) : CallOK nm w 1 3 46 [.int x, .int y] cells (.int (Builtin.bitAnd x y)) cells := by
  refine CallOK.of_body (d := 0) (u := 0) (fl := .ret (.int (Builtin.bitAnd x y))) (loc := abL x y) (loc' := abL x y) (fAnd_at w) (by kernel_rfl) ?_ (by decide +kernel) rfl rfl rfl ?_
  · intro s W vals hK ha
    cases ha with
    | cons h1 hr => cases hr with
      | cons h2 hr => cases hr with
        | nil => exact ⟨([97, 107].map nm).zip [_, _], BindsTo.of_eq rfl, locs rfl, locOK_zip (ids := [97, 107]) (.cons h1 (.cons h2 .nil)) (by decide)⟩
  · intro X e1 e2 e3 e4 e5 K
    have hT : TbOK nm X TAnd := mkT_ok K (by rw [e3]; exact and_loc) (by rw [e3]; rfl)
    exact run_ok (m := 20) (n := 20) (b := fAnd_0) K hT noO_ok (os := []) (by kernel_rfl) no_obs
theorem or_ok (w : World) (x y : Int) (cells : List Cell) : CallOK nm w 1 3 53 [.int x, .int y] cells (.int (Builtin.bitOr x y)) cells := by
  refine CallOK.of_body (d := 0) (u := 0) (fl := .ret (.int (Builtin.bitOr x y))) (loc := abL x y) (loc' := abL x y) (fOr_at w) (by kernel_rfl) ?_ (by decide +kernel) rfl rfl rfl ?_
  · intro s W vals hK ha
    cases ha with
    | cons h1 hr => cases hr with
      | cons h2 hr => cases hr with
        | nil => exact ⟨([97, 107].map nm).zip [_, _], BindsTo.of_eq rfl, locs rfl, locOK_zip (ids := [97, 107]) (.cons h1 (.cons h2 .nil)) (by decide)⟩
  · intro X e1 e2 e3 e4 e5 K
    have hT : TbOK nm X TAnd := mkT_ok K (by rw [e3]; exact or_loc) (by rw [e3]; rfl)
    exact run_ok (m := 20) (n := 20) (b := fOr_0) K hT noO_ok (os := []) (by kernel_rfl) no_obs
theorem xor_ok (w : World) (x y : Int) (cells : List Cell) : CallOK nm w 1 3 60 [.int x, .int y] cells (.int (Builtin.bitXor x y)) cells := by
  refine CallOK.of_body (d := 0) (u := 0) (fl := .ret (.int (Builtin.bitXor x y))) (loc := abL x y) (loc' := abL x y) (fXor_at w) (by kernel_rfl) ?_ (by decide +kernel) rfl rfl rfl ?_
  · intro s W vals hK ha
    cases ha with
    | cons h1 hr => cases hr with
      | cons h2 hr => cases hr with
        | nil => exact ⟨([97, 107].map nm).zip [_, _], BindsTo.of_eq rfl, locs rfl, locOK_zip (ids := [97, 107]) (.cons h1 (.cons h2 .nil)) (by decide)⟩
  · intro X e1 e2 e3 e4 e5 K
    have hT : TbOK nm X TAnd := mkT_ok K (by rw [e3]; exact xor_loc) (by rw [e3]; rfl)
    exact run_ok (m := 20) (n := 20) (b := fXor_0) K hT noO_ok (os := []) (by kernel_rfl) no_obs
noncomputable def OBit : Orc where
  fn := fun i as cs => (ints2 as).bind fun q => cond (Nat.beq i 136) (some (.int (Builtin.bitAnd q.1 q.2), cs, [])) (cond (Nat.beq i 137) (some (.int (Builtin.bitOr q.1 q.2), cs, [])) (grd (Nat.beq i 138) (some (.int (Builtin.bitXor q.1 q.2), cs, []))))
  mt := fun _ _ _ _ => none
  pr := fun _ _ _ _ => none
noncomputable abbrev TClosed : Tb := mkT fClosed_locs fClosed_globs
theorem keep3 (w : World) : keepIn (KF w) (.ref 46) && keepIn (KF w) (.ref 53) && keepIn (KF w) (.ref 60) = true := by kernel_rfl
theorem OBit_ok {X : Cx} {d u : Nat} (K : CxOK X d u) (hd : 1 ≤ d) (hu : 4 ≤ u) {T : Tb} (h1 : T.glob 136 = some (.ref 46)) (h2 : T.glob 137 = some (.ref 53)) (h3 : T.glob 138 = some (.ref 60)) : OrcOK nm X d u T OBit where
  fn := fun i f as cs r cs' os hg h ho => by
    have hk := keep3 X.w
    simp only [Bool.and_eq_true] at hk
    obtain ⟨⟨x, y⟩, k1, k2⟩ := bind_eq h
    rw [ints2_eq k1]
    cases i1 : Nat.beq i 136 with
    | true =>
      rw [i1] at k2
      cases k2
      rw [show i = 136 from beq_of i1, h1] at hg; cases hg
      exact ⟨KeepOK.fn hk.1.1, fun loc => FnOK.of_call (σ := ⟨loc, _⟩) K hd hu (and_ok X.w _ _ _)⟩
    | false =>
      rw [i1] at k2
      cases i2 : Nat.beq i 137 with
      | true =>
        rw [i2] at k2
        cases k2
        rw [show i = 137 from beq_of i2, h2] at hg; cases hg
        exact ⟨KeepOK.fn hk.1.2, fun loc => FnOK.of_call (σ := ⟨loc, _⟩) K hd hu (or_ok X.w _ _ _)⟩
      | false =>
        rw [i2] at k2
        obtain ⟨i3, k3⟩ := grd_eq k2
        cases k3
        rw [show i = 138 from beq_of i3, h3] at hg; cases hg
        exact ⟨KeepOK.fn hk.2, fun loc => FnOK.of_call (σ := ⟨loc, _⟩) K hd hu (xor_ok X.w _ _ _)⟩
  mt := fun _ _ _ _ _ _ _ h => by cases h
  pr := fun _ _ _ _ _ _ _ h => by cases h
noncomputable def deed (c : Nat) (x y : Int) : Int := match Nat.beq c 38 with
  | true => Builtin.bitAnd x y
  | false => match Nat.beq c 124 with
    | true => Builtin.bitOr x y
    | false => Builtin.bitXor x y
theorem closed_loc : (fClosed_locs.all fun i => fClosed_scope.names.lookup (nm i) == some .local) = true := by kernel_rfl
theorem closed_glob : (fClosed_globs.all fun i => fClosed_scope.names.lookup (nm i) == some .globalImplicit) = true := by kernel_rfl
noncomputable abbrev clL (c : Nat) (x y : Int) : List (Nat × AV) := [(135, .str [c]), (131, .int x), (132, .int y)]
theorem closed_ok (w : World) (c : Nat) (hc : c ∈ [38, 124, 94]) (x y : Int) (cells : List Cell) : CallOK nm w 2 7 782 [.str [c], .int x, .int y] cells (.int (deed c x y)) cells := by
  refine CallOK.of_body (d := 1) (u := 4) (fl := .ret (.int (deed c x y))) (loc := clL c x y) (loc' := clL c x y) (fClosed_at w) (by kernel_rfl) ?_ (by decide +kernel) rfl rfl rfl ?_
  · intro s W vals hK ha
    cases ha with
    | cons h1 hr => cases hr with
      | cons h2 hr => cases hr with
        | cons h3 hr => cases hr with
          | nil => exact ⟨([135, 131, 132].map nm).zip [_, _, _], BindsTo.of_eq rfl, locs rfl, locOK_zip (ids := [135, 131, 132]) (.cons h1 (.cons h2 (.cons h3 .nil))) (by decide)⟩
  · intro X e1 e2 e3 e4 e5 K
    have hT : TbOK nm X TClosed := mkT_ok K (by rw [e3]; exact closed_loc) (by rw [e3]; exact closed_glob)
    have hO := OBit_ok (T := TClosed) K (Nat.le_refl 1) (Nat.le_refl 4) (by kernel_rfl) (by kernel_rfl) (by kernel_rfl)
    simp only [List.mem_cons, List.not_mem_nil, or_false] at hc
    rcases hc with rfl | rfl | rfl
    · exact run_ok (m := 20) (n := 20) (b := fClosed_0) K hT hO (os := []) (by kernel_rfl) no_obs
    · exact run_ok (m := 20) (n := 20) (b := fClosed_0) K hT hO (os := []) (by kernel_rfl) no_obs
    · exact run_ok (m := 20) (n := 20) (b := fClosed_0) K hT hO (os := []) (by kernel_rfl) no_obs
inductive Fm where
  | w (k : Nat)
  | neg (f : Fm)
  | bin (c : Nat) (a b : Fm)
namespace Fm
noncomputable def av : Fm → AV
  | w k => .lst [.int (.ofNat k)]
  | neg f => .lst [.str [126], f.av]
  | bin c a b => .lst [.str [c], a.av, b.av]
noncomputable def ok : Fm → Prop
  | w k => k < 3
  | neg f => f.ok
  | bin c a b => c ∈ [38, 124, 94] ∧ a.ok ∧ b.ok
noncomputable def size : Fm → Nat
  | w _ => 1
  | neg f => f.size + 1
  | bin _ a b => a.size + b.size + 1
noncomputable def depth : Fm → Nat
  | w _ => 0
  | neg f => f.depth + 1
  | bin _ a b => max a.depth b.depth + 1
noncomputable def items : Fm → List It
  | w 0 => [.w0]
  | w 1 => [.w1]
  | w _ => [.w2]
  | neg f => .p 126 :: f.items
  | bin c a b => .p 40 :: (a.items ++ (.p c :: (b.items ++ [.p 41])))
noncomputable def holds (p : Nat) : Fm → Bool
  | w k => p / 2 ^ k % 2 == 1
  | neg f => !f.holds p
  | bin c a b => match Nat.beq c 38 with
    | true => a.holds p && b.holds p
    | false => match Nat.beq c 124 with
      | true => a.holds p || b.holds p
      | false => a.holds p != b.holds p
theorem lst_inj {l l' : List AV} (h : AV.lst l = AV.lst l') : l = l' := by injection h
theorem av_inj : ∀ {f g : Fm}, f.av = g.av → f = g
  | w k, w k', h => by
    injection lst_inj h with h _
    injection h with h
    rw [Int.ofNat.inj h]
  | w k, neg f, h => by injection lst_inj h with h _; injection h
  | w k, bin c a b, h => by injection lst_inj h with h _; injection h
  | neg f, w k, h => by injection lst_inj h with h _; injection h
  | neg f, neg g, h => by
    injection lst_inj h with _ h
    injection h with h _
    rw [av_inj h]
  | neg f, bin c a b, h => by injection lst_inj h with _ h; injection h with _ h; injection h
  | bin c a b, w k, h => by injection lst_inj h with h _; injection h
  | bin c a b, neg g, h => by injection lst_inj h with _ h; injection h with _ h; injection h
  | bin c a b, bin c' a' b', h => by
    injection lst_inj h with h1 h2
    injection h1 with h1
    injection h1 with h1 _
    injection h2 with h2 h3
    injection h3 with h3 _
    rw [h1, av_inj h2, av_inj h3]
theorem depth_size : ∀ f : Fm, f.depth < f.size
  | w _ => by simp [depth, size]
  | neg f => by have := depth_size f; simp only [depth, size]; omega
  | bin c a b => by have := depth_size a; have := depth_size b; simp only [depth, size]; omega
theorem items_len : ∀ f : Fm, f.items.length ≤ 3 * f.size
  | w 0 => by simp [items, size]
  | w 1 => by simp [items, size]
  | w (_ + 2) => by simp [items, size]
  | neg f => by have := items_len f; simp only [items, size, List.length_cons]; omega
  | bin c a b => by have := items_len a; have := items_len b; simp only [items, size, List.length_cons, List.length_append, List.length_nil]; omega
end Fm
open Classical in
noncomputable def unF (a : AV) : Fm := if h : ∃ f : Fm, f.av = a then h.choose else .w 0
theorem unF_av (f : Fm) : unF f.av = f := by
  have h : ∃ g : Fm, g.av = f.av := ⟨f, rfl⟩
  unfold unF
  rw [dif_pos h]
  exact Fm.av_inj h.choose_spec
noncomputable def itL (l : List It) : List AV := l.map fun i => .str i.txt
noncomputable def Sub (n m : Nat) (a : AV) : Prop := ∃ f : Fm, f.ok ∧ f.size ≤ m ∧ f.depth < n ∧ f.av = a
noncomputable def OIt (n : Nat) : Orc where
  fn := fun i as cs => grd (Nat.beq i 120) ((only1 as).bind fun a => some (.lst (itL (unF a).items), cs, [.say (Sub n 100 a)]))
  mt := fun _ _ _ _ => none
  pr := fun _ _ _ _ => none
noncomputable abbrev TIt : Tb := mkT fItems_locs fItems_globs
theorem it_loc : (fItems_locs.all fun i => fItems_scope.names.lookup (nm i) == some .local) = true := by kernel_rfl
theorem it_glob : (fItems_globs.all fun i => fItems_scope.names.lookup (nm i) == some .globalImplicit) = true := by kernel_rfl
theorem it_keep (w : World) : keepIn (KF w) (.ref 761) = true := by kernel_rfl
theorem OIt_ok {X : Cx} {n : Nat} (K : CxOK X n (4 * n)) (ih : ∀ g : Fm, g.ok → g.size ≤ 100 → g.depth < n → ∀ cells, CallOK nm X.w (g.depth + 1) (4 * g.depth + 3) 761 [g.av] cells (.lst (itL g.items)) cells) : OrcOK nm X n (4 * n) TIt (OIt n) where
  fn := fun i f as cs r cs' os hg h ho => by
    obtain ⟨hi, k1⟩ := grd_eq h
    obtain ⟨a, k2, k3⟩ := bind_eq k1
    cases k3
    have e : TIt.glob 120 = some (.ref 761) := by kernel_rfl
    rw [show i = 120 from beq_of hi, e] at hg; cases hg
    obtain ⟨g, h1, h2, h3, rfl⟩ : Sub n 100 a := ho _ (.head _)
    rw [unF_av, only1_eq k2]
    exact ⟨KeepOK.fn (it_keep X.w), fun loc => FnOK.of_call (σ := ⟨loc, _⟩) K h3 (by omega) (ih g h1 h2 h3 _)⟩
  mt := fun _ _ _ _ _ _ _ h => by cases h
  pr := fun _ _ _ _ _ _ _ h => by cases h
theorem it_neg (n : Nat) (a : AV) (cs : List Cell) : ex TIt (ev TIt (OIt n) 20) 20 true fItems_0 ⟨[(116, .lst [.str [126], a])], cs⟩ = some (.ret (.lst ([.str [126]] ++ itL (unF a).items)), ⟨[(116, .lst [.str [126], a])], cs⟩, [.say (Sub n 100 a), .lst [.str [126]] (itL (unF a).items)]) := by kernel_rfl
theorem it_bin (n : Nat) (c : Nat) (a b : AV) (cs : List Cell) : ex TIt (ev TIt (OIt n) 20) 20 true fItems_0 ⟨[(116, .lst [.str [c], a, b])], cs⟩ = some (.ret (.lst (((([.str [40]] ++ itL (unF a).items) ++ [.str [c]]) ++ itL (unF b).items) ++ [.str [41]])), ⟨[(116, .lst [.str [c], a, b])], cs⟩,
   [.say (Sub n 100 a), .lst [.str [40]] (itL (unF a).items), .lst ([.str [40]] ++ itL (unF a).items) [.str [c]], .say (Sub n 100 b), .lst (([.str [40]] ++ itL (unF a).items) ++ [.str [c]]) (itL (unF b).items), .lst ((([.str [40]] ++ itL (unF a).items) ++ [.str [c]]) ++ itL (unF b).items) [.str [41]]]) := by kernel_rfl
theorem items_ok (w : World) : ∀ (n : Nat) (f : Fm), f.ok → f.size ≤ 100 → f.depth = n → ∀ cells, CallOK nm w (n + 1) (4 * n + 3) 761 [f.av] cells (.lst (itL f.items)) cells := by
  intro n
  induction n using Nat.strongRecOn with
  | _ n IH =>
  intro f hok hsz hdp cells
  refine CallOK.of_body (d := n) (u := 4 * n) (fl := .ret (.lst (itL f.items))) (loc := [(116, f.av)]) (loc' := [(116, f.av)]) (fItems_at w) (by kernel_rfl) ?_ (by decide +kernel) rfl rfl rfl ?_
  · intro s W vals hK ha
    cases ha with
    | cons h1 hr => cases hr with
      | nil => exact ⟨([116].map nm).zip [_], BindsTo.of_eq rfl, locs rfl, locOK_zip (ids := [116]) (.cons h1 .nil) (by decide)⟩
  · intro X e1 e2 e3 e4 e5 K
    have hT : TbOK nm X TIt := mkT_ok K (by rw [e3]; exact it_loc) (by rw [e3]; exact it_glob)
    have hO := OIt_ok K (fun g h1 h2 h3 cells => by rw [e1]; exact IH g.depth h3 g h1 h2 rfl cells)
    cases f with
    | w k =>
      have hk : k < 3 := hok
      match k, hk with
      | 0, _ => exact run_ok (m := 20) (n := 20) (b := fItems_0) K hT hO (os := []) (by kernel_rfl) no_obs
      | 1, _ => exact run_ok (m := 20) (n := 20) (b := fItems_0) K hT hO (os := []) (by kernel_rfl) no_obs
      | 2, _ => exact run_ok (m := 20) (n := 20) (b := fItems_0) K hT hO (os := []) (by kernel_rfl) no_obs
    | neg f =>
      have hlen := f.items_len
      simp only [Fm.size] at hsz
      simp only [Fm.depth] at hdp
      have := run_ok K hT hO (it_neg n f.av cells) (by
        rw [unF_av]
        intro o ho
        simp only [List.mem_cons, List.not_mem_nil, or_false] at ho
        rcases ho with rfl | rfl
        · exact ⟨f, hok, by omega, by omega, rfl⟩
        · show _ + _ ≤ _; simp only [itL, List.length_map, List.length_cons, List.length_nil]; omega)
      rw [unF_av] at this
      exact this
    | bin c a b =>
      have hla := a.items_len
      have hlb := b.items_len
      simp only [Fm.size] at hsz
      simp only [Fm.depth] at hdp
      have := run_ok K hT hO (it_bin n c a.av b.av cells) (by
        rw [unF_av, unF_av]
        intro o ho
        simp only [List.mem_cons, List.not_mem_nil, or_false] at ho
        rcases ho with rfl | rfl | rfl | rfl | rfl | rfl
        · exact ⟨a, hok.2.1, by omega, by omega, rfl⟩
        · show _ + _ ≤ _; simp only [itL, List.length_map, List.length_cons, List.length_nil, List.length_append]; omega
        · show _ + _ ≤ _; simp only [itL, List.length_map, List.length_cons, List.length_nil, List.length_append]; omega
        · exact ⟨b, hok.2.2, by omega, by omega, rfl⟩
        · show _ + _ ≤ _; simp only [itL, List.length_map, List.length_cons, List.length_nil, List.length_append]; omega
        · show _ + _ ≤ _; simp only [itL, List.length_map, List.length_cons, List.length_nil, List.length_append]; omega)
      rw [unF_av, unF_av] at this
      have e : ((([AV.str [40]] ++ itL a.items) ++ [.str [c]]) ++ itL b.items) ++ [.str [41]] = itL (Fm.bin c a b).items := by
        simp [itL, Fm.items, It.txt]
      rw [e] at this
      exact this
theorem St.forget {X : Cx} {W : Wd} {σ : AS} {s : Shared} (S : St nm X W σ s) : St nm X W ⟨[], σ.cells⟩ s := by
  obtain ⟨m, objs, F, hL, hcs, N, nd⟩ := S
  exact ⟨m, objs, F, (fun i a e => nomatch e), hcs, N, nd⟩
theorem ExOK.forget {X : Cx} {t : Sem Flow} {σ σ' : AS} {r : AFl} (h : ExOK nm X t σ r σ') : ExOK nm X t σ r ⟨[], σ'.cells⟩ := by
  intro s W S Q E hQ
  exact h s W S Q E fun fl W' h' tk' hw hf S' => hQ fl W' h' tk' hw hf S'.forget
noncomputable def nat? : Int → Option Nat
  | .ofNat n => some n
  | .negSucc _ => none
theorem nat?_eq {i : Int} {n : Nat} (h : nat? i = some n) : i = .ofNat n := by cases i <;> first | (cases h; rfl) | (cases h; done)
noncomputable def OHo (n : Nat) : Orc where
  fn := fun i as cs => grd (Nat.beq i 130) ((only2 as).bind fun q => (q.2.int?.bind nat?).bind fun p => some (.bool ((unF q.1).holds p), cs, [.say (Sub n 100 q.1 ∧ p < 8)]))
  mt := fun _ _ _ _ => none
  pr := fun _ _ _ _ => none
  cm := cmL
noncomputable abbrev THo : Tb := mkT fHolds_locs fHolds_globs
theorem ho_loc : (fHolds_locs.all fun i => fHolds_scope.names.lookup (nm i) == some .local) = true := by kernel_rfl
theorem ho_glob : (fHolds_globs.all fun i => fHolds_scope.names.lookup (nm i) == some .globalImplicit) = true := by kernel_rfl
theorem ho_keep (w : World) : keepIn (KF w) (.ref 775) = true := by kernel_rfl
theorem OHo_ok {X : Cx} {n : Nat} (K : CxOK X n (4 * n)) (ih : ∀ (p : Nat) (g : Fm), p < 8 → g.ok → g.size ≤ 100 → g.depth < n → ∀ cells, CallOK nm X.w (g.depth + 1) (4 * g.depth + 3) 775 [g.av, .int (.ofNat p)] cells (.bool (g.holds p)) cells) : OrcOK nm X n (4 * n) THo (OHo n) where
  fn := fun i f as cs r cs' os hg h ho => by
    obtain ⟨hi, k1⟩ := grd_eq h
    obtain ⟨⟨a, b⟩, k2, k3⟩ := bind_eq k1
    obtain ⟨p, k4, k5⟩ := bind_eq k3
    obtain ⟨m, k6, k7⟩ := bind_eq k4
    cases k5
    have e : THo.glob 130 = some (.ref 775) := by kernel_rfl
    rw [show i = 130 from beq_of hi, e] at hg; cases hg
    obtain ⟨⟨g, h1, h2, h3, rfl⟩, hp⟩ : Sub n 100 a ∧ p < 8 := ho _ (.head _)
    rw [unF_av, only2_eq k2, show b = .int m from int?_eq k6, nat?_eq k7]
    exact ⟨KeepOK.fn (ho_keep X.w), fun loc => FnOK.of_call (σ := ⟨loc, _⟩) K h3 (by omega) (ih _ g hp h1 h2 h3 _)⟩
  mt := fun _ _ _ _ _ _ _ h => by cases h
  pr := fun _ _ _ _ _ _ _ h => by cases h
  cm := fun op a b cells c os h ho loc => cmL_ok K h loc
theorem ho_neg (n p : Nat) (a : AV) (cs : List Cell) : ex THo (ev THo (OHo n) 20) 20 true fHolds_0 ⟨[(116, .lst [.str [126], a]), (129, .int (.ofNat p))], cs⟩ = some (.ret (.bool (!(unF a).holds p)), ⟨[(116, .lst [.str [126], a]), (129, .int (.ofNat p))], cs⟩, [.say (Sub n 100 a ∧ p < 8)]) := by kernel_rfl
noncomputable abbrev hoB (c : Nat) (a b : AV) (p : Nat) (x y : Bool) : List (Nat × AV) := [(116, .lst [.str [c], a, b]), (129, .int (.ofNat p)), (131, .bool x), (132, .bool y)]
noncomputable abbrev hoS (c : Nat) (a b : AV) (p : Nat) : List (Nat × AV) := [(116, .lst [.str [c], a, b]), (129, .int (.ofNat p))]
theorem ho_bin1 (n c p : Nat) (a b : AV) (cs : List Cell) : ex THo (ev THo (OHo n) 20) 20 true (fHolds_0.take 4) ⟨hoS c a b p, cs⟩ = some (.next, ⟨hoB c a b p ((unF a).holds p) ((unF b).holds p), cs⟩, [.say (Sub n 100 a ∧ p < 8), .say (Sub n 100 b ∧ p < 8)]) := by kernel_rfl
theorem ho_and (n p : Nat) (a b : AV) (x y : Bool) (cs : List Cell) : ex THo (ev THo (OHo n) 20) 20 true (fHolds_0.drop 4) ⟨hoB 38 a b p x y, cs⟩ = some (.ret (.bool (x && y)), ⟨hoB 38 a b p x y, cs⟩, []) := by
  cases x <;> cases y <;> kernel_rfl
theorem ho_or (n p : Nat) (a b : AV) (x y : Bool) (cs : List Cell) : ex THo (ev THo (OHo n) 20) 20 true (fHolds_0.drop 4) ⟨hoB 124 a b p x y, cs⟩ = some (.ret (.bool (x || y)), ⟨hoB 124 a b p x y, cs⟩, []) := by
  cases x <;> cases y <;> kernel_rfl
theorem ho_xor (n p : Nat) (a b : AV) (x y : Bool) (cs : List Cell) : ex THo (ev THo (OHo n) 20) 20 true (fHolds_0.drop 4) ⟨hoB 94 a b p x y, cs⟩ = some (.ret (.bool (x != y)), ⟨hoB 94 a b p x y, cs⟩, []) := by
  cases x <;> cases y <;> kernel_rfl
theorem ho_w0 (n p : Nat) (cs : List Cell) : ex THo (ev THo (OHo n) 20) 20 true fHolds_0 ⟨[(116, .lst [.int (.ofNat 0)]), (129, .int (.ofNat p))], cs⟩ = some (.ret (.bool (((Int.ofNat p).fdiv 1).fmod 2 == 1)), ⟨[(116, .lst [.int (.ofNat 0)]), (129, .int (.ofNat p))], cs⟩, [.div (.ofNat p) 1, .nz 2]) := by kernel_rfl
theorem ho_w1 (n p : Nat) (cs : List Cell) : ex THo (ev THo (OHo n) 20) 20 true fHolds_0 ⟨[(116, .lst [.int (.ofNat 1)]), (129, .int (.ofNat p))], cs⟩ = some (.ret (.bool (((Int.ofNat p).fdiv 2).fmod 2 == 1)), ⟨[(116, .lst [.int (.ofNat 1)]), (129, .int (.ofNat p))], cs⟩, [.div (.ofNat p) 2, .nz 2]) := by kernel_rfl
theorem ho_w2 (n p : Nat) (cs : List Cell) : ex THo (ev THo (OHo n) 20) 20 true fHolds_0 ⟨[(116, .lst [.int (.ofNat 2)]), (129, .int (.ofNat p))], cs⟩ = some (.ret (.bool (((Int.ofNat p).fdiv 4).fmod 2 == 1)), ⟨[(116, .lst [.int (.ofNat 2)]), (129, .int (.ofNat p))], cs⟩, [.div (.ofNat p) 4, .nz 2]) := by kernel_rfl
theorem ho_split : fHolds_body = embSs nm (fHolds_0.take 4) ++ embSs nm (fHolds_0.drop 4) := by kernel_rfl
theorem div_eight : ∀ p : Nat, p < 8 → Builtin.divisionGoesByPylong (.ofNat p) 1 = false ∧ Builtin.divisionGoesByPylong (.ofNat p) 2 = false ∧ Builtin.divisionGoesByPylong (.ofNat p) 4 = false := by decide +kernel
theorem div_obs {p k : Nat} (hk : (Int.ofNat k) ≠ 0) (h : Builtin.divisionGoesByPylong (.ofNat p) (.ofNat k) = false) : ∀ o ∈ [Ob.div (.ofNat p) (.ofNat k), .nz 2], o.holds := by
  intro o ho
  rcases List.mem_cons.mp ho with rfl | ho
  · exact ⟨hk, h⟩
  · rcases List.mem_cons.mp ho with rfl | ho
    · show (2 : Int) ≠ 0; decide
    · cases ho
theorem holds_w : ∀ p : Nat, p < 8 → (((Int.ofNat p).fdiv 1).fmod 2 == 1) = (Fm.w 0).holds p ∧ (((Int.ofNat p).fdiv 2).fmod 2 == 1) = (Fm.w 1).holds p ∧ (((Int.ofNat p).fdiv 4).fmod 2 == 1) = (Fm.w 2).holds p := by decide +kernel
theorem holds_ok (w : World) {p : Nat} (hp : p < 8) : ∀ (n : Nat) (f : Fm), f.ok → f.size ≤ 100 → f.depth = n → ∀ cells, CallOK nm w (n + 1) (4 * n + 3) 775 [f.av, .int (.ofNat p)] cells (.bool (f.holds p)) cells := by
  intro n
  induction n using Nat.strongRecOn generalizing p with
  | _ n IH =>
  intro f hok hsz hdp cells
  refine CallOK.of_body (d := n) (u := 4 * n) (fl := .ret (.bool (f.holds p))) (loc := [(116, f.av), (129, .int (.ofNat p))]) (loc' := []) (fHolds_at w) (by kernel_rfl) ?_ (by decide +kernel) rfl rfl rfl ?_
  · intro s W vals hK ha
    cases ha with
    | cons h1 hr => cases hr with
      | cons h2 hr => cases hr with
        | nil => exact ⟨([116, 129].map nm).zip [_, _], BindsTo.of_eq rfl, locs rfl, locOK_zip (ids := [116, 129]) (.cons h1 (.cons h2 .nil)) (by decide)⟩
  · intro X e1 e2 e3 e4 e5 K
    have hT : TbOK nm X THo := mkT_ok K (by rw [e3]; exact ho_loc) (by rw [e3]; exact ho_glob)
    have hO := OHo_ok K (fun p g hp h1 h2 h3 cells => by rw [e1]; exact IH g.depth h3 hp g h1 h2 rfl cells)
    cases f with
    | w k =>
      have hk : k < 3 := hok
      obtain ⟨q0, q1, q2⟩ := holds_w p hp
      obtain ⟨d0, d1, d2⟩ := div_eight p hp
      match k, hk with
      | 0, _ => rw [← q0]; exact (run_ok K hT hO (ho_w0 n p cells) (div_obs (k := 1) (by decide) d0)).forget
      | 1, _ => rw [← q1]; exact (run_ok K hT hO (ho_w1 n p cells) (div_obs (k := 2) (by decide) d1)).forget
      | 2, _ => rw [← q2]; exact (run_ok K hT hO (ho_w2 n p cells) (div_obs (k := 4) (by decide) d2)).forget
    | neg f =>
      simp only [Fm.size] at hsz
      simp only [Fm.depth] at hdp
      have := run_ok K hT hO (ho_neg n p f.av cells) (ob1 ⟨⟨f, hok, by omega, by omega, rfl⟩, hp⟩)
      rw [unF_av] at this
      exact this.forget
    | bin c a b =>
      simp only [Fm.size] at hsz
      simp only [Fm.depth] at hdp
      rw [ho_split]
      have h1 := run_ok K hT hO (ho_bin1 n c p a.av b.av cells) (by
        intro o ho
        simp only [List.mem_cons, List.not_mem_nil, or_false] at ho
        rcases ho with rfl | rfl
        · exact ⟨⟨a, hok.2.1, by omega, by omega, rfl⟩, hp⟩
        · exact ⟨⟨b, hok.2.2, by omega, by omega, rfl⟩, hp⟩)
      rw [unF_av, unF_av] at h1
      refine ExOK.forget (σ' := ⟨hoB c a.av b.av p (a.holds p) (b.holds p), cells⟩) (R_execs_app h1 ?_)
      have hc := hok.1
      simp only [List.mem_cons, List.not_mem_nil, or_false] at hc
      rcases hc with rfl | rfl | rfl
      · exact run_ok K hT hO (ho_and n p a.av b.av _ _ cells) no_obs
      · exact run_ok K hT hO (ho_or n p a.av b.av _ _ cells) no_obs
      · exact run_ok K hT hO (ho_xor n p a.av b.av _ _ cells) no_obs
noncomputable def Wd.wk (W W' : Wd) : Prop := (∀ p ∈ W.imm, iterCls p.2.cls = false → p ∈ W'.imm) ∧ W'.ca = W.ca
theorem Wd.wk.to {W W' : Wd} (h : W.wk W') : W.to W' := ⟨h.1, fun i q e => by rw [h.2]; exact e⟩
noncomputable def Wd.del (W : Wd) (I : Addr) : Wd := { W with imm := W.imm.filter fun p => !(p.1 == I) }
noncomputable def Wd.put (W : Wd) (I : Addr) (o : Obj) : Wd := { W with imm := (I, o) :: (W.del I).imm }
section
variable {X : Cx} {d u : Nat}
theorem nodup_same {l : List (Addr × Obj)} (nd : (l.map (·.1)).Nodup) {p q : Addr × Obj} (hp : p ∈ l) (hq : q ∈ l) (e : p.1 = q.1) : p = q := by
  induction l with
  | nil => cases hp
  | cons r l ih =>
    rw [List.map_cons, List.nodup_cons] at nd
    rcases List.mem_cons.mp hp with rfl | hp' <;> rcases List.mem_cons.mp hq with rfl | hq'
    · rfl
    · exact absurd (e ▸ List.mem_map_of_mem (f := (·.1)) hq') nd.1
    · exact absurd (e ▸ List.mem_map_of_mem (f := (·.1)) hp') nd.1
    · exact ih nd.2 hp' hq'
theorem Wd.wk_del {W : Wd} {I : Addr} {o : Obj} (hm : (I, o) ∈ W.imm) (hi : iterCls o.cls = true) (nd : (W.imm.map (·.1)).Nodup) : W.wk (W.del I) := by
  refine ⟨fun p hp hc => ?_, rfl⟩
  refine List.mem_filter.mpr ⟨hp, ?_⟩
  by_cases q : p.1 = I
  · have := nodup_same nd hp hm q
    subst this
    rw [hi] at hc; cases hc
  · simpa using q
theorem St.turn {W : Wd} {σ : AS} {s : Shared} (S : St nm X W σ s) {I : Addr} {o o' : Obj} (hm : (I, o) ∈ W.imm) (hi : iterCls o.cls = true) {h' : Heap} (hs : Heap.SameBut I s.heap h') (ho' : h'.get? I = some o') (tk : Nat) :
    St nm X (W.put I o') σ { s with heap := h', toks := tk } := by
  obtain ⟨m, objs, F, hL, hc, N, nd⟩ := S
  have ndi : (W.imm.map (·.1)).Nodup := by rw [List.map_append, List.nodup_append] at nd; exact nd.1
  have hz := N _ (List.mem_append_left objs hm)
  have hwk : W.wk (W.put I o') := ⟨fun p hp hc => List.mem_cons_of_mem _ ((Wd.wk_del hm hi ndi).1 p hp hc), rfl⟩
  have hne : ∀ p ∈ (W.del I).imm ++ objs, p.1 ≠ I ∧ p ∈ W.imm ++ objs := by
    intro p hp
    rcases List.mem_append.mp hp with q | q
    · have := List.mem_filter.mp q
      exact ⟨by simpa using this.2, List.mem_append_left _ this.1⟩
    · refine ⟨fun e => ?_, List.mem_append_right _ q⟩
      rw [List.map_append, List.nodup_append] at nd
      exact nd.2.2 I (List.mem_map_of_mem (f := (·.1)) hm) p.1 (List.mem_map_of_mem (f := (·.1)) q) e.symm
  refine ⟨m, objs, F.change hs hz.2.1 hz.2.2, hL.to hwk.to, hc.to hwk.to, ?_, ?_⟩
  · intro p hp
    rcases List.mem_cons.mp hp with rfl | q
    · exact ⟨ho', hz.2.1, hz.2.2⟩
    · obtain ⟨h1, h2⟩ := hne p q
      have := N p h2
      exact ⟨(hs.2 p.1 h1).trans this.1, this.2⟩
  · show (((I, o') :: ((W.del I).imm ++ objs)).map (·.1)).Nodup
    rw [List.map_cons, List.nodup_cons]
    refine ⟨fun h => ?_, ?_⟩
    · obtain ⟨p, hp, e⟩ := List.mem_map.mp h
      exact (hne p hp).1 e
    · have : List.Sublist ((W.del I).imm ++ objs) (W.imm ++ objs) := List.Sublist.append (List.filter_sublist) (List.Sublist.refl _)
      exact List.Nodup.sublist (this.map _) nd
theorem St.gone {W : Wd} {σ : AS} {s : Shared} (S : St nm X W σ s) {I : Addr} {o : Obj} (hm : (I, o) ∈ W.imm) (hi : iterCls o.cls = true) {h' : Heap} (hs : Heap.ExtBut I s.heap h') (tk : Nat) :
    St nm X (W.del I) σ { s with heap := h', toks := tk } := by
  obtain ⟨m, objs, F, hL, hc, N, nd⟩ := S
  have ndi : (W.imm.map (·.1)).Nodup := by rw [List.map_append, List.nodup_append] at nd; exact nd.1
  have hz := N _ (List.mem_append_left objs hm)
  have hwk : W.wk (W.del I) := Wd.wk_del hm hi ndi
  have hne : ∀ p ∈ (W.del I).imm ++ objs, p.1 ≠ I ∧ p ∈ W.imm ++ objs := by
    intro p hp
    rcases List.mem_append.mp hp with q | q
    · have := List.mem_filter.mp q
      exact ⟨by simpa using this.2, List.mem_append_left _ this.1⟩
    · refine ⟨fun e => ?_, List.mem_append_right _ q⟩
      rw [List.map_append, List.nodup_append] at nd
      exact nd.2.2 I (List.mem_map_of_mem (f := (·.1)) hm) p.1 (List.mem_map_of_mem (f := (·.1)) q) e.symm
  refine ⟨m, objs, ?_, hL.to hwk.to, hc.to hwk.to, ?_, ?_⟩
  · obtain ⟨oL, a1, a2, hgL, a3⟩ := F.ns
    refine ⟨⟨oL, a1, a2, hs _ _ (fun e => hz.2.1 e.symm) hgL, a3⟩, fun b o e => ?_, F.above⟩
    refine hs _ _ (fun q => ?_) (F.keep b o e)
    subst q
    rw [hz.2.2] at e; cases e
  · intro p hp
    obtain ⟨h1, h2⟩ := hne p hp
    have := N p h2
    exact ⟨hs _ _ h1 this.1, this.2⟩
  · have : List.Sublist ((W.del I).imm ++ objs) (W.imm ++ objs) := List.Sublist.append (List.filter_sublist) (List.Sublist.refl _)
    exact List.Nodup.sublist (this.map _) nd
noncomputable def FoR (X : Cx) (x : Nat) (body : List Stmt) : List AV → AS → AS → Prop
  | [], σ, σ' => σ' = σ
  | a :: l, σ, σ' => ∃ σ₁, ExOK nm X (execs body X.env) ⟨putF x a σ.loc, σ.cells⟩ .next σ₁ ∧ FoR X x body l σ₁ σ'
theorem FoR.cut {x : Nat} {body : List Stmt} : ∀ {l : List AV} {σ σ' : AS}, FoR X x body l σ σ' → True := fun _ => trivial
theorem for_core {x : Nat} {px : Pos} {I : Addr} {body : List Stmt} (K : CxOK X d u) (hx : X.env.kindOf (nm x) = some .local) {l : List AV} {W₀ : Wd} (hI : ∀ p ∈ W₀.imm, p.1 ≠ I) (P : Nat → Obj → Prop) (hcls : ∀ i o, P i o → iterCls o.cls = true)
    (item : ∀ i a s W σ o, l[i]? = some a → St nm X W σ s → W₀.le W → (I, o) ∈ W.imm → P i o → ∀ (Q : Option Value → Shared → Prop) (E : Value → Shared → Prop), (∀ v h' o' tk, Heap.SameBut I s.heap h' → h'.get? I = some o' → P (i + 1) o' → RelV W a v → Q (some v) { s with heap := h', toks := tk }) → wpAny (model prg X.w) X.A (pyNext (.ref I)) Q E s)
    (fin : ∀ s W σ o, St nm X W σ s → W₀.le W → (I, o) ∈ W.imm → P l.length o → ∀ (Q : Option Value → Shared → Prop) (E : Value → Shared → Prop), (∀ h', Heap.ExtBut I s.heap h' → Q none { s with heap := h' }) → wpAny (model prg X.w) X.A (pyNext (.ref I)) Q E s)
    {σ σ' : AS} {s : Shared} {W₁ : Wd} (S : St nm X W₁ σ s) (hw : W₀.le W₁) {o : Obj} (hm : (I, o) ∈ W₁.imm) (hP : P 0 o) (hf : FoR X x body l σ σ') {R : Result → Shared → Prop}
    (hR : ∀ W' h' tk', W₀.le W' → St nm X W' σ' { s with heap := h', toks := tk' } → R (.ok .next) { s with heap := h', toks := tk' }) :
    codeAny (model prg X.w) X.A (.forLoop (.Name (nm x) px) (.ref I) body [] X.env) R s := by
  have leput : ∀ {W : Wd} {o' : Obj}, W₀.le W → W₀.le (W.put I o') := fun {W o'} h => ⟨fun p hp => List.mem_cons_of_mem _ (List.mem_filter.mpr ⟨h.1 p hp, by simpa using hI p hp⟩), h.2⟩
  have ledel : ∀ {W : Wd}, W₀.le W → W₀.le (W.del I) := fun {W} h => ⟨fun p hp => (List.mem_filter.mpr ⟨h.1 p hp, by simpa using hI p hp⟩), h.2⟩
  refine codeAny_forLoop (fun n s' => ∃ h' tk W σ₁ i o, s' = { s with heap := h', toks := tk } ∧ St nm X W σ₁ { s with heap := h', toks := tk } ∧ W₀.le W ∧ (I, o) ∈ W.imm ∧ P i o ∧ FoR X x body (l.drop i) σ₁ σ' ∧ i ≤ l.length ∧ n = l.length + 1 - i) ?_ (l.length + 1) ⟨s.heap, s.toks, W₁, σ, 0, o, rfl, S, hw, hm, hP, hf, Nat.zero_le _, rfl⟩
  rintro n s' ⟨h', tk, W, σ₁, i, o, rfl, S₁, hw₁, hm₁, hP₁, hf₁, hi, rfl⟩
  cases hv : l[i]? with
  | none =>
    have hil : i = l.length := Nat.le_antisymm hi (by simpa using hv)
    subst hil
    refine fin _ W σ₁ o S₁ hw₁ hm₁ hP₁ _ _ fun h₂ he => ?_
    rw [List.drop_length] at hf₁
    have e : σ' = σ₁ := hf₁
    subst e
    exact wpAny_execs_nil (hR _ _ _ (ledel hw₁) (S₁.gone hm₁ (hcls _ _ hP₁) he tk))
  | some a =>
    have hlt : i < l.length := by
      rcases Nat.lt_or_ge i l.length with q | q
      · exact q
      · rw [List.getElem?_eq_none q] at hv; cases hv
    have hdr : l.drop i = a :: l.drop (i + 1) := by
      rw [List.drop_eq_getElem_cons hlt]
      have : l[i] = a := by rw [List.getElem?_eq_getElem hlt] at hv; exact Option.some.inj hv
      rw [this]
    rw [hdr] at hf₁
    obtain ⟨σ₂, hb, hf₂⟩ := hf₁
    refine item i a _ W σ₁ o hv S₁ hw₁ hm₁ hP₁ _ _ fun v h₂ o' tk₂ hs ho' hP' hv' => ?_
    have S₂ := S₁.turn hm₁ (hcls _ _ hP₁) hs ho' tk₂
    have ndi : (W.imm.map (·.1)).Nodup := by
      obtain ⟨_, objs, _, _, _, _, nd⟩ := S₁
      rw [List.map_append, List.nodup_append] at nd; exact nd.1
    have hwk : W.wk (W.put I o') := ⟨fun p hp hc => List.mem_cons_of_mem _ ((Wd.wk_del hm₁ (hcls _ _ hP₁) ndi).1 p hp hc), rfl⟩
    refine wpAny_assign_Name (S₂.store nm_inj K hx (hv'.to hwk.to) fun h₃ S₃ => ?_)
    refine hb _ _ S₃ _ _ fun fl W₄ h₄ tk₄ hw₄ hfl S₄ => ?_
    cases hfl
    exact ⟨l.length + 1 - (i + 1), by omega, h₄, tk₄, W₄, σ₂, i + 1, o', rfl, S₄, Wd.le_trans (leput hw₁) hw₄, hw₄.1 _ (.head _), hP', hf₂, hlt, rfl⟩
theorem fresh_imm {W : Wd} {σ : AS} {s : Shared} (S : St nm X W σ s) : ∀ p ∈ W.imm, p.1 ≠ s.heap.objs.size := by
  intro p hp e
  have := Heap.lt_size (S.imm hp)
  rw [e] at this
  exact Nat.lt_irrefl _ this
noncomputable abbrev litObj (a : Addr) : Obj := { cls := .type "list_iterator", data := .fields #[.ref a, .int 0 0] }
theorem R_for (K : CxOK X d u) {x : Nat} {px p : Pos} {it : PE} {body : List Stmt} {σ σ₁ σ' : AS} {l : List AV} (hx : X.env.kindOf (nm x) = some .local) (hs : ∀ v, foldedSetIterable (emb nm it) X.env v = pure v)
    (he : EvOK nm X (eval (emb nm it) X.env) σ (.lst l) σ₁) (h : FoR X x body l σ₁ σ') : ExOK nm X (exec (.For (.Name (nm x) px) (emb nm it) body [] p) X.env) σ .next σ' := by
  intro s W S Q E hQ
  refine wpAny_For ?_ hs
  refine he s W S _ _ fun v W₁ h₁ tk₁ hw₁ hv S₁ => ?_
  cases hv with
  | @lst _ ax vs n hm hz hr =>
    have hL := isList_of (S₁.imm hm)
    obtain ⟨m₁, objs₁, F₁, _, _, N₁, _⟩ := id S₁
    refine wpAny_pyIter_list hL ?_
    have A := S₁.alloc (m := m₁) (o := litObj ax) (h' := h₁.push (litObj ax)) rfl (fun F => F.push _) (fun N => N.push F₁ _ rfl) tk₁
    refine for_core (W₀ := W₁) (l := l) K hx (fresh_imm S₁) (fun i o => o.cls = .type "list_iterator" ∧ o.data = .fields #[.ref ax, .int i 0]) (fun i o ho => by rw [ho.1]; rfl) ?_ ?_ A.2 A.1 (.head _) ⟨rfl, rfl⟩ h ?_
    · intro i a s' W' σ'' o hia S' hw' hmo hPo Q' E' hq
      have hL' := isList_of (S'.imm (hw'.1 _ hm))
      obtain ⟨w, hw, hrv⟩ := hr.get hia
      refine wpAny_pyNext_list_item (i := i) ⟨o, S'.imm hmo, hPo.1, hPo.2⟩ hL' (x := w) (by simpa using hw) fun h₂ hit hsb => ?_
      obtain ⟨o', ho', hc', hd'⟩ := hit
      exact hq w h₂ o' s'.toks hsb ho' ⟨hc', hd'⟩ (hrv.mono hw')
    · intro s' W' σ'' o S' hw' hmo hPo Q' E' hq
      have hL' := isList_of (S'.imm (hw'.1 _ hm))
      have hlen := hr.length
      exact wpAny_pyNext_list_end K.hand (i := l.length) ⟨o, S'.imm hmo, hPo.1, hPo.2⟩ hL' (by simp [hlen]) hq
    · intro W' h' tk' hw' S'
      exact hQ .next W' h' tk' (Wd.le_trans hw₁ hw') .next S'
noncomputable abbrev ritObj (n : Nat) : Obj := { cls := .type "range_iterator", data := .fields #[rawInt 0, rawInt n, rawInt 1] }
noncomputable def upTo (n : Nat) : List AV := (List.range n).map fun (i : Nat) => .int (.ofNat i)
theorem rng_size (n : Nat) : Builtin.Range.rangeSize 0 n 1 = n := by
  unfold Builtin.Range.rangeSize
  simp
  omega
theorem rng_small {n : Nat} (hn : n ≤ 16777216) : Builtin.Range.small 0 n 1 = true := by
  unfold Builtin.Range.small
  rw [rng_size]
  unfold Builtin.Range.rangeFitsLong
  simp
  omega
theorem R_forR (K : CxOK X d u) {x : Nat} {px p : Pos} {it : PE} {body : List Stmt} {σ σ₁ σ' : AS} {n : Nat} (hn : n ≤ 16777216) (hx : X.env.kindOf (nm x) = some .local) (hs : ∀ v, foldedSetIterable (emb nm it) X.env v = pure v)
    (he : EvOK nm X (eval (emb nm it) X.env) σ (.rng n) σ₁) (h : FoR X x body (upTo n) σ₁ σ') : ExOK nm X (exec (.For (.Name (nm x) px) (emb nm it) body [] p) X.env) σ .next σ' := by
  intro s W S Q E hQ
  refine wpAny_For ?_ hs
  refine he s W S _ _ fun v W₁ h₁ tk₁ hw₁ hv S₁ => ?_
  cases hv with
  | @rng _ ax t u v hm =>
    have hR : IsRange h₁ ax 0 n 1 t u v := S₁.imm hm
    obtain ⟨m₁, objs₁, F₁, _, _, N₁, _⟩ := id S₁
    refine wpAny_pyIter_range hR (rng_small hn) ?_
    rw [rng_size]
    have A := S₁.alloc (m := m₁) (o := ritObj n) (h' := h₁.push (ritObj n)) rfl (fun F => F.push _) (fun N => N.push F₁ _ rfl) tk₁
    refine for_core (W₀ := W₁) (l := upTo n) K hx (fresh_imm S₁) (fun i o => o = { cls := .type "range_iterator", dict := none, data := .fields #[rawInt (i : Nat), rawInt ((n : Int) - (i : Nat)), rawInt 1], slots := #[] }) (fun i o ho => by rw [ho]; rfl) ?_ ?_ A.2 A.1 (.head _) (by simp) h ?_
    · intro i a s' W' σ'' o hia S' hw' hmo hPo Q' E' hq
      subst hPo
      have hi : i < n := by
        unfold upTo at hia
        rcases Nat.lt_or_ge i n with q | q
        · exact q
        · rw [List.getElem?_eq_none (by simpa using q)] at hia; cases hia
      have ea : a = .int (.ofNat i) := by
        unfold upTo at hia
        rw [List.getElem?_map, List.getElem?_range hi] at hia
        exact (Option.some.inj hia).symm
      subst ea
      refine wpAny_pyNext_range_item (S'.imm hmo) (by omega) fun h₂ hit hsb => ?_
      refine hq _ h₂ _ _ hsb hit ?_ (.int _ _)
      have e2 : (n : Int) - ((i + 1 : Nat) : Int) = (n : Int) - (i : Int) - 1 := by omega
      rw [e2]; rfl
    · intro s' W' σ'' o S' hw' hmo hPo Q' E' hq
      subst hPo
      have hlen : (upTo n).length = n := by simp [upTo]
      refine wpAny_pyNext_range_end K.hand (S'.imm hmo) (by rw [hlen]; omega) hq
    · intro W' h' tk' hw' S'
      exact hQ .next W' h' tk' (Wd.le_trans hw₁ hw') .next S'
end
section
variable {X : Cx} {d u : Nat}
theorem ExOK.sub {t : Sem Flow} {σ σ' : AS} {r : AFl} {loc' : List (Nat × AV)} (h : ExOK nm X t σ r σ') (hs : ∀ p ∈ loc', σ'.loc.lookup p.1 = some p.2) : ExOK nm X t σ r ⟨loc', σ'.cells⟩ := by
  intro s W S Q E hQ
  refine h s W S Q E fun fl W' h' tk' hw hf S' => hQ fl W' h' tk' hw hf ?_
  obtain ⟨m, objs, F, hL, hcs, N, nd⟩ := S'
  exact ⟨m, objs, F, (fun i a e => hL i a (hs _ (lookup_mem e))), hcs, N, nd⟩
theorem St.cellNew {W : Wd} {σ : AS} {s : Shared} (S : St nm X W σ s) {o : Obj} {c : Cell} {h' : Heap} (F' : ∀ {m}, Fr X.h₀ X.L s.heap m → Fr X.h₀ X.L h' m)
    (N' : ∀ {news}, News X.h₀ X.L s.heap news → News X.h₀ X.L h' ((s.heap.objs.size, o) :: news)) (hc : ∀ W' : Wd, W.le W' → CellIs nm W' s.heap.objs.size s.heap.objs.size c [(s.heap.objs.size, o)]) (tk : Nat) :
    W.le { W with ca := W.ca ++ [(s.heap.objs.size, s.heap.objs.size)] } ∧ St nm X { W with ca := W.ca ++ [(s.heap.objs.size, s.heap.objs.size)] } ⟨σ.loc, σ.cells ++ [c]⟩ { s with heap := h', toks := tk } := by
  obtain ⟨m, objs, F, hL, hcs, N, nd⟩ := S
  have hw : W.le { W with ca := W.ca ++ [(s.heap.objs.size, s.heap.objs.size)] } := ⟨fun p hp => hp, _, rfl⟩
  refine ⟨hw, m, objs ++ [(s.heap.objs.size, o)], F' F, hL.mono hw, (hcs.mono hw).push (hc _ hw), ?_, ?_⟩
  · have := N' N
    intro p hp
    apply this
    simp only [List.mem_append, List.mem_cons, List.not_mem_nil, or_false] at hp ⊢
    rcases hp with h | h | h
    · exact .inr (.inl h)
    · exact .inr (.inr h)
    · exact .inl h
  · show ((W.imm ++ (objs ++ [(s.heap.objs.size, o)])).map (·.1)).Nodup
    rw [← List.append_assoc, List.map_append, List.nodup_append]
    refine ⟨nd, by simp, ?_⟩
    intro a ha b hb e
    simp only [List.map_cons, List.map_nil, List.mem_cons, List.not_mem_nil, or_false] at hb
    obtain ⟨p, hp, rfl⟩ := List.mem_map.mp ha
    have := Heap.lt_size (N p hp).1
    rw [e, hb] at this
    exact Nat.lt_irrefl _ this
theorem R_newlist (K : CxOK X d u) {T : Tb} (hT : TbOK nm X T) {p : Pos} {σ : AS} : EvOK nm X (eval (emb nm (.list .nil p)) X.env) σ (.cell σ.cells.length) ⟨σ.loc, σ.cells ++ [.list []]⟩ := by
  intro s W S Q E hQ
  obtain ⟨l, hl, _, _, _, hvs⟩ := ev_sound K hT (noO_ok (d := d) (u := u)) 1 .args .nil σ (.lst []) σ [] rfl no_obs
  cases hl
  refine List_ (hvs p s W S _ _ fun vs W₁ h₁ tk₁ hw₁ hvs S₁ => ?_)
  cases hvs
  obtain ⟨m, objs, F, hL, hcs, N, nd⟩ := id S₁
  have A := S₁.cellNew (o := PySem.W.listOf #[] 0) (c := .list []) (h' := h₁.push (PySem.W.listOf #[] 0)) (fun F => F.push _) (fun N => N.push F _ rfl) (fun W' _ => .list (vs := []) (by decide) .nil) tk₁
  refine wpAny_newObj_type ?_ (by show (#[] : Array Value).size ≤ sizeLine; decide)
  have hlen := hcs.length
  refine hQ _ _ _ tk₁ (Wd.le_trans hw₁ A.1) (.cell (d := h₁.objs.size) ?_) A.2
  show (W₁.ca ++ [(h₁.objs.size, h₁.objs.size)])[σ.cells.length]? = _
  rw [← hlen]
  simp
theorem R_letlist (K : CxOK X d u) {T : Tb} (hT : TbOK nm X T) {i : Nat} {ip p' p : Pos} {σ : AS} (hl : T.loc i = true) : ExOK nm X (exec (embS nm (.assign i ip (.list .nil p') p)) X.env) σ .next ⟨putF i (.cell σ.cells.length) σ.loc, σ.cells ++ [.list []]⟩ :=
  R_assign nm_inj K rfl (hT.loc i hl) (R_newlist K hT)
theorem range_ok {σ : AS} {n : Nat} : FnOK nm X (.type "range") [.int (.ofNat n)] σ (.rng n) σ := by
  intro s W vals S hv Q E hQ
  cases hv with
  | cons h1 hr => cases hr with
    | nil => cases h1 with
      | int i t =>
        obtain ⟨m, objs, F, hL, hcs, N, nd⟩ := id S
        have A := S.alloc (m := m) (o := rngObj n s.toks t (s.toks + 1)) (h' := s.heap.push (rngObj n s.toks t (s.toks + 1))) rfl (fun F => F.push _) (fun N => N.push F _ rfl) (s.toks + 1 + 1)
        exact call_range_1 (hQ _ _ _ _ A.1 (.rng (.head _)) A.2)
end
mutual
inductive AV.Pure : AV → Prop
  | none : AV.Pure .none
  | bool (b : Bool) : AV.Pure (.bool b)
  | int (i : Int) : AV.Pure (.int i)
  | str (l : List Nat) : AV.Pure (.str l)
  | lst {l : List AV} : AV.Pures l → AV.Pure (.lst l)
inductive AV.Pures : List AV → Prop
  | nil : AV.Pures []
  | cons {a : AV} {l : List AV} : AV.Pure a → AV.Pures l → AV.Pures (a :: l)
end
theorem AV.Pure.of_lst {l : List AV} (h : AV.Pure (.lst l)) : AV.Pures l := by
  cases h; assumption
theorem AV.Pures.hd {a : AV} {l : List AV} (h : AV.Pures (a :: l)) : a.Pure := by
  cases h; assumption
theorem AV.Pures.tl {a : AV} {l : List AV} (h : AV.Pures (a :: l)) : AV.Pures l := by
  cases h; assumption
theorem RelV.moved {W W' : Wd} (hw : ∀ p ∈ W.imm, p ∈ W'.imm) {a : AV} {v : Value} (h : RelV W a v) : a.Pure → RelV W' a v :=
  RelV.rec (motive_1 := fun a v _ => a.Pure → RelV W' a v) (motive_2 := fun l vs _ => AV.Pures l → RelVs W' l vs) (fun _ => .none) (fun b _ => .bool b) (fun i t _ => .int i t) (fun l t h _ => .str l t h) (fun v _ => .val v)
    (fun _ h => nomatch h) (fun hm hl _ ih h => .lst (hw _ hm) hl (ih h.of_lst)) (fun _ _ _ _ h => nomatch h)
    (fun _ _ h => nomatch h) (fun _ h => nomatch h) (fun _ _ _ h => nomatch h) (fun _ => .nil) (fun _ _ h t p => .cons (h p.hd) (t p.tl)) h
theorem RelVs.moved {W W' : Wd} (hw : ∀ p ∈ W.imm, p ∈ W'.imm) {l : List AV} {vs : List Value} (h : RelVs W l vs) : AV.Pures l → RelVs W' l vs := by
  induction l generalizing vs with
  | nil => intro _; cases h; exact .nil
  | cons a l ih =>
    intro p
    cases h with
    | cons h t => exact .cons (RelV.moved hw h p.hd) (ih t p.tl)
theorem Pures.append : ∀ {l l' : List AV}, AV.Pures l → AV.Pures l' → AV.Pures (l ++ l')
  | _, _, .nil, h => h
  | _, _, .cons h t, h' => .cons h (Pures.append t h')
theorem Pures.reverse : ∀ {l : List AV}, AV.Pures l → AV.Pures l.reverse
  | _, .nil => .nil
  | _, .cons h t => by rw [List.reverse_cons]; exact Pures.append (Pures.reverse t) (.cons h .nil)
theorem ca_nil {W : Wd} {h₀ h : Heap} (hp : HpOK nm h₀ W [] h) : W.ca = [] := by
  obtain ⟨_, _, objs, hc, _, _⟩ := hp
  cases hW : W.ca with
  | nil => rfl
  | cons q r => rw [hW] at hc; cases hc
theorem CallOK.clean {w : World} {dn un : Nat} {f : Addr} {args : List AV} {r : AV} {cells' : List Cell} (hr : r.Pure) (h : CallOK nm w dn un f args [] r cells') : CallOK nm w dn un f args [] r [] := by
  intro A h₀ s W vals hK hT hd hu hH hp ha R hR
  refine h A h₀ s W vals hK hT hd hu hH hp ha R fun v W' h' tk' hw hv hp' => ?_
  have e := ca_nil hp
  obtain ⟨k1, k2, objs, hc, hpp, nd⟩ := hp'
  refine hR v { imm := W'.imm, ca := [] } h' tk' ⟨hw.1, [], by rw [e]; rfl⟩ (RelV.moved (W := W') (W' := { imm := W'.imm, ca := [] }) (fun _ h => h) hv hr) ⟨k1, k2, [], .nil, fun p hp => ?_, ?_⟩
  · rw [List.append_nil] at hp
    exact hpp p (List.mem_append_left _ hp)
  · rw [List.append_nil]
    rw [List.map_append, List.nodup_append] at nd
    exact nd.1
theorem CellsAre.mem {W : Wd} {ca : List (Addr × Addr)} {cs : List Cell} {os : List (Addr × Obj)} (h : CellsAre nm W ca cs os) {i : Nat} {c : Cell} (e : cs[i]? = some c) : ∃ a d o, ca[i]? = some (a, d) ∧ CellIs nm W a d c o ∧ ∀ p ∈ o, p ∈ os := by
  obtain ⟨a, d, pre, o, post, e1, e2, e3, _⟩ := h.split e
  exact ⟨a, d, o, e1, e3, fun p hp => by rw [e2]; simp [hp]⟩
theorem CallOK.freeze {w : World} {dn un : Nat} {f : Addr} {args : List AV} {i j : Nat} {li lj : List AV} {cells' : List Cell} (hi : cells'[i]? = some (.list li)) (hj : cells'[j]? = some (.list lj)) (pi : AV.Pures li) (pj : AV.Pures lj)
    (h : CallOK nm w dn un f args [] (.lst [.cell i, .cell j]) cells') : CallOK nm w dn un f args [] (.lst [.lst li.reverse, .lst lj.reverse]) [] := by
  intro A h₀ s W vals hK hT hd hu hH hp ha R hR
  refine h A h₀ s W vals hK hT hd hu hH hp ha R fun v W' h' tk' hw hv hp' => ?_
  have e := ca_nil hp
  obtain ⟨k1, k2, objs, hc, hpp, nd⟩ := hp'
  refine hR v { imm := W'.imm ++ objs, ca := [] } h' tk' ⟨fun p hp => List.mem_append_left _ (hw.1 p hp), [], by rw [e]; rfl⟩ ?_ ⟨k1, k2, [], .nil, fun p hp => ?_, ?_⟩
  · have key : ∀ {k : Nat} {l : List AV} {v : Value}, cells'[k]? = some (.list l) → AV.Pures l → RelV W' (.cell k) v → RelV { imm := W'.imm ++ objs, ca := [] } (.lst l.reverse) v := by
      intro k l v hk pl hv
      obtain ⟨a, d, o, e1, e2, e3⟩ := hc.mem hk
      cases hv with
      | cell hca =>
        rw [hca] at e1
        cases e1
        cases e2 with
        | list hz hs =>
          refine .lst (List.mem_append_right _ (e3 _ (.head _))) (by rw [List.length_reverse]; exact hz) ?_
          exact RelVs.moved (fun p hp => List.mem_append_left _ hp) hs.reverse (Pures.reverse pl)
    cases hv with
    | lst hm hl hs =>
      cases hs with
      | cons h1 hs => cases hs with
        | cons h2 hs => cases hs with
          | nil => exact .lst (List.mem_append_left _ hm) hl (.cons (key hi pi h1) (.cons (key hj pj h2) .nil))
  · rw [List.append_nil] at hp
    exact hpp p hp
  · rw [List.append_nil]
    exact nd
noncomputable abbrev TTx : Tb := mkT fText_locs fText_globs
theorem tx_loc : (fText_locs.all fun i => fText_scope.names.lookup (nm i) == some .local) = true := by kernel_rfl
theorem tx_glob : (fText_globs.all fun i => fText_scope.names.lookup (nm i) == some .globalImplicit) = true := by kernel_rfl
noncomputable def nsA (ns : List Nat) : List AV := ns.map fun n => .int (.ofNat n)
noncomputable abbrev txK : PE := .bin (.loc 125 ⟨754,22,754,23⟩) .Mod (.callN 2 ⟨754,26,754,29⟩ (.cons (.loc 108 ⟨754,30,754,37⟩) .nil) ⟨754,26,754,38⟩) ⟨754,22,754,38⟩
noncomputable abbrev txN : PE := .sub (.loc 108 ⟨754,14,754,21⟩) txK ⟨754,14,754,39⟩
noncomputable abbrev txG : PE := .bin (.bin txN .FloorDiv (.cint (8) 0 ⟨754,43,754,44⟩) ⟨754,14,754,44⟩) .Mod (.cint (4) 0 ⟨754,47,754,48⟩) ⟨754,14,754,48⟩
noncomputable abbrev txI : PE := .sub (.loc 123 ⟨755,22,755,27⟩) (.loc 125 ⟨755,28,755,29⟩) ⟨755,22,755,30⟩
noncomputable abbrev txL : PE := .sub (.list (.cons (.cstr 15 0 ⟨755,34,755,36⟩) (.cons (.cstr 63 0 ⟨755,38,755,41⟩) (.cons (.cstr 21 0 ⟨755,43,755,47⟩) (.cons (.cstr 128 0 ⟨755,49,755,63⟩) .nil)))) ⟨755,33,755,64⟩) (.loc 127 ⟨755,65,755,68⟩) ⟨755,33,755,69⟩
noncomputable abbrev txT : PE := .bin (.bin (.loc 124 ⟨755,15,755,19⟩) .Add txI ⟨755,15,755,30⟩) .Add txL ⟨755,15,755,69⟩
theorem tx_body : fText_0B = [embS nm (.assign 127 ⟨754,8,754,11⟩ txG ⟨754,8,754,48⟩), embS nm (.assign 124 ⟨755,8,755,12⟩ txT ⟨755,8,755,69⟩)] := rfl
noncomputable abbrev txA (its ns : List AV) (t : List Nat) : List (Nat × AV) := [(123, .lst its), (108, .lst ns), (124, .str t)]
noncomputable abbrev txB (its ns : List AV) (t : List Nat) (k : Nat) : List (Nat × AV) := [(123, .lst its), (108, .lst ns), (124, .str t), (125, .int (.ofNat k))]
noncomputable abbrev txC (its ns : List AV) (t : List Nat) (k g : Nat) : List (Nat × AV) := [(123, .lst its), (108, .lst ns), (124, .str t), (125, .int (.ofNat k)), (127, .int (.ofNat g))]
theorem fmod_nat (a b : Nat) : (Int.ofNat a).fmod (Int.ofNat b) = Int.ofNat (a % b) := by
  show (a : Int).fmod (b : Int) = _
  rw [Int.fmod_eq_emod_of_nonneg _ (Int.natCast_nonneg b)]; rfl
theorem fdiv_nat (a b : Nat) : (Int.ofNat a).fdiv (Int.ofNat b) = Int.ofNat (a / b) := by
  show (a : Int).fdiv (b : Int) = _
  rw [Int.fdiv_eq_ediv_of_nonneg _ (Int.natCast_nonneg b)]; rfl
section
variable {X : Cx} {d u : Nat} (K : CxOK X d u) (hT : TbOK nm X TTx)
include K hT
theorem tx_turn {its ns : List AV} {t : List Nat} {k n : Nat} {i : List Nat} {cs : List Cell} (hns : ns ≠ []) (hn : ns[k % ns.length]? = some (.int (.ofNat n))) (h96 : n < 96) (hi : its[k]? = some (.str i)) (hk : k < 16777216) (hz : ns.length ≤ 16777216) (ht : t.length + i.length + 11 ≤ 16777216) :
    ExOK nm X (execs fText_0B X.env) ⟨txB its ns t k, cs⟩ .next ⟨txA its ns (t ++ i ++ gapT (n / 8 % 4)), cs⟩ := by
  have hO := noO_ok (X := X) (d := d) (u := u) (T := TTx)
  have hlen : 0 < ns.length := List.length_pos_iff.mpr hns
  have h1 : EvOK nm X (eval (emb nm txK) X.env) ⟨txB its ns t k, cs⟩ (.int (.ofNat (k % ns.length))) ⟨txB its ns t k, cs⟩ := by
    have := val_ok (n := 9) (t := txK) (σ := ⟨txB its ns t k, cs⟩) (σ' := ⟨txB its ns t k, cs⟩) (r := .int ((Int.ofNat k).fmod (Int.ofNat ns.length))) K hT hO (os := [.nz (Int.ofNat ns.length)]) (by kernel_rfl) (ob1 (by show (Int.ofNat ns.length) ≠ 0; intro e; have : (ns.length : Int) = 0 := e; omega))
    rw [fmod_nat] at this
    exact this
  have hlt : k % ns.length < 16777216 := Nat.lt_of_lt_of_le (Nat.mod_lt _ hlen) hz
  have h2 : EvOK nm X (eval (emb nm txN) X.env) ⟨txB its ns t k, cs⟩ (.int (.ofNat n)) ⟨txB its ns t k, cs⟩ :=
    R_sub (a := .lst ns) rfl (val_ok (n := 9) (t := .loc 108 ⟨754,14,754,21⟩) (σ := ⟨txB its ns t k, cs⟩) (σ' := ⟨txB its ns t k, cs⟩) K hT hO (os := []) (by kernel_rfl) no_obs) h1 (by show grd (Nat.blt (k % ns.length) 16777216) ns[k % ns.length]? = _; rw [show Nat.blt (k % ns.length) 16777216 = true from Nat.ble_eq_true_of_le hlt, hn]; rfl)
  have h3 := R_bin (op := .FloorDiv) (p := ⟨754,14,754,44⟩) h2 (val_ok (n := 9) (t := .cint (8) 0 ⟨754,43,754,44⟩) (σ := ⟨txB its ns t k, cs⟩) (σ' := ⟨txB its ns t k, cs⟩) (r := .int 8) K hT hO (os := []) (by kernel_rfl) no_obs) (binO_ok (c := .int ((Int.ofNat n).fdiv (Int.ofNat 8))) (os := [.div (.ofNat n) 8]) rfl (ob1 ⟨by decide, PyProof.noPylong_small (by omega)⟩) _)
  rw [fdiv_nat] at h3
  have h4 : EvOK nm X (eval (emb nm txG) X.env) ⟨txB its ns t k, cs⟩ _ ⟨txB its ns t k, cs⟩ := R_bin (op := .Mod) (p := ⟨754,14,754,48⟩) h3 (val_ok (n := 9) (t := .cint (4) 0 ⟨754,47,754,48⟩) (σ := ⟨txB its ns t k, cs⟩) (σ' := ⟨txB its ns t k, cs⟩) (r := .int 4) K hT hO (os := []) (by kernel_rfl) no_obs) (binO_ok (c := .int ((Int.ofNat (n / 8)).fmod (Int.ofNat 4))) (os := [.nz 4]) rfl (ob1 (by show (4 : Int) ≠ 0; decide)) _)
  rw [fmod_nat] at h4
  rw [tx_body]
  refine R_execs_next (σ₁ := ⟨txC its ns t k (n / 8 % 4), cs⟩) (R_assign nm_inj K rfl (hT.loc 127 (by kernel_rfl)) h4) ?_
  have g4 : n / 8 % 4 < 4 := Nat.mod_lt _ (by decide)
  generalize n / 8 % 4 = g at g4
  have k1 : EvOK nm X (eval (emb nm txI) X.env) ⟨txC its ns t k g, cs⟩ (.str i) ⟨txC its ns t k g, cs⟩ :=
    R_sub (a := .lst its) (b := .int (.ofNat k)) rfl (val_ok (n := 9) (t := .loc 123 ⟨755,22,755,27⟩) (σ := ⟨txC its ns t k g, cs⟩) (σ' := ⟨txC its ns t k g, cs⟩) K hT hO (os := []) (by kernel_rfl) no_obs) (val_ok (n := 9) (t := .loc 125 ⟨755,28,755,29⟩) (σ := ⟨txC its ns t k g, cs⟩) (σ' := ⟨txC its ns t k g, cs⟩) K hT hO (os := []) (by kernel_rfl) no_obs) (by show grd (Nat.blt k 16777216) its[k]? = _; rw [show Nat.blt k 16777216 = true from Nat.ble_eq_true_of_le hk, hi]; rfl)
  have hg : (gapT g).length ≤ 11 := by
    match g with
    | 0 | 1 | 2 => decide
    | _ + 3 => exact Nat.le_refl 11
  have k2 : EvOK nm X (eval (emb nm txL) X.env) ⟨txC its ns t k g, cs⟩ (.str (gapT g)) ⟨txC its ns t k g, cs⟩ := by
    match g, g4 with
    | 0, _ => exact val_ok (n := 9) (t := txL) (σ := ⟨txC its ns t k 0, cs⟩) (σ' := ⟨txC its ns t k 0, cs⟩) K hT hO (os := []) (by kernel_rfl) no_obs
    | 1, _ => exact val_ok (n := 9) (t := txL) (σ := ⟨txC its ns t k 1, cs⟩) (σ' := ⟨txC its ns t k 1, cs⟩) K hT hO (os := []) (by kernel_rfl) no_obs
    | 2, _ => exact val_ok (n := 9) (t := txL) (σ := ⟨txC its ns t k 2, cs⟩) (σ' := ⟨txC its ns t k 2, cs⟩) K hT hO (os := []) (by kernel_rfl) no_obs
    | 3, _ => exact val_ok (n := 9) (t := txL) (σ := ⟨txC its ns t k 3, cs⟩) (σ' := ⟨txC its ns t k 3, cs⟩) K hT hO (os := []) (by kernel_rfl) no_obs
  have k3 := R_bin (op := .Add) (p := ⟨755,15,755,30⟩) (val_ok (n := 9) (t := .loc 124 ⟨755,15,755,19⟩) (σ := ⟨txC its ns t k g, cs⟩) (σ' := ⟨txC its ns t k g, cs⟩) (r := .str t) K hT hO (os := []) (by kernel_rfl) no_obs) k1 (binO_ok (os := [.str t i]) rfl (ob1 (by show t.length + i.length ≤ _; omega)) _)
  have k4 : EvOK nm X (eval (emb nm txT) X.env) ⟨txC its ns t k g, cs⟩ _ ⟨txC its ns t k g, cs⟩ := R_bin (op := .Add) (p := ⟨755,15,755,69⟩) k3 k2 (binO_ok (os := [.str (t ++ i) (gapT g)]) rfl (ob1 (by show (t ++ i).length + _ ≤ _; rw [List.length_append]; omega)) _)
  refine ExOK.sub (σ' := ⟨txC its ns (t ++ i ++ gapT g) k g, cs⟩) (R_execs_next (R_assign nm_inj K rfl (hT.loc 124 (by kernel_rfl)) k4) R_execs_nil) ?_
  intro p hp
  simp only [List.mem_cons, List.not_mem_nil, or_false] at hp
  rcases hp with rfl | rfl | rfl <;> rfl
end
noncomputable def gaps (ns : List Nat) (k : Nat) : Nat := (ns[k % ns.length]?.getD 0) / 8 % 4
noncomputable def itsOf (ns : List Nat) : List It → Nat → Its
  | [], _ => []
  | i :: l, k => (i, gaps ns k) :: itsOf ns l (k + 1)
theorem txt_len (i : It) : i.txt.length ≤ 6 := by cases i <;> simp [It.txt]
theorem gap_len (g : Nat) : (gapT g).length ≤ 11 := by
  match g with
  | 0 | 1 | 2 => decide
  | _ + 3 => exact Nat.le_refl 11
section
variable {X : Cx} {d u : Nat} (K : CxOK X d u) (hT : TbOK nm X TTx)
include K hT
theorem tx_loop {is : List It} {ns : List Nat} {cs : List Cell} (hns : ns ≠ []) (h96 : ∀ n ∈ ns, n < 96) (hz : ns.length ≤ 16777216) (hl : is.length ≤ 1000) : ∀ (m k : Nat) (t : List Nat), k + m = is.length → t.length ≤ 17 * k →
    FoR X 125 fText_0B ((List.range' k m).map fun (i : Nat) => .int (.ofNat i)) ⟨txA (itL is) (nsA ns) t, cs⟩ ⟨txA (itL is) (nsA ns) (t ++ render (itsOf ns (is.drop k) k)), cs⟩
  | 0, k, t, hk, ht => by
    have : is.drop k = [] := by rw [List.drop_eq_nil_iff]; omega
    rw [this]
    show _ = _
    simp [itsOf, render]
  | m + 1, k, t, hk, ht => by
    have hlt : k < is.length := by omega
    have hlen : 0 < ns.length := List.length_pos_iff.mpr hns
    have hm : k % ns.length < ns.length := Nat.mod_lt _ hlen
    have hl2 : (nsA ns).length = ns.length := by simp [nsA]
    have hg : gaps ns k = ns[k % ns.length] / 8 % 4 := by unfold gaps; rw [List.getElem?_eq_getElem hm]; rfl
    have hturn := tx_turn K hT (its := itL is) (ns := nsA ns) (t := t) (k := k) (n := ns[k % ns.length]) (i := (is[k]).txt) (cs := cs) (by simpa [nsA] using hns) (by rw [hl2]; simp [nsA, List.getElem?_eq_getElem hm]) (h96 _ (List.getElem_mem hm)) (by simp [itL, List.getElem?_eq_getElem hlt]) (by omega) (by omega) (by have := txt_len is[k]; omega)
    rw [← hg] at hturn
    have ih := tx_loop (cs := cs) hns h96 hz hl m (k + 1) (t ++ (is[k]).txt ++ gapT (gaps ns k)) (by omega) (by
      have h1 := txt_len is[k]
      have h2 := gap_len (gaps ns k)
      simp only [List.length_append]; omega)
    have e : t ++ render (itsOf ns (is.drop k) k) = (t ++ (is[k]).txt ++ gapT (gaps ns k)) ++ render (itsOf ns (is.drop (k + 1)) (k + 1)) := by
      rw [List.drop_eq_getElem_cons hlt]
      simp [itsOf, render]
    rw [e]
    exact ⟨_, hturn, ih⟩
end
noncomputable def OTx : Orc where
  fn := fun i as cs => grd (Nat.beq i 126) ((only1 as).bind fun a => (a.int?.bind nat?).bind fun n => some (.rng n, cs, []))
  mt := fun _ _ _ _ => none
  pr := fun _ _ _ _ => none
theorem OTx_ok {X : Cx} {d u : Nat} : OrcOK nm X d u TTx OTx where
  fn := fun i f as cs r cs' os hg h ho => by
    obtain ⟨hi, k1⟩ := grd_eq h
    obtain ⟨a, k2, k3⟩ := bind_eq k1
    obtain ⟨n, k4, k5⟩ := bind_eq k3
    obtain ⟨m, k6, k7⟩ := bind_eq k4
    cases k5
    have e : TTx.glob 126 = some (.type "range") := by kernel_rfl
    rw [show i = 126 from beq_of hi, e] at hg; cases hg
    rw [only1_eq k2, int?_eq k6, nat?_eq k7]
    exact ⟨KeepOK.ty, fun loc => range_ok⟩
  mt := fun _ _ _ _ _ _ _ h => by cases h
  pr := fun _ _ _ _ _ _ _ h => by cases h
theorem text_ok (w : World) {is : List It} {ns : List Nat} {cs : List Cell} (hns : ns ≠ []) (h96 : ∀ n ∈ ns, n < 96) (hz : ns.length ≤ 16777216) (hl : is.length ≤ 1000) :
    CallOK nm w 1 3 768 [.lst (itL is), .lst (nsA ns)] cs (.str (render (itsOf ns is 0))) cs := by
  refine CallOK.of_body (d := 0) (u := 0) (fl := .ret (.str (render (itsOf ns is 0)))) (loc := [(123, .lst (itL is)), (108, .lst (nsA ns))]) (loc' := txA (itL is) (nsA ns) (render (itsOf ns is 0))) (fText_at w) (by kernel_rfl) ?_ (by decide +kernel) rfl rfl rfl ?_
  · intro s W vals hK ha
    cases ha with
    | cons h1 hr => cases hr with
      | cons h2 hr => cases hr with
        | nil => exact ⟨([123, 108].map nm).zip [_, _], BindsTo.of_eq rfl, locs rfl, locOK_zip (ids := [123, 108]) (.cons h1 (.cons h2 .nil)) (by decide)⟩
  · intro X e1 e2 e3 e4 e5 K
    have hT : TbOK nm X TTx := mkT_ok K (by rw [e3]; exact tx_loc) (by rw [e3]; exact tx_glob)
    have hO := OTx_ok (X := X) (d := 0) (u := 0)
    have hb : fText_body = embSs nm fText_0 ++ (Stmt.For (Expr.Name (nm 125) ⟨753,8,753,9⟩) (emb nm fText_0i) fText_0B [] ⟨753,4,755,69⟩ :: embSs nm fText_1) := rfl
    rw [hb]
    refine R_execs_app (run_ok (m := 9) (n := 9) (σ' := ⟨txA (itL is) (nsA ns) [], cs⟩) K hT hO (os := []) (by kernel_rfl) no_obs) ?_
    have hlen : (itL is).length = is.length := by simp [itL]
    have hi : EvOK nm X (eval (emb nm fText_0i) X.env) ⟨txA (itL is) (nsA ns) [], cs⟩ (.rng (itL is).length) ⟨txA (itL is) (nsA ns) [], cs⟩ := val_ok (n := 9) K hT hO (os := []) (by kernel_rfl) no_obs
    rw [hlen] at hi
    refine R_execs_next (σ₁ := ⟨txA (itL is) (nsA ns) (render (itsOf ns is 0)), cs⟩) (R_forR K (by omega) (hT.loc 125 (by kernel_rfl)) (fun _ => rfl) hi ?_) ?_
    · have := tx_loop K hT (cs := cs) hns h96 hz hl is.length 0 [] (by omega) (by simp)
      unfold upTo
      rw [List.range_eq_range']
      exact this
    · exact run_ok (m := 9) (n := 9) K hT hO (os := []) (by kernel_rfl) no_obs
noncomputable def OCm : Orc where
  fn := fun _ _ _ => none
  mt := fun _ _ _ _ => none
  pr := fun _ _ _ _ => none
  cm := cmL
theorem OCm_ok {X : Cx} {d u : Nat} (K : CxOK X d u) {T : Tb} : OrcOK nm X d u T OCm where
  fn := fun _ _ _ _ _ _ _ _ h => by cases h
  mt := fun _ _ _ _ _ _ _ h => by cases h
  pr := fun _ _ _ _ _ _ _ h => by cases h
  cm := fun op a b cells c os h ho loc => cmL_ok K h loc
noncomputable abbrev TFo : Tb := mkT fFormula_locs fFormula_globs
theorem fo_loc : (fFormula_locs.all fun i => fFormula_scope.names.lookup (nm i) == some .local) = true := by kernel_rfl
theorem fo_glob : (fFormula_globs.all fun i => fFormula_scope.names.lookup (nm i) == some .globalImplicit) = true := by kernel_rfl
noncomputable def stepK (k : Nat) (w : Fm) : List Fm → List Fm
  | [] => [w]
  | f :: P => cond (Nat.beq k 3) (.neg f :: P) (match P with
    | [] => [w, f]
    | a :: r => cond (Nat.beq k 4) (.bin 38 a f :: r) (cond (Nat.beq k 5) (.bin 124 a f :: r) (cond (Nat.beq k 6) (.bin 94 a f :: r) (w :: f :: a :: r))))
noncomputable def stepF (P : List Fm) (x : Nat) : List Fm := stepK (x % 8) (.w (x % 3)) P
theorem stepF_at {P : List Fm} {x k : Nat} (h : x % 8 = k) : stepF P x = stepK k (.w (x % 3)) P := by rw [← h]; rfl
theorem eight : ∀ k : Nat, k < 8 → k = 0 ∨ k = 1 ∨ k = 2 ∨ k = 3 ∨ k = 4 ∨ k = 5 ∨ k = 6 ∨ k = 7 := by decide
theorem stepK_w {k : Nat} (hk : (Nat.beq k 3 || Nat.beq k 4 || Nat.beq k 5 || Nat.beq k 6) = false) (w : Fm) (P : List Fm) : stepK k w P = w :: P := by
  rw [Bool.or_eq_false_iff, Bool.or_eq_false_iff, Bool.or_eq_false_iff] at hk
  obtain ⟨⟨⟨h3, h4⟩, h5⟩, h6⟩ := hk
  cases P with
  | nil => rfl
  | cons f P => cases P with
    | nil => unfold stepK; rw [h3]; rfl
    | cons a r => unfold stepK; rw [h3, h4, h5, h6]; rfl
theorem stepK_all {Pr : List Fm → Prop} {k : Nat} {w : Fm} {P : List Fm} (hw : Pr (w :: P)) (hn : ∀ f r, P = f :: r → Pr (.neg f :: r)) (hb : ∀ c f a r, c ∈ [38, 124, 94] → P = f :: a :: r → Pr (.bin c a f :: r)) : Pr (stepK k w P) := by
  cases P with
  | nil => exact hw
  | cons f P =>
    unfold stepK
    cases Nat.beq k 3 with
    | true => exact hn f P rfl
    | false => cases P with
      | nil => exact hw
      | cons a r =>
        dsimp only [cond]
        cases Nat.beq k 4 with
        | true => exact hb 38 f a r (by decide) rfl
        | false => cases Nat.beq k 5 with
          | true => exact hb 124 f a r (by decide) rfl
          | false => cases Nat.beq k 6 with
            | true => exact hb 94 f a r (by decide) rfl
            | false => exact hw
noncomputable abbrev foA (N : AV) : List (Nat × AV) := [(108, N), (109, .cell 0)]
noncomputable abbrev foB (N : AV) (x : Nat) : List (Nat × AV) := [(108, N), (109, .cell 0), (110, .int (.ofNat x))]
noncomputable abbrev foC (N : AV) (x k : Nat) : List (Nat × AV) := [(108, N), (109, .cell 0), (110, .int (.ofNat x)), (111, .int (.ofNat k))]
noncomputable abbrev foD (N : AV) (x k : Nat) (b : AV) : List (Nat × AV) := [(108, N), (109, .cell 0), (110, .int (.ofNat x)), (111, .int (.ofNat k)), (113, b)]
theorem fo_split : fFormula_0B = embSs nm (fFormula_0b_0.take 1) ++ embSs nm (fFormula_0b_0.drop 1) := by kernel_rfl
theorem fo_1 (N : AV) (x : Nat) (cs : List Cell) : ex TFo (ev TFo OCm 20) 20 true (fFormula_0b_0.take 1) ⟨foB N x, cs⟩ = some (.next, ⟨[(108, N), (109, .cell 0), (110, .int (.ofNat x)), (111, .int ((Int.ofNat x).fmod (Int.ofNat 8)))], cs⟩, [.nz 8]) := by kernel_rfl
noncomputable def foW (k : Nat) (l : List AV) : Prop := ∀ (N : AV) (x : Nat), ex TFo (ev TFo OCm 20) 20 true (fFormula_0b_0.drop 1) ⟨foC N x k, [.list l]⟩ = some (.next, ⟨foC N x k, [.list (.lst [.int ((Int.ofNat x).fmod (Int.ofNat 3))] :: l)]⟩, [.nz 3, .app l])
theorem fo_w0 (l : List AV) : foW 0 l := fun N x => by kernel_rfl
theorem fo_w1 (l : List AV) : foW 1 l := fun N x => by kernel_rfl
theorem fo_w2 (l : List AV) : foW 2 l := fun N x => by kernel_rfl
theorem fo_w7 (l : List AV) : foW 7 l := fun N x => by kernel_rfl
theorem fo_w3 : foW 3 [] := fun N x => by kernel_rfl
theorem fo_w40 : foW 4 [] := fun N x => by kernel_rfl
theorem fo_w50 : foW 5 [] := fun N x => by kernel_rfl
theorem fo_w60 : foW 6 [] := fun N x => by kernel_rfl
theorem fo_w41 (a : AV) : foW 4 [a] := fun N x => by kernel_rfl
theorem fo_w51 (a : AV) : foW 5 [a] := fun N x => by kernel_rfl
theorem fo_w61 (a : AV) : foW 6 [a] := fun N x => by kernel_rfl
theorem fo_n (N : AV) (x : Nat) (f : AV) (l : List AV) : ex TFo (ev TFo OCm 20) 20 true (fFormula_0b_0.drop 1) ⟨foC N x 3, [.list (f :: l)]⟩ = some (.next, ⟨foC N x 3, [.list (.lst [.str [126], f] :: l)]⟩, [.app l]) := by kernel_rfl
noncomputable abbrev fo2 : PS := (fFormula_0b_0.drop 1).head
noncomputable abbrev fo3 : PS := fo2.els.head
noncomputable def PE.and1 : PE → PE
  | .bop _ (.cons a _) _ => a
  | _ => .nil
noncomputable def PE.and2 : PE → PE
  | .bop _ (.cons _ (.cons b _)) _ => b
  | _ => .nil
noncomputable def PE.ps : PE → Pos
  | .bop _ _ p => p
  | _ => default
theorem fo_sp2 : embSs nm (fFormula_0b_0.drop 1) = [embS nm (.ite fo2.tst fo2.thn fo2.els fo2.ps)] := by kernel_rfl
theorem fo_sp3 : embSs nm fo2.els = [embS nm (.ite (.bop .And (.cons fo3.tst.and1 (.cons fo3.tst.and2 .nil)) fo3.tst.ps) fo3.thn fo3.els fo3.ps)] := by kernel_rfl
noncomputable def foP (k c : Nat) : Prop := (∀ (N : AV) (x : Nat) (b a : AV) (l : List AV), ev TFo OCm 20 .tst fo2.tst ⟨foC N x k, [.list (b :: a :: l)]⟩ = some (.bool false, ⟨foC N x k, [.list (b :: a :: l)]⟩, []) ∧
  ev TFo OCm 20 .tst fo3.tst.and1 ⟨foC N x k, [.list (b :: a :: l)]⟩ = some (.bool true, ⟨foC N x k, [.list (b :: a :: l)]⟩, []) ∧
  ev TFo OCm 20 .tst fo3.tst.and2 ⟨foC N x k, [.list (b :: a :: l)]⟩ = some (.bool (decide ((1 : Int) < ((l.length + 1 + 1 : Nat) : Int))), ⟨foC N x k, [.list (b :: a :: l)]⟩, []) ∧
  ex TFo (ev TFo OCm 20) 20 true fo3.thn ⟨foC N x k, [.list (b :: a :: l)]⟩ = some (.next, ⟨foD N x k b, [.list (.lst [.str [c], a, b] :: l)]⟩, [.app l]))
theorem fo_p4 : foP 4 38 := fun N x b a l => ⟨by kernel_rfl, by kernel_rfl, by kernel_rfl, by kernel_rfl⟩
theorem fo_p5 : foP 5 124 := fun N x b a l => ⟨by kernel_rfl, by kernel_rfl, by kernel_rfl, by kernel_rfl⟩
theorem fo_p6 : foP 6 94 := fun N x b a l => ⟨by kernel_rfl, by kernel_rfl, by kernel_rfl, by kernel_rfl⟩
section
variable {X : Cx} {d u : Nat} (K : CxOK X d u) (hT : TbOK nm X TFo)
include K hT
theorem fo_rest {N : AV} {x k : Nat} {l l' : List AV} {loc' : List (Nat × AV)} (h : ExOK nm X (execs (embSs nm (fFormula_0b_0.drop 1)) X.env) ⟨foC N x k, [.list l]⟩ .next ⟨loc', [.list l']⟩) (hk : x % 8 = k) (hl : loc'.lookup 108 = some N ∧ loc'.lookup 109 = some (.cell 0)) :
    ExOK nm X (execs fFormula_0B X.env) ⟨foB N x, [.list l]⟩ .next ⟨foA N, [.list l']⟩ := by
  have h1 := run_ok K hT (OCm_ok K) (fo_1 N x [.list l]) (ob1 (by show (8 : Int) ≠ 0; decide))
  rw [fmod_nat, hk] at h1
  rw [fo_split]
  refine ExOK.sub (σ' := ⟨loc', [.list l']⟩) (R_execs_app h1 h) ?_
  intro p hp
  simp only [List.mem_cons, List.not_mem_nil, or_false] at hp
  rcases hp with rfl | rfl
  · exact hl.1
  · exact hl.2
theorem fo_word {N : AV} {x k : Nat} {P : List Fm} (hw : foW k (P.map Fm.av)) (hk : x % 8 = k) (hz : P.length ≤ 1000) : ExOK nm X (execs fFormula_0B X.env) ⟨foB N x, [.list (P.map Fm.av)]⟩ .next ⟨foA N, [.list ((Fm.w (x % 3) :: P).map Fm.av)]⟩ := by
  have h := run_ok K hT (OCm_ok K) (hw N x) (by
    intro o ho
    simp only [List.mem_cons, List.not_mem_nil, or_false] at ho
    rcases ho with rfl | rfl
    · show (3 : Int) ≠ 0; decide
    · show _ + 1 ≤ _; rw [List.length_map]; omega)
  rw [fmod_nat] at h
  exact fo_rest K hT h hk ⟨rfl, rfl⟩
theorem fo_pair {N : AV} {x k c : Nat} {b a : Fm} {P : List Fm} (hp : foP k c) (hk : x % 8 = k) (hz : P.length ≤ 1000) : ExOK nm X (execs fFormula_0B X.env) ⟨foB N x, [.list ((b :: a :: P).map Fm.av)]⟩ .next ⟨foA N, [.list ((Fm.bin c a b :: P).map Fm.av)]⟩ := by
  obtain ⟨h1, h2, h3, h4⟩ := hp N x b.av a.av (P.map Fm.av)
  refine fo_rest K hT (loc' := foD N x k b.av) ?_ hk ⟨rfl, rfl⟩
  rw [fo_sp2]
  refine R_execs_next (σ₁ := ⟨foD N x k b.av, [.list ((Fm.bin c a b :: P).map Fm.av)]⟩) (R_if (bb := false) (tst_ok K hT (OCm_ok K) h1 no_obs rfl) ?_) R_execs_nil
  show ExOK nm X (execs (embSs nm fo2.els) X.env) _ _ _
  rw [fo_sp3]
  refine R_execs_next (σ₁ := ⟨foD N x k b.av, [.list ((Fm.bin c a b :: P).map Fm.av)]⟩) (R_if (bb := true) (T_and2 (tst_ok K hT (OCm_ok K) h2 no_obs rfl) (tst_ok K hT (OCm_ok K) h3 no_obs (decide_eq_true (by omega)))) ?_) R_execs_nil
  exact run_ok K hT (OCm_ok K) h4 (ob1 (by show _ + 1 ≤ _; rw [List.length_map]; omega))
theorem fo_bin {N : AV} {x k c : Nat} {P : List Fm} (h : x % 8 = k) (hz : P.length ≤ 1000) (h0 : foW k []) (h1 : ∀ a, foW k [a]) (hp : foP k c) (e0 : ∀ w, stepK k w [] = [w]) (e1 : ∀ w f, stepK k w [f] = [w, f]) (e2 : ∀ w f a r, stepK k w (f :: a :: r) = .bin c a f :: r) :
    ExOK nm X (execs fFormula_0B X.env) ⟨foB N x, [.list (P.map Fm.av)]⟩ .next ⟨foA N, [.list ((stepF P x).map Fm.av)]⟩ := by
  rw [stepF_at h]
  cases P with
  | nil => rw [e0]; exact fo_word K hT (P := []) h0 h hz
  | cons f P => cases P with
    | nil => rw [e1]; exact fo_word K hT (P := [f]) (h1 _) h hz
    | cons a r => rw [e2]; exact fo_pair K hT hp h (Nat.le_trans (Nat.le_add_right _ 2) hz)
theorem fo_turn {N : AV} {x : Nat} {P : List Fm} (hz : P.length ≤ 1000) : ExOK nm X (execs fFormula_0B X.env) ⟨foB N x, [.list (P.map Fm.av)]⟩ .next ⟨foA N, [.list ((stepF P x).map Fm.av)]⟩ := by
  rcases eight _ (Nat.mod_lt x (by decide : 0 < 8)) with h | h | h | h | h | h | h | h
  · rw [stepF_at h, stepK_w rfl]; exact fo_word K hT (fo_w0 _) h hz
  · rw [stepF_at h, stepK_w rfl]; exact fo_word K hT (fo_w1 _) h hz
  · rw [stepF_at h, stepK_w rfl]; exact fo_word K hT (fo_w2 _) h hz
  · rw [stepF_at h]
    cases P with
    | nil => exact fo_word K hT (P := []) fo_w3 h hz
    | cons f r => exact fo_rest K hT (run_ok K hT (OCm_ok K) (fo_n N x f.av (r.map Fm.av)) (ob1 (by show _ + 1 ≤ _; rw [List.length_map]; exact Nat.le_trans hz (by decide)))) h ⟨rfl, rfl⟩
  · exact fo_bin K hT h hz fo_w40 fo_w41 fo_p4 (fun _ => rfl) (fun _ _ => rfl) (fun _ _ _ _ => rfl)
  · exact fo_bin K hT h hz fo_w50 fo_w51 fo_p5 (fun _ => rfl) (fun _ _ => rfl) (fun _ _ _ _ => rfl)
  · exact fo_bin K hT h hz fo_w60 fo_w61 fo_p6 (fun _ => rfl) (fun _ _ => rfl) (fun _ _ _ _ => rfl)
  · rw [stepF_at h, stepK_w rfl]; exact fo_word K hT (fo_w7 _) h hz
omit K hT in
theorem stepF_len (P : List Fm) (x : Nat) : (stepF P x).length ≤ P.length + 1 := by
  refine stepK_all (Pr := fun l => l.length ≤ P.length + 1) (Nat.le_refl _) (fun f r e => ?_) (fun c f a r _ e => ?_)
  · rw [e]; exact Nat.le_succ _
  · rw [e]; exact Nat.le_trans (Nat.le_succ _) (Nat.le_succ _)
theorem fo_loop {N : AV} : ∀ (ns : List Nat) (P : List Fm), P.length + ns.length ≤ 1000 → FoR X 110 fFormula_0B (nsA ns) ⟨foA N, [.list (P.map Fm.av)]⟩ ⟨foA N, [.list ((ns.foldl stepF P).map Fm.av)]⟩
  | [], P, _ => rfl
  | x :: ns, P, hz => by
    simp only [List.length_cons] at hz
    have hl := stepF_len P x
    exact ⟨_, fo_turn K hT (by omega), fo_loop ns (stepF P x) (by omega)⟩
end
noncomputable def joinF : Fm → List Fm → Fm
  | b, [] => b
  | b, a :: r => joinF (.bin 94 a b) r
theorem fo_jt (N : AV) (l : List AV) : ev TFo OCm 20 .tst fFormula_1t ⟨foA N, [.list l]⟩ = some (.bool (decide ((1 : Int) < (l.length : Int))), ⟨foA N, [.list l]⟩, []) := by kernel_rfl
theorem fo_jb (N b a : AV) (l : List AV) : ex TFo (ev TFo OCm 20) 20 true fFormula_1b_0 ⟨foA N, [.list (b :: a :: l)]⟩ = some (.next, ⟨[(108, N), (109, .cell 0), (113, b)], [.list (.lst [.str [94], a, b] :: l)]⟩, [.app l]) := by kernel_rfl
theorem fo_z (N a : AV) : ex TFo (ev TFo OCm 20) 20 true fFormula_2 ⟨foA N, [.list [a]]⟩ = some (.ret a, ⟨foA N, [.list [a]]⟩, []) := by kernel_rfl
section
variable {X : Cx} {d u : Nat} (K : CxOK X d u) (hT : TbOK nm X TFo)
include K hT
theorem fo_join {N : AV} : ∀ (P : List Fm) (b : Fm), P.length ≤ 1000 → LpOK X (emb nm fFormula_1t) fFormula_1B ⟨foA N, [.list ((b :: P).map Fm.av)]⟩ .next ⟨foA N, [.list [(joinF b P).av]]⟩
  | [], b, _ => L_done (tst_ok K hT (OCm_ok K) (fo_jt N _) no_obs rfl)
  | a :: P, b, hz => by
    simp only [List.length_cons] at hz
    refine L_turn (r := .next) (tst_ok K hT (OCm_ok K) (fo_jt N _) no_obs (decide_eq_true (by simp only [List.map_cons, List.length_cons]; omega))) ?_ (fo_join P (.bin 94 a b) (by omega))
    refine ExOK.sub (run_ok K hT (OCm_ok K) (fo_jb N b.av a.av (P.map Fm.av)) (ob1 (by show _ + 1 ≤ _; rw [List.length_map]; omega))) ?_
    intro p hp
    simp only [List.mem_cons, List.not_mem_nil, or_false] at hp
    rcases hp with rfl | rfl <;> rfl
end
noncomputable def theF (ns : List Nat) : Fm := match ns.foldl stepF [] with
  | b :: P => joinF b P
  | [] => .w 0
theorem stepF_ne (P : List Fm) (x : Nat) : stepF P x ≠ [] :=
  stepK_all (Pr := fun l => l ≠ []) (fun e => by cases e) (fun f r _ e => by cases e) (fun c f a r _ _ e => by cases e)
theorem fold_ne : ∀ (ns : List Nat) (P : List Fm), (P ≠ [] ∨ ns ≠ []) → ns.foldl stepF P ≠ []
  | [], P, h => by
    rcases h with h | h
    · exact h
    · exact absurd rfl h
  | x :: ns, P, _ => fold_ne ns (stepF P x) (.inl (stepF_ne P x))
theorem fold_len : ∀ (ns : List Nat) (P : List Fm), (ns.foldl stepF P).length ≤ P.length + ns.length
  | [], P => by simp
  | x :: ns, P => by
    have h1 := stepF_len P x
    have h2 := fold_len ns (stepF P x)
    simp only [List.foldl_cons, List.length_cons]; omega
mutual
theorem av_pure : ∀ f : Fm, f.av.Pure
  | .w k => .lst (.cons (.int _) .nil)
  | .neg f => .lst (.cons (.str _) (.cons (av_pure f) .nil))
  | .bin c a b => .lst (.cons (.str _) (.cons (av_pure a) (.cons (av_pure b) .nil)))
end
theorem formula_ok (w : World) {ns : List Nat} (hns : ns ≠ []) (hl : ns.length ≤ 100) : CallOK nm w 1 3 754 [.lst (nsA ns)] [] (theF ns).av [] := by
  refine CallOK.clean (av_pure _) (cells' := [.list [(theF ns).av]]) ?_
  refine CallOK.of_body (d := 0) (u := 0) (fl := .ret (theF ns).av) (loc := [(108, .lst (nsA ns))]) (loc' := foA (.lst (nsA ns))) (fFormula_at w) (by kernel_rfl) ?_ (by decide +kernel) rfl rfl rfl ?_
  · intro s W vals hK ha
    cases ha with
    | cons h1 hr => cases hr with
      | nil => exact ⟨([108].map nm).zip [_], BindsTo.of_eq rfl, locs rfl, locOK_zip (ids := [108]) (.cons h1 .nil) (by decide)⟩
  · intro X e1 e2 e3 e4 e5 K
    have hT : TbOK nm X TFo := mkT_ok K (by rw [e3]; exact fo_loc) (by rw [e3]; exact fo_glob)
    have hO := OCm_ok (T := TFo) K
    have hb : fFormula_body = embS nm (.assign 109 ⟨731,4,731,8⟩ (.list .nil ⟨731,11,731,13⟩) ⟨731,4,731,13⟩) :: (Stmt.For (Expr.Name (nm 110) ⟨732,8,732,9⟩) (emb nm fFormula_0i) fFormula_0B [] ⟨732,4,740,32⟩ :: (Stmt.While (emb nm fFormula_1t) fFormula_1B [] ⟨741,4,743,44⟩ :: embSs nm fFormula_2)) := rfl
    rw [hb]
    refine R_execs_next (σ₁ := ⟨foA (.lst (nsA ns)), [.list []]⟩) (R_letlist K hT (by kernel_rfl)) ?_
    have hne := fold_ne ns [] (.inr hns)
    have hlen := fold_len ns []
    have hfor := fo_loop K hT (N := .lst (nsA ns)) ns [] (by simp; omega)
    refine R_execs_next (R_for K (hT.loc 110 (by kernel_rfl)) (fun _ => rfl) (val_ok (n := 9) (σ' := ⟨foA (.lst (nsA ns)), [.list []]⟩) (r := .lst (nsA ns)) K hT hO (os := []) (by kernel_rfl) no_obs) hfor) ?_
    unfold theF
    cases hP : ns.foldl stepF [] with
    | nil => exact absurd hP hne
    | cons b P =>
      rw [hP] at hlen
      simp only [List.length_cons, List.length_nil] at hlen
      refine R_execs_next (R_while (fo_join K hT P b (by omega))) ?_
      exact run_ok K hT hO (fo_z _ _) no_obs
noncomputable def isWord (x : List Nat) : Bool := leq x [120, 49] || leq x [98, 41] || leq x [105, 116, 39, 115]
noncomputable def maskOf : List Nat → Int
  | [120, 49] => 170
  | [98, 41] => 204
  | _ => 240
noncomputable def TabOK (w : World) (a : Addr) (o : Obj) : Prop := (a == sysModules) = false ∧ ∃ t₁ t₂ t₃, o.IsDictOf (strKind prg w) [(⟨#[120, 49]⟩, .int 170 t₁), (⟨#[98, 41]⟩, .int 204 t₂), (⟨#[105, 116, 39, 115]⟩, .int 240 t₃)]
noncomputable def AV.obj? : AV → Option (Addr × Obj)
  | .obj a o => some (a, o)
  | _ => Option.none
theorem obj?_eq {a : AV} {q : Addr × Obj} (h : a.obj? = some q) : a = .obj q.1 q.2 := by cases a <;> first | (cases h; rfl) | (cases h; done)
noncomputable def isIn : CmpOp → Bool
  | .In => true
  | _ => false
theorem isIn_eq {op : CmpOp} (h : isIn op = true) : op = .In := by cases op <;> first | rfl | (cases h; done)
noncomputable def cmR (a₀ : Addr) (o₀ : Obj) (op : CmpOp) (a b : AV) (cs : List Cell) : Option (Addr × Obj) → Option (Bool × List Ob)
  | some q => grd (isIn op) (a.str?.bind fun x => some (isWord x, [.say (q.1 = a₀ ∧ q.2 = o₀)]))
  | none => cmL op a b cs
noncomputable def ORk (a₀ : Addr) (o₀ : Obj) : Orc where
  fn := fun i as cs => cond (Nat.beq i 138) ((ints2 as).bind fun q => some (.int (Builtin.bitXor q.1 q.2), cs, []))
    (cond (Nat.beq i 144) ((only3 as).bind fun q => (q.1.str?.bind one?).bind fun c => two q.2.1.int? q.2.2.int? fun x y => (.int (deed c x y), cs, [.say (c ∈ [38, 124, 94])]))
    (grd (Nat.beq i 143) ((only1 as).bind fun a => a.str?.bind fun l => some (.lst (l.map fun c => .str [c]), cs, []))))
  mt := fun _ _ _ _ => none
  pr := fun _ _ _ _ => none
  cm := fun op a b cs => cmR a₀ o₀ op a b cs b.obj?
  sb := fun a b cs => a.obj?.bind fun q => b.str?.bind fun x => some (.int (maskOf x), [.say ((q.1 = a₀ ∧ q.2 = o₀) ∧ isWord x = true)])
theorem str_of (l : List Nat) (m : Array Nat) : ((⟨m⟩ : Str) = ⟨l.toArray⟩) ↔ l = m.toList := by
  constructor
  · intro h; injection h with h; subst h; rfl
  · rintro rfl; rfl
theorem tab_at (x : List Nat) (t₁ t₂ t₃ : Tok) : valueAt [((⟨#[120, 49]⟩ : Str), Value.int 170 t₁), (⟨#[98, 41]⟩, .int 204 t₂), (⟨#[105, 116, 39, 115]⟩, .int 240 t₃)] ⟨x.toArray⟩ =
    if x = [120, 49] then some (.int 170 t₁) else if x = [98, 41] then some (.int 204 t₂) else if x = [105, 116, 39, 115] then some (.int 240 t₃) else none := by
  unfold valueAt
  simp only [List.find?, str_of]
  by_cases h1 : x = [120, 49]
  · simp [h1]
  · by_cases h2 : x = [98, 41]
    · simp [h2]
    · by_cases h3 : x = [105, 116, 39, 115]
      · simp [h3]
      · simp [h1, h2, h3]
theorem isWord_iff (x : List Nat) : isWord x = true ↔ x = [120, 49] ∨ x = [98, 41] ∨ x = [105, 116, 39, 115] := by
  constructor
  · intro h
    unfold isWord at h
    rw [Bool.or_eq_true, Bool.or_eq_true] at h
    rcases h with (h | h) | h
    · exact .inl (leq_eq h)
    · exact .inr (.inl (leq_eq h))
    · exact .inr (.inr (leq_eq h))
  · rintro (rfl | rfl | rfl) <;> rfl
theorem signs_rel {W : Wd} : ∀ (l : List Nat) (vs : List Value), vs.length = l.length → (∀ (j : Nat) (v : Value), vs[j]? = some v → ∃ (c : Nat) (u : Tok), l[j]? = some c ∧ v = Value.str ⟨#[c]⟩ u) → RelVs W (l.map fun c => AV.str [c]) vs
  | [], [], _, _ => .nil
  | [], _ :: _, h, _ => by simp at h
  | _ :: _, [], h, _ => by simp at h
  | c :: l, v :: vs, h, hv => by
    obtain ⟨c', u, h1, rfl⟩ := hv 0 v rfl
    simp at h1
    subst h1
    refine .cons (.str [c] u (by simp)) (signs_rel l vs (by simpa using h) fun j v hj => ?_)
    have := hv (j + 1) v (by simpa using hj)
    simpa using this
theorem St.allocK {X : Cx} {W : Wd} {σ : AS} {s : Shared} (S : St nm X W σ s) {o : Obj} {h' : Heap} (hk : ∀ b o, s.heap.get? b = some o → h'.get? b = some o) (ho : h'.get? s.heap.objs.size = some o) (hf : o.isFreed = false) (tk : Nat) :
    W.le { W with imm := (s.heap.objs.size, o) :: W.imm } ∧ St nm X { W with imm := (s.heap.objs.size, o) :: W.imm } σ { s with heap := h', toks := tk } := by
  obtain ⟨m, objs, F, hL, hcs, N, nd⟩ := id S
  refine S.alloc (m := m) hf (fun F => F.keeps hk) (fun N => ?_) tk
  intro p hp
  rcases List.mem_cons.mp hp with rfl | q
  · refine ⟨ho, fun e => ?_, ?_⟩
    · have z := F.ns.lt
      have e' : s.heap.objs.size = X.L := e
      rw [← e'] at z
      exact Nat.lt_irrefl _ z
    · cases q : X.h₀.get? s.heap.objs.size with
      | none => rfl
      | some o' => exact absurd (Heap.lt_size (F.keep _ _ q)) (Nat.lt_irrefl _)
  · exact ⟨hk _ _ (N p q).1, (N p q).2⟩
theorem list_str_ok {X : Cx} {d u : Nat} (K : CxOK X d u) {σ : AS} {l : List Nat} : FnOK nm X (.type "list") [.str l] σ (.lst (l.map fun c => .str [c])) σ := by
  intro s W vals S hv Q E hQ
  cases hv with
  | cons h1 hr => cases hr with
    | nil => cases h1 with
      | str l t hz =>
        obtain ⟨m, objs, F, hL, hcs, N, nd⟩ := id S
        refine call_list_str K.hand _ _ (fun h' tk acc' c' hk hS hI => ?_) (by rw [sizeLine_is]; simpa using hz)
        have A := S.allocK hk hS rfl tk
        have e : ({ cls := .type "list", dict := none, data := .seq acc' c', slots := #[] } : Obj) = PySem.W.listOf acc'.toList.toArray c' := by simp [PySem.W.listOf]
        refine hQ _ _ _ tk A.1 (.lst (vs := acc'.toList) (n := c') (by rw [← e]; exact .head _) (by simpa using hz) ?_) A.2
        refine signs_rel l acc'.toList (by simpa using hI.1) fun j v hj => ?_
        obtain ⟨c, u, h1, h2⟩ := hI.2 j v (by simpa using hj)
        exact ⟨c, u, by simpa using h1, h2⟩
noncomputable abbrev TRk : Tb := mkT fReck_locs fReck_globs
theorem rk_loc : (fReck_locs.all fun i => fReck_scope.names.lookup (nm i) == some .local) = true := by kernel_rfl
theorem rk_glob : (fReck_globs.all fun i => fReck_scope.names.lookup (nm i) == some .globalImplicit) = true := by kernel_rfl
theorem rk_keep (w : World) : keepIn (KF w) (.ref 60) && keepIn (KF w) (.ref 782) = true := by kernel_rfl
theorem ORk_ok {X : Cx} {d u : Nat} (K : CxOK X d u) (hd : 2 ≤ d) (hu : 8 ≤ u) {a₀ : Addr} {o₀ : Obj} (hT₀ : TabOK X.w a₀ o₀) : OrcOK nm X d u TRk (ORk a₀ o₀) where
  fn := fun i f as cs r cs' os hg h ho => by
    have hk := rk_keep X.w
    simp only [Bool.and_eq_true] at hk
    rcases cond_eq (b := Nat.beq i 138) h with ⟨i1, k⟩ | ⟨i1, k⟩
    · obtain ⟨⟨x, y⟩, k1, k2⟩ := bind_eq k
      cases k2
      rw [ints2_eq k1]
      have e : TRk.glob 138 = some (.ref 60) := by kernel_rfl
      rw [show i = 138 from beq_of i1, e] at hg; cases hg
      exact ⟨KeepOK.fn hk.1, fun loc => FnOK.of_call (σ := ⟨loc, _⟩) K (Nat.le_trans (by decide) hd) (Nat.le_trans (by decide) hu) (xor_ok X.w _ _ _)⟩
    · rcases cond_eq (b := Nat.beq i 144) k with ⟨i2, k⟩ | ⟨i2, k⟩
      · obtain ⟨⟨x, y, z⟩, k1, k2⟩ := bind_eq k
        obtain ⟨c, k3, k4⟩ := bind_eq k2
        obtain ⟨l, k5, k6⟩ := bind_eq k3
        obtain ⟨u, v, k7, k8, k9⟩ := two_eq k4
        cases k9
        have hc : c ∈ [38, 124, 94] := ho _ (.head _)
        have e : TRk.glob 144 = some (.ref 782) := by kernel_rfl
        rw [show i = 144 from beq_of i2, e] at hg; cases hg
        rw [only3_eq k1, show x = .str l from str?_eq k5, one?_eq k6, show y = .int u from int?_eq k7, show z = .int v from int?_eq k8]
        exact ⟨KeepOK.fn hk.2, fun loc => FnOK.of_call (σ := ⟨loc, _⟩) K hd hu (closed_ok X.w _ hc _ _ _)⟩
      · obtain ⟨i3, k0⟩ := grd_eq k
        obtain ⟨a, k1, k2⟩ := bind_eq k0
        obtain ⟨l, k3, k4⟩ := bind_eq k2
        cases k4
        have e : TRk.glob 143 = some (.type "list") := by kernel_rfl
        rw [show i = 143 from beq_of i3, e] at hg; cases hg
        rw [only1_eq k1, str?_eq k3]
        exact ⟨KeepOK.ty, fun loc => list_str_ok K⟩
  mt := fun _ _ _ _ _ _ _ h => by cases h
  pr := fun _ _ _ _ _ _ _ h => by cases h
  cm := fun op a b cells c os h ho loc => by
    have h : cmR a₀ o₀ op a b cells b.obj? = some (c, os) := h
    cases hb₀ : b.obj? with
    | none =>
      rw [hb₀] at h
      exact cmL_ok K h loc
    | some q =>
      rw [hb₀] at h
      obtain ⟨h1, h2⟩ := grd_eq h
      obtain ⟨l, h3, h4⟩ := bind_eq h2
      cases h4
      obtain ⟨a₁, o₁⟩ := q
      obtain ⟨rfl, rfl⟩ : a₁ = a₀ ∧ o₁ = o₀ := ho _ (.head _)
      have e1 := isIn_eq h1
      have e2 := str?_eq h3
      have e3 := obj?_eq hb₀
      subst e1 e2 e3
      obtain ⟨lo, t₁, t₂, t₃, hD⟩ := hT₀
      intro s W va vb S ha hb
      refine EvAt.here S fun Q E hQ => ?_
      obtain ⟨m, objs, F, hL, hcs, N, nd⟩ := S
      cases ha with
      | str _ t hz => cases hb with
        | obj hm hi =>
          refine kda_in N (List.mem_append_left _ hm) hD lo (strKind_is _ _ _ _) _ ?_ (hQ _ _ (.bool _))
          rw [tab_at]
          by_cases h1 : l = [120, 49]
          · subst h1; rfl
          · by_cases h2 : l = [98, 41]
            · subst h2; rfl
            · by_cases h3 : l = [105, 116, 39, 115]
              · subst h3; rfl
              · have hn : isWord l = false := by
                  rw [Bool.eq_false_iff]
                  intro q
                  rcases (isWord_iff l).mp q with e | e | e
                  · exact h1 e
                  · exact h2 e
                  · exact h3 e
                simp [h1, h2, h3, hn]
  sb := fun a b cells r os h ho loc e i hi => by
      obtain ⟨⟨a₁, o₁⟩, h1, h2⟩ := bind_eq (x := a.obj?) h
      obtain ⟨l, h3, h4⟩ := bind_eq h2
      cases h4
      obtain ⟨⟨rfl, rfl⟩, hw⟩ : (a₁ = a₀ ∧ o₁ = o₀) ∧ isWord l = true := ho _ (.head _)
      have e1 := obj?_eq h1
      have e2 := str?_eq h3
      subst e1 e2
      obtain ⟨lo, t₁, t₂, t₃, hD⟩ := hT₀
      intro s W va vb S ha hb
      refine EvAt.here S fun Q E hQ => ?_
      obtain ⟨m, objs, F, hL, hcs, N, nd⟩ := S
      cases ha with
      | obj hm hi' => cases hb with
        | str _ t hz =>
          have hD' := kda_dict N (List.mem_append_left _ hm) hD
          have key : ∀ v, valueAt [((⟨#[120, 49]⟩ : Str), Value.int 170 t₁), (⟨#[98, 41]⟩, .int 204 t₂), (⟨#[105, 116, 39, 115]⟩, .int 240 t₃)] ⟨l.toArray⟩ = some v → RelV W (.int (maskOf l)) v → wpAny (model prg X.w) X.A (subscriptTail (emb nm e) (emb nm i) (.ref a₁) (.str ⟨l.toArray⟩ t)) Q E s := by
            intro v hv hr
            exact tail_any hD'.typeIs slot_dict_getitem.lookup (wpAny_getItem_of (strKind_is _ _ _ _) hD'.mapOf hv (hQ v _ hr)) (subd hi _ _)
          rcases (isWord_iff l).mp hw with rfl | rfl | rfl
          · exact key _ (by rw [tab_at]; rfl) (.int _ _)
          · exact key _ (by rw [tab_at]; rfl) (.int _ _)
          · exact key _ (by rw [tab_at]; rfl) (.int _ _)
theorem ob2 {a b : Ob} (ha : a.holds) (hb : b.holds) : ∀ o ∈ [a, b], o.holds := fun o hm => by
  cases hm with
  | head => exact ha
  | tail _ hm => exact ob1 hb o hm
theorem ob3 {a b c : Ob} (ha : a.holds) (hb : b.holds) (hc : c.holds) : ∀ o ∈ [a, b, c], o.holds := fun o hm => by
  cases hm with
  | head => exact ha
  | tail _ hm => exact ob2 hb hc o hm
noncomputable def plA (P : List Int) : List AV := P.map .int
noncomputable def sgA (S : List Nat) : List AV := S.map fun c => .str [c]
noncomputable abbrev rkA (a : Addr) (o : Obj) (t : AV) : List (Nat × AV) := [(139, .obj a o), (140, .cell 0), (109, .cell 5), (141, .cell 6), (68, t)]
noncomputable abbrev rkI (a : Addr) (o : Obj) (t : AV) (x : List Nat) : List (Nat × AV) := [(139, .obj a o), (140, .cell 0), (109, .cell 5), (141, .cell 6), (68, t), (142, .str x)]
noncomputable abbrev rkO (a : Addr) (o : Obj) (t : AV) (x : List Nat) (y : AV) : List (Nat × AV) := [(139, .obj a o), (140, .cell 0), (109, .cell 5), (141, .cell 6), (68, t), (142, .str x), (132, y)]
section
variable (a : Addr) (o : Obj) (t : AV) (c0 c1 c2 c3 c4 : Cell) (P S : List AV)
noncomputable abbrev rkC : List Cell := [c0, c1, c2, c3, c4, .list P, .list S]
noncomputable abbrev rkRun (loc : List (Nat × AV)) (cs : List Cell) : ResS := ex TRk (ev TRk (ORk a o) 20) 20 true fReck_0b_0b_0 ⟨loc, cs⟩
theorem rk_w (x : List Nat) (hx : isWord x = true) : rkRun a o (rkI a o t x) (rkC c0 c1 c2 c3 c4 P S) = some (.next, ⟨rkI a o t x, rkC c0 c1 c2 c3 c4 (.int (maskOf x) :: P) S⟩, [.say (a = a ∧ o = o), .say ((a = a ∧ o = o) ∧ isWord x = true), .app P]) := by
  rcases (isWord_iff x).mp hx with rfl | rfl | rfl <;> kernel_rfl
theorem rk_close (c : Nat) (x y : Int) (b : AV) : rkRun a o (rkI a o t [41]) (rkC c0 c1 c2 c3 c4 (.int y :: .int x :: P) (.str [c] :: b :: S)) = some (.next, ⟨rkO a o t [41] (.int y), rkC c0 c1 c2 c3 c4 (.int (deed c x y) :: P) S⟩, [.say (a = a ∧ o = o), .say (c ∈ [38, 124, 94]), .app P]) := by kernel_rfl
theorem rk_open (c : Nat) (hc : c ∈ [38, 124, 94, 126, 40]) : rkRun a o (rkI a o t [c]) (rkC c0 c1 c2 c3 c4 P S) = some (.next, ⟨rkI a o t [c], rkC c0 c1 c2 c3 c4 P (.str [c] :: S)⟩, [.say (a = a ∧ o = o), .app S]) := by
  simp only [List.mem_cons, List.not_mem_nil, or_false] at hc
  rcases hc with rfl | rfl | rfl | rfl | rfl <;> kernel_rfl
noncomputable abbrev rkTst (loc : List (Nat × AV)) (cs : List Cell) : Res := ev TRk (ORk a o) 20 .tst fReck_0b_0b_0t ⟨loc, cs⟩
theorem rk_t0 (x : List Nat) : rkTst a o (rkI a o t x) (rkC c0 c1 c2 c3 c4 P []) = some (.bool false, ⟨rkI a o t x, rkC c0 c1 c2 c3 c4 P []⟩, []) := by kernel_rfl
theorem rk_tc (x : List Nat) (c : Nat) (hc : c ∈ [38, 124, 94, 40]) : rkTst a o (rkI a o t x) (rkC c0 c1 c2 c3 c4 P (.str [c] :: S)) = some (.bool false, ⟨rkI a o t x, rkC c0 c1 c2 c3 c4 P (.str [c] :: S)⟩, []) := by
  simp only [List.mem_cons, List.not_mem_nil, or_false] at hc
  rcases hc with rfl | rfl | rfl | rfl <;> kernel_rfl
theorem rk_tt (x : List Nat) (hx : isWord x = true ∨ x = [41]) : rkTst a o (rkI a o t x) (rkC c0 c1 c2 c3 c4 P (.str [126] :: S)) = some (.bool true, ⟨rkI a o t x, rkC c0 c1 c2 c3 c4 P (.str [126] :: S)⟩, [.say (a = a ∧ o = o)]) := by
  rcases hx with hx | rfl
  · rcases (isWord_iff x).mp hx with rfl | rfl | rfl <;> kernel_rfl
  · kernel_rfl
theorem rk_tf : rkTst a o (rkI a o t [126]) (rkC c0 c1 c2 c3 c4 P (.str [126] :: S)) = some (.bool false, ⟨rkI a o t [126], rkC c0 c1 c2 c3 c4 P (.str [126] :: S)⟩, [.say (a = a ∧ o = o)]) := by kernel_rfl
theorem rk_b (x : List Nat) (m : Int) : ex TRk (ev TRk (ORk a o) 20) 20 true fReck_0b_0b_0b_0 ⟨rkI a o t x, rkC c0 c1 c2 c3 c4 (.int m :: P) (.str [126] :: S)⟩ = some (.next, ⟨rkI a o t x, rkC c0 c1 c2 c3 c4 (.int (Builtin.bitXor m 255) :: P) S⟩, [.app P]) := by kernel_rfl
end
noncomputable def unw : Int → List Nat → Int × List Nat
  | m, [] => (m, [])
  | m, c :: S => match Nat.beq c 126 with
    | true => unw (Builtin.bitXor m 255) S
    | false => (m, c :: S)
noncomputable abbrev sgn : List Nat := [38, 124, 94, 126, 40]
section
variable {X : Cx} {d u : Nat} {a : Addr} {o : Obj}
structure RkIn (X : Cx) (d u : Nat) (a : Addr) (o : Obj) : Prop where
  K : CxOK X d u
  T : TbOK nm X TRk
  O : OrcOK nm X d u TRk (ORk a o)
variable (H : RkIn X d u a o)
include H
theorem rk_unw {t : AV} {c0 c1 c2 c3 c4 : Cell} {x : List Nat} (hx : isWord x = true ∨ x = [41]) {P : List AV} (hP : P.length ≤ 1000) : ∀ (S : List Nat) (m : Int), (∀ c ∈ S, c ∈ sgn) →
    LpOK X (emb nm fReck_0b_0b_0t) fReck_0b_0b_0B ⟨rkI a o t x, rkC c0 c1 c2 c3 c4 (.int m :: P) (sgA S)⟩ .next ⟨rkI a o t x, rkC c0 c1 c2 c3 c4 (.int (unw m S).1 :: P) (sgA (unw m S).2)⟩
  | [], m, _ => L_done (tst_ok H.K H.T H.O (rk_t0 a o t c0 c1 c2 c3 c4 _ x) no_obs rfl)
  | c :: S, m, hS => by
    have hc := hS c (.head _)
    unfold unw
    cases hq : Nat.beq c 126 with
    | true =>
      have := beq_of hq
      subst this
      refine L_turn (r := .next) (tst_ok H.K H.T H.O (rk_tt a o t c0 c1 c2 c3 c4 _ (sgA S) x hx) (ob1 ⟨rfl, rfl⟩) rfl) (run_ok H.K H.T H.O (rk_b a o t c0 c1 c2 c3 c4 P (sgA S) x m) (ob1 (Nat.le_trans (Nat.succ_le_succ hP) (by decide)))) ?_
      exact rk_unw hx hP S _ fun c h => hS c (.tail _ h)
    | false =>
      have hne := Nat.ne_of_beq_eq_false hq
      exact L_done (tst_ok H.K H.T H.O (rk_tc a o t c0 c1 c2 c3 c4 _ (sgA S) x c (mem_sub (n := 126) rfl hc hne)) no_obs rfl)
omit H in
theorem rk_bsp : fReck_0b_0B = embSs nm fReck_0b_0b_0 ++ [Stmt.While (emb nm fReck_0b_0b_0t) fReck_0b_0b_0B [] ⟨791,12,793,49⟩] := rfl
omit H in
theorem rk_sub {t : AV} {x : List Nat} : ∀ p ∈ rkA a o t, (rkI a o t x).lookup p.1 = some p.2 := by
  intro p hp
  simp only [List.mem_cons, List.not_mem_nil, or_false] at hp
  rcases hp with rfl | rfl | rfl | rfl | rfl <;> rfl
theorem rk_word {t : AV} {c0 c1 c2 c3 c4 : Cell} {x : List Nat} (hx : isWord x = true) {P : List AV} (hP : P.length ≤ 1000) {S : List Nat} (hS : ∀ c ∈ S, c ∈ sgn) :
    ExOK nm X (execs fReck_0b_0B X.env) ⟨rkI a o t x, rkC c0 c1 c2 c3 c4 P (sgA S)⟩ .next ⟨rkA a o t, rkC c0 c1 c2 c3 c4 (.int (unw (maskOf x) S).1 :: P) (sgA (unw (maskOf x) S).2)⟩ := by
  rw [rk_bsp]
  refine ExOK.sub (R_execs_app (run_ok H.K H.T H.O (rk_w a o t c0 c1 c2 c3 c4 P (sgA S) x hx) (ob3 ⟨rfl, rfl⟩ ⟨⟨rfl, rfl⟩, hx⟩ (Nat.le_trans (Nat.succ_le_succ hP) (by decide)))) (R_execs_next (R_while (rk_unw H (.inl hx) hP S _ hS)) R_execs_nil)) rk_sub
theorem rk_end {t : AV} {c0 c1 c2 c3 c4 : Cell} {c : Nat} (hc : c ∈ [38, 124, 94]) {x y : Int} {b : Nat} {P : List AV} (hP : P.length ≤ 1000) {S : List Nat} (hS : ∀ c ∈ S, c ∈ sgn) :
    ExOK nm X (execs fReck_0b_0B X.env) ⟨rkI a o t [41], rkC c0 c1 c2 c3 c4 (.int y :: .int x :: P) (sgA (c :: b :: S))⟩ .next ⟨rkA a o t, rkC c0 c1 c2 c3 c4 (.int (unw (deed c x y) S).1 :: P) (sgA (unw (deed c x y) S).2)⟩ := by
  rw [rk_bsp]
  have h1 : ExOK nm X (execs (embSs nm fReck_0b_0b_0) X.env) ⟨rkI a o t [41], rkC c0 c1 c2 c3 c4 (.int y :: .int x :: P) (sgA (c :: b :: S))⟩ .next ⟨rkI a o t [41], rkC c0 c1 c2 c3 c4 (.int (deed c x y) :: P) (sgA S)⟩ := by
    refine ExOK.sub (run_ok H.K H.T H.O (rk_close a o t c0 c1 c2 c3 c4 P (sgA S) c x y (.str [b])) (ob3 ⟨rfl, rfl⟩ hc (Nat.le_trans (Nat.succ_le_succ hP) (by decide)))) ?_
    intro p hp
    simp only [List.mem_cons, List.not_mem_nil, or_false] at hp
    rcases hp with rfl | rfl | rfl | rfl | rfl | rfl <;> rfl
  exact ExOK.sub (R_execs_app h1 (R_execs_next (R_while (rk_unw H (.inr rfl) hP S _ hS)) R_execs_nil)) rk_sub
theorem rk_sign {t : AV} {c0 c1 c2 c3 c4 : Cell} {c : Nat} (hc : c ∈ sgn) {P : List AV} {S : List Nat} (hn : S.length ≤ 1000) :
    ExOK nm X (execs fReck_0b_0B X.env) ⟨rkI a o t [c], rkC c0 c1 c2 c3 c4 P (sgA S)⟩ .next ⟨rkA a o t, rkC c0 c1 c2 c3 c4 P (sgA (c :: S))⟩ := by
  rw [rk_bsp]
  have hob : ∀ o' ∈ [Ob.say (a = a ∧ o = o), .app (sgA S)], o'.holds := ob2 ⟨rfl, rfl⟩ (by show (S.map _).length + 1 ≤ _; rw [List.length_map]; exact Nat.le_trans (Nat.succ_le_succ hn) (by decide))
  refine ExOK.sub (σ' := ⟨rkI a o t [c], rkC c0 c1 c2 c3 c4 P (sgA (c :: S))⟩) (R_execs_app (run_ok H.K H.T H.O (rk_open a o t c0 c1 c2 c3 c4 P (sgA S) c hc) hob) (R_execs_next (R_while ?_) R_execs_nil)) rk_sub
  by_cases h126 : c = 126
  · subst h126
    exact L_done (tst_ok H.K H.T H.O (rk_tf a o t c0 c1 c2 c3 c4 P (sgA S)) (ob1 ⟨rfl, rfl⟩) rfl)
  · exact L_done (tst_ok H.K H.T H.O (rk_tc a o t c0 c1 c2 c3 c4 P (sgA S) [c] c (mem_sub (n := 126) rfl hc h126)) no_obs rfl)
end
noncomputable abbrev RS := List Int × List Nat
noncomputable def stepI (i : It) (st : RS) : Option RS := match i with
  | .p c => match Nat.beq c 41 with
    | true => match st with
      | (y :: x :: P, c :: _ :: S) => if c ∈ [38, 124, 94] then some ((unw (deed c x y) S).1 :: P, (unw (deed c x y) S).2) else none
      | _ => none
    | false => some (st.1, c :: st.2)
  | w => some ((unw (maskOf w.tok) st.2).1 :: st.1, (unw (maskOf w.tok) st.2).2)
noncomputable def runI : List It → RS → Option RS
  | [], st => some st
  | i :: l, st => match stepI i st with
    | some st' => runI l st'
    | none => none
noncomputable def Fm.mask : Fm → Int
  | .w 0 => 170
  | .w 1 => 204
  | .w _ => 240
  | .neg f => Builtin.bitXor f.mask 255
  | .bin c a b => deed c a.mask b.mask
theorem run_fm : ∀ (f : Fm), f.ok → ∀ (rest : List It) (P : List Int) (S : List Nat), runI (f.items ++ rest) (P, S) = runI rest ((unw f.mask S).1 :: P, (unw f.mask S).2)
  | .w 0, _, rest, P, S => rfl
  | .w 1, _, rest, P, S => rfl
  | .w (_ + 2), _, rest, P, S => rfl
  | .neg f, h, rest, P, S => run_fm f h rest P (126 :: S)
  | .bin c a b, h, rest, P, S => by
    have e : (Fm.bin c a b).items ++ rest = .p 40 :: (a.items ++ (.p c :: (b.items ++ (.p 41 :: rest)))) := by simp [Fm.items]
    rw [e]
    show runI (a.items ++ (.p c :: (b.items ++ (.p 41 :: rest)))) (P, 40 :: S) = _
    rw [run_fm a h.2.1]
    show runI (.p c :: (b.items ++ (.p 41 :: rest))) (a.mask :: P, 40 :: S) = _
    have hc := h.1
    simp only [List.mem_cons, List.not_mem_nil, or_false] at hc
    rcases hc with rfl | rfl | rfl
    · show runI (b.items ++ (.p 41 :: rest)) (a.mask :: P, 38 :: 40 :: S) = _
      rw [run_fm b h.2.2]; rfl
    · show runI (b.items ++ (.p 41 :: rest)) (a.mask :: P, 124 :: 40 :: S) = _
      rw [run_fm b h.2.2]; rfl
    · show runI (b.items ++ (.p 41 :: rest)) (a.mask :: P, 94 :: 40 :: S) = _
      rw [run_fm b h.2.2]; rfl
theorem unw_sub : ∀ (S : List Nat) (m : Int), ∀ c ∈ (unw m S).2, c ∈ S
  | [], m, c, h => h
  | c' :: S, m, c, h => by
    unfold unw at h
    cases hq : Nat.beq c' 126 with
    | true => rw [hq] at h; exact .tail _ (unw_sub S _ c h)
    | false => rw [hq] at h; exact h
theorem unw_len : ∀ (S : List Nat) (m : Int), (unw m S).2.length ≤ S.length
  | [], m => Nat.le_refl _
  | c' :: S, m => by
    unfold unw
    cases hq : Nat.beq c' 126 with
    | true => exact Nat.le_trans (unw_len S _) (Nat.le_succ _)
    | false => exact Nat.le_refl _
noncomputable def itA (l : List It) : List AV := l.map fun i => .str i.tok
theorem stepI_inv {i : It} (hi : i.ok) {P P' : List Int} {S S' : List Nat} (hS : ∀ c ∈ S, c ∈ sgn) (h : stepI i (P, S) = some (P', S')) : (∀ c ∈ S', c ∈ sgn) ∧ P'.length + S'.length ≤ P.length + S.length + 1 := by
  have wd : ∀ (w : It), stepI w (P, S) = some ((unw (maskOf w.tok) S).1 :: P, (unw (maskOf w.tok) S).2) → stepI w (P, S) = some (P', S') → (∀ c ∈ S', c ∈ sgn) ∧ P'.length + S'.length ≤ P.length + S.length + 1 := by
    intro w e h
    rw [e] at h
    cases h
    have hl := unw_len S (maskOf w.tok)
    exact ⟨fun c hc => hS c (unw_sub S _ c hc), by simp only [List.length_cons]; omega⟩
  cases i with
  | w0 => exact wd .w0 rfl h
  | w1 => exact wd .w1 rfl h
  | w2 => exact wd .w2 rfl h
  | p c =>
    unfold stepI at h
    dsimp only at h
    cases hq : Nat.beq c 41 with
    | true =>
      have := beq_of hq
      subst this
      rw [hq] at h
      dsimp only at h
      split at h
      · rename_i y x P₀ c₀ b₀ S₀ e
        cases e
        split at h
        · cases h
          have hS₀ : ∀ c ∈ S₀, c ∈ sgn := fun c hc => hS c (.tail _ (.tail _ hc))
          have hl := unw_len S₀ (deed c₀ x y)
          exact ⟨fun c hc => hS₀ c (unw_sub S₀ _ c hc), by simp only [List.length_cons]; omega⟩
        · cases h
      · cases h
    | false =>
      rw [hq] at h
      cases h
      have hne := Nat.ne_of_beq_eq_false hq
      have hc : c ∈ sgn := mem_sub (l := pch) (n := 41) rfl hi hne
      refine ⟨fun c' hc' => ?_, by simp only [List.length_cons]; omega⟩
      rcases List.mem_cons.mp hc' with rfl | q
      · exact hc
      · exact hS c' q
section
variable {X : Cx} {d u : Nat} {a : Addr} {o : Obj} (H : RkIn X d u a o)
include H
theorem rk_item {t : AV} {c0 c1 c2 c3 c4 : Cell} {i : It} (hi : i.ok) {P P' : List Int} {S S' : List Nat} (hS : ∀ c ∈ S, c ∈ sgn) (hz : P.length + S.length ≤ 1000) (h : stepI i (P, S) = some (P', S')) :
    ExOK nm X (execs fReck_0b_0B X.env) ⟨rkI a o t i.tok, rkC c0 c1 c2 c3 c4 (plA P) (sgA S)⟩ .next ⟨rkA a o t, rkC c0 c1 c2 c3 c4 (plA P') (sgA S')⟩ := by
  have hpl : (plA P).length ≤ 1000 := by rw [plA, List.length_map]; exact Nat.le_trans (Nat.le_add_right _ _) hz
  have wd : ∀ (w : It), isWord w.tok = true → stepI w (P, S) = some ((unw (maskOf w.tok) S).1 :: P, (unw (maskOf w.tok) S).2) → stepI w (P, S) = some (P', S') → ExOK nm X (execs fReck_0b_0B X.env) ⟨rkI a o t w.tok, rkC c0 c1 c2 c3 c4 (plA P) (sgA S)⟩ .next ⟨rkA a o t, rkC c0 c1 c2 c3 c4 (plA P') (sgA S')⟩ := by
    intro w hw e h
    rw [e] at h
    cases h
    exact rk_word H hw hpl hS
  cases i with
  | w0 => exact wd .w0 rfl rfl h
  | w1 => exact wd .w1 rfl rfl h
  | w2 => exact wd .w2 rfl rfl h
  | p c =>
    unfold stepI at h
    dsimp only at h
    cases hq : Nat.beq c 41 with
    | true =>
      have := beq_of hq
      subst this
      rw [hq] at h
      dsimp only at h
      split at h
      · rename_i y x P₀ c₀ b₀ S₀ e
        cases e
        split at h
        · rename_i hc
          cases h
          exact rk_end H hc (by rw [List.length_map]; exact Nat.le_trans (Nat.le_trans (Nat.le_add_right _ 2) (Nat.le_add_right _ _)) hz) fun c hc => hS c (.tail _ (.tail _ hc))
        · cases h
      · cases h
    | false =>
      rw [hq] at h
      cases h
      have hne := Nat.ne_of_beq_eq_false hq
      exact rk_sign H (mem_sub (l := pch) (n := 41) rfl hi hne) (Nat.le_trans (Nat.le_add_left _ _) hz)
theorem rk_items {t : AV} {c0 c1 c2 c3 c4 : Cell} : ∀ (l : List It) (P : List Int) (S : List Nat) (st : RS), (∀ i ∈ l, i.ok) → (∀ c ∈ S, c ∈ sgn) → P.length + S.length + l.length ≤ 1000 → runI l (P, S) = some st →
    FoR X 142 fReck_0b_0B (itA l) ⟨rkA a o t, rkC c0 c1 c2 c3 c4 (plA P) (sgA S)⟩ ⟨rkA a o t, rkC c0 c1 c2 c3 c4 (plA st.1) (sgA st.2)⟩ ∧ (∀ c ∈ st.2, c ∈ sgn) ∧ st.1.length + st.2.length ≤ P.length + S.length + l.length
  | [], P, S, st, _, hS, _, h => by
    cases h
    exact ⟨rfl, hS, Nat.le_refl _⟩
  | i :: l, P, S, st, hok, hS, hz, h => by
    unfold runI at h
    split at h
    · rename_i st' e
      obtain ⟨P', S'⟩ := st'
      simp only [List.length_cons] at hz
      have h1 := rk_item H (t := t) (c0 := c0) (c1 := c1) (c2 := c2) (c3 := c3) (c4 := c4) (hok i (.head _)) hS (by omega) e
      obtain ⟨h2, h3⟩ := stepI_inv (hok i (.head _)) hS e
      obtain ⟨k1, k2, k3⟩ := rk_items (t := t) (c0 := c0) (c1 := c1) (c2 := c2) (c3 := c3) (c4 := c4) l P' S' st (fun j hj => hok j (.tail _ hj)) h2 (by omega) h
      exact ⟨⟨_, h1, k1⟩, k2, by simp only [List.length_cons]; omega⟩
    · cases h
end
noncomputable def tokIts : Its → List It
  | [] => []
  | (.p c, g) :: L => (c :: (cut g L).1).map .p
  | (i, _) :: _ => [i]
theorem cut_its : ∀ (g : Nat) (L : Its), L.map (·.1) = (cut g L).1.map It.p ++ (cut g L).2.map (·.1)
  | 0, (.p c, g) :: L => by
    have := cut_its g L
    simp only [cut, List.map_cons, List.cons_append]
    rw [← this]
  | 0, (.w0, _) :: L => by simp [cut]
  | 0, (.w1, _) :: L => by simp [cut]
  | 0, (.w2, _) :: L => by simp [cut]
  | 0, [] => by simp [cut]
  | _ + 1, L => by rw [cut_succ]; simp
theorem tok_its : ∀ (L : Its), L.map (·.1) = tokIts L ++ (nextL L).map (·.1)
  | [] => rfl
  | (.p c, g) :: L => by
    have := cut_its g L
    simp only [tokIts, nextL, List.map_cons, List.cons_append]
    rw [← this]
  | (.w0, _) :: L => rfl
  | (.w1, _) :: L => rfl
  | (.w2, _) :: L => rfl
theorem good_ok : ∀ {L : Its}, Good L → ∀ i ∈ L.map (·.1), i.ok
  | [], _, i, h => by cases h
  | (j, g) :: L, hg, i, h => by
    rw [List.map_cons] at h
    rcases List.mem_cons.mp h with rfl | q
    · exact hg.1
    · exact good_ok hg.2.2 i q
theorem iter_eq (a : Addr) (o : Obj) : True := trivial
noncomputable def OGt (a : AV) (cs₀ cs' : List Cell) : Orc where
  fn := fun _ _ _ => none
  mt := fun C i as cs => grd (Nat.beq C 743 && Nat.beq i 88) ((only1 as).bind fun x => grd (isC 0 x) (some (a, cs', [.say (cs = cs₀)])))
  pr := fun _ _ _ _ => none
theorem gt_meth (w : World) : (plainGet (KF w) 743 (nm 88) && (findIn (KF w) (.ref 743) (nm 88) == some (some (.ref 704))) && isFn (KF w) (.ref 704) && keepIn (KF w) (.ref 704)) = true := by kernel_rfl
theorem OGt_ok {X : Cx} {d u : Nat} (K : CxOK X d u) {a : AV} {cs₀ cs' : List Cell} (h : CallOK nm X.w 4 15 704 [.cell 0] cs₀ a cs') (hd : 4 ≤ d) (hu : 16 ≤ u) {T : Tb} : OrcOK nm X d u T (OGt a cs₀ cs') where
  fn := fun _ _ _ _ _ _ _ _ h => by cases h
  mt := fun C i as cs r cs' os h' ho => by
    obtain ⟨hi, k1⟩ := grd_eq h'
    rw [Bool.and_eq_true] at hi
    obtain ⟨x, k2, k3⟩ := bind_eq k1
    obtain ⟨k4, k5⟩ := grd_eq k3
    cases k5
    rw [show C = 743 from beq_of hi.1, show i = 88 from beq_of hi.2, only1_eq k2, isC_eq k4]
    have := gt_meth X.w
    simp only [Bool.and_eq_true] at this
    have e : cs = cs₀ := ho _ (.head _)
    subst e
    exact ⟨704, this.1.1.1, eq_of_beq this.1.1.2, this.1.2, KeepOK.fn this.2, fun loc => FnOK.of_call (σ := ⟨loc, _⟩) K hd hu h⟩
  pr := fun _ _ _ _ _ _ _ h => by cases h
section
variable (a : Addr) (o : Obj) (t v : AV) (cs₀ cs' : List Cell) (st : AV) (ln : Int) (pre rest : List Nat) (pb : List AV) (r : List Cell)
theorem rk_next : ex TRk (ev TRk (OGt v cs₀ cs') 20) 20 true fReck_0b_1 ⟨rkA a o t, lexCs st [] ln pre rest pb r⟩ = some (.next, ⟨rkA a o v, cs'⟩, [.say (lexCs st [] ln pre rest pb r = cs₀)]) := by kernel_rfl
theorem rk_more (x : List Nat) (O : Orc) (cs : List Cell) : ev TRk O 20 .tst fReck_0t ⟨rkA a o (.str x), cs⟩ = some (.bool true, ⟨rkA a o (.str x), cs⟩, []) := by kernel_rfl
theorem rk_over (O : Orc) (cs : List Cell) : ev TRk O 20 .tst fReck_0t ⟨rkA a o .none, cs⟩ = some (.bool false, ⟨rkA a o .none, cs⟩, []) := by kernel_rfl
theorem rk_iw (x : List Nat) (hx : isWord x = true) (cs : List Cell) : ev TRk (ORk a o) 20 .val fReck_0b_0i ⟨rkA a o (.str x), cs⟩ = some (.lst [.str x], ⟨rkA a o (.str x), cs⟩, [.say (a = a ∧ o = o)]) := by
  rcases (isWord_iff x).mp hx with rfl | rfl | rfl <;> kernel_rfl
theorem rk_ip (c : Nat) (hc : c ∈ pch) (l : List Nat) (cs : List Cell) : ev TRk (ORk a o) 20 .val fReck_0b_0i ⟨rkA a o (.str (c :: l)), cs⟩ = some (.lst ((c :: l).map fun c => .str [c]), ⟨rkA a o (.str (c :: l)), cs⟩, [.say (a = a ∧ o = o)]) := by
  unfold pch at hc
  simp only [List.mem_cons, List.not_mem_nil, or_false] at hc
  cases l with
  | nil => rcases hc with rfl | rfl | rfl | rfl | rfl | rfl <;> kernel_rfl
  | cons y l => rcases hc with rfl | rfl | rfl | rfl | rfl | rfl <;> kernel_rfl
end
theorem rk_osp : fReck_0B = Stmt.For (Expr.Name (nm 142) ⟨782,12,782,16⟩) (emb nm fReck_0b_0i) fReck_0b_0B [] ⟨782,8,793,49⟩ :: embSs nm fReck_0b_1 := rfl
section
variable {X : Cx} {d u : Nat} {a : Addr} {o : Obj} (H : RkIn X d u a o)
include H
theorem rk_iter {L : Its} (hg : Good L) (hL : L ≠ []) (cs : List Cell) : EvOK nm X (eval (emb nm fReck_0b_0i) X.env) ⟨rkA a o (tokV (nextT L)), cs⟩ (.lst (itA (tokIts L))) ⟨rkA a o (tokV (nextT L)), cs⟩ := by
  match L, hg, hL with
  | [], _, h => exact absurd rfl h
  | (.p c, g) :: L, hg, _ =>
    have := val_ok H.K H.T H.O (rk_ip a o c hg.1 (cut g L).1 cs) (ob1 ⟨rfl, rfl⟩)
    have e : itA (tokIts ((.p c, g) :: L)) = (c :: (cut g L).1).map fun c => AV.str [c] := by simp [itA, tokIts, It.tok]
    rw [e]
    exact this
  | (.w0, g) :: L, _, _ => exact val_ok H.K H.T H.O (rk_iw a o _ rfl cs) (ob1 ⟨rfl, rfl⟩)
  | (.w1, g) :: L, _, _ => exact val_ok H.K H.T H.O (rk_iw a o _ rfl cs) (ob1 ⟨rfl, rfl⟩)
  | (.w2, g) :: L, _, _ => exact val_ok H.K H.T H.O (rk_iw a o _ rfl cs) (ob1 ⟨rfl, rfl⟩)
omit H in
theorem runI_app : ∀ (l l' : List It) (st : RS), runI (l ++ l') st = match runI l st with | some st' => runI l' st' | none => none
  | [], l', st => rfl
  | i :: l, l', st => by
    simp only [List.cons_append, runI]
    cases stepI i st with
    | none => rfl
    | some st' => exact runI_app l l' st'
omit H in
theorem tokV_ne {L : Its} (h : L ≠ []) : ∃ x, tokV (nextT L) = .str x := by
  obtain ⟨t, tok, e⟩ := nextT_cons h
  exact ⟨_, by rw [e]; rfl⟩
omit H in
theorem nextL_lt : ∀ {L : Its}, L ≠ [] → (nextL L).length < L.length
  | [], h => absurd rfl h
  | (.p _, g) :: L, _ => by have := cut_len g L; simp only [nextL, List.length_cons]; omega
  | (.w0, _) :: L, _ => Nat.lt_succ_self _
  | (.w1, _) :: L, _ => Nat.lt_succ_self _
  | (.w2, _) :: L, _ => Nat.lt_succ_self _
end
theorem tokIts_len (L : Its) : (tokIts L).length + (nextL L).length = L.length := by
  have := congrArg List.length (tok_its L)
  simpa using this.symm
theorem runI_inv : ∀ (l : List It) (P : List Int) (S : List Nat) (st : RS), (∀ i ∈ l, i.ok) → (∀ c ∈ S, c ∈ sgn) → runI l (P, S) = some st → (∀ c ∈ st.2, c ∈ sgn) ∧ st.1.length + st.2.length ≤ P.length + S.length + l.length
  | [], P, S, st, _, hS, h => by
    cases h
    exact ⟨hS, Nat.le_refl _⟩
  | i :: l, P, S, st, hok, hS, h => by
    unfold runI at h
    split at h
    · rename_i st' e
      obtain ⟨P', S'⟩ := st'
      obtain ⟨h2, h3⟩ := stepI_inv (hok i (.head _)) hS e
      obtain ⟨k2, k3⟩ := runI_inv l P' S' st (fun j hj => hok j (.tail _ hj)) h2 h
      exact ⟨k2, by simp only [List.length_cons]; omega⟩
    · cases h
theorem rk_all {fin : RS} : ∀ (n : Nat) (L : Its), L.length ≤ n → Good L → ∀ (P : List Int) (S : List Nat), (∀ c ∈ S, c ∈ sgn) → P.length + S.length + L.length ≤ 1000 → runI (L.map (·.1)) (P, S) = some fin →
    ∀ (st : AV) (ln : Int) (pre rest : List Nat) (pb : List AV), After (nextL L) st rest pb →
    ∃ st' ln' pre' rest' pb', ∀ (X : Cx) (d u : Nat) (a : Addr) (o : Obj), RkIn X d u a o → 4 ≤ d → 16 ≤ u →
      LpOK X (emb nm fReck_0t) fReck_0B ⟨rkA a o (tokV (nextT L)), lexCs st [] ln pre rest pb [.list (plA P), .list (sgA S)]⟩ .next ⟨rkA a o .none, lexCs st' [] ln' pre' rest' pb' [.list (plA fin.1), .list (sgA fin.2)]⟩ := by
  intro n
  induction n with
  | zero =>
    intro L hn hg P S hS hz h st ln pre rest pb ha
    have : L = [] := List.length_eq_zero_iff.mp (by omega)
    subst this
    cases h
    exact ⟨st, ln, pre, rest, pb, fun X d u a o H _ _ => L_done (tst_ok H.K H.T H.O (rk_over a o _ _) no_obs rfl)⟩
  | succ n ih =>
    intro L hn hg P S hS hz h st ln pre rest pb ha
    by_cases hL : L = []
    · subst hL
      cases h
      exact ⟨st, ln, pre, rest, pb, fun X d u a o H _ _ => L_done (tst_ok H.K H.T H.O (rk_over a o _ _) no_obs rfl)⟩
    · have hlt := nextL_lt hL
      have htl := tokIts_len L
      rw [tok_its, runI_app] at h
      cases hr : runI (tokIts L) (P, S) with
      | none => rw [hr] at h; cases h
      | some st₁ =>
        rw [hr] at h
        dsimp only at h
        obtain ⟨P₁, S₁⟩ := st₁
        have hok : ∀ i ∈ tokIts L, i.ok := fun i hi => good_ok hg i (by rw [tok_its]; exact List.mem_append_left _ hi)
        have items := fun {X : Cx} {d u : Nat} {a : Addr} {o : Obj} (H : RkIn X d u a o) => rk_items H (t := tokV (nextT L)) (c0 := lexC st [] ln) (c1 := .strm pre rest) (c2 := .deque []) (c3 := .deque []) (c4 := .deque pb) (tokIts L) P S (P₁, S₁) hok hS (by omega) hr
        have hg₁ := nextL_good hg
        obtain ⟨st₂, ln₂, pre₂, rest₂, pb₂, ha₂, hc₂⟩ := get_token_ok (r := [.list (plA P₁), .list (sgA S₁)]) (ln := ln) (pre := pre) ha hg₁ (by omega)
        have facts := runI_inv (tokIts L) P S (P₁, S₁) hok hS hr
        obtain ⟨st', ln', pre', rest', pb', hfin⟩ := ih (nextL L) (by omega) hg₁ P₁ S₁ facts.1 (by have := facts.2; dsimp only at this; omega) h st₂ ln₂ pre₂ rest₂ pb₂ ha₂
        refine ⟨st', ln', pre', rest', pb', fun X d u a o H hd hu => ?_⟩
        obtain ⟨x, hx⟩ := tokV_ne hL
        refine L_turn (r := .next) (σ₁ := ⟨rkA a o (tokV (nextT L)), lexCs st [] ln pre rest pb [.list (plA P), .list (sgA S)]⟩) (by rw [hx]; exact tst_ok H.K H.T H.O (rk_more a o x _ _) no_obs rfl) ?_ (hfin X d u a o H hd hu)
        rw [rk_osp]
        refine R_execs_next (R_for H.K (H.T.loc 142 (by kernel_rfl)) (fun _ => rfl) (rk_iter H hg hL _) (items H).1) ?_
        exact run_ok H.K H.T (OGt_ok H.K (hc₂ X.w) hd hu) (rk_next a o _ _ _ _ st ln pre rest pb _) (ob1 rfl)
theorem band_nat (a b : Nat) : Builtin.bitAnd (a : Int) (b : Int) = ((a &&& b : Nat) : Int) := by
  unfold Builtin.bitAnd
  rw [decide_eq_true (Int.natCast_nonneg a), decide_eq_true (Int.natCast_nonneg b)]
  simp
theorem bnot_nat (a : Nat) : Builtin.bitNot (a : Int) = -(a : Int) - 1 := by
  unfold Builtin.bitNot; omega
theorem bor_nat (a b : Nat) : Builtin.bitOr (a : Int) (b : Int) = ((a ||| b : Nat) : Int) := by
  unfold Builtin.bitOr
  rw [bnot_nat, bnot_nat]
  unfold Builtin.bitAnd
  rw [decide_eq_false (by omega), decide_eq_false (by omega)]
  have h : ∀ n : Nat, (Builtin.bitNot (-(n : Int) - 1)).toNat = n := by intro n; unfold Builtin.bitNot; omega
  dsimp only
  rw [h, h, bnot_nat]
  unfold Builtin.bitNot; omega
theorem x256 : ((List.range 256).all fun a => (List.range 256).all fun b => Nat.beq ((a &&& b) + (a ^^^ b)) (a ||| b)) = true := by kernel_rfl
theorem bxor_nat {a b : Nat} (ha : a < 256) (hb : b < 256) : Builtin.bitXor (a : Int) (b : Int) = ((a ^^^ b : Nat) : Int) := by
  unfold Builtin.bitXor
  rw [bor_nat, band_nat]
  have h1 := List.all_eq_true.mp x256 a (by simpa using ha)
  have h2 := List.all_eq_true.mp h1 b (by simpa using hb)
  have := Nat.eq_of_beq_eq_true h2
  omega
noncomputable def natD (c x y : Nat) : Nat := match Nat.beq c 38 with
  | true => x &&& y
  | false => match Nat.beq c 124 with
    | true => x ||| y
    | false => x ^^^ y
noncomputable def Fm.nat : Fm → Nat
  | .w 0 => 170
  | .w 1 => 204
  | .w _ => 240
  | .neg f => f.nat ^^^ 255
  | .bin c a b => natD c a.nat b.nat
theorem nat_lt : ∀ f : Fm, f.nat < 256
  | .w 0 => by decide
  | .w 1 => by decide
  | .w (_ + 2) => by show 240 < 256; decide
  | .neg f => Nat.xor_lt_two_pow (n := 8) (nat_lt f) (by decide)
  | .bin c a b => by
    have ha := nat_lt a
    have hb := nat_lt b
    show natD c a.nat b.nat < 256
    unfold natD
    split
    · exact Nat.and_lt_two_pow (n := 8) _ hb
    · split
      · exact Nat.or_lt_two_pow (n := 8) ha hb
      · exact Nat.xor_lt_two_pow (n := 8) ha hb
theorem mask_nat : ∀ f : Fm, f.mask = (f.nat : Int)
  | .w 0 => rfl
  | .w 1 => rfl
  | .w (_ + 2) => rfl
  | .neg f => by
    show Builtin.bitXor f.mask 255 = _
    rw [mask_nat f]
    exact bxor_nat (nat_lt f) (by decide)
  | .bin c a b => by
    show deed c a.mask b.mask = ((natD c a.nat b.nat : Nat) : Int)
    rw [mask_nat a, mask_nat b]
    unfold deed natD
    cases Nat.beq c 38 with
    | true => exact band_nat _ _
    | false => cases Nat.beq c 124 with
      | true => exact bor_nat _ _
      | false => exact bxor_nat (nat_lt a) (nat_lt b)
theorem p8 {p : Nat} (hp : p < 8) : p = 0 ∨ p = 1 ∨ p = 2 ∨ p = 3 ∨ p = 4 ∨ p = 5 ∨ p = 6 ∨ p = 7 := by omega
theorem bit_holds {p : Nat} (hp : p < 8) : ∀ f : Fm, f.ok → f.nat.testBit p = f.holds p
  | .w 0, _ => by rcases p8 hp with rfl | rfl | rfl | rfl | rfl | rfl | rfl | rfl <;> decide
  | .w 1, _ => by rcases p8 hp with rfl | rfl | rfl | rfl | rfl | rfl | rfl | rfl <;> decide
  | .w 2, _ => by rcases p8 hp with rfl | rfl | rfl | rfl | rfl | rfl | rfl | rfl <;> decide
  | .w (_ + 3), h => by have : _ + 3 < 3 := h; omega
  | .neg f, h => by
    show (f.nat ^^^ 255).testBit p = !f.holds p
    rw [Nat.testBit_xor, bit_holds hp f h]
    have : (255 : Nat).testBit p = true := by rcases p8 hp with rfl | rfl | rfl | rfl | rfl | rfl | rfl | rfl <;> decide
    rw [this]
    cases f.holds p <;> rfl
  | .bin c a b, h => by
    have ha := bit_holds hp a h.2.1
    have hb := bit_holds hp b h.2.2
    show (natD c a.nat b.nat).testBit p = (match Nat.beq c 38 with
    | true => a.holds p && b.holds p
    | false => match Nat.beq c 124 with
      | true => a.holds p || b.holds p
      | false => a.holds p != b.holds p)
    unfold natD
    cases Nat.beq c 38 with
    | true => show (a.nat &&& b.nat).testBit p = _; rw [Nat.testBit_and, ha, hb]
    | false => cases Nat.beq c 124 with
      | true => show (a.nat ||| b.nat).testBit p = _; rw [Nat.testBit_or, ha, hb]
      | false =>
        show (a.nat ^^^ b.nat).testBit p = _
        rw [Nat.testBit_xor, ha, hb]
noncomputable def sumH (f : Nat → Bool) : Nat := (((List.range 8).filter f).map (2 ^ ·)).sum
theorem s256 : ((List.range 256).all fun m => Nat.beq (sumH (fun p => m.testBit p)) m) = true := by kernel_rfl
theorem sum_eq (f : Fm) (h : f.ok) : f.mask = (sumH f.holds : Int) := by
  rw [mask_nat]
  have e : sumH f.holds = sumH (fun p => f.nat.testBit p) := by
    unfold sumH
    congr 2
    refine List.filter_congr fun p hp => ?_
    rw [bit_holds (by simpa using hp) f h]
  rw [e, Nat.eq_of_beq_eq_true (List.all_eq_true.mp s256 f.nat (by simpa using nat_lt f))]
noncomputable abbrev TTr : Tb := mkT fTrans_locs fTrans_globs
theorem tr_loc : (fTrans_locs.all fun i => fTrans_scope.names.lookup (nm i) == some .local) = true := by kernel_rfl
theorem tr_run (c0 : Cell) (b t : List Nat) (p : Int) (r : List Cell) : ex TTr (ev TTr noO 20) 20 true fTrans_0 ⟨[(9, .cell 1), (32, .str t)], c0 :: strI b p :: r⟩ = some (.ret (.str t), ⟨[(9, .cell 1), (32, .str t), (17, .str [10])], c0 :: strI b p :: r⟩, []) := by kernel_rfl
theorem trans_ok (w : World) (c0 : Cell) (b t : List Nat) (p : Int) (r : List Cell) : CallOK nm w 1 3 385 [.cell 1, .str t] (c0 :: strI b p :: r) (.str t) (c0 :: strI b p :: r) := by
  refine CallOK.of_body (d := 0) (u := 0) (fl := .ret (.str t)) (loc := [(9, .cell 1), (32, .str t)]) (loc' := [(9, .cell 1), (32, .str t), (17, .str [10])]) (fTrans_at w) (by kernel_rfl) ?_ (by decide +kernel) rfl rfl rfl ?_
  · intro s W vals hK ha
    cases ha with
    | cons h1 hr => cases hr with
      | cons h2 hr => cases hr with
        | nil => exact ⟨([9, 32].map nm).zip [_, _], BindsTo.of_eq rfl, locs rfl, locOK_zip (ids := [9, 32]) (.cons h1 (.cons h2 .nil)) (by decide)⟩
  · intro X e1 e2 e3 e4 e5 K
    have hT : TbOK nm X TTr := mkT_ok K (by rw [e3]; exact tr_loc) (by rw [e3]; rfl)
    exact run_ok K hT noO_ok (tr_run c0 b t p r) no_obs
theorem type_str_ok {X : Cx} {σ : AS} {l : List Nat} : FnOK nm X (.type "type") [.str l] σ (.val (.type "str")) σ := by
  intro s W vals S hv
  cases hv with
  | cons h1 hr => cases hr with
    | nil => cases h1 with
      | str n t hz => exact EvAt.here S fun Q E hQ => call_type_of (typeIs_str s _ t) (by decide) (hQ _ s.toks (.val _))
noncomputable abbrev TSi : Tb := mkT fSInit_locs fSInit_globs
noncomputable def OSi : Orc where
  fn := fun i as cs => grd (Nat.beq i 5) ((only1 as).bind fun a => a.str?.bind fun _ => some (.val (.type "str"), cs, []))
  mt := fun C i as cs => grd (Nat.beq C 608 && Nat.beq i 36) ((only2 as).bind fun a => grd (isC 1 a.1) (a.2.str?.bind fun t => (sec? cs).bind fun q => (strI? q.2.1).bind fun _ => some (.str t, cs, [])))
  pr := fun _ _ _ _ => none
theorem si_loc : (fSInit_locs.all fun i => fSInit_scope.names.lookup (nm i) == some .local) = true := by kernel_rfl
theorem si_glob : (fSInit_globs.all fun i => fSInit_scope.names.lookup (nm i) == some .globalImplicit) = true := by kernel_rfl
theorem tr_meth (w : World) : (plainGet (KF w) 608 (nm 36) && (findIn (KF w) (.ref 608) (nm 36) == some (some (.ref 385))) && isFn (KF w) (.ref 385) && keepIn (KF w) (.ref 385)) = true := by kernel_rfl
theorem OSi_ok {X : Cx} {d u : Nat} (K : CxOK X d u) (hd : 1 ≤ d) (hu : 4 ≤ u) : OrcOK nm X d u TSi OSi where
  fn := fun i f as cs r cs' os hg h ho => by
    obtain ⟨hi, h1⟩ := grd_eq h
    obtain ⟨a, h2, h3⟩ := bind_eq h1
    obtain ⟨l, h4, h5⟩ := bind_eq h3
    cases h5
    have e : TSi.glob 5 = some (.type "type") := by kernel_rfl
    rw [show i = 5 from beq_of hi, e] at hg; cases hg
    rw [only1_eq h2, str?_eq h4]
    exact ⟨KeepOK.ty, fun loc => type_str_ok⟩
  mt := fun C i as cs r cs' os h ho => by
    obtain ⟨hi, h1⟩ := grd_eq h
    rw [Bool.and_eq_true] at hi
    obtain ⟨⟨a1, a2⟩, h2, h3⟩ := bind_eq h1
    obtain ⟨h4, h5⟩ := grd_eq h3
    obtain ⟨t, h6, h7⟩ := bind_eq h5
    obtain ⟨q, h8, h9⟩ := bind_eq h7
    obtain ⟨⟨buf, p⟩, h10, h11⟩ := bind_eq h9
    cases h11
    have := tr_meth X.w
    simp only [Bool.and_eq_true] at this
    rw [show C = 608 from beq_of hi.1, show i = 36 from beq_of hi.2, only2_eq h2, show a1 = .cell 1 from isC_eq h4, show a2 = .str t from str?_eq h6, sec?_eq h8, strI?_eq h10]
    exact ⟨385, this.1.1.1, eq_of_beq this.1.1.2, this.1.2, KeepOK.fn this.2, fun loc => FnOK.of_call (σ := ⟨loc, _⟩) K hd hu (trans_ok X.w _ _ _ _ _)⟩
  pr := fun _ _ _ _ _ _ _ h => by cases h
theorem si_run (c0 : Cell) (t : List Nat) (r : List Cell) : ex TSi (ev TSi OSi 20) 20 true fSInit_0 ⟨[(9, .cell 1), (34, .str t), (17, .str [10])], c0 :: .inst 608 [] :: r⟩ = some (.next, ⟨[(9, .cell 1), (34, .str t), (17, .str [10])], c0 :: strI t 0 :: r⟩, []) := by kernel_rfl
theorem dfl371 (w : World) : (KF w).lookup 371 = some ⟨.type "tuple", none, .seq #[.str ⟨#[]⟩ 696, .str ⟨#[10]⟩ 697] 0, #[]⟩ := by kernel_rfl
theorem sinit_one (w : World) (c0 : Cell) (t : List Nat) (r : List Cell) : CallOK nm w 2 7 378 [.cell 1, .str t] (c0 :: .inst 608 [] :: r) .none (c0 :: strI t 0 :: r) := by
  refine CallOK.of_body (d := 1) (u := 4) (fl := .next) (loc := [(9, .cell 1), (34, .str t), (17, .str [10])]) (loc' := [(9, .cell 1), (34, .str t), (17, .str [10])]) (fSInit_at w) (by kernel_rfl) ?_ (by decide +kernel) rfl rfl rfl ?_
  · intro s W vals hK ha
    cases ha with
    | cons h1 hr => cases hr with
      | cons h2 hr => cases hr with
        | nil => exact ⟨([9, 34, 17].map nm).zip [_, _, .str ⟨#[10]⟩ 697], binds_K hK rfl (dfl371 w) rfl rfl rfl, locs rfl, locOK_zip (ids := [9, 34, 17]) (args := [_, _, .str [10]]) (.cons h1 (.cons h2 (.cons (.str [10] _ (by decide)) .nil))) (by decide)⟩
  · intro X e1 e2 e3 e4 e5 K
    have hT : TbOK nm X TSi := mkT_ok K (by rw [e3]; exact si_loc) (by rw [e3]; exact si_glob)
    exact run_ok K hT (OSi_ok K (Nat.le_refl 1) (Nat.le_refl 4)) (si_run c0 t r) no_obs
theorem sinit_ok (w : World) (c0 : Cell) (t : List Nat) (r : List Cell) : CallOK nm w 2 7 378 [.cell 1, .str t] (c0 :: .inst 608 [] :: r) .none (c0 :: .strm [] t :: r) := by
  intro A h₀ s W vals hK hT hd hu hH hp ha R hR
  exact sinit_one w c0 t r A h₀ s W vals hK hT hd hu hH hp ha R fun v W' h' tk' hw hv hp' => hR v W' h' tk' hw hv (hp_strm.mpr hp')
noncomputable def CallOKk (w : World) (dn un : Nat) (f : Addr) (args : List AV) (ks : List Str) (kws : List AV) (cells : List Cell) (r : AV) (cells' : List Cell) : Prop :=
  ∀ (A : Around) (h₀ : Heap) (s : Shared) (W : Wd) (vals kvs : List Value), (KF w).In h₀ → (∃ p loose mg mb, TopRead p loose mg mb h₀) → A.depth + dn < recursionLimit → A.units + un < cLine → A.handled = none →
    HpOK nm h₀ W cells s.heap → RelVs W args vals → RelVs W kws kvs → ∀ (R : Result → Shared → Prop),
    (∀ v W' h' tk', W.le W' → RelV W' r v → HpOK nm h₀ W' cells' h' → R (.ok (.ret v)) { s with heap := h', toks := tk' }) → codeAny (model prg w) A (.call (.ref f) ⟨vals, ks.zip kvs⟩) R s
section
variable {d u : Nat}
theorem CallOKk.of_body {w : World} {f : Addr} {oc : Value} {od : Option Addr} {osl : Array (Option Value)} {name qual : Str} {params : Arguments} {body : List Stmt} {scope : Scope} {dV kV doc pm cdv ct : Value} {an : Option Addr}
    {args kws : List AV} {ks : List Str} {cells cells' : List Cell} {loc loc' : List (Nat × AV)} {fl : AFl}
    (ho : (KF w).lookup f = some ⟨oc, od, .func (fnOf name qual params body scope dV kV doc pm an cdv ct), osl⟩) (hcd : codeIn (KF w) cdv qual = true)
    (hb : ∀ (s : Shared) (W : Wd) (vals kvs : List Value), (KF w).In s.heap → RelVs W args vals → RelVs W kws kvs → ∃ binds, BindsTo s (fnOf name qual params body scope dV kV doc pm an cdv ct) ⟨vals, ks.zip kvs⟩ binds ∧ (∀ y ∈ binds, scope.names.lookup y.1 = some .local) ∧ LocOK nm W loc (fun y => binds.reverse.lookup y))
    (hcell : ∀ x ∈ scope.names, x.2 ≠ .cell) (hco : scope.isCoroutine = false) (hgen : scope.isGenerator = false) (hk : scope.kind = .function)
    (h : ∀ X : Cx, X.w = w → X.cn = qual → X.cs = scope → X.f = f → X.cd = cdv → CxOK X d u → ExOK nm X (execs body X.env) ⟨loc, cells⟩ fl ⟨loc', cells'⟩) :
    CallOKk w (d + 1) (u + 3) f args ks kws cells fl.val cells' := by
  intro A h₀ s W vals kvs hK hT hd hu hH ⟨k1, k2, objs, hc, hp, nd⟩ ha hak R hQ
  have hKs : (KF w).In s.heap := hK.keeps k1
  obtain ⟨binds, hbt, hloc, hL⟩ := hb s W vals kvs hKs ha hak
  obtain ⟨p, loose, mg, mb, T⟩ := hT
  refine codeAny_call_def (fd := fnOf name qual params body scope dV kV doc pm an cdv ct) (body := body) (binds := binds) (by omega) (hKs _ _ ho) rfl ((T.keeps k1).nolimit) (codeRec_of hKs hcd) rfl hbt hcell hloc (fun h₁ hns hk₁ => ?_) hco hgen hk
  let X : Cx := ⟨w, h₀, s.heap.objs.size, qual, scope, f, cdv, A.deeper (envOf qual scope s.heap.objs.size f cdv)⟩
  have KX : CxOK X d u := ⟨hK, ⟨p, loose, mg, mb, T⟩, hk, by show A.depth + 1 + d < _; omega, by show A.units + 3 + u < _; omega, hH⟩
  refine h X rfl rfl rfl rfl rfl KX { s with heap := h₁, toks := s.toks + binds.length } W ⟨_, objs, ⟨hns, fun b o e => hk₁ b o (k1 b o e), k2⟩, hL, hc, fun p hp' => ⟨hk₁ _ _ (hp p hp').1, Nat.ne_of_lt (Heap.lt_size (hp p hp').1), (hp p hp').2⟩, nd⟩ _ _ ?_
  intro fl' W' h' tk' hw hf S'
  have hp := S'.hp
  cases hf with
  | next => exact hQ _ W' h' tk' hw .none hp
  | brk => exact hQ _ W' h' tk' hw .none hp
  | cont => exact hQ _ W' h' tk' hw .none hp
  | ret hv => exact hQ _ W' h' tk' hw hv hp
end
noncomputable abbrev TIn : Tb := mkT fInit_locs fInit_globs
theorem in_loc : (fInit_locs.all fun i => fInit_scope.names.lookup (nm i) == some .local) = true := by kernel_rfl
theorem in_glob : (fInit_globs.all fun i => fInit_scope.names.lookup (nm i) == some .globalImplicit) = true := by kernel_rfl
noncomputable abbrev inL (t : List Nat) : List (Nat × AV) := [(9, .cell 0), (42, .str t), (43, .none), (44, .bool true), (45, .str pch)]
namespace DQ
theorem mro_dq : mroOf (.type "collections.deque") = pure [.type "collections.deque", .type "object"] := by rw [mroOf_type]; kernel_rfl
theorem lookup_new : typeLookup (.type "collections.deque") "__new__" = pure (some (.builtin "collections.deque.__new__")) := by rw [typeLookup_type, builtinLookup_eq_fast]; kernel_rfl
theorem slot_init : Slot "collections.deque" "__init__" "collections.deque.__init__" :=
  Slot.of (owner := "collections.deque") (n := "__init__") (by rw [typeLookup_type, builtinLookup_eq_fast]; kernel_rfl) (by decide +kernel) (by decide +kernel) (by decide +kernel) (.inl (by decide +kernel)) (by rw [isSubtype_type]; kernel_rfl)
theorem called : TypeCalled "collections.deque" "collections.deque.__new__" "collections.deque.__init__" :=
  ⟨by decide +kernel, by decide +kernel, ⟨_, _, mro_dq⟩, madeBy_type mro_dq lookup_new (by decide +kernel), by decide +kernel, by rw [isSubtype_type]; kernel_rfl, slot_init⟩
theorem typeCall0 : checkTypeCall "collections.deque" ⟨[], []⟩ = pure () := by kernel_rfl
theorem newCall0 : checkBuiltinCall "collections.deque.__new__" ⟨[.type "collections.deque"], []⟩ = pure () := by kernel_rfl
theorem entry_new : entryFor table "collections.deque.__new__" = some Builtin.«collections.deque.__new__» := entryFor_of_tree (by kernel_rfl)
theorem entry_init : entryFor table "collections.deque.__init__" = some Builtin.«collections.deque.__init__» := entryFor_of_tree (by kernel_rfl)
theorem args_init (a : Value) : argsOk "collections.deque.__init__" ⟨[a], []⟩ := by unfold argsOk; kernel_rfl
theorem plain_new : plainId "collections.deque.__new__" = true := by decide +kernel
section
variable {w : World} {A : Around} {E : Value → Shared → Prop} {s : Shared}
theorem code_new {Q₁ : Value → Shared → Prop} (h : Q₁ (.ref s.heap.objs.size) { s with heap := s.heap.push { cls := .type "collections.deque", data := .fields #[.none, rawInt 0] } }) :
    codeAny (model prg w) A (.call (.builtin "collections.deque.__new__") ⟨[.type "collections.deque"], []⟩) (wants Q₁ E) s := by
  refine codeAny_of_tree ?_
  show wpAny _ A.in1 (do checkBuiltinCall "collections.deque.__new__" ⟨[.type "collections.deque"], []⟩; again (.builtin "collections.deque.__new__" ⟨[.type "collections.deque"], []⟩)) _ _ s
  refine wpAny_bind (wpAny_of_eq newCall0 (wpAny_pure ⟨plainId_quiet plain_new _, codeAny_builtin entry_new ?_⟩))
  rw [Around.under_plainId plain_new _]
  have hsub := called.sub
  obtain ⟨hp, g, d, tk, os⟩ := s
  unfold Builtin.«collections.deque.__new__» Builtin.Deque.newArgs Builtin.Deque.new Builtin.Deque.ty
  wp_walk
  exact h
end
end DQ
theorem St.cellK {X : Cx} {W : Wd} {σ : AS} {s : Shared} (S : St nm X W σ s) {o : Obj} {c : Cell} {h' : Heap} (hk : ∀ b o, s.heap.get? b = some o → h'.get? b = some o) (ho : h'.get? s.heap.objs.size = some o) (hc : ∀ W' : Wd, W.le W' → CellIs nm W' s.heap.objs.size s.heap.objs.size c [(s.heap.objs.size, o)]) (tk : Nat) :
    W.le { W with ca := W.ca ++ [(s.heap.objs.size, s.heap.objs.size)] } ∧ St nm X { W with ca := W.ca ++ [(s.heap.objs.size, s.heap.objs.size)] } ⟨σ.loc, σ.cells ++ [c]⟩ { s with heap := h', toks := tk } := by
  obtain ⟨m, objs, F, hL, hcs, N, nd⟩ := id S
  refine S.cellNew (o := o) (fun F => F.keeps hk) (fun N => ?_) hc tk
  intro p hp
  rcases List.mem_cons.mp hp with rfl | q
  · refine ⟨ho, fun e => ?_, ?_⟩
    · have z := F.ns.lt
      have e' : s.heap.objs.size = X.L := e
      rw [← e'] at z
      exact Nat.lt_irrefl _ z
    · cases q : X.h₀.get? s.heap.objs.size with
      | none => rfl
      | some o' => exact absurd (Heap.lt_size (F.keep _ _ q)) (Nat.lt_irrefl _)
  · exact ⟨hk _ _ (N p q).1, (N p q).2⟩
theorem deque_ok {X : Cx} {σ : AS} : FnOK nm X (.type "collections.deque") [] σ (.cell σ.cells.length) ⟨σ.loc, σ.cells ++ [.deque []]⟩ := by
  intro s W vals S hv Q E hQ
  cases hv
  refine callType_codes (Q₁ := fun obj s₁ => obj = .ref s.heap.objs.size ∧ s₁ = { s with heap := s.heap.push { cls := .type "collections.deque", data := .fields #[.none, rawInt 0] } }) DQ.called DQ.typeCall0 DQ.entry_init
    (DQ.code_new ⟨rfl, rfl⟩) fun obj s₁ h₁ => ?_
  obtain ⟨rfl, rfl⟩ := h₁
  have hS : (s.heap.push { cls := .type "collections.deque", data := .fields #[.none, rawInt 0] }).get? s.heap.objs.size = some { cls := .type "collections.deque", data := .fields #[.none, rawInt 0] } := Heap.get?_push_size _ rfl
  refine ⟨⟨_, hS, rfl⟩, DQ.args_init _, ?_⟩
  unfold Builtin.«collections.deque.__init__» Builtin.Deque.clear Builtin.Deque.items
  have fin : ∀ h', h'.get? s.heap.objs.size = some (dqObj [] 0) → (∀ b o, s.heap.get? b = some o → h'.get? b = some o) → Q (.ref s.heap.objs.size) { s with heap := h' } := by
    intro h' ho hk
    have A := S.cellK (o := dqObj [] 0) (c := .deque []) hk ho (fun W' _ => .deque (vs := []) (by decide) .nil) s.toks
    refine hQ _ _ _ s.toks A.1 (.cell (d := s.heap.objs.size) ?_) A.2
    obtain ⟨m, objs, F, hL, hcs, N, nd⟩ := S
    have hlen := hcs.length
    show (W.ca ++ [(s.heap.objs.size, s.heap.objs.size)])[σ.cells.length]? = _
    rw [← hlen]
    simp
  obtain ⟨hp, g, d, tk, os⟩ := s
  wp_walk
  refine ⟨rfl, fin _ ?_ fun b o e => ?_⟩
  · have := Heap.get?_update_self (Obj.mapFields fun x => x.setIfInBounds 0 Value.none) hS rfl
    exact this.trans (by kernel_rfl)
  · have hlt := Heap.lt_size e
    exact (Heap.get?_update_other _ _ (Ne.symm (Nat.ne_of_lt hlt))).trans (Heap.get?_push_of_some _ e)
section
variable {w : World} {A : Around} {s : Shared}
theorem bind101 {v : Value} {E : Value → Shared → Prop} {Q : List (Str × Value) → Shared → Prop} {body : List Stmt} {scope : Scope} {cdv pm : Value}
    (h : Q [(nm 37, .ref 608), (Str.ofString "args", .ref s.heap.objs.size), (Str.ofString "kwargs", .ref (s.heap.objs.size + 1))] { s with heap := (s.heap.push (tupObj [v])).push emptyDict }) :
    wpAny (model prg w) A (bindArgs (fnOf (Str.ofString "__new__") (Str.ofString "IOBase.__new__") fNew_params body scope .none .none .none pm none cdv .none) ⟨[.ref 608, v], []⟩) Q E s := by
  show wpAny _ _ (newTuple [v] >>= fun t => alloc emptyDict >>= fun d => pure [(Str.ofString "cls", Value.ref 608), (Str.ofString "args", t), (Str.ofString "kwargs", .ref d)]) _ _ _
  refine wpAny_bind (wpAny_newObj_type ?_ (by show 1 ≤ sizeLine; rw [sizeLine_is]; decide))
  refine wpAny_bind (wpAny_alloc (wpAny_pure ?_))
  rw [Heap.size_push]
  exact h
end
theorem call101 {d u : Nat} (w : World) {t : List Nat} {cells cells' : List Cell} {r : AV} {loc' : List (Nat × AV)}
    (h : ∀ X : Cx, X.w = w → X.cs = fNew_scope → CxOK X d u → ExOK nm X (execs fNew_body X.env) ⟨[(37, .val (.ref 608))], cells⟩ (.ret r) ⟨loc', cells'⟩) : CallOK nm w (d + 1) (u + 3) 101 [.val (.ref 608), .str t] cells r cells' := by
  intro A h₀ s W vals hK hT hd hu hH ⟨k1, k2, objs, hc, hp, nd⟩ ha R hQ
  have hKs : (KF w).In s.heap := hK.keeps k1
  obtain ⟨p, loose, mg, mb, T⟩ := hT
  cases ha with
  | cons h1 hr => cases h1 with
    | val _ => cases hr with
      | cons h2 hr => cases hr with
        | nil =>
          rename_i v
          refine codeAny_call_function (by omega) (hKs _ _ (fNew_at w)) rfl rfl rfl rfl (codeRec_of hKs (by kernel_rfl)) (bind101 ?_)
          have hkp : ∀ b o, s.heap.get? b = some o → ((s.heap.push (tupObj [v])).push emptyDict).get? b = some o := fun b o e => Heap.get?_push_of_some _ (Heap.get?_push_of_some _ e)
          have k1' : ∀ b o, h₀.get? b = some o → ((s.heap.push (tupObj [v])).push emptyDict).get? b = some o := fun b o e => hkp b o (k1 b o e)
          refine wpAny_newFunctionEnv (by decide +kernel) (locs rfl) (fun h₁ hns hsb => ⟨(((T.keeps k1').nolimit).fresh _ hsb), codeAny_func ?_⟩) rfl
          have hk₁ : ∀ b o, s.heap.get? b = some o → h₁.get? b = some o := fun b o e => hsb.extBut b o (Nat.ne_of_lt (Heap.lt_size (hkp b o e))) (Heap.get?_push_of_some _ (hkp b o e))
          have hLt : s.heap.objs.size ≤ ((s.heap.push (tupObj [v])).push emptyDict).objs.size := by rw [Heap.size_push, Heap.size_push]; omega
          let X : Cx := ⟨w, h₀, ((s.heap.push (tupObj [v])).push emptyDict).objs.size, Str.ofString "IOBase.__new__", fNew_scope, 101, .ref 100, A.deeper (envOf (Str.ofString "IOBase.__new__") fNew_scope ((s.heap.push (tupObj [v])).push emptyDict).objs.size 101 (.ref 100))⟩
          have KX : CxOK X d u := ⟨hK, ⟨p, loose, mg, mb, T⟩, rfl, by show A.depth + 1 + d < _; omega, by show A.units + 3 + u < _; omega, hH⟩
          refine h X rfl rfl KX { s with heap := h₁, toks := s.toks + 3 } W ⟨_, objs, ⟨hns, fun b o e => hk₁ b o (k1 b o e), Nat.le_trans k2 hLt⟩, ?_, hc, fun p hp' => ⟨hk₁ _ _ (hp p hp').1, Nat.ne_of_lt (Nat.lt_of_lt_of_le (Heap.lt_size (hp p hp').1) hLt), (hp p hp').2⟩, nd⟩ _ _ ?_
          · intro i a e
            by_cases hi : i = 37
            · subst hi
              have e' : AV.val (.ref 608) = a := by simpa [List.lookup] using e
              subst e'
              exact ⟨.ref 608, by rfl, .val _⟩
            · have : (i == 37) = false := by simpa using hi
              simp [List.lookup, this] at e
          · intro fl' W' h' tk' hw hf S'
            have hp := S'.hp
            cases hf with
            | ret hv => exact hQ _ W' h' tk' hw hv hp
section
variable {w : World} {A : Around} {R : Result → Shared → Prop} {h : Heap} {g : Array GenState} {d : Drawn} {t : Nat} {os : OsState}
theorem here608 (w : World) : peek (KF w) ⟨prg, w.params⟩ (Bind.madeHere "object.__new__" (.ref 608)) = some () := by kernel_rfl
theorem isType608 (w : World) : peek (KF w) ⟨prg, w.params⟩ (isType (.ref 608)) = some true := by kernel_rfl
theorem top608 (w : World) : peek (KF w) ⟨prg, w.params⟩ (isSubtype (.ref 608) (.type "object")) = some true := by kernel_rfl
theorem base608 (w : World) : peek (KF w) ⟨prg, w.params⟩ (Bind.staticBase (.ref 608)) = some (.type "object") := by kernel_rfl
theorem madeO (w : World) : peek (KF w) ⟨prg, w.params⟩ (Bind.madeBy (.type "object")) = some (some "object.__new__") := by kernel_rfl
theorem made608 (w : World) : peek (KF w) ⟨prg, w.params⟩ (Bind.madeBy (.ref 608)) = some none := by kernel_rfl
theorem cls608 (w : World) : ∃ oc od cd sl, (KF w).lookup 608 = some ⟨oc, od, .cls cd, sl⟩ ∧ cd.abstract = false ∧ cd.hasDel = false := by
  have h : (match (KF w).lookup 608 with | some ⟨_, _, .cls cd, sl⟩ => !cd.abstract && !cd.hasDel | _ => false) = true := by kernel_rfl
  split at h
  · rename_i oc od cd sl e
    simp only [Bool.and_eq_true, Bool.not_eq_true'] at h
    exact ⟨oc, od, cd, sl, e, h.1, h.2⟩
  · cases h
theorem new_608 (X : (KF w).In h) (hq : R (.ok (.ret (.ref (h.objs.size + 1)))) ⟨(h.push emptyDict).push (instObj 608 h.objs.size), g, d, t, os⟩) :
    codeAny (model prg w) A (.call (.builtin "object.__new__") ⟨[.ref 608], []⟩) R ⟨h, g, d, t, os⟩ := by
  obtain ⟨oc, od, cd, sl, hK, e1, e2⟩ := cls608 w
  have hC := X _ _ hK
  have F := PySem.F.objNew
  refine codeAny_call_builtin_code (Code.quiet_builtin _ F.quiet) ?_
  simp only [checkBuiltinCall, F.kind, F.split, F.row]
  have here : Looks (model prg w) h (Bind.madeHere "object.__new__" (.ref 608)) () := Looks.of_peek X (here608 w)
  have typ : Looks (model prg w) h (isType (.ref 608)) true := Looks.of_peek X (isType608 w)
  have args : Bind.checkArgs "object.__new__" ⟨.hand, "object.__new__", "__new__", .cls, []⟩ ⟨[.ref 608], []⟩ = pure () := by kernel_rfl
  have top : Looks (model prg w) h (isSubtype (.ref 608) (.type "object")) true := Looks.of_peek X (top608 w)
  have base : Looks (model prg w) h (Bind.staticBase (.ref 608)) (.type "object") := Looks.of_peek X (base608 w)
  have made : Looks (model prg w) h (Bind.madeBy (.type "object")) (some "object.__new__") := Looks.of_peek X (madeO w)
  rw [args]
  repeat (first | simp only [bne_self_eq_false, Bool.false_eq_true, if_false] | lk)
  refine codeAny_builtin F.entry ?_
  unfold Builtin.«object.__new__»
  have fin : ∀ A', wpAny (model prg w) A' (do
      let d ← if typeHasDict (.ref 608) then some <$> alloc { cls := .type "dict", data := .dict #[] } else pure none
      ret (← newObj (.ref 608) .plain d)) (fun fin s' => match fin with | .done f => R (.ok f) s' | .again c' => c'.quiet = true ∧ codeAny (model prg w) A c' R s') (fun e s' => R (.error e) s') ⟨h, g, d, t, os⟩ := by
    intro A'
    show wpAny _ _ ((alloc emptyDict >>= fun x => pure (some x)) >>= _) _ _ _
    refine wpAny_bind (wpAny_bind (wpAny_alloc (wpAny_pure (wpAny_bind ?_))))
    show wpAny _ _ (newObjAsIs _ _ _) _ _ _
    unfold newObjAsIs classHasDel
    refine wpAny_bind (wpAny_alloc (wpAny_bind (wpAny_bind (wpAny_load (Heap.get?_push_of_some _ (Heap.get?_push_of_some _ hC)) (wpAny_pure ?_)))))
    rw [e2]
    refine wpAny_pure (wpAny_pure ?_)
    show R _ _
    rw [Heap.size_push]
    exact hq
  repeat (first | simp only [e1, Bool.false_eq_true, if_false] | exact fin _ | lk)
end
section
variable {X : Cx} {d u : Nat}
theorem St.instNew {W : Wd} {σ : AS} {s : Shared} (S : St nm X W σ s) (C : Addr) (tk : Nat) :
    W.le { W with ca := W.ca ++ [(s.heap.objs.size + 1, s.heap.objs.size)] } ∧ St nm X { W with ca := W.ca ++ [(s.heap.objs.size + 1, s.heap.objs.size)] } ⟨σ.loc, σ.cells ++ [.inst C []]⟩ { s with heap := (s.heap.push emptyDict).push (instObj C s.heap.objs.size), toks := tk } := by
  obtain ⟨m, objs, F, hL, hcs, N, nd⟩ := S
  have hw : W.le { W with ca := W.ca ++ [(s.heap.objs.size + 1, s.heap.objs.size)] } := ⟨fun p hp => hp, _, rfl⟩
  have N' := (N.push F emptyDict).push (F.push _) (instObj C s.heap.objs.size)
  rw [Heap.size_push] at N'
  refine ⟨hw, m, objs ++ [(s.heap.objs.size + 1, instObj C s.heap.objs.size), (s.heap.objs.size, dictOf [] 0)], (F.push _).push _, hL.mono hw, (hcs.mono hw).push (.inst .nil), ?_, ?_⟩
  · intro p hp
    apply N'
    simp only [List.mem_append, List.mem_cons, List.not_mem_nil, or_false] at hp ⊢
    rcases hp with h | h | h | h
    · exact .inr (.inr (.inl h))
    · exact .inr (.inr (.inr h))
    · exact .inl h
    · exact .inr (.inl h)
  · show ((W.imm ++ (objs ++ [(s.heap.objs.size + 1, instObj C s.heap.objs.size), (s.heap.objs.size, dictOf [] 0)])).map (·.1)).Nodup
    rw [← List.append_assoc, List.map_append, List.nodup_append]
    refine ⟨nd, by simp, ?_⟩
    intro a ha b hb e
    simp only [List.map_cons, List.map_nil, List.mem_cons, List.not_mem_nil, or_false] at hb
    obtain ⟨p, hp, rfl⟩ := List.mem_map.mp ha
    have := Heap.lt_size (N p hp).1
    rcases hb with rfl | rfl
    · rw [e] at this; exact absurd this (Nat.not_lt.mpr (Nat.le_succ _))
    · rw [e] at this; exact Nat.lt_irrefl _ this
theorem objnew_ok (K : CxOK X d u) {σ : AS} : FnOK nm X (.builtin "object.__new__") [.val (.ref 608)] σ (.cell σ.cells.length) ⟨σ.loc, σ.cells ++ [.inst 608 []]⟩ := by
  intro s W vals S hv Q E hQ
  cases hv with
  | cons h1 hr => cases hr with
    | nil => cases h1 with
      | val _ =>
        refine wpAny_call ?_
        have A := S.instNew 608 s.toks
        have hk := S.kin K
        obtain ⟨hp, g, dr, tk, os⟩ := s
        refine new_608 hk ?_
        refine hQ _ _ _ tk A.1 (.cell (d := hp.objs.size) ?_) A.2
        obtain ⟨m, objs, F, hL, hcs, N, nd⟩ := S
        have hlen := hcs.length
        show (W.ca ++ [(hp.objs.size + 1, hp.objs.size)])[σ.cells.length]? = _
        rw [← hlen]
        simp
theorem methT_gen (K : CxOK X d u) {o args : PE} {i : Nat} {ap p : Pos} {P : Value → List Value → Wd → Prop} {a : AV} {σ σ₁ σ₂ : AS} {r : AV} (hb : o.isBase = true) (hr : args.realL = true) (hlen : args.len < 30) (hline : (ap.endLine == p.line) = true)
    (ho : EvOK nm X (eval (emb nm o) X.env) σ a σ₁)
    (hm : ∀ s W ov (pl : Sem Bool), St nm X W σ₁ s → RelV W a ov → ∀ (Q : Value × List Value → Shared → Prop) (E : Value → Shared → Prop), (∀ f fv W' h' tk', W.le W' → St nm X W' σ₁ { s with heap := h', toks := tk' } → P f fv W' → Q (f, fv) { s with heap := h', toks := tk' }) → wpAny (model prg X.w) X.A (getMethod ov (nm i) pl) Q E s)
    (hc : ∀ s W f fv, St nm X W σ₁ s → P f fv W → EvAt nm X s W (callWith p f fv (backTo p (starEach (embL nm args) X.env)) []) r σ₂) :
    EvOK nm X (eval (emb nm (.callM o i ap args p)) X.env) σ r σ₂ := by
  intro s W S Q E hQ
  show wpAny _ _ (eval (Expr.Call (Expr.Attribute (emb nm o) (nm i) ap) (embL nm args) [] p) X.env) _ _ _
  rw [arm_eval_Call, base_emb hb]
  refine wpAny_bind (ho s W S _ _ fun ov W₁ h₁ tk₁ hw₁ hv S₁ => ?_)
  refine wpAny_bind (wpAny_standAt ?_)
  have hform : methodCallForm ((embL nm args).length + ([] : List Keyword).length) (backTo p (starEach (embL nm args) X.env)) (backToKw p (keywordEach [] X.env)) = true := by
    unfold methodCallForm
    rw [embL_length, all_not_of_any (star_any hr p X.env)]
    show (true && true && decide (args.len + 0 + 0 < 30)) = true
    simp [hlen]
  have hpos : methodCallPos true (emb nm o) X.env ap p = pure p := by unfold methodCallPos; simp [hline]
  unfold methodCall
  rw [hform]
  refine wpAny_bind (wpAny_holding (hm _ W₁ ov _ S₁ hv _ _ fun f fv W₂ h₂ tk₂ hw₂ S₂ hP => ?_))
  refine wpAny_bind (wpAny_of_eq hpos ?_)
  exact hc _ W₂ f fv S₂ hP Q E fun v W₃ h₃ tk₃ hw₃ hv S₃ => hQ v W₃ h₃ tk₃ (Wd.le_trans hw₁ (Wd.le_trans hw₂ hw₃)) hv S₃
theorem type_attr {A : Around} {s : Shared} {T : String} {name : Str} {r : CFound} {expr : Bool} {Q E : Value → Shared → Prop} (Xh : (KF X.w).In s.heap) (e : findCls (KF X.w) (.type T) (.type "type") name = some r) (ht : peek (KF X.w) ⟨prg, X.w.params⟩ (typeOf (.type T)) = some (.type "type")) (ho : peek (KF X.w) ⟨prg, X.w.params⟩ (opaqueClassAbove (.type T)) = some none)
    (h : wpAny (model prg X.w) A.in1 r.run (fun fin s' => match fin with | .done (.ret v) => wpAny (model prg X.w) A (handedOut v) Q E s' | _ => False) (fun _ _ => False) { s with toks := s.toks + 1 }) :
    wpAny (model prg X.w) A (getAttr (.type T) name expr) Q E s :=
  cls_open (K := KF X.w) (hook := none) Xh (Looks.of_peek Xh ho) (Looks.of_peek Xh ht) (by kernel_rfl) (Looks.of_pure rfl) (by kernel_rfl) e h
end
noncomputable abbrev TNw : Tb := mkT fNew_locs fNew_globs
theorem nw_loc : (fNew_locs.all fun i => fNew_scope.names.lookup (nm i) == some .local) = true := by kernel_rfl
theorem nw_glob : (fNew_globs.all fun i => fNew_scope.names.lookup (nm i) == some .globalImplicit) = true := by kernel_rfl
noncomputable def AV.ref? : AV → Option Addr
  | .val (.ref a) => some a
  | _ => Option.none
theorem ref?_eq {a : AV} {x : Addr} (h : a.ref? = some x) : a = .val (.ref x) := by
  cases a with
  | val v => cases v <;> first | (cases h; rfl) | (cases h; done)
  | _ => cases h
noncomputable def isIsNot : CmpOp → Bool
  | .IsNot => true
  | _ => false
theorem isIsNot_eq {op : CmpOp} (h : isIsNot op = true) : op = .IsNot := by cases op <;> first | rfl | (cases h; done)
noncomputable def ONw : Orc where
  fn := fun _ _ _ => none
  mt := fun _ _ _ _ => none
  pr := fun _ _ _ _ => none
  cm := fun op a b _ => grd (isIsNot op) (a.ref?.bind fun x => b.ref?.bind fun y => grd (Nat.beq x 608) (cond (Nat.beq y 361) (some (true, [])) (grd (Nat.beq y 608) (some (false, [])))))
theorem nw_cls (w : World) : (match (KF w).lookup 608, (KF w).lookup 361 with | some o, some _ => o.cls == .type "type" | _, _ => false) = true := by kernel_rfl
theorem ONw_ok {X : Cx} {d u : Nat} (K : CxOK X d u) : OrcOK nm X d u TNw ONw where
  fn := fun _ _ _ _ _ _ _ _ h => by cases h
  mt := fun _ _ _ _ _ _ _ h => by cases h
  pr := fun _ _ _ _ _ _ _ h => by cases h
  cm := fun op a b cells c os h ho loc => by
    obtain ⟨h1, h2⟩ := grd_eq h
    obtain ⟨x, h3, h4⟩ := bind_eq h2
    obtain ⟨y, h5, h6⟩ := bind_eq h4
    obtain ⟨h7, h8⟩ := grd_eq h6
    rw [isIsNot_eq h1, ref?_eq h3, ref?_eq h5, show x = 608 from beq_of h7]
    rcases cond_eq h8 with ⟨h9, h10⟩ | ⟨h9, h10⟩
    · cases h10
      rw [show y = 361 from beq_of h9]
      intro s W va vb S ha hb
      refine EvAt.here S fun Q E hQ => ?_
      cases ha; cases hb
      have hz := nw_cls X.w
      have hk := S.kin K
      cases e : (KF X.w).lookup 608 with
      | none => rw [e] at hz; cases hz
      | some o => cases e' : (KF X.w).lookup 361 with
        | none => rw [e, e'] at hz; cases hz
        | some o' =>
          rw [e, e'] at hz
          refine kto_isnot (hk _ _ e) (hk _ _ e') (by decide) ?_ (hQ _ s.toks (.bool _))
          dsimp only at hz
          rw [beq_iff_eq] at hz
          rw [hz]; decide
    · obtain ⟨h11, h12⟩ := grd_eq h10
      cases h12
      rw [show y = 608 from beq_of h11]
      intro s W va vb S ha hb
      refine EvAt.here S fun Q E hQ => ?_
      cases ha; cases hb
      exact wpAny_isNot_ref_self (hQ _ s.toks (.bool _))
theorem nw_a (cs : List Cell) : ex TNw (ev TNw ONw 20) 20 true (fNew_0.take 1) ⟨[(37, .val (.ref 608))], cs⟩ = some (.next, ⟨[(37, .val (.ref 608))], cs⟩, []) := by kernel_rfl
noncomputable abbrev nwE : PE := .callM (.glob 40 ⟨33,15,33,21⟩) 41 ⟨33,15,33,29⟩ (.cons (.loc 37 ⟨33,30,33,33⟩) .nil) ⟨33,15,33,34⟩
theorem nw_split : fNew_body = embSs nm (fNew_0.take 1) ++ [embS nm (.ret nwE ⟨33,8,33,34⟩)] := by kernel_rfl
theorem objnew_attr (w : World) : findCls (KF w) (.type "object") (.type "type") (nm 41) = some (.val (.builtin "object.__new__")) := by kernel_rfl
theorem objty_ga (w : World) : peek (KF w) ⟨prg, w.params⟩ (specialOf (.type "object") "__getattribute__") = some (some (.builtin "type.__getattribute__")) := by kernel_rfl
theorem objty_ty (w : World) : peek (KF w) ⟨prg, w.params⟩ (typeOf (.type "object")) = some (.type "type") := by kernel_rfl
theorem objty_oq (w : World) : peek (KF w) ⟨prg, w.params⟩ (opaqueClassAbove (.type "object")) = some none := by kernel_rfl
theorem objnew_h : handedIn (.builtin "object.__new__") = true := by kernel_rfl
theorem method_ty {X : Cx} {A : Around} {s : Shared} {T : String} {name : Str} {pl : Sem Bool} {Q : Value × List Value → Shared → Prop} {E : Value → Shared → Prop} (hk : (KF X.w).In s.heap) (hg : peek (KF X.w) ⟨prg, X.w.params⟩ (specialOf (.type T) "__getattribute__") = some (some (.builtin "type.__getattribute__")))
    (h : wpAny (model prg X.w) A (getAttr (.type T) name) (fun v => Q (v, [])) E s) : wpAny (model prg X.w) A (getMethod (.type T) name pl) Q E s := by
  unfold getMethod
  refine wpAny_bind ((Looks.of_peek (M := model prg X.w) hk hg).here ?_)
  dsimp only
  rw [if_pos canon_tga]
  exact wpAny_bind (wpAny_mono h (fun _ _ z => wpAny_pure z) fun _ _ z => z)
theorem type_val {X : Cx} {A : Around} {s : Shared} {T : String} {name : Str} {v : Value} {expr : Bool} {Q E : Value → Shared → Prop} (Xh : (KF X.w).In s.heap) (e : findCls (KF X.w) (.type T) (.type "type") name = some (.val v)) (ht : peek (KF X.w) ⟨prg, X.w.params⟩ (typeOf (.type T)) = some (.type "type")) (ho : peek (KF X.w) ⟨prg, X.w.params⟩ (opaqueClassAbove (.type T)) = some none)
    (hh : handedIn v = true) (h : Q v { s with toks := s.toks + 1 }) : wpAny (model prg X.w) A (getAttr (.type T) name expr) Q E s :=
  type_attr Xh e ht ho (wpAny_pure (by show wpAny _ _ (handedOut v) _ _ _; rw [handedOut_of hh]; exact wpAny_pure h))
theorem new101_ok (w : World) {t : List Nat} {cells : List Cell} : CallOK nm w 1 3 101 [.val (.ref 608), .str t] cells (.cell cells.length) (cells ++ [.inst 608 []]) := by
  refine call101 (d := 0) (u := 0) (loc' := [(37, .val (.ref 608))]) w fun X e1 e3 K => ?_
  have hT : TbOK nm X TNw := mkT_ok K (by rw [e3]; exact nw_loc) (by rw [e3]; exact nw_glob)
  have hO := ONw_ok K
  rw [nw_split]
  refine R_execs_app (run_ok K hT hO (nw_a cells) no_obs) (R_execs_out (R_ret ?_) rfl)
  refine methT_gen K (P := fun f fv _ => f = .builtin "object.__new__" ∧ fv = []) (a := .val (.type "object")) (σ₁ := ⟨[(37, .val (.ref 608))], cells⟩) rfl rfl (by decide) rfl (val_ok (n := 9) K hT hO (os := []) (by kernel_rfl) no_obs) ?_ ?_
  · intro s W ov pl S hv Q E hQ
    cases hv
    have hk := S.kin K
    exact method_ty (X := X) (T := "object") (name := nm 41) hk (objty_ga X.w) (type_val (X := X) (T := "object") (name := nm 41) (v := .builtin "object.__new__") hk (objnew_attr X.w) (objty_ty X.w) (objty_oq X.w) objnew_h (hQ _ _ W s.heap (s.toks + 1) W.le_refl S.same ⟨rfl, rfl⟩))
  · rintro s W f fv S ⟨rfl, rfl⟩
    obtain ⟨l, hl, _, _, _, hvs⟩ := ev_sound K hT hO 9 .args (.cons (.loc 37 ⟨33,30,33,33⟩) .nil) ⟨[(37, .val (.ref 608))], cells⟩ (.lst [.val (.ref 608)]) ⟨[(37, .val (.ref 608))], cells⟩ [] (by kernel_rfl) no_obs
    cases hl
    exact callWith_gen K KeepOK.bi rfl S .nil (hvs _) (objnew_ok K)
theorem call_at2 {X : Cx} {d u : Nat} (K : CxOK X d u) {W : Wd} {σ : AS} {s : Shared} (S : St nm X W σ s) {f : Addr} {args : List AV} {vals : List Value} {r : AV} {cells' : List Cell} {dn un : Nat}
    (C : CallOK nm X.w dn un f args σ.cells r cells') (ha : RelVs W args vals) {A' : Around} (hA : A'.depth + dn < recursionLimit) (hA' : A'.units + un < cLine) (hH : A'.handled = none) {R : Result → Shared → Prop}
    (hQ : ∀ v W' h' tk', W.le W' → RelV W' r v → St nm X W' { σ with cells := cells' } { s with heap := h', toks := tk' } → R (.ok (.ret v)) { s with heap := h', toks := tk' }) :
    codeAny (model prg X.w) A' (.call (.ref f) ⟨vals, []⟩) R s := by
  obtain ⟨m, objs, F, hL, hc, N, nd⟩ := S
  have notin : ∀ b o, X.h₀.get? b = some o → b ∉ (W.imm ++ objs).map (·.1) := fun b o e q => by
    obtain ⟨p, hp, rfl⟩ := List.mem_map.mp q
    rw [(N p hp).2.2] at e; cases e
  have hst : ∀ b o, X.h₀.get? b = some o → (hideAll s.heap ((W.imm ++ objs).map (·.1))).get? b = some o := fun b o e => hideAll_get _ (F.keep b o e) (notin b o e)
  have hLn : X.L ∉ (W.imm ++ objs).map (·.1) := fun q => by
    obtain ⟨p, hp, e⟩ := List.mem_map.mp q
    exact (N p hp).2.1 e
  obtain ⟨p, loose, mg, mb, T⟩ := K.top
  refine C A' (hideAll s.heap ((W.imm ++ objs).map (·.1))) s W vals (K.kin.keeps hst) ⟨p, loose, mg, mb, T.keeps hst⟩ hA hA' hH ⟨fun b o e => of_hideAll _ e, Nat.le_of_eq (hideAll_size _ _), objs, hc, fun p hp => ⟨(N p hp).1, hideAll_none _ (List.mem_map_of_mem hp)⟩, nd⟩ ha R ?_
  intro v W' h' tk' hw hv ⟨k1, k2, objs', hc', hp', nd'⟩
  refine hQ v W' h' tk' hw hv ⟨m, objs', ⟨?_, fun b o e => k1 b o (hst b o e), F.above⟩, hL.mono hw, hc', fun p hp => ⟨(hp' p hp).1, ?_, ?_⟩, nd'⟩
  · obtain ⟨oL, a1, a2, hgL, a3⟩ := F.ns
    exact ⟨oL, a1, a2, k1 _ _ (hideAll_get _ hgL hLn), a3⟩
  · intro e
    obtain ⟨oL, a1, a2, hgL, a3⟩ := F.ns
    have z := (hp' p hp).2
    rw [e, hideAll_get _ hgL hLn] at z
    cases z
  · cases q : X.h₀.get? p.1 with
    | none => rfl
    | some o =>
      have z := (hp' p hp).2
      rw [hst _ _ q] at z
      cases z
theorem sio_call (w : World) : peek (KF w) ⟨prg, w.params⟩ (specialOf (.ref 608) "__call__") = some (some (.builtin "type.__call__")) := by kernel_rfl
theorem sio_typ (w : World) : peek (KF w) ⟨prg, w.params⟩ (isInstance (.ref 608) (.type "type")) = some true := by kernel_rfl
theorem sio_new (w : World) : findCls (KF w) (.ref 608) (.type "type") "__new__" = some (.get (.builtin "staticmethod.__get__") (.ref 105) .none (.ref 608)) := by kernel_rfl
theorem sio_sm (w : World) : recIn (KF w) 105 "staticmethod" = some [.ref 101] := by kernel_rfl
theorem sio_reads (w : World) : readsIn (KF w) 608 (.type "type") = true := by kernel_rfl
theorem sio_ty (w : World) : typeIn (KF w) (.ref 608) = some (.type "type") := by kernel_rfl
theorem sio_h : handedIn (.ref 101) = true := by kernel_rfl
theorem sio_self (w : World) : peek (KF w) ⟨prg, w.params⟩ (isSubtype (.ref 608) (.ref 608)) = some true := by kernel_rfl
theorem sio_init (w : World) : findIn (KF w) (.ref 608) "__init__" = some (some (.ref 378)) := by kernel_rfl
theorem sio_fn (w : World) : typeIn (KF w) (.ref 378) = some (.type "function") := by kernel_rfl
theorem sio_mro (w : World) : ∃ oc od cd sl, (KF w).lookup 608 = some ⟨oc, od, .cls cd, sl⟩ ∧ cd.mro.isEmpty = false := by
  have h : (match (KF w).lookup 608 with | some ⟨_, _, .cls cd, sl⟩ => !cd.mro.isEmpty | _ => false) = true := by kernel_rfl
  split at h
  · rename_i oc od cd sl e
    simp only [Bool.not_eq_true'] at h
    exact ⟨oc, od, cd, sl, e, h⟩
  · cases h
theorem sio_ok {X : Cx} {d u : Nat} (K : CxOK X d u) (hd : 3 ≤ d) (hu : 12 ≤ u) {loc : List (Nat × AV)} {c0 : Cell} {t : List Nat} : FnOK nm X (.ref 608) [.str t] ⟨loc, [c0]⟩ (.cell 1) ⟨loc, [c0, .strm [] t]⟩ := by
  intro s W vals S hv Q E hQ
  cases hv with
  | cons h1 hr => cases hr with
    | nil =>
      rename_i v
      have hk := S.kin K
      obtain ⟨oc, od, cd, sl, hL, e4⟩ := sio_mro X.w
      have hC := hk _ _ hL
      have call : Looks (model prg X.w) s.heap (specialOf (.ref 608) "__call__") (some (.builtin "type.__call__")) := Looks.of_peek hk (sio_call X.w)
      have typ : Looks (model prg X.w) s.heap (isInstance (.ref 608) (.type "type")) true := Looks.of_peek hk (sio_typ X.w)
      have made : Looks (model prg X.w) s.heap (Bind.madeBy (.ref 608)) none := Looks.of_peek hk (made608 X.w)
      refine wpAny_call (codeAny_of_tree ?_)
      show wpAny _ _ (callAny (.ref 608) _) _ _ _
      refine nd_load hC ?_
      show wpAny _ _ (callAny.viaDunder (.ref 608) _) _ _ _
      unfold callAny.viaDunder
      refine wpAny_bind (call.at ?_)
      dsimp only
      rw [tc_bind]
      refine wpAny_bind (wpAny_pure (wpAny_bind (wpAny_pure ?_)))
      refine wpAny_pure (a := Fin.again (.call (.builtin "type.__call__") ⟨.ref 608 :: [v], []⟩)) (And.intro rfl ?_)
      refine codeAny_call_builtin_at (Code.quiet_builtin _ (by decide +kernel)) entry_typeCall (check_slot tc_kind tc_split typ (tc_args _ _ _) ?_)
      unfold Builtin.«type.__call__»
      have hm : Looks (model prg X.w) s.heap (mroOf (.ref 608)) cd.mro := ((Looks.ld (part := none) hC).andThen .now).andThen .now
      obtain ⟨m, objs, F, hLo, hcs, N, nd⟩ := id S
      have hw1 : (X.A.under (Code.builtin "type.__call__" { pos := [Value.ref 608, v] })).depth = X.A.depth + 1 := by kernel_rfl
      have hw2 : (X.A.under (Code.builtin "type.__call__" { pos := [Value.ref 608, v] })).units ≤ X.A.units + 3 := by show X.A.units + _ ≤ _; exact Nat.add_le_add_left (Nat.le_of_ble_eq_true (by kernel_rfl)) _
      have hw3 : (X.A.under (Code.builtin "type.__call__" { pos := [Value.ref 608, v] })).handled = none := K.hand
      have r1 := K.room
      have r2 := K.units
      obtain ⟨hh, g, dr, tk, os⟩ := s
      dsimp only at S hC call typ made hm hk F N hQ
      repeat (first | with_reducible refine cls_sm F K.kin (sio_ty X.w) (sio_reads X.w) (sio_new X.w) (sio_sm X.w) sio_h ?_ | with_reducible refine wpAny_call ?_ | simp only [e4, Bool.false_eq_true, if_false] | lk)
      refine call_at2 (s := ⟨hh, g, dr, tk + 1, os⟩) K (S.same (tk := tk + 1)) (new101_ok X.w (t := t)) (.cons (.val _) (.cons h1 .nil)) (by omega) (by omega) hw3 fun v₁ W₁ h₁ tk₁ hle₁ hv₁ S₁ => ?_
      cases hv₁ with
      | @cell _ x dx hca =>
        have hk₁ := S₁.kin K
        obtain ⟨x', dx', os', hca', hci, hg⟩ := S₁.get (k := 1) (c := .inst 608 []) rfl
        replace hca : W₁.ca[1]? = some (x, dx) := hca
        rw [hca] at hca'
        cases hca'
        cases hci with
        | inst hrf =>
          have hx : h₁.get? x = some (instObj 608 dx) := hg _ (.head _)
          have t1 : Looks (model prg X.w) h₁ (typeOf (.ref x)) (.ref 608) := (Looks.ld hx).andThen .now
          have s1 : Looks (model prg X.w) h₁ (isSubtype (.ref 608) (.ref 608)) true := Looks.of_peek hk₁ (sio_self X.w)
          have i1 : Looks (model prg X.w) h₁ (typeLookup (.ref 608) "__init__") (some (.ref 378)) := looks_findIn hk₁ (sio_init X.w)
          have b1 : Looks (model prg X.w) h₁ (bindSpecial (.ref 378) (.ref x)) (.ref 378, [.ref x]) := bind_fn hk₁ (.ref x) (sio_fn X.w)
          dsimp only
          unfold isInstance callSpecial? specialOf
          repeat (first | with_reducible refine wpAny_call ?_ | lk)
          refine call_at2 (s := ⟨h₁, g, dr, tk₁, os⟩) K S₁ (sinit_ok X.w c0 t []) (.cons (.cell hca) (.cons (h1.mono hle₁) .nil)) (by omega) (by omega) hw3 fun v₂ W₂ h₂ tk₂ hle₂ hv₂ S₂ => ?_
          cases hv₂
          exact wpAny_pure (wpAny_pure (hQ _ W₂ h₂ tk₂ (Wd.le_trans hle₁ hle₂) (.cell (Wd.le_ca hle₂ hca)) S₂))
noncomputable def oneC : List Cell → Option Cell
  | [c] => some c
  | _ => none
theorem oneC_eq {l : List Cell} {c : Cell} (h : oneC l = some c) : l = [c] := by
  cases l with
  | nil => cases h
  | cons x r => cases r <;> first | (cases h; rfl) | (cases h; done)
noncomputable def isIs : CmpOp → Bool
  | .Is => true
  | _ => false
theorem isIs_eq {op : CmpOp} (h : isIs op = true) : op = .Is := by cases op <;> first | rfl | (cases h; done)
noncomputable def OIt2 : Orc where
  fn := fun i as cs => cond (Nat.beq i 46) ((only2 as).bind fun q => q.1.str?.bind fun _ => q.2.typ?.bind fun x => grd (x == "str") (some (.bool true, cs, [])))
    (cond (Nat.beq i 39) ((only1 as).bind fun a => a.str?.bind fun t => (oneC cs).bind fun c => some (.cell 1, [c, .strm [] t], []))
    (grd (Nat.beq i 65 && as.isEmpty) (some (.cell cs.length, cs ++ [.deque []], []))))
  mt := fun _ _ _ _ => none
  pr := fun _ _ _ _ => none
  cm := fun op a b _ => grd (isIs op) (two a.str? b.bool? fun _ _ => (false, []))
theorem isi_ok {X : Cx} {σ : AS} {l : List Nat} : FnOK nm X (.builtin "isinstance") [.str l, .val (.type "str")] σ (.bool true) σ := by
  intro s W vals S hv
  cases hv with
  | cons h1 hr => cases hr with
    | cons h2 hr => cases hr with
      | nil => cases h1 with
        | str _ t hz => cases h2 with
          | val _ => exact EvAt.here S fun Q E hQ => PySem.IsiPair.str_str (hQ _ s.toks (.bool _))
theorem sio_keep (w : World) : keepIn (KF w) (.ref 608) = true := by kernel_rfl
theorem OIt2_ok {X : Cx} {d u : Nat} (K : CxOK X d u) (hd : 3 ≤ d) (hu : 12 ≤ u) : OrcOK nm X d u TIn OIt2 where
  fn := fun i f as cs r cs' os hg h ho => by
    rcases cond_eq (b := Nat.beq i 46) h with ⟨i1, k⟩ | ⟨i1, k⟩
    · obtain ⟨q, k1, k2⟩ := bind_eq k
      obtain ⟨l, k3, k4⟩ := bind_eq k2
      obtain ⟨x, k5, k6⟩ := bind_eq k4
      obtain ⟨k7, k8⟩ := grd_eq k6
      cases k8
      have e : TIn.glob 46 = some (.builtin "isinstance") := by kernel_rfl
      rw [show i = 46 from beq_of i1, e] at hg; cases hg
      rw [only2_eq k1, str?_eq k3, typ?_eq k5, eq_of_beq k7]
      exact ⟨KeepOK.bi, fun loc => isi_ok⟩
    · rcases cond_eq (b := Nat.beq i 39) k with ⟨i2, k⟩ | ⟨i2, k⟩
      · obtain ⟨a, k1, k2⟩ := bind_eq k
        obtain ⟨t, k3, k4⟩ := bind_eq k2
        obtain ⟨c, k5, k6⟩ := bind_eq k4
        cases k6
        have e : TIn.glob 39 = some (.ref 608) := by kernel_rfl
        rw [show i = 39 from beq_of i2, e] at hg; cases hg
        rw [only1_eq k1, str?_eq k3, oneC_eq k5]
        exact ⟨KeepOK.fn (sio_keep X.w), fun loc => sio_ok K hd hu⟩
      · obtain ⟨i3, k1⟩ := grd_eq k
        cases k1
        rw [Bool.and_eq_true] at i3
        have e : TIn.glob 65 = some (.type "collections.deque") := by kernel_rfl
        rw [show i = 65 from beq_of i3.1, e] at hg; cases hg
        rw [List.isEmpty_iff.mp i3.2]
        exact ⟨KeepOK.ty, fun loc => deque_ok⟩
  mt := fun _ _ _ _ _ _ _ h => by cases h
  pr := fun _ _ _ _ _ _ _ h => by cases h
  cm := fun op a b cells c os h ho loc => by
    obtain ⟨h1, h2⟩ := grd_eq h
    obtain ⟨x, y, h3, h4, h5⟩ := two_eq h2
    cases h5
    rw [isIs_eq h1, str?_eq h3, bool?_eq h4]
    intro s W va vb S ha hb
    refine EvAt.here S fun Q E hQ => ?_
    cases ha; cases hb
    exact wpAny_is_plain rfl (hQ _ s.toks (.bool _))
noncomputable def wc2 : List Nat := [97, 98, 99, 100, 102, 101, 103, 104, 105, 106, 107, 108, 109, 110, 111, 112, 113, 114, 115, 116, 117, 118, 119, 120, 121, 122, 65, 66, 67, 68, 69, 70, 71, 72, 73, 74, 75, 76, 77, 78, 79, 80, 81, 82, 83, 84, 85, 86, 87, 88, 89, 90, 48, 49, 50, 51, 52, 53, 54, 55, 56, 57, 95, 223, 224, 225, 226, 227, 228, 229, 230, 231, 232, 233, 234, 235, 236, 237, 238, 239, 240, 241, 242, 243, 244, 245, 246, 248, 249, 250, 251, 252, 253, 254, 255, 192, 193, 194, 195, 196, 197, 198, 199, 200, 201, 202, 203, 204, 205, 206, 207, 208, 209, 210, 211, 212, 213, 214, 216, 217, 218, 219, 220, 221, 222, 126, 45, 46, 47, 42, 63, 61]
noncomputable abbrev inN : List (Nat × AV) := [(9, .cell 0), (42, .cell 1), (43, .none), (44, .bool true), (45, .str pch)]
noncomputable def inF (wc : List Nat) : List (Nat × AV) := [(42, .cell 1), (43, .none), (44, .bool true), (47, .none), (48, .str [35]), (50, .str wc), (53, .str [32, 9, 13, 10]), (55, .bool false), (56, .str [39, 34]), (58, .str [92]), (60, .str [34]), (62, .str [32]), (64, .cell 2), (66, .int 1), (67, .int 0), (68, .str []), (69, .cell 3), (70, .none), (72, .str pch), (73, .cell 4)]
noncomputable abbrev inC (t wc : List Nat) : List Cell := [.inst 743 (inF wc), .strm [] t, .deque [], .deque [], .deque []]
noncomputable abbrev in21 : PS := (fInit_0.drop 21).head
noncomputable def wcA : List Nat := [97, 98, 99, 100, 102, 101, 103, 104, 105, 106, 107, 108, 109, 110, 111, 112, 113, 114, 115, 116, 117, 118, 119, 120, 121, 122, 65, 66, 67, 68, 69, 70, 71, 72, 73, 74, 75, 76, 77, 78, 79, 80, 81, 82, 83, 84, 85, 86, 87, 88, 89, 90, 48, 49, 50, 51, 52, 53, 54, 55, 56, 57, 95]
noncomputable def wcB : List Nat := [223, 224, 225, 226, 227, 228, 229, 230, 231, 232, 233, 234, 235, 236, 237, 238, 239, 240, 241, 242, 243, 244, 245, 246, 248, 249, 250, 251, 252, 253, 254, 255, 192, 193, 194, 195, 196, 197, 198, 199, 200, 201, 202, 203, 204, 205, 206, 207, 208, 209, 210, 211, 212, 213, 214, 216, 217, 218, 219, 220, 221, 222]
noncomputable def wcC : List Nat := [126, 45, 46, 47, 42, 63, 61]
noncomputable def inG (wc : List Nat) : List (Nat × AV) := [(42, .cell 1), (43, .none), (44, .bool true), (47, .none), (48, .str [35]), (50, .str wc), (53, .str [32, 9, 13, 10]), (55, .bool false), (56, .str [39, 34]), (58, .str [92]), (60, .str [34]), (62, .str [32]), (64, .cell 2), (66, .int 1), (67, .int 0), (68, .str []), (69, .cell 3), (70, .none), (72, .str pch)]
theorem in_1 (t : List Nat) : ex TIn (ev TIn OIt2 20) 30 true (fInit_0.take 21) ⟨inL t, [.inst 743 []]⟩ = some (.next, ⟨inN, [.inst 743 (inG (wcA ++ wcB)), .strm [] t, .deque [], .deque []]⟩, [.str wcA wcB]) := by kernel_rfl
theorem in_2 (t : List Nat) : ev TIn OIt2 20 .tst in21.tst ⟨inN, [.inst 743 (inG (wcA ++ wcB)), .strm [] t, .deque [], .deque []]⟩ = some (.bool true, ⟨inN, [.inst 743 (inG (wcA ++ wcB)), .strm [] t, .deque [], .deque []]⟩, []) := by kernel_rfl
theorem in_3 (t : List Nat) : ex TIn (ev TIn OIt2 20) 30 true (in21.thn.take 2) ⟨inN, [.inst 743 (inG (wcA ++ wcB)), .strm [] t, .deque [], .deque []]⟩ = some (.next, ⟨inN, inC t (wcA ++ wcB ++ wcC)⟩, [.str (wcA ++ wcB) wcC]) := by kernel_rfl
theorem wc_eq : wcA ++ wcB ++ wcC = wc2 := by kernel_rfl
theorem in_split : fInit_body = embSs nm (fInit_0.take 21) ++ [embS nm (.ite in21.tst in21.thn in21.els in21.ps)] := by kernel_rfl
noncomputable abbrev inD : PE := .callM (.glob 77 ⟨517,41,517,45⟩) 78 ⟨517,41,517,54⟩ (.cons (.loc 45 ⟨517,55,517,72⟩) .nil) ⟨517,41,517,73⟩
noncomputable abbrev inM2 : PE := .callM (.attr (.loc 9 ⟨517,16,517,20⟩) 50 ⟨517,16,517,30⟩) 76 ⟨517,16,517,40⟩ (.cons inD .nil) ⟨517,16,517,74⟩
noncomputable abbrev inT : PE := .callM (.attr (.loc 9 ⟨518,29,518,33⟩) 50 ⟨518,29,518,43⟩) 79 ⟨518,29,518,53⟩ (.cons (.loc 75 ⟨518,54,518,55⟩) .nil) ⟨518,29,518,56⟩
theorem in_split2 : embSs nm in21.thn = embSs nm (in21.thn.take 2) ++ [embS nm (.assign 75 ⟨517,12,517,13⟩ inM2 ⟨517,12,517,74⟩), embS nm (.setattr (.loc 9 ⟨518,12,518,16⟩) 50 ⟨518,12,518,26⟩ inT ⟨518,12,518,56⟩)] := by kernel_rfl
theorem wp_alloc1 {α : Type} {K : Frag} {M : Model} {A : Around} {E : Value → Shared → Prop} {Q : α → Shared → Prop} {s : Shared} {o : Obj} {r : Addr → α} (X : K.In s.heap) (q : Q (r s.heap.objs.size) { s with heap := s.heap.push o }) :
    ∀ (t : Sem α), (peek1 K ⟨M.prog, M.w.params⟩ t).map (·.1) = some o → (∀ D, (peek1 K ⟨M.prog, M.w.params⟩ t).bind (fun p => p.2 D) = some (r D)) → wpAny M A t Q E s := by
  intro t
  induction t with
  | rule _ k ih => intro e hg Γ p hΓ; exact ih () e hg Γ p hΓ
  | point _ k ih => intro e hg Γ p hΓ; exact ih () e hg Γ p hΓ
  | ask k ih => intro e hg Γ p hΓ; exact ih _ e hg Γ p hΓ
  | load a _ k ih =>
    intro e hg Γ p hΓ
    simp only [peek1] at e hg
    split at e
    · rename_i ob ho
      rw [ho] at hg
      exact ⟨ob, X _ _ ho, ih ob e hg Γ p hΓ⟩
    · cases e
  | alloc ob k _ =>
    intro e hg
    have e : some ob = some o := e
    have e' := Option.some.inj e
    subst e'
    have X' : K.In (s.heap.push ob) := X.keeps fun b x hb => Heap.get?_push_of_some _ hb
    show wpAny M A (alloc ob >>= k) Q E s
    refine wpAny_bind (wpAny_alloc ?_)
    exact (Looks.of_peek (M := M) (h := s.heap.push ob) X' (hg s.heap.objs.size)).here (s := { s with heap := s.heap.push ob }) q
  | _ => intro e; cases e
namespace FK
theorem slot_cmd : Slot "classmethod_descriptor" "__get__" "classmethod_descriptor.__get__" :=
  .of (owner := "classmethod_descriptor") (n := "__get__") (by rw [typeLookup_type, builtinLookup_eq_fast]; kernel_rfl) (by decide +kernel) (by decide +kernel) (by decide +kernel)
    (by first | exact .inl (by decide +kernel) | exact .inr (by decide +kernel)) (by rw [isSubtype_type]; kernel_rfl)
theorem entry_cmd : entryFor table "classmethod_descriptor.__get__" = some Builtin.«classmethod_descriptor.__get__» := entryFor_of_tree (by kernel_rfl)
theorem args_cmd (a b c : Value) : argsOk "classmethod_descriptor.__get__" ⟨[a, b, c], []⟩ := by unfold argsOk; kernel_rfl
theorem ty_fk : typeOf (.builtin "dict.fromkeys") = pure (.type "classmethod_descriptor") := by show builtinType _ = _; rw [builtinType_eq_fast]; kernel_rfl
theorem entry_fk : entryFor table "dict.fromkeys" = some Builtin.«dict.fromkeys» := entryFor_of_tree (by kernel_rfl)
theorem entry_fkl : entryFor table "dict.fromkeys.loop" = some Builtin.«dict.fromkeys.loop» := entryFor_of_tree (by kernel_rfl)
theorem plain_fk : plainId "dict.fromkeys" = true := by decide +kernel
theorem plain_fkl : plainId "dict.fromkeys.loop" = true := by decide +kernel
theorem attr (w : World) : findCls (KF w) (.type "dict") (.type "type") (nm 78) = some (.get (.builtin "classmethod_descriptor.__get__") (.builtin "dict.fromkeys") .none (.type "dict")) := by kernel_rfl
theorem ga (w : World) : peek (KF w) ⟨prg, w.params⟩ (specialOf (.type "dict") "__getattribute__") = some (some (.builtin "type.__getattribute__")) := by kernel_rfl
theorem ty (w : World) : peek (KF w) ⟨prg, w.params⟩ (typeOf (.type "dict")) = some (.type "type") := by kernel_rfl
theorem oq (w : World) : peek (KF w) ⟨prg, w.params⟩ (opaqueClassAbove (.type "dict")) = some none := by kernel_rfl
noncomputable abbrev bm : Obj := { cls := .type "builtin_function_or_method", data := .fields #[.builtin "dict.fromkeys", .type "dict"] }
theorem sub_dd : isSubtype (.type "dict") (.type "dict") = pure true := by rw [isSubtype_type]; kernel_rfl
theorem isType_d : isType (.type "dict") = pure true := by kernel_rfl
theorem get1 (w : World) : (peek1 (KF w) ⟨prg, w.params⟩ (Builtin.«classmethod_descriptor.__get__» ⟨[.builtin "dict.fromkeys", .none, .type "dict"], []⟩)).map (·.1) = some bm := by kernel_rfl
theorem get2 (w : World) (D : Addr) : (peek1 (KF w) ⟨prg, w.params⟩ (Builtin.«classmethod_descriptor.__get__» ⟨[.builtin "dict.fromkeys", .none, .type "dict"], []⟩)).bind (fun p => p.2 D) = some (.done (.ret (.ref D))) := by kernel_rfl
theorem get {w : World} {A : Around} {s : Shared} {R : Result → Shared → Prop} (X : (KF w).In s.heap) (h : R (.ok (.ret (.ref s.heap.objs.size))) { s with heap := s.heap.push bm }) :
    codeAny (model prg w) A (.call (.builtin "classmethod_descriptor.__get__") ⟨[.builtin "dict.fromkeys", .none, .type "dict"], []⟩) R s := by
  refine codeAny_call_builtin slot_cmd.plain entry_cmd (slot_cmd.check _ _ _ _ _ _ _ _ ?_ (args_cmd _ _ _) ?_)
  · exact ty_fk
  · exact wp_alloc1 (M := model prg w) (K := KF w) (o := bm) (r := fun D => Fin.done (.ret (.ref D))) X h (Builtin.«classmethod_descriptor.__get__» ⟨[.builtin "dict.fromkeys", .none, .type "dict"], []⟩) (get1 w) (get2 w)
end FK
namespace FK
theorem bound (v : Value) : checkBoundCall "dict.fromkeys" ⟨[.type "dict", v], []⟩ = pure () := by kernel_rfl
theorem enter {w : World} {A : Around} {s : Shared} {R : Result → Shared → Prop} {b : Addr} {v : Value} (hb : s.heap.get? b = some bm) (h : codeAny (model prg w) A (.builtin "dict.fromkeys" ⟨[.type "dict", v], []⟩) R s) :
    codeAny (model prg w) A (.call (.ref b) ⟨[v], []⟩) R s := by
  refine codeAny_of_tree ?_
  show wpAny _ A.in1 (callAny (.ref b) _) _ _ _
  unfold callAny
  refine wpAny_bind (wpAny_load hb ?_)
  show wpAny _ A.in1 (checkBoundCall "dict.fromkeys" ⟨[.type "dict", v], []⟩ >>= fun _ => again (.builtin "dict.fromkeys" ⟨[.type "dict", v], []⟩)) _ _ _
  rw [bound]
  exact wpAny_pure ⟨plainId_quiet plain_fk _, h⟩
end FK
namespace FK
section
variable {w : World} {A : Around} {E : Value → Shared → Prop} {s : Shared}
theorem typeCall0 : checkTypeCall "dict" ⟨[], []⟩ = pure () := by kernel_rfl
theorem newCall0 : checkBuiltinCall "dict.__new__" ⟨[.type "dict"], []⟩ = pure () := by kernel_rfl
theorem argsInit (a : Value) : argsOk "dict.__init__" ⟨[a], []⟩ := by unfold argsOk; kernel_rfl
theorem code_new {Q₁ : Value → Shared → Prop} (h : Q₁ (.ref s.heap.objs.size) { s with heap := s.heap.push emptyDict }) :
    codeAny (model prg w) A (.call (.builtin "dict.__new__") ⟨[.type "dict"], []⟩) (wants Q₁ E) s := by
  refine codeAny_call_builtin F.kt_plain_dict_new F.kt_entry_dict_new (wpAny_of_eq newCall0 ?_)
  have hsub := F.kt_sub_dict
  have hmro := F.kt_mro_dict
  obtain ⟨hp, g, d, tk, os⟩ := s
  unfold Builtin.«dict.__new__»
  wp_walk
  exact h
theorem call_dict0 {Q : Value → Shared → Prop} (h : Q (.ref s.heap.objs.size) { s with heap := s.heap.push emptyDict }) : wpAny (model prg w) A (call (.type "dict") []) Q E s := by
  refine callType_codes (Q₁ := fun obj s₁ => obj = .ref s.heap.objs.size ∧ s₁ = { s with heap := s.heap.push emptyDict }) F.kt_called_dict typeCall0 F.entry_dict_init (code_new ⟨rfl, rfl⟩) ?_
  rintro obj s₁ ⟨rfl, rfl⟩
  have hnew : (s.heap.push emptyDict).DictOf (strKind prg w) s.heap.objs.size [] := Heap.DictOf.new s.heap
  refine ⟨hnew.typeIs, argsInit _, ?_⟩
  unfold Builtin.«dict.__init__»
  refine wpAny_bind ?_
  unfold Builtin.Dict.selfAndRest
  refine wpAny_bind (wpAny_notOrdered_dict hnew.typeIs ?_)
  show wpAny _ _ (pure (s.heap.objs.size, ([] : List Value))) _ _ _
  refine wpAny_pure ?_
  show wpAny _ _ (Builtin.Dict.addKeywords s.heap.objs.size [] >>= _) _ _ _
  exact wpAny_bind (wpAny_pure (wpAny_pure ⟨rfl, h⟩))
end
end FK
namespace FK
noncomputable def pairs (l : List Nat) (kvs : List (Str × Value)) : List (Str × Value) := l.foldl (fun kv c => stored kv ⟨#[c]⟩ .none) kvs
theorem stored_len (kvs : List (Str × Value)) (k : Str) (v : Value) : (stored kvs k v).length ≤ kvs.length + 1 := by
  unfold stored
  split <;> simp
theorem loop {w : World} {A : Around} {R : Result → Shared → Prop} {l : List Nat} {t : Tok} {it d : Addr} (hh : A.handled = none) (hne : it ≠ d) : ∀ (n i : Nat) (s : Shared) (kvs : List (Str × Value)), l.length = i + n → s.heap.IsStrIter it "str_ascii_iterator" ⟨l.toArray⟩ t i → s.heap.DictOf (strKind prg w) d kvs → kvs.length + n ≤ 1000 →
    (∀ h' tk, h'.DictOf (strKind prg w) d (pairs (l.drop i) kvs) → (∀ b o, b ≠ it → b ≠ d → s.heap.get? b = some o → h'.get? b = some o) → R (.ok (.ret (.ref d))) { s with heap := h', toks := tk }) →
    codeAny (model prg w) A (.builtin "dict.fromkeys.loop" ⟨[.ref d, .ref it, .none], []⟩) R s
  | 0, i, s, kvs, hl, hit, hd, hz, hR => by
    refine codeAny_builtin entry_fkl ?_
    rw [Around.under_plainId plain_fkl _]
    unfold Builtin.«dict.fromkeys.loop»
    refine wpAny_bind (wpAny_pyNext_ascii_end hh hit (by simp; omega) fun h' he => ?_)
    refine wpAny_pure (hR h' s.toks ?_ fun b o hb _ e => he b o hb e)
    have : l.drop i = [] := by rw [List.drop_eq_nil_iff]; omega
    rw [this]
    exact hd.extBut he (Ne.symm hne)
  | n + 1, i, s, kvs, hl, hit, hd, hz, hR => by
    have hi : i < l.length := by omega
    refine codeAny_builtin entry_fkl ?_
    rw [Around.under_plainId plain_fkl _]
    unfold Builtin.«dict.fromkeys.loop»
    refine wpAny_bind (wpAny_pyNext_ascii_item hit (c := l[i]) (by simp [hi]) fun h₁ hit₁ hs₁ => ?_)
    have hd₁ := hd.extBut hs₁.extBut (Ne.symm hne)
    show wpAny _ _ (typeOf (.ref d) >>= _) _ _ _
    refine wpAny_bind (wpAny_typeOf (s := { s with heap := h₁, toks := s.toks + 1 }) hd₁.typeIs ?_)
    dsimp only
    rw [if_pos (by decide)]
    refine wpAny_bind (m := PySem.Builtin.Dict.addrOf (.ref d)) (wpAny_pure (wpAny_bind (wpAny_holding ?_)))
    refine wpAny_dictSet_pairs (s := { s with heap := h₁, toks := s.toks + 1 }) (knd := strKind prg w) (k := ⟨#[l[i]]⟩) (strKind_is _ _ _ _) hd₁ (fun h₂ hd₂ hs₂ => ?_) (by rw [sizeLine_is]; omega)
    refine wpAny_pure ⟨plainId_quiet plain_fkl _, ?_⟩
    have hsl := stored_len kvs ⟨#[l[i]]⟩ .none
    refine loop hh hne n (i + 1) _ _ (by omega) (hit₁.extBut hs₂.extBut hne) hd₂ (by omega) fun h' tk hd' hk => ?_
    have e : pairs (l.drop i) kvs = pairs (l.drop (i + 1)) (stored kvs ⟨#[l[i]]⟩ .none) := by
      rw [List.drop_eq_getElem_cons hi]; rfl
    refine hR h' tk (by rw [e]; exact hd') fun b o hb hb' e => ?_
    exact hk b o hb hb' (hs₂.extBut b o hb' (hs₁.extBut b o hb e))
end FK
namespace FK
theorem run {w : World} {A : Around} {R : Result → Shared → Prop} {s : Shared} {l : List Nat} {t : Tok} (hh : A.handled = none) (hl : l.length ≤ 1000) (ha : (⟨l.toArray⟩ : Str).cps.all (· < 128) = true)
    (hR : ∀ h' tk, h'.DictOf (strKind prg w) s.heap.objs.size (pairs l []) → (∀ b o, s.heap.get? b = some o → h'.get? b = some o) → R (.ok (.ret (.ref s.heap.objs.size))) { s with heap := h', toks := tk }) :
    codeAny (model prg w) A (.builtin "dict.fromkeys" ⟨[.type "dict", .str ⟨l.toArray⟩ t], []⟩) R s := by
  refine codeAny_builtin entry_fk ?_
  rw [Around.under_plainId plain_fk _]
  unfold Builtin.«dict.fromkeys»
  have hnew : (s.heap.push emptyDict).DictOf (strKind prg w) s.heap.objs.size [] := Heap.DictOf.new s.heap
  have hty : (⟨s.heap.push emptyDict, s.gens, s.drawn, s.toks, s.os⟩ : Shared).TypeIs (.ref s.heap.objs.size) "dict" := hnew.typeIs
  refine wpAny_bind (wpAny_of_eq isType_d ?_)
  refine wpAny_bind (wpAny_of_eq sub_dd ?_)
  dsimp only
  simp only [Bool.not_true, Bool.false_eq_true, if_false, List.isEmpty_nil]
  refine wpAny_bind (wpAny_rule (wpAny_bind (wpAny_pure (wpAny_bind (call_dict0 (wpAny_holding ?_))))))
  refine wpAny_bind (wpAny_typeOf (T := "str") (typeIs_str _ _ _) ?_)
  refine wpAny_bind (wpAny_typeOf (s := ⟨s.heap.push emptyDict, s.gens, s.drawn, s.toks, s.os⟩) hty ?_)
  rw [if_neg (by decide)]
  refine wpAny_bind (wpAny_typeOf (s := ⟨s.heap.push emptyDict, s.gens, s.drawn, s.toks, s.os⟩) hty ?_)
  rw [if_neg (by decide)]
  refine wpAny_bind (wpAny_pyIter_ascii ha ?_)
  refine wpAny_pure ⟨plainId_quiet plain_fkl _, ?_⟩
  have hsz : (s.heap.push emptyDict).objs.size = s.heap.objs.size + 1 := Heap.size_push ..
  have hd₂ := hnew.push { cls := .type "str_ascii_iterator", data := .fields #[.str ⟨l.toArray⟩ t, .int 0 0] }
  refine loop (l := l) (t := t) (it := (s.heap.push emptyDict).objs.size) (d := s.heap.objs.size) hh (by rw [hsz]; exact Nat.succ_ne_self _) l.length 0 _ [] (by omega) ⟨_, Heap.get?_push_size _ rfl, rfl, rfl⟩ hd₂ (by simpa using hl) fun h' tk hd' hk => ?_
  refine hR h' tk hd' fun b o e => ?_
  have hlt := Heap.lt_size e
  exact hk b o (Nat.ne_of_lt (by rw [hsz]; exact Nat.lt_succ_of_lt hlt)) (Nat.ne_of_lt hlt) (Heap.get?_push_of_some _ (Heap.get?_push_of_some _ e))
end FK
noncomputable def FkTab (w : World) (a : Addr) (o : Obj) : Prop := (a == sysModules) = false ∧ o.IsDictOf (strKind prg w) (FK.pairs pch [])
theorem notMod {X : Cx} {d u : Nat} (K : CxOK X d u) {W : Wd} {σ : AS} {s : Shared} (S : St nm X W σ s) : (s.heap.objs.size == sysModules) = false := by
  obtain ⟨p, loose, mg, mb, T⟩ := K.top
  obtain ⟨m, objs, F, hL, hcs, N, nd⟩ := S
  exact F.notModules (modules_low T.nolimit)
theorem dict_cls {w : World} {o : Obj} {kvs : List (Str × Value)} (h : o.IsDictOf (strKind prg w) kvs) : o.cls = .type "dict" := by
  obtain ⟨es, ep, hc, _⟩ := h
  exact hc.1
theorem dict_free {w : World} {o : Obj} {kvs : List (Str × Value)} (h : o.IsDictOf (strKind prg w) kvs) : o.isFreed = false := by
  obtain ⟨es, ep, hc, hd, _⟩ := h
  obtain ⟨c, dd, da, sl⟩ := o
  simp only at hd
  subst hd
  rfl
theorem fk_ok {X : Cx} {d u : Nat} (K : CxOK X d u) {σ : AS} {s : Shared} {W : Wd} {b : Addr} (hb : (b, FK.bm) ∈ W.imm) {v : Value} (S : St nm X W σ s) (hv : RelV W (.str pch) v) : EvAt nm X s W (call (.ref b) [v]) (.that (FkTab X.w)) σ := by
  intro Q E hQ
  cases hv with
  | str l t hz =>
    refine wpAny_call (FK.enter (S.imm hb) (FK.run (l := pch) (t := t) K.hand (by decide) (by kernel_rfl) fun h' tk hd hk => ?_))
    obtain ⟨o, ho, hd'⟩ := Heap.dictOf_iff.mp hd
    have A := S.allocK hk ho (dict_free hd') tk
    exact hQ _ _ _ tk A.1 (.that (.head _) (by rw [dict_cls hd']; rfl) ⟨notMod K S, hd'⟩) A.2
theorem bm_keeper {M : Model} {h : Heap} {b : Addr} (hb : h.get? b = some FK.bm) : Looks M h (keeperOf (.ref b)) .machine :=
  (Looks.ld (part := none) hb).andThen (Looks.of_pure (by kernel_rfl))
theorem R_fk {X : Cx} {d u : Nat} (K : CxOK X d u) (hT : TbOK nm X TIn) {cells : List Cell} : EvOK nm X (eval (emb nm inD) X.env) ⟨inN, cells⟩ (.that (FkTab X.w)) ⟨inN, cells⟩ := by
  have hO := noO_ok (X := X) (d := d) (u := u) (T := TIn)
  refine methT_gen K (P := fun f fv W => ∃ b, f = .ref b ∧ fv = [] ∧ (b, FK.bm) ∈ W.imm) (a := .val (.type "dict")) (σ₁ := ⟨inN, cells⟩) rfl rfl (by decide) rfl (val_ok (n := 9) K hT hO (os := []) (by kernel_rfl) no_obs) ?_ ?_
  · intro s W ov pl S hv Q E hQ
    cases hv
    have hk := S.kin K
    refine method_ty (X := X) (T := "dict") (name := nm 78) hk (FK.ga X.w) (type_attr (X := X) (T := "dict") (name := nm 78) hk (FK.attr X.w) (FK.ty X.w) (FK.oq X.w) ?_)
    refine wpAny_bind (wpAny_holding (wpAny_call (FK.get (s := { s with toks := s.toks + 1 }) hk ?_)))
    refine wpAny_pure ?_
    have A := S.allocK (o := FK.bm) (h' := s.heap.push FK.bm) (fun b o e => Heap.get?_push_of_some _ e) (Heap.get?_push_size _ rfl) rfl (s.toks + 1)
    show wpAny _ _ (handedOut (.ref s.heap.objs.size)) _ _ _
    rw [handedOut_of rfl]
    exact wpAny_pure (hQ _ _ _ _ _ A.1 A.2 ⟨_, rfl, rfl, .head _⟩)
  · rintro s W f fv S ⟨b, rfl, rfl, hb⟩
    obtain ⟨l, hl, _, _, _, hvs⟩ := ev_sound K hT hO 9 .args (.cons (.loc 45 ⟨517,55,517,72⟩) .nil) ⟨inN, cells⟩ (.lst [.str pch]) ⟨inN, cells⟩ [] (by kernel_rfl) no_obs
    cases hl
    intro Q E hQ
    refine callWith_of (P := fun h => h.get? b = some FK.bm) (by rw [star_any rfl]; rfl) (fun h hb => ⟨.machine, .inr (.inl rfl), bm_keeper hb⟩) ?_
    have hs : starEach (embL nm (.cons (.loc 45 ⟨517,55,517,72⟩) .nil)) X.env = (false, eval (emb nm (.loc 45 ⟨517,55,517,72⟩)) X.env) :: starEach (embL nm .nil) X.env := by rw [embL, star_cons rfl]
    have hvs' := hvs ⟨517,41,517,73⟩
    rw [hs] at hvs' ⊢
    refine evalArgs_plain ?_
    refine hvs' s W S _ _ fun vs W₁ h₁ tk₁ hw₁ hr S₁ => ?_
    cases hr with
    | cons h1 hr => cases hr with
      | nil => exact ⟨S₁.imm (hw₁.1 _ hb), fk_ok K (hw₁.1 _ hb) S₁ h1 Q E fun v W₂ h₂ tk₂ hw₂ hv S₂ => hQ v W₂ h₂ tk₂ (Wd.le_trans hw₁ hw₂) hv S₂⟩
namespace MT
theorem entry : entryFor table "str.maketrans" = some Builtin.«str.maketrans» := entryFor_of_tree (by kernel_rfl)
theorem plain : plainId "str.maketrans" = true := by decide +kernel
theorem check (v : Value) : checkBuiltinCall "str.maketrans" ⟨[v], []⟩ = pure () := by kernel_rfl
noncomputable def ip (l : List Nat) (kvs : List (Int × Value)) : List (Int × Value) := l.foldl (fun kv (c : Nat) => stored kv (Int.ofNat c) .none) kvs
theorem stored_len (kvs : List (Int × Value)) (k : Int) (v : Value) : (stored kvs k v).length ≤ kvs.length + 1 := by
  unfold stored
  split <;> simp
theorem src_eq : FK.pairs pch [] = pch.map fun c => ((⟨#[c]⟩ : Str), Value.none) := by kernel_rfl
theorem run {w : World} {A : Around} {R : Result → Shared → Prop} {s : Shared} {a : Addr} {o : Obj} (ho : s.heap.get? a = some o) (hf : FkTab w a o)
    (hR : ∀ h' tk, h'.DictOf (intKind prg w) s.heap.objs.size (ip pch []) → (∀ b o, s.heap.get? b = some o → h'.get? b = some o) → R (.ok (.ret (.ref s.heap.objs.size))) { s with heap := h', toks := tk }) :
    codeAny (model prg w) A (.call (.builtin "str.maketrans") ⟨[.ref a], []⟩) R s := by
  obtain ⟨hm, hd⟩ := hf
  rw [src_eq] at hd
  obtain ⟨es, ep, hx, hdd, hko, hps, hnd⟩ := hd
  refine codeAny_call_builtin plain entry (wpAny_of_eq (check _) ?_)
  unfold Builtin.«str.maketrans»
  refine wpAny_bind (wpAny_of_eq (a := ()) rfl ?_)
  refine wpAny_bind (wpAny_of_eq (a := ()) rfl ?_)
  refine wpAny_bind (wpAny_of_eq (a := none) rfl ?_)
  refine wpAny_bind (wpAny_of_eq (a := none) rfl ?_)
  refine wpAny_bind ?_
  unfold newDict
  refine wpAny_newObj_type ?_ (by size_fits)
  dsimp only
  refine wpAny_bind (wpAny_holding ?_)
  have hty : (⟨s.heap.push emptyDict, s.gens, s.drawn, s.toks, s.os⟩ : Shared).TypeIs (.ref a) "dict" := ⟨o, Heap.get?_push_of_some _ ho, hx.1⟩
  refine wpAny_bind (wpAny_typeOf (s := ⟨s.heap.push emptyDict, s.gens, s.drawn, s.toks, s.os⟩) hty ?_)
  refine wpAny_bind (wpAny_of_eq (a := ()) rfl ?_)
  refine wpAny_bind (wpAny_typeOf (s := ⟨s.heap.push emptyDict, s.gens, s.drawn, s.toks, s.os⟩) hty ?_)
  rw [if_neg (by decide)]
  have hmod : notTheModulesDict "str.maketrans" a = pure () := by unfold notTheModulesDict; rw [hm]; rfl
  refine wpAny_bind (wpAny_of_eq hmod ?_)
  refine wpAny_bind (wpAny_dictEntries (Heap.get?_push_of_some _ ho) hdd ?_)
  have hnew : (s.heap.push emptyDict).DictOf (intKind prg w) s.heap.objs.size [] := Heap.DictOf.new s.heap
  refine wpAny_bind (wpAny_forIn_array' _ (fun rest _ s' => ∃ l₀ l₁ h' tk, pch = l₀ ++ l₁ ∧ s' = { s with heap := h', toks := tk } ∧ Pairs (strKind prg w) rest (l₁.map fun c => ((⟨#[c]⟩ : Str), Value.none)) ∧ h'.DictOf (intKind prg w) s.heap.objs.size (ip l₀ []) ∧ (ip l₀ []).length ≤ l₀.length ∧ ∀ b o, s.heap.get? b = some o → h'.get? b = some o) _ ?_ ?_ es PUnit.unit ⟨[], pch, _, s.toks, rfl, rfl, hps, hnew, Nat.le_refl _, fun b o e => Heap.get?_push_of_some _ e⟩)
  · rintro e rest _ s' ⟨l₀, l₁, h', tk, el, rfl, hp, hd', hlen, hk⟩
    match l₁, hp with
    | c :: l₁, .cons hkey hval hp =>
      obtain ⟨u, hu⟩ := Value.isStrOf_shape hkey
      have hn : l₀.length ≤ 6 := by
        have := congrArg List.length el
        simp [pch] at this
        omega
      rw [hu]
      refine wpAny_bind (wpAny_of_eq (a := some ⟨#[c]⟩) rfl ?_)
      dsimp only
      refine wpAny_bind (wpAny_mkInt ?_)
      rw [hval]
      refine wpAny_bind (wpAny_dictSet_pairs (knd := intKind prg w) (k := Int.ofNat c) (intKind_is _ _ _ _) hd' (fun h₂ hd₂ hs₂ => ?_) (by rw [sizeLine_is]; omega))
      refine wpAny_pure ⟨l₀ ++ [c], l₁, h₂, _, by rw [el]; simp, rfl, hp, ?_, ?_, fun b o e => ?_⟩
      · have : ip (l₀ ++ [c]) [] = stored (ip l₀ []) (Int.ofNat c) .none := by unfold ip; rw [List.foldl_append]; rfl
        rw [this]; exact hd₂
      · have : ip (l₀ ++ [c]) [] = stored (ip l₀ []) (Int.ofNat c) .none := by unfold ip; rw [List.foldl_append]; rfl
        rw [this, List.length_append]
        have := stored_len (ip l₀ []) (Int.ofNat c) .none
        simp only [List.length_cons, List.length_nil]
        omega
      · exact hs₂.extBut b o (Nat.ne_of_lt (Heap.lt_size e)) (hk b o e)
  · rintro _ s' ⟨l₀, l₁, h', tk, el, rfl, hp, hd', hlen, hk⟩
    have : l₁ = [] := by cases l₁ with | nil => rfl | cons c l => cases hp
    subst this
    rw [List.append_nil] at el
    subst el
    exact wpAny_pure (wpAny_pure (hR h' tk hd' hk))
end MT
namespace MT
theorem ty : typeOf (.builtin "str.maketrans") = pure (.type "builtin_function_or_method") := by show builtinType _ = _; rw [builtinType_eq_fast]; kernel_rfl
theorem look : typeLookup (.type "str") (nm 76) = pure (some (.builtin "str.maketrans")) := by rw [typeLookup_type, builtinLookup_eq_fast]; kernel_rfl
theorem lookga : typeLookup (.type "str") "__getattribute__" = pure (some (.builtin "object.__getattribute__")) := by rw [typeLookup_type, builtinLookup_eq_fast]; kernel_rfl
theorem oga (w : World) (x : Str) (t tk : Tok) : peek (KF w) ⟨prg, w.params⟩ (Builtin.«object.__getattribute__» ⟨[.str x t, .str (nm 76) tk], []⟩) = some (.done (.ret (.builtin "str.maketrans"))) := by kernel_rfl
end MT
namespace TL
theorem isLk : isSubtype (.type "KeyError") (.type "LookupError") = pure true := by rw [isSubtype_type]; kernel_rfl
section
variable {prog : Program} {w : World} {A : Around}
theorem look {E : Value → Shared → Prop} {s : Shared} {d : Addr} {kvs : List (Int × Value)} {c : Nat} {Q : Builtin.Str.Mapped → Shared → Prop} (hh : A.handled = none) (hd : (d == sysModules) = false) (hm : s.heap.DictOf (intKind prog w) d kvs)
    (hv : valueAt kvs (c : Int) = none ∨ valueAt kvs (c : Int) = some .none)
    (h : ∀ h' tk, (∀ b o, s.heap.get? b = some o → h'.get? b = some o) → Q (if (valueAt kvs (c : Int)).isSome then .drop else .keep) { s with heap := h', toks := tk }) : wpAny (model prog w) A (Builtin.Str.tableLookup (.ref d) c) Q E s := by
  unfold Builtin.Str.tableLookup
  refine wpAny_bind (wpAny_attempt (wpAny_bind (wpAny_mkInt ?_)))
  rcases hv with hv | hv
  · refine wpAny_getItem_missing_of (knd := intKind prog w) (k := (c : Int)) (s := { s with toks := s.toks + 1 }) (intKind_is _ _ _ _) hd hh hm.mapOf hv fun h' e x => ?_
    obtain ⟨ob, t, x1, x2, x3⟩ := x.there
    refine wpAny_bind (wpAny_isInstance (T := "KeyError") ⟨ob, x1, x2⟩ isLk ?_)
    rw [if_pos rfl]
    refine wpAny_bind (wpAny_rule (wpAny_pure ?_))
    have := h h' (s.toks + 1 + 1) x.keeps
    rw [hv] at this
    exact this
  · refine wpAny_getItem_of (knd := intKind prog w) (k := (c : Int)) (s := { s with toks := s.toks + 1 }) (intKind_is _ _ _ _) hm.mapOf hv ?_
    refine wpAny_pure ?_
    have := h s.heap (s.toks + 1 + 1) (fun _ _ e => e)
    rw [hv] at this
    exact this
theorem dictKeep {h h' : Heap} {d : Addr} {kvs : List (Int × Value)} (hm : h.DictOf (intKind prog w) d kvs) (hk : ∀ b o, h.get? b = some o → h'.get? b = some o) : h'.DictOf (intKind prog w) d kvs := by
  obtain ⟨o, es, ep, ho, r⟩ := hm
  exact ⟨o, es, ep, hk _ _ ho, r⟩
theorem glue : ∀ (l : List Nat) (acc : Array Nat), (l.map fun c => (⟨#[c]⟩ : Str)).foldl (fun acc p => acc ++ p.cps) acc = acc ++ l.toArray
  | [], acc => by simp
  | c :: l, acc => by
    rw [List.map_cons, List.foldl_cons, glue l]
    show (acc ++ #[c]) ++ l.toArray = _
    rw [Array.append_assoc]
    congr 1
    simp
noncomputable abbrev keepL (kvs : List (Int × Value)) (l : List Nat) : List Nat := l.filter fun (c : Nat) => (valueAt kvs (c : Int)).isNone
theorem keep_snoc {kvs : List (Int × Value)} {l : List Nat} {c : Nat} (h : valueAt kvs (c : Int) = none) : keepL kvs (l ++ [c]) = keepL kvs l ++ [c] := by simp [keepL, h]
theorem drop_snoc {kvs : List (Int × Value)} {l : List Nat} {c : Nat} (h : valueAt kvs (c : Int) = some .none) : keepL kvs (l ++ [c]) = keepL kvs l := by simp [keepL, h]
theorem ite_f {α : Type} {M : Model} {b : Bool} {x y : Sem α} {Q : α → Shared → Prop} {E : Value → Shared → Prop} {s : Shared} (hb : b = false) (h : wpAny M A y Q E s) : wpAny M A (if b = true then x else y) Q E s := by
  subst hb; exact h
theorem ite_t {α : Type} {M : Model} {b : Bool} {x y : Sem α} {Q : α → Shared → Prop} {E : Value → Shared → Prop} {s : Shared} (hb : b = true) (h : wpAny M A x Q E s) : wpAny M A (if b = true then x else y) Q E s := by
  subst hb; exact h
theorem entry (l : List Nat) (t : Tok) {s : Shared} {d : Addr} {kvs : List (Int × Value)} {Q : Fin → Shared → Prop} {E : Value → Shared → Prop} (hh : A.handled = none) (hd : (d == sysModules) = false) (hm : s.heap.DictOf (intKind prog w) d kvs)
    (hv : ∀ c ∈ l, valueAt kvs ((c : Nat) : Int) = none ∨ valueAt kvs ((c : Nat) : Int) = some .none) (hne : (((⟨l.toArray⟩ : Str).length == 0) = false)) (hasc : (l.toArray.all (· < 128)) = false) (hlen : l.length ≤ 1000)
    (h : ∀ h' tk tk', (∀ b o, s.heap.get? b = some o → h'.get? b = some o) → Q (.done (.ret (.str ⟨(keepL kvs l).toArray⟩ tk))) { s with heap := h', toks := tk' }) :
    wpAny (model prog w) A (Builtin.«str.translate» ⟨[.str ⟨l.toArray⟩ t, .ref d], []⟩) Q E s := by
  unfold Builtin.«str.translate»
  refine wpAny_bind (wpAny_of_eq (a := (Value.str ⟨l.toArray⟩ t, (⟨l.toArray⟩ : Str), Value.ref d)) rfl ?_)
  refine ite_f hne ?_
  refine wpAny_bind (wpAny_forIn_array' _ (fun rest b s' => ∃ l₀ h' tk, l = l₀ ++ rest ∧ s' = { s with heap := h', toks := tk } ∧ (∀ b o, s.heap.get? b = some o → h'.get? b = some o) ∧ b.1 = ((keepL kvs l₀).map fun c => (⟨#[c]⟩ : Str)).reverse ∧ b.2.1 ≤ l₀.length ∧ b.2.2.1 = false) _ ?_ ?_ l.toArray _ ⟨[], s.heap, s.toks, by simp, rfl, fun _ _ e => e, rfl, Nat.le_refl _, hasc⟩)
  · rintro c rest ⟨pieces, total, fast, known, after⟩ s' ⟨l₀, h', tk, el, rfl, hk, hp, ht, hf⟩
    dsimp only at hp ht hf
    subst hf
    have hn : l₀.length ≤ 1000 := by
      have := congrArg List.length el
      simp at this
      omega
    have hlong : Builtin.Str.tooLong total = false := by
      unfold Builtin.Str.tooLong
      have : sizeLine = 16777216 := by decide
      simp only [this, decide_eq_false_iff_not]
      omega
    have hc := hv c (by rw [el]; simp)
    have el' : l = (l₀ ++ [c]) ++ rest := by rw [el]; simp
    refine ite_f hlong (ite_f rfl ?_)
    have two : ∀ (h₁ : Heap) (tk₁ : Nat) (af₁ af₂ : Bool), (∀ b o, s.heap.get? b = some o → h₁.get? b = some o) → ∀ {Q' : ForInStep (List Str × Nat × Bool × List (Nat × Option Nat) × Bool) → Shared → Prop} {E' : Value → Shared → Prop},
        (∀ b s', (∃ l₀ h' tk, l = l₀ ++ rest ∧ s' = { s with heap := h', toks := tk } ∧ (∀ b o, s.heap.get? b = some o → h'.get? b = some o) ∧ b.1 = ((keepL kvs l₀).map fun c => (⟨#[c]⟩ : Str)).reverse ∧ b.2.1 ≤ l₀.length ∧ b.2.2.1 = false) → Q' (.yield b) s') →
        wpAny (model prog w) A (do
          let __do_lift ← Builtin.Str.tableLookup (Value.ref d) c
          match __do_lift with
            | Builtin.Str.Mapped.keep => pure (ForInStep.yield ((⟨#[c]⟩ : Str) :: pieces, total + 1, false, known, af₁))
            | Builtin.Str.Mapped.drop => pure (ForInStep.yield (pieces, total, false, known, true))
            | Builtin.Str.Mapped.char d => pure (ForInStep.yield ((⟨#[d]⟩ : Str) :: pieces, total + 1, false, known, af₁))
            | Builtin.Str.Mapped.text t => pure (ForInStep.yield (t :: pieces, total + t.length, false, known, af₁))) Q' E' { s with heap := h₁, toks := tk₁ } := by
      intro h₁ tk₁ af₁ af₂ hk₁ Q' E' hQ'
      refine wpAny_bind (look (s := { s with heap := h₁, toks := tk₁ }) hh hd (dictKeep hm hk₁) hc fun h₂ tk₂ hk₂ => ?_)
      rcases hc with hc | hc
      · rw [hc]
        refine wpAny_pure (hQ' _ _ ⟨l₀ ++ [c], h₂, tk₂, el', rfl, fun b o e => hk₂ b o (hk₁ b o e), ?_, ?_, rfl⟩)
        · rw [keep_snoc hc]; simp [hp]
        · simp; omega
      · rw [hc]
        refine wpAny_pure (hQ' _ _ ⟨l₀ ++ [c], h₂, tk₂, el', rfl, fun b o e => hk₂ b o (hk₁ b o e), ?_, ?_, rfl⟩)
        · rw [drop_snoc hc]; exact hp
        · simp; omega
    cases after with
    | false =>
      refine ite_f rfl ?_
      exact two h' tk false true hk fun b s' x => x
    | true =>
      refine ite_t rfl ?_
      refine wpAny_bind (look (s := { s with heap := h', toks := tk }) hh hd (dictKeep hm hk) hc fun h₂ tk₂ hk₂ => ?_)
      rcases hc with hc | hc
      · rw [hc]
        exact two h₂ tk₂ false true (fun b o e => hk₂ b o (hk b o e)) fun b s' x => x
      · rw [hc]
        refine wpAny_pure ⟨l₀ ++ [c], h₂, tk₂, el', rfl, fun b o e => hk₂ b o (hk b o e), ?_, ?_, rfl⟩
        · rw [drop_snoc hc]; exact hp
        · simp; omega
  · rintro ⟨pieces, total, fast, known, after⟩ s' ⟨l₀, h', tk, el, rfl, hk, hp, ht, hf⟩
    dsimp only at hp ht hf
    rw [List.append_nil] at el
    subst el
    have hs : sizeLine = 16777216 := by decide
    have hlong : Builtin.Str.tooLong total = false := by
      unfold Builtin.Str.tooLong
      simp only [hs, decide_eq_false_iff_not]
      omega
    refine ite_f hlong ?_
    dsimp only
    rw [hp, List.reverse_reverse, glue]
    unfold retStr
    have e : (#[] : Array Nat) ++ (keepL kvs l).toArray = (keepL kvs l).toArray := by simp
    rw [e]
    refine wpAny_bind (wpAny_mkStr (wpAny_pure (h h' _ _ hk)) ?_)
    show (keepL kvs l).toArray.size ≤ sizeLine
    have : (keepL kvs l).length ≤ l.length := List.length_filter_le (fun (c : Nat) => (valueAt kvs (c : Int)).isNone) l
    simp only [List.size_toArray, hs]
    omega
end
end TL
namespace MT
section
variable {w : World} {A : Around}
theorem mt_h : handedIn (.builtin "str.maketrans") = true := by kernel_rfl
theorem mt_c : ((Value.type "builtin_function_or_method" != .type "function") && (Value.type "builtin_function_or_method" != .type "method_descriptor") && (Value.type "builtin_function_or_method" != .type "wrapper_descriptor")) = true := by decide +kernel
theorem attr_code {s : Shared} {x : Str} {t tk : Tok} {R : Result → Shared → Prop} (hk : (KF w).In s.heap) (h : R (.ok (.ret (.builtin "str.maketrans"))) s) :
    codeAny (model prg w) A (.call (.builtin "object.__getattribute__") ⟨[.str x t, .str (nm 76) tk], []⟩) R s := by
  obtain ⟨hp, g, d, tks, os⟩ := s
  exact codeAny_call_builtin F.slot_str_getattribute.plain F.entry_object_getattribute (F.slot_str_getattribute.check _ _ _ _ _ _ _ _ (show (⟨hp, g, d, tks, os⟩ : Shared).TypeIs (.str x t) "str" from rfl) (F.args_object_getattribute_2 _ _) ((Looks.of_peek (M := model prg w) hk (oga w x t tk)).here h))
theorem attr_by {E : Value → Shared → Prop} {Q : Value → Shared → Prop} {s : Shared} {x : Str} {t tk : Tok} (hk : (KF w).In s.heap) (hq : Q (.builtin "str.maketrans") s) : wpAny (model prg w) A (getAttrBy (.str x t) (.str (nm 76) tk) true false) Q E s := by
  obtain ⟨hp, g, d, tks, os⟩ := s
  have hT : (⟨hp, g, d, tks, os⟩ : Shared).TypeIs (.str x t) "str" := rfl
  have f2 := F.slot_str_getattribute.lookup
  have f3 := F.slot_str_getattribute.bind (.str x t)
  repeat (any_goals (first | assumption | wp_step))
  refine attr_code (s := ⟨hp, g, d, tks, os⟩) hk ?_
  show wpAny _ _ (handedOut (.builtin "str.maketrans")) _ _ _
  rw [handedOut_of mt_h]
  exact wpAny_pure hq
theorem meth_usual {M : Model} {E : Value → Shared → Prop} {Q : Value × List Value → Shared → Prop} {s : Shared} {v : Value} {T id : String} {name : Str} {pl : Sem Bool} (hT : s.TypeIs v T) (pa : PlainAttrs T) (hl : typeLookup (.type T) name = pure (some (.builtin id)))
    (hty : typeOf (.builtin id) = pure (.type "builtin_function_or_method")) (h : wpAny M A (getAttr v name) (fun r => Q (r, [])) E s) : wpAny M A (getMethod v name pl) Q E s := by
  obtain ⟨g, hg, hcan⟩ := pa.ga
  unfold getMethod
  refine wpAny_bind (wpAny_specialOf hT hg ?_)
  show wpAny _ A (if (Manifest.canonical g != "object.__getattribute__") = true then _ else _) Q E s
  rw [hcan, if_neg Bool.false_ne_true]
  refine wpAny_bind (wpAny_specialOf hT pa.noGetattr ?_)
  refine wpAny_bind (wpAny_specialOf hT hl ?_)
  refine wpAny_bind (wpAny_of_eq hty ?_)
  dsimp only
  rw [if_pos mt_c]
  exact wpAny_bind (wpAny_mono h (fun _ _ z => wpAny_pure z) fun _ _ z => z)
theorem meth {E : Value → Shared → Prop} {Q : Value × List Value → Shared → Prop} {s : Shared} {x : Str} {t : Tok} {pl : Sem Bool} (hk : (KF w).In s.heap) (hq : Q (.builtin "str.maketrans", []) { s with toks := s.toks + 1 }) : wpAny (model prg w) A (getMethod (.str x t) (nm 76) pl) Q E s := by
  have hT : s.TypeIs (.str x t) "str" := typeIs_str _ _ _
  have ha : wpAny (model prg w) A (getAttr (.str x t) (nm 76)) (fun r => Q (r, [])) E s := wpAny_bind (wpAny_mkText (attr_by (s := { s with toks := s.toks + 1 }) hk hq))
  have hl : typeLookup (.type "str") (nm 76) = pure (some (.builtin "str.maketrans")) := look
  generalize nm 76 = name at ha hl ⊢
  have h2 := ty
  generalize "str.maketrans" = id at hl h2 
  exact meth_usual hT F.plainAttrs_str hl h2 ha
end
end MT
noncomputable def MtTab (w : World) (a : Addr) (o : Obj) : Prop := (a == sysModules) = false ∧ o.IsDictOf (intKind prg w) (MT.ip pch [])
theorem idict_cls {w : World} {o : Obj} {kvs : List (Int × Value)} (h : o.IsDictOf (intKind prg w) kvs) : o.cls = .type "dict" := by
  obtain ⟨es, ep, hc, _⟩ := h
  exact hc.1
theorem idict_free {w : World} {o : Obj} {kvs : List (Int × Value)} (h : o.IsDictOf (intKind prg w) kvs) : o.isFreed = false := by
  obtain ⟨es, ep, hc, hd, _⟩ := h
  obtain ⟨c, dd, da, sl⟩ := o
  simp only at hd
  subst hd
  rfl
section
variable {X : Cx} {d u : Nat}
theorem St.keepAll {W : Wd} {σ : AS} {s : Shared} (S : St nm X W σ s) {h' : Heap} (hk : ∀ b o, s.heap.get? b = some o → h'.get? b = some o) {tk : Nat} : St nm X W σ { s with heap := h', toks := tk } := by
  obtain ⟨m, objs, F, hL, hc, N, nd⟩ := S
  refine ⟨m, objs, ⟨?_, fun b o e => hk b o (F.keep b o e), F.above⟩, hL, hc, fun p hp => ⟨hk _ _ (N p hp).1, (N p hp).2⟩, nd⟩
  obtain ⟨oL, a1, a2, hgL, a3⟩ := F.ns
  exact ⟨oL, a1, a2, hk _ _ hgL, a3⟩
theorem mt_ok (K : CxOK X d u) {σ : AS} : FnOK nm X (.builtin "str.maketrans") [.that (FkTab X.w)] σ (.that (MtTab X.w)) σ := by
  intro s W vals S hv Q E hQ
  cases hv with
  | cons h1 hr => cases hr with
    | nil => cases h1 with
      | that hm hi hp =>
        refine wpAny_call (MT.run (S.imm hm) hp fun h' tk hd hk => ?_)
        obtain ⟨o, ho, hd'⟩ := Heap.dictOf_iff.mp hd
        have A := S.allocK hk ho (idict_free hd') tk
        exact hQ _ _ _ tk A.1 (.that (.head _) (by rw [idict_cls hd']; rfl) ⟨notMod K S, hd'⟩) A.2
theorem R_mt (K : CxOK X d u) (hT : TbOK nm X TIn) {cells : List Cell} {l : List Nat} (ho : EvOK nm X (eval (emb nm (.attr (.loc 9 ⟨517,16,517,20⟩) 50 ⟨517,16,517,30⟩)) X.env) ⟨inN, cells⟩ (.str l) ⟨inN, cells⟩) : EvOK nm X (eval (emb nm inM2) X.env) ⟨inN, cells⟩ (.that (MtTab X.w)) ⟨inN, cells⟩ := by
  refine methT_gen K (P := fun f fv _ => f = .builtin "str.maketrans" ∧ fv = []) (σ₁ := ⟨inN, cells⟩) rfl rfl (by decide) rfl ho ?_ ?_
  · intro s W ov pl S hv Q E hQ
    cases hv
    exact MT.meth (S.kin K) (hQ _ _ W s.heap (s.toks + 1) W.le_refl S.same ⟨rfl, rfl⟩)
  · rintro s W f fv S ⟨rfl, rfl⟩
    exact callWith_gen K KeepOK.bi rfl S .nil (V_cons rfl (R_fk K hT) (V_nil rfl)) (mt_ok K)
theorem wc_tr : TL.keepL (MT.ip pch []) wc2 = wch := by kernel_rfl
theorem wc_all : (wc2.all fun c => match valueAt (MT.ip pch []) ((c : Nat) : Int) with | none => true | some v => v == .none) = true := by kernel_rfl
theorem wc_in : ∀ c ∈ wc2, valueAt (MT.ip pch []) ((c : Nat) : Int) = none ∨ valueAt (MT.ip pch []) ((c : Nat) : Int) = some .none := by
  intro c hc
  have := List.all_eq_true.mp wc_all c hc
  split at this
  · rename_i e; exact .inl e
  · rename_i v e
    rw [beq_iff_eq] at this
    rw [this] at e
    exact .inr e
theorem tr_ok (K : CxOK X d u) {σ : AS} : FnOK nm X (.builtin "str.translate") [.str wc2, .that (MtTab X.w)] σ (.str wch) σ := by
  intro s W vals S hv Q E hQ
  cases hv with
  | cons h1 hr => cases hr with
    | cons h2 hr => cases hr with
      | nil => cases h1 with
        | str _ t hz => cases h2 with
          | that hm hi hp =>
            rename_i a o
            have hd : s.heap.DictOf (intKind prg X.w) a (MT.ip pch []) := Heap.dictOf_iff.mpr ⟨o, S.imm hm, hp.2⟩
            have hT : s.TypeIs (.str ⟨wc2.toArray⟩ t) "str" := rfl
            refine wpAny_call (codeAny_call_builtin F.slot_str_translate.plain F.entry_str_translate (F.slot_str_translate.check _ _ _ _ _ _ _ _ hT (F.args_str_translate_2 _ _) (TL.entry wc2 t K.hand hp.1 hd wc_in (by kernel_rfl) (by kernel_rfl) (by decide) fun h' tk tk' hk => ?_)))
            rw [wc_tr]
            have A : St nm X W σ { s with heap := h', toks := tk' } := S.keepAll hk
            exact hQ _ W h' tk' W.le_refl (.str wch tk (by decide)) A
end
noncomputable abbrev kwN : List Str := [nm 44, nm 45]
theorem init_binds (w : World) (S : Setting) (v0 v1 v2 v3 : Value) : peek (KF w) S (bindArgs (fnOf (Str.ofString "__init__") (Str.ofString "shlex.__init__") fInit_params fInit_body fInit_scope (.ref 660) .none .none (.str (Str.ofString "cpy313.shlex") 1027) none (.ref 666) .none) ⟨[v0, v1], kwN.zip [v2, v3]⟩) = some (([9, 42, 43, 44, 45].map nm).zip [v0, v1, .none, v2, v3]) := by kernel_rfl
theorem init_ok (w : World) (t : List Nat) : CallOKk w 4 15 667 [.cell 0, .str t] kwN [.bool true, .str pch] [.inst 743 []] .none (lexCs (.str [32]) [] 1 [] t [] []) := by
  refine CallOKk.of_body (d := 3) (u := 12) (fl := .next) (loc := inL t) (loc' := putF 75 (.that (MtTab w)) inN) (fInit_at w) (by kernel_rfl) ?_ (by decide +kernel) rfl rfl rfl ?_
  · intro s W vals kvs hK ha hk
    cases ha with
    | cons h1 hr => cases hr with
      | cons h2 hr => cases hr with
        | nil => cases hk with
          | cons h3 hr => cases hr with
            | cons h4 hr => cases hr with
              | nil => exact ⟨([9, 42, 43, 44, 45].map nm).zip [_, _, .none, _, _], kp_binds hK (fun S => init_binds w S _ _ _ _), locs rfl, locOK_zip (ids := [9, 42, 43, 44, 45]) (args := [_, _, .none, _, _]) (.cons h1 (.cons h2 (.cons .none (.cons h3 (.cons h4 .nil))))) (by decide)⟩
  · intro X e1 e2 e3 e4 e5 K
    subst e1
    have hT : TbOK nm X TIn := mkT_ok K (by rw [e3]; exact in_loc) (by rw [e3]; exact in_glob)
    have hO := OIt2_ok K (Nat.le_refl 3) (Nat.le_refl 12)
    rw [in_split]
    refine R_execs_app (run_ok K hT hO (in_1 t) (ob1 (show wcA.length + wcB.length ≤ 16777216 by decide))) ?_
    refine R_execs_next ?_ R_execs_nil
    refine R_if (tst_ok K hT hO (in_2 t) no_obs rfl) ?_
    show ExOK nm X (execs (embSs nm in21.thn) X.env) _ _ _
    rw [in_split2]
    refine R_execs_app (run_ok K hT hO (in_3 t) (ob1 (show (wcA ++ wcB).length + wcC.length ≤ 16777216 by decide))) ?_
    rw [wc_eq]
    refine R_execs_next (R_assign nm_inj K rfl (hT.loc 75 (by kernel_rfl)) (R_mt K hT (l := wc2) (val_ok (n := 9) K hT hO (os := []) (by kernel_rfl) no_obs))) ?_
    refine R_execs_next ?_ R_execs_nil
    have hcell : (inC t wc2)[0]? = some (.inst 743 (inF wc2)) := rfl
    refine R_setattr nm_inj K (noSwap rfl _ _ _) (k := 0) (C := 743) (fs := inF wc2) (a := .str wch) (σ₁ := ⟨putF 75 (.that (MtTab X.w)) inN, inC t wc2⟩) (σ₂ := ⟨putF 75 (.that (MtTab X.w)) inN, inC t wc2⟩) ?_ (val_ok (n := 9) K hT hO (os := []) (by kernel_rfl) no_obs) hcell (by decide) (ownOK (by kernel_rfl)).2
    refine R_callM K (σ₁ := ⟨putF 75 (.that (MtTab X.w)) inN, inC t wc2⟩) (as := [.that (MtTab X.w)]) (a := .str wc2) (f := .builtin "str.translate") rfl rfl (by decide) rfl (val_ok (n := 9) K hT hO (os := []) (by kernel_rfl) no_obs) (MethOK.bi F.plainAttrs_str F.slot_str_translate F.type_str_translate ?_) KeepOK.bi ?_ (tr_ok K)
    · intro s W v S hv
      cases hv
      exact ⟨typeIs_str _ _ _, fun x e => by cases e⟩
    · exact V_cons rfl (val_ok (n := 9) K hT hO (os := []) (by kernel_rfl) no_obs) (V_nil rfl)
theorem call_at2k {X : Cx} {d u : Nat} (K : CxOK X d u) {W : Wd} {σ : AS} {s : Shared} (S : St nm X W σ s) {f : Addr} {args kws : List AV} {ks : List Str} {vals kvs : List Value} {r : AV} {cells' : List Cell} {dn un : Nat}
    (C : CallOKk X.w dn un f args ks kws σ.cells r cells') (ha : RelVs W args vals) (hak : RelVs W kws kvs) {A' : Around} (hA : A'.depth + dn < recursionLimit) (hA' : A'.units + un < cLine) (hH : A'.handled = none) {R : Result → Shared → Prop}
    (hQ : ∀ v W' h' tk', W.le W' → RelV W' r v → St nm X W' { σ with cells := cells' } { s with heap := h', toks := tk' } → R (.ok (.ret v)) { s with heap := h', toks := tk' }) :
    codeAny (model prg X.w) A' (.call (.ref f) ⟨vals, ks.zip kvs⟩) R s := by
  obtain ⟨m, objs, F, hL, hc, N, nd⟩ := S
  have notin : ∀ b o, X.h₀.get? b = some o → b ∉ (W.imm ++ objs).map (·.1) := fun b o e q => by
    obtain ⟨p, hp, rfl⟩ := List.mem_map.mp q
    rw [(N p hp).2.2] at e; cases e
  have hst : ∀ b o, X.h₀.get? b = some o → (hideAll s.heap ((W.imm ++ objs).map (·.1))).get? b = some o := fun b o e => hideAll_get _ (F.keep b o e) (notin b o e)
  have hLn : X.L ∉ (W.imm ++ objs).map (·.1) := fun q => by
    obtain ⟨p, hp, e⟩ := List.mem_map.mp q
    exact (N p hp).2.1 e
  obtain ⟨p, loose, mg, mb, T⟩ := K.top
  refine C A' (hideAll s.heap ((W.imm ++ objs).map (·.1))) s W vals kvs (K.kin.keeps hst) ⟨p, loose, mg, mb, T.keeps hst⟩ hA hA' hH ⟨fun b o e => of_hideAll _ e, Nat.le_of_eq (hideAll_size _ _), objs, hc, fun p hp => ⟨(N p hp).1, hideAll_none _ (List.mem_map_of_mem hp)⟩, nd⟩ ha hak R ?_
  intro v W' h' tk' hw hv ⟨k1, k2, objs', hc', hp', nd'⟩
  refine hQ v W' h' tk' hw hv ⟨m, objs', ⟨?_, fun b o e => k1 b o (hst b o e), F.above⟩, hL.mono hw, hc', fun p hp => ⟨(hp' p hp).1, ?_, ?_⟩, nd'⟩
  · obtain ⟨oL, a1, a2, hgL, a3⟩ := F.ns
    exact ⟨oL, a1, a2, k1 _ _ (hideAll_get _ hgL hLn), a3⟩
  · intro e
    obtain ⟨oL, a1, a2, hgL, a3⟩ := F.ns
    have z := (hp' p hp).2
    rw [e, hideAll_get _ hgL hLn] at z
    cases z
  · cases q : X.h₀.get? p.1 with
    | none => rfl
    | some o =>
      have z := (hp' p hp).2
      rw [hst _ _ q] at z
      cases z
theorem lex_makes (w : World) : makesIn (KF w) 743 = true := by kernel_rfl
theorem lex_init (w : World) : findIn (KF w) (.ref 743) "__init__" = some (some (.ref 667)) := by kernel_rfl
theorem lex_fn (w : World) : typeIn (KF w) (.ref 667) = some (.type "function") := by kernel_rfl
theorem lex_keep (w : World) : keepIn (KF w) (.ref 743) = true := by kernel_rfl
section
variable {X : Cx} {d u : Nat}
theorem lex_new (K : CxOK X d u) (hd : 5 ≤ d) (hu : 19 ≤ u) {loc : List (Nat × AV)} {t : List Nat} {s : Shared} {W : Wd} (S : St nm X W ⟨loc, []⟩ s) {vt vp vc : Value} (h1 : RelV W (.str t) vt) (h2 : RelV W (.bool true) vp) (h3 : RelV W (.str pch) vc) :
    EvAt nm X s W (call (.ref 743) [vt] (kwN.zip [vp, vc])) (.cell 0) ⟨loc, lexCs (.str [32]) [] 1 [] t [] []⟩ := by
  intro Q E hQ
  have hk := S.kin K
  obtain ⟨m, objs, F, hL, hc, N, nd⟩ := id S
  have hca : W.ca = [] := by
    have := hc.length
    exact List.length_eq_zero_iff.mp (by simpa using this)
  have ho : objs = [] := by
    rw [hca] at hc
    cases hc; rfl
  subst ho
  rw [List.append_nil] at N nd
  have hw1 : (X.A.under (Code.builtin "type.__call__" ⟨[Value.ref 743, vt], kwN.zip [vp, vc]⟩)).depth = X.A.depth + 1 := by kernel_rfl
  have hw2 : (X.A.under (Code.builtin "type.__call__" ⟨[Value.ref 743, vt], kwN.zip [vp, vc]⟩)).units ≤ X.A.units + 3 := by show X.A.units + _ ≤ _; exact Nat.add_le_add_left (Nat.le_of_ble_eq_true (by kernel_rfl)) _
  have hw3 : (X.A.under (Code.builtin "type.__call__" ⟨[Value.ref 743, vt], kwN.zip [vp, vc]⟩)).handled = none := K.hand
  have r1 := K.room
  have r2 := K.units
  refine wpAny_call (make_K F N hk (lex_makes X.w) (lex_init X.w) (lex_fn X.w) fun x dx h' F' N' hlt hxd => ?_)
  have hle : W.le { W with ca := [(x, dx)] } := ⟨fun p hp => hp, [(x, dx)], by rw [hca]; rfl⟩
  have S' : St nm X { W with ca := [(x, dx)] } ⟨loc, [.inst 743 []]⟩ { s with heap := h' } := by
    refine ⟨m, [(x, instObj 743 dx), (dx, dictOf [] 0)] ++ [], F', hL.mono hle, .cons (.inst .nil) .nil, ?_, ?_⟩
    · intro p hp
      apply N'
      simp only [List.append_nil, List.mem_append, List.mem_cons, List.not_mem_nil, or_false] at hp ⊢
      rcases hp with h | h | h
      · exact .inr (.inr h)
      · exact .inl h
      · exact .inr (.inl h)
    · show ((W.imm ++ ([(x, instObj 743 dx), (dx, dictOf [] 0)] ++ ([] : List (Addr × Obj)))).map (fun p : Addr × Obj => p.1)).Nodup
      rw [List.append_nil, List.map_append, List.nodup_append]
      refine ⟨nd, ?_, ?_⟩
      · simp only [List.map_cons, List.map_nil, List.nodup_cons, List.mem_cons, List.not_mem_nil, or_false, not_false_eq_true, List.nodup_nil, and_true]
        exact Nat.ne_of_gt hxd
      · intro a ha b hb e
        obtain ⟨p, hp, rfl⟩ := List.mem_map.mp ha
        have := hlt p hp
        simp only [List.map_cons, List.map_nil, List.mem_cons, List.not_mem_nil, or_false] at hb
        rcases hb with rfl | rfl
        · rw [e] at this; exact absurd this (Nat.not_lt.mpr (Nat.le_of_lt hxd))
        · rw [e] at this; exact Nat.lt_irrefl _ this
  refine call_at2k (s := { s with heap := h' }) (args := [.cell 0, .str t]) (kws := [.bool true, .str pch]) K S' (init_ok X.w t) (.cons (.cell rfl) (.cons (h1.mono hle) .nil)) (.cons (h2.mono hle) (.cons (h3.mono hle) .nil)) (by omega) (by omega) hw3 fun v₂ W₂ h₂ tk₂ hle₂ hv₂ S₂ => ?_
  cases hv₂
  exact ⟨rfl, hQ _ W₂ h₂ tk₂ (Wd.le_trans hle hle₂) (.cell (Wd.le_ca hle₂ rfl)) S₂⟩
end
noncomputable abbrev rkLexE : Expr := Expr.Call (Expr.Name (Str.ofString "shlex") ⟨777,12,777,17⟩) [(Expr.Name (Str.ofString "text") ⟨777,18,777,22⟩)] [⟨some (Str.ofString "posix"), (Expr.Constant (.bool true) 0 ⟨777,30,777,34⟩), ⟨777,24,777,34⟩⟩, ⟨some (Str.ofString "punctuation_chars"), (Expr.Constant (.str (Str.ofString "&|^~()")) 0 ⟨777,54,777,62⟩), ⟨777,36,777,62⟩⟩] ⟨777,12,777,63⟩
noncomputable abbrev rkDictF : Expr := Expr.Dict [(some (Expr.Constant (.str ⟨#[120, 49]⟩) 0 ⟨776,13,776,17⟩)), (some (Expr.Constant (.str ⟨#[98, 41]⟩) 0 ⟨776,24,776,28⟩)), (some (Expr.Constant (.str ⟨#[105, 116, 39, 115]⟩) 0 ⟨776,35,776,41⟩))] [(Expr.Constant (.int (170)) 0 ⟨776,19,776,22⟩), (Expr.Constant (.int (204)) 0 ⟨776,30,776,33⟩), (Expr.Constant (.int (240)) 0 ⟨776,43,776,46⟩)] ⟨776,12,776,47⟩
theorem nm_shlex (w : World) : nsIn (KF w) mainGlobals (Str.ofString "shlex") = some (some (.ref 743)) := by kernel_rfl
theorem kw_names : [Str.ofString "posix", Str.ofString "punctuation_chars"] = kwN := by kernel_rfl
theorem nm_text : Str.ofString "text" = nm 124 := by kernel_rfl
theorem pch_str : Str.ofString "&|^~()" = ⟨pch.toArray⟩ := by kernel_rfl
theorem rk_shlex : fReck_scope.names.lookup (Str.ofString "shlex") = some .globalImplicit := by kernel_rfl
section
variable {X : Cx} {d u : Nat}
theorem R_lex (K : CxOK X d u) (hT : TbOK nm X TRk) (hcs : X.cs = fReck_scope) (hd : 5 ≤ d) (hu : 19 ≤ u) {loc : List (Nat × AV)} {t : List Nat} (hl : loc.lookup 124 = some (.str t)) :
    EvOK nm X (eval rkLexE X.env) ⟨loc, []⟩ (.cell 0) ⟨loc, lexCs (.str [32]) [] 1 [] t [] []⟩ := by
  intro s W S Q E hQ
  show wpAny _ _ (do callWith _ (← eval (.Name (Str.ofString "shlex") _) X.env) [] (backTo _ (starEach _ X.env)) (backToKw _ (keywordEach _ X.env))) _ _ _
  refine wpAny_bind ?_
  obtain ⟨m, objs, F, hL, hc, N, nd⟩ := id S
  obtain ⟨_, _, _, _, T⟩ := K.top
  refine name_K F K.kin T (nm_shlex X.w) ?_ K.fn (by show X.cs.names.lookup _ = _; rw [hcs]; exact rk_shlex) (by decide +kernel)
  refine callWith_KW (K := KF X.w) (h₀ := X.h₀) K.kin (lex_keep X.w) rfl ?_ rfl rfl
  have h1 : EvOK nm X (eval (emb nm (.loc 124 ⟨777,18,777,22⟩)) X.env) ⟨loc, []⟩ (.str t) ⟨loc, []⟩ := R_loc K (hT.loc 124 (by kernel_rfl)) (hT.dbg 124) hl
  have h2 : VsOK nm X (spliced (backTo ⟨777,12,777,63⟩ (starEach (embL nm (.cons (.loc 124 ⟨777,18,777,22⟩) .nil)) X.env))) ⟨loc, []⟩ [.str t] ⟨loc, []⟩ := V_cons rfl h1 (V_nil rfl)
  have e : embL nm (.cons (.loc 124 ⟨777,18,777,22⟩) .nil) = [(Expr.Name (Str.ofString "text") ⟨777,18,777,22⟩)] := by rw [nm_text]; rfl
  rw [e] at h2
  refine h2 s W S _ _ fun vs W₁ h₁ tk₁ hw₁ hvs S₁ => ?_
  cases hvs with
  | cons hv hr => cases hr with
    | nil =>
      refine evalAll_cons (wpAny_bind (wpAny_Constant_bool (wpAny_bind (wpAny_standAt (wpAny_pure ?_)))))
      refine evalAll_cons (wpAny_bind (wpAny_Constant_str (wpAny_bind (wpAny_standAt (wpAny_pure ?_)))))
      refine evalAll_nil ?_
      refine ⟨S₁.kin K, ?_⟩
      rw [pch_str]
      show wpAny _ _ (call (.ref 743) [_] ([Str.ofString "posix", Str.ofString "punctuation_chars"].zip [_, _])) _ _ _
      rw [kw_names]
      exact lex_new (s := { s with heap := h₁, toks := tk₁ + 1 }) K hd hu (S₁.same (tk := tk₁ + 1)) hv (.bool true) (.str pch tk₁ (by decide)) Q E fun v W₂ h₂ tk₂ hw₂ hv S₂ => hQ v W₂ h₂ tk₂ (Wd.le_trans hw₁ hw₂) hv S₂
theorem dict_new (K : CxOK X d u) {σ : AS} {s : Shared} {W : Wd} (S : St nm X W σ s) {Q E : Value → Shared → Prop}
    (h : ∀ a o h' tk W', TabOK X.w a o → W.le W' → RelV W' (.obj a o) (.ref a) → St nm X W' σ { s with heap := h', toks := tk } → Q (.ref a) { s with heap := h', toks := tk }) : wpAny (model prg X.w) X.A (eval rkDictF X.env) Q E s := by
  refine wpAny_Dict_walk (knd := strKind prg X.w) rfl rfl (by decide) (by decide) ?_
  refine pairTrees_cons_walk (wpAny_Constant_str (wpAny_Constant_int ?_))
  refine pairTrees_cons_walk (wpAny_Constant_str (wpAny_Constant_int ?_))
  refine pairTrees_cons_walk (wpAny_Constant_str (wpAny_Constant_int ?_))
  refine pairTrees_nil_walk ?_
  refine display_done_str rfl (by show [(⟨#[120, 49]⟩ : Str), ⟨#[98, 41]⟩, ⟨#[105, 116, 39, 115]⟩].Nodup; decide) (Heap.DictOf.new _) fun h' hm hs => ?_
  obtain ⟨o, ho, hd⟩ := Heap.dictOf_iff.mp hm
  have hk : ∀ b o', s.heap.get? b = some o' → h'.get? b = some o' := fun b o' e => (hs.2 b (Nat.ne_of_lt (Heap.lt_size e))).trans (Heap.get?_push_of_some _ e)
  have tab : TabOK X.w s.heap.objs.size o := ⟨notMod K S, _, _, _, hd⟩
  have A := fun tk => S.allocK hk ho (dict_free hd) tk
  exact h _ o h' _ _ tab (A 0).1 (.obj (.head _) (by rw [dict_cls hd]; rfl)) (A _).2
theorem R_assignE (K : CxOK X d u) {i : Nat} {ip p : Pos} {e : Expr} {σ σ₁ : AS} {a : AV} (hs : swapsWith e (some (.Name (nm i) ip)) p.line X.env = pure false) (hk : X.env.kindOf (nm i) = some .local) (he : EvOK nm X (eval e X.env) σ a σ₁) :
    ExOK nm X (exec (.Assign [.Name (nm i) ip] e p) X.env) σ .next { σ₁ with loc := putF i a σ₁.loc } := by
  intro s W S Q E hQ
  refine wpAny_Assign_Name ?_ hs
  refine he s W S _ _ fun v W' h' tk' hw hv S' => ?_
  exact S'.store nm_inj K hk hv fun h₂ S₂ => hQ .next W' h₂ _ hw .next S₂
theorem R_dict (K : CxOK X d u) {i : Nat} {e : Expr} (hk : X.env.kindOf (nm i) = some .local) {rest : List Stmt} {σ σ' : AS} {r : AFl} {ip p : Pos} (hs : swapsWith e (some (.Name (nm i) ip)) p.line X.env = pure false)
    (he : ∀ {s : Shared} {W : Wd} (S : St nm X W σ s) {Q E : Value → Shared → Prop} (h : ∀ a o h' tk W', TabOK X.w a o → W.le W' → RelV W' (.obj a o) (.ref a) → St nm X W' σ { s with heap := h', toks := tk } → Q (.ref a) { s with heap := h', toks := tk }), wpAny (model prg X.w) X.A (eval e X.env) Q E s)
    (h : ∀ a o, TabOK X.w a o → ExOK nm X (execs rest X.env) ⟨putF i (.obj a o) σ.loc, σ.cells⟩ r σ') : ExOK nm X (execs (.Assign [.Name (nm i) ip] e p :: rest) X.env) σ r σ' := by
  intro s W S Q E hQ
  refine wpAny_execs_cons ?_
  refine wpAny_Assign_Name ?_ hs
  refine he S fun a o h' tk W' tab hle hv S' => ?_
  refine S'.store nm_inj K hk hv fun h₂ S₂ => ?_
  exact h a o tab _ _ S₂ Q E fun fl W₃ h₃ tk₃ hw₃ hf S₃ => hQ fl W₃ h₃ tk₃ (Wd.le_trans hle hw₃) hf S₃
end
noncomputable abbrev rkS0 : Stmt := .Assign [.Name (nm 139) ⟨776,4,776,9⟩] rkDictF ⟨776,4,776,47⟩
noncomputable abbrev rkS1 : Stmt := .Assign [.Name (nm 140) ⟨777,4,777,9⟩] rkLexE ⟨777,4,777,63⟩
theorem rk_split : fReck_body = rkS0 :: rkS1 :: (embS nm (.assign 109 ⟨778,4,778,8⟩ (.list .nil ⟨778,11,778,13⟩) ⟨778,4,778,13⟩) :: embS nm (.assign 141 ⟨779,4,779,9⟩ (.list .nil ⟨779,12,779,14⟩) ⟨779,4,779,14⟩) :: (embSs nm (fReck_0.drop 4) ++ (Stmt.While (emb nm fReck_0t) fReck_0B [] ⟨781,4,794,33⟩ :: embSs nm fReck_1))) := by kernel_rfl
noncomputable abbrev rkZ (a : Addr) (o : Obj) (t : List Nat) : List (Nat × AV) := [(124, .str t), (139, .obj a o), (140, .cell 0), (109, .cell 5), (141, .cell 6)]
noncomputable abbrev rkY (a : Addr) (o : Obj) (t : List Nat) (v : AV) : List (Nat × AV) := [(124, .str t), (139, .obj a o), (140, .cell 0), (109, .cell 5), (141, .cell 6), (68, v)]
theorem rk_first (a : Addr) (o : Obj) (t : List Nat) (v : AV) (cs₀ cs' : List Cell) (st : AV) (ln : Int) (pre rest : List Nat) (pb : List AV) (r : List Cell) : ex TRk (ev TRk (OGt v cs₀ cs') 20) 20 true (fReck_0.drop 4) ⟨rkZ a o t, lexCs st [] ln pre rest pb r⟩ = some (.next, ⟨rkY a o t v, cs'⟩, [.say (lexCs st [] ln pre rest pb r = cs₀)]) := by kernel_rfl
theorem rk_last (a : Addr) (o : Obj) (O : Orc) (cs : List Cell) : ex TRk (ev TRk O 20) 20 true fReck_1 ⟨rkA a o .none, cs⟩ = some (.ret (.lst [.cell 5, .cell 6]), ⟨rkA a o .none, cs⟩, []) := by kernel_rfl
theorem rk_subY {a : Addr} {o : Obj} {t : List Nat} {v : AV} : ∀ p ∈ rkA a o v, (rkY a o t v).lookup p.1 = some p.2 := by
  intro p hp
  simp only [List.mem_cons, List.not_mem_nil, or_false] at hp
  rcases hp with rfl | rfl | rfl | rfl | rfl <;> rfl
theorem swap_dict (ks : List (Option Expr)) (vs : List Expr) (p : Pos) (t : Option Expr) (n : Nat) (env : Env) : swapsWith (.Dict ks vs p) t n env = pure false := rfl
theorem swap_call (f : Expr) (as : List Expr) (ks : List Keyword) (p : Pos) (t : Option Expr) (n : Nat) (env : Env) : swapsWith (.Call f as ks p) t n env = pure false := rfl
section
variable {X : Cx} {d u : Nat}
theorem rk_step0 (K : CxOK X d u) (hT : TbOK nm X TRk) {rest : List Stmt} {σ σ' : AS} {r : AFl} (h : ∀ a o, TabOK X.w a o → ExOK nm X (execs rest X.env) ⟨putF 139 (.obj a o) σ.loc, σ.cells⟩ r σ') : ExOK nm X (execs (rkS0 :: rest) X.env) σ r σ' := by
  have k139 := hT.loc 139 (by kernel_rfl)
  have hs0 : swapsWith rkDictF (some (.Name (nm 139) ⟨776,4,776,9⟩)) 776 X.env = pure false := swap_dict _ _ _ _ _ _
  have he : ∀ {s : Shared} {W : Wd} (S : St nm X W σ s) {Q E : Value → Shared → Prop} (h : ∀ a o h' tk W', TabOK X.w a o → W.le W' → RelV W' (.obj a o) (.ref a) → St nm X W' σ { s with heap := h', toks := tk } → Q (.ref a) { s with heap := h', toks := tk }), wpAny (model prg X.w) X.A (eval rkDictF X.env) Q E s := fun {s W} S {Q E} h => @dict_new X d u K σ s W S Q E h
  exact @R_dict X d u K 139 rkDictF k139 rest σ σ' r ⟨776,4,776,9⟩ ⟨776,4,776,47⟩ hs0 he h
theorem rk_step1 (K : CxOK X d u) (hT : TbOK nm X TRk) (hcs : X.cs = fReck_scope) (hd : 5 ≤ d) (hu : 19 ≤ u) {loc : List (Nat × AV)} {t : List Nat} (hl : loc.lookup 124 = some (.str t)) : ExOK nm X (exec rkS1 X.env) ⟨loc, []⟩ .next ⟨putF 140 (.cell 0) loc, lexCs (.str [32]) [] 1 [] t [] []⟩ := by
  have k140 := hT.loc 140 (by kernel_rfl)
  have hs1 : swapsWith rkLexE (some (.Name (nm 140) ⟨777,4,777,9⟩)) 777 X.env = pure false := swap_call _ _ _ _ _ _ _
  exact R_assignE K (i := 140) (e := rkLexE) (ip := ⟨777,4,777,9⟩) (p := ⟨777,4,777,63⟩) hs1 k140 (R_lex K hT hcs hd hu hl)
end
theorem reck_raw {L : Its} (hg : Good L) (hn : L.length ≤ 1000) {fin : RS} (h : runI (L.map (·.1)) ([], []) = some fin) :
    ∃ st' ln' pre' rest' pb', ∀ w, CallOK nm w 6 22 789 [.str (render L)] [] (.lst [.cell 5, .cell 6]) (lexCs st' [] ln' pre' rest' pb' [.list (plA fin.1), .list (sgA fin.2)]) := by
  obtain ⟨st₁, ln₁, pre₁, rest₁, pb₁, ha₁, hc₁⟩ := get_token_ok (r := [.list [], .list []]) (L := L) (st := .str [32]) (rest := render L) (pb := []) (ln := 1) (pre := []) (.inl ⟨rfl, .strm _⟩) hg (by omega)
  obtain ⟨st', ln', pre', rest', pb', hfin⟩ := rk_all L.length L (Nat.le_refl _) hg [] [] (fun _ h => by cases h) (by simpa using hn) h st₁ ln₁ pre₁ rest₁ pb₁ ha₁
  refine ⟨st', ln', pre', rest', pb', fun w => ?_⟩
  refine CallOK.of_body (d := 5) (u := 19) (fl := .ret (.lst [.cell 5, .cell 6])) (loc := [(124, .str (render L))]) (loc' := []) (fReck_at w) (by kernel_rfl) ?_ (by decide +kernel) rfl rfl rfl ?_
  · intro s W vals hK ha
    cases ha with
    | cons h1 hr => cases hr with
      | nil => exact ⟨([124].map nm).zip [_], BindsTo.of_eq rfl, locs rfl, locOK_zip (ids := [124]) (.cons h1 .nil) (by decide)⟩
  · intro X e1 e2 e3 e4 e5 K
    subst e1
    have hT : TbOK nm X TRk := mkT_ok K (by rw [e3]; exact rk_loc) (by rw [e3]; exact rk_glob)
    rw [rk_split]
    refine @rk_step0 X 5 19 K hT _ ⟨[(124, .str (render L))], []⟩ _ _ fun a o tab => ?_
    have H : RkIn X 5 19 a o := ⟨K, hT, ORk_ok K (by omega) (by omega) tab⟩
    refine R_execs_next (rk_step1 K hT e3 (Nat.le_refl _) (Nat.le_refl _) (t := render L) rfl) ?_
    refine R_execs_next (R_letlist K hT (by kernel_rfl)) ?_
    refine R_execs_next (R_letlist K hT (by kernel_rfl)) ?_
    refine R_execs_app (σ₁ := ⟨rkA a o (tokV (nextT L)), lexCs st₁ [] ln₁ pre₁ rest₁ pb₁ [.list [], .list []]⟩) ?_ ?_
    · exact ExOK.sub (run_ok K hT (OGt_ok K (hc₁ X.w) (by omega) (by omega)) (rk_first a o (render L) (tokV (nextT L)) _ _ (.str [32]) 1 [] (render L) [] [.list [], .list []]) (ob1 rfl)) rk_subY
    · refine R_execs_next (R_while (hfin X 5 19 a o H (by omega) (by omega))) ?_
      exact ExOK.sub (run_ok K hT noO_ok (rk_last a o _ _) no_obs) (fun p hp => by cases hp)
theorem plA_pure (P : List Int) : AV.Pures (plA P) := by
  induction P with
  | nil => exact .nil
  | cons x P ih => exact .cons (.int x) ih
theorem sgA_pure (S : List Nat) : AV.Pures (sgA S) := by
  induction S with
  | nil => exact .nil
  | cons c S ih => exact .cons (.str [c]) ih
theorem reck_ok (w : World) {L : Its} (hg : Good L) (hn : L.length ≤ 1000) {f : Fm} (hf : f.ok) (hL : L.map (·.1) = f.items) : CallOK nm w 6 22 789 [.str (render L)] [] (.lst [.lst [.int f.mask], .lst []]) [] := by
  have h : runI (L.map (·.1)) ([], []) = some ([f.mask], []) := by
    have := run_fm f hf [] [] []
    rw [List.append_nil] at this
    rw [hL, this]; rfl
  obtain ⟨st', ln', pre', rest', pb', hc⟩ := reck_raw hg hn h
  exact CallOK.freeze (i := 5) (j := 6) (li := plA [f.mask]) (lj := sgA []) rfl rfl (plA_pure _) (sgA_pure _) (hc w)
noncomputable def hdI : List It → Bool
  | i :: _ => i.isW
  | [] => false
noncomputable def goodI : List It → Prop
  | [] => True
  | i :: l => i.ok ∧ (i.isW = true → hdI l = false) ∧ goodI l
theorem good_its (ns : List Nat) : ∀ (l : List It) (k : Nat), goodI l → Good (itsOf ns l k)
  | [], _, _ => trivial
  | i :: l, k, h => by
    refine ⟨h.1, fun hw => ?_, good_its ns l (k + 1) h.2.2⟩
    have := h.2.1 hw
    cases l with
    | nil => rfl
    | cons j l => exact this
theorem its_map (ns : List Nat) : ∀ (l : List It) (k : Nat), (itsOf ns l k).map (·.1) = l
  | [], _ => rfl
  | i :: l, k => by simp only [itsOf, List.map_cons]; rw [its_map ns l (k + 1)]
theorem goodI_app : ∀ (f : Fm), f.ok → ∀ (rest : List It), hdI rest = false → goodI rest → goodI (f.items ++ rest)
  | .w 0, _, rest, hh, hr => ⟨trivial, fun _ => hh, hr⟩
  | .w 1, _, rest, hh, hr => ⟨trivial, fun _ => hh, hr⟩
  | .w (_ + 2), _, rest, hh, hr => ⟨trivial, fun _ => hh, hr⟩
  | .neg f, h, rest, hh, hr => ⟨by show 126 ∈ pch; decide, fun hw => (by cases hw), goodI_app f h rest hh hr⟩
  | .bin c a b, h, rest, hh, hr => by
    have e : (Fm.bin c a b).items ++ rest = .p 40 :: (a.items ++ (.p c :: (b.items ++ (.p 41 :: rest)))) := by simp [Fm.items]
    rw [e]
    obtain ⟨hc, ha, hb⟩ := h
    have hc' : c ∈ pch := mem_sub (l := [38, 124, 94]) (n := 0) rfl hc fun e => by subst e; revert hc; decide
    refine ⟨by show 40 ∈ pch; decide, fun hw => (by cases hw), goodI_app a ha (.p c :: (b.items ++ (.p 41 :: rest))) rfl ⟨hc', fun hw => (by cases hw), goodI_app b hb (.p 41 :: rest) rfl ⟨by show 41 ∈ pch; decide, fun hw => (by cases hw), hr⟩⟩⟩
theorem goodI_items (f : Fm) (h : f.ok) : goodI f.items := by
  have := goodI_app f h [] rfl trivial
  rwa [List.append_nil] at this
theorem stepF_ok {P : List Fm} (hP : ∀ f ∈ P, f.ok) (x : Nat) : ∀ f ∈ stepF P x, f.ok := by
  have hc : ∀ {w : Fm} {r : List Fm}, w.ok → (∀ f ∈ r, f.ok) → ∀ f ∈ w :: r, f.ok := fun h1 h2 f hf => by
    rcases List.mem_cons.mp hf with rfl | q
    · exact h1
    · exact h2 _ q
  refine stepK_all (Pr := fun l => ∀ f ∈ l, f.ok) (hc (Nat.mod_lt _ (by decide)) hP) (fun f r e => ?_) (fun c f a r hc' e => ?_)
  · subst e
    exact hc (w := .neg f) (hP f (.head _)) fun g hg => hP g (.tail _ hg)
  · subst e
    exact hc (w := .bin c a f) ⟨hc', hP a (.tail _ (.head _)), hP f (.head _)⟩ fun g hg => hP g (.tail _ (.tail _ hg))
theorem fold_ok : ∀ (ns : List Nat) (P : List Fm), (∀ f ∈ P, f.ok) → ∀ f ∈ ns.foldl stepF P, f.ok
  | [], P, h => h
  | x :: ns, P, h => fold_ok ns (stepF P x) (stepF_ok h x)
theorem join_ok : ∀ (P : List Fm) (b : Fm), b.ok → (∀ f ∈ P, f.ok) → (joinF b P).ok
  | [], b, hb, _ => hb
  | a :: P, b, hb, h => join_ok P (.bin 94 a b) ⟨by decide, h _ (.head _), hb⟩ fun f hf => h f (.tail _ hf)
noncomputable def sizes (P : List Fm) : Nat := (P.map Fm.size).sum
theorem sizes_cons (f : Fm) (P : List Fm) : sizes (f :: P) = f.size + sizes P := by simp [sizes]
theorem stepF_size (P : List Fm) (x : Nat) : sizes (stepF P x) ≤ sizes P + 1 := by
  refine stepK_all (Pr := fun l => sizes l ≤ sizes P + 1) ?_ (fun f r e => ?_) (fun c f a r _ e => ?_)
  · rw [sizes_cons, Nat.add_comm]; exact Nat.le_refl _
  · subst e; rw [sizes_cons, sizes_cons, Fm.size, Nat.add_right_comm]; exact Nat.le_refl _
  · subst e; rw [sizes_cons, sizes_cons, sizes_cons, Fm.size]; omega
theorem fold_size : ∀ (ns : List Nat) (P : List Fm), sizes (ns.foldl stepF P) ≤ sizes P + ns.length
  | [], P => Nat.le_refl _
  | x :: ns, P => by
    have h1 := stepF_size P x
    have h2 := fold_size ns (stepF P x)
    simp only [List.foldl_cons, List.length_cons]; omega
theorem join_size : ∀ (P : List Fm) (b : Fm), (joinF b P).size ≤ b.size + sizes P + P.length
  | [], b => by simp [joinF, sizes]
  | a :: P, b => by
    have h := join_size P (.bin 94 a b)
    simp only [joinF, Fm.size, sizes, List.map_cons, List.sum_cons, List.length_cons] at h ⊢
    omega
theorem theF_ok {ns : List Nat} (hl : ns.length ≤ 12) : (theF ns).ok ∧ (theF ns).size ≤ 24 := by
  have h1 := fold_ok ns [] (fun f hf => by cases hf)
  have h2 := fold_size ns []
  have h3 := fold_len ns []
  have e0 : sizes [] = 0 := rfl
  unfold theF
  split
  · rename_i b P e
    rw [e] at h1 h2 h3
    have h4 := join_size P b
    refine ⟨join_ok P b (h1 _ (.head _)) fun f hf => h1 f (.tail _ hf), ?_⟩
    simp only [sizes, List.map_cons, List.sum_cons, List.length_cons, List.map_nil, List.sum_nil, List.length_nil] at h2 h3 h4 ⊢
    omega
  · exact ⟨by show 0 < 3; decide, by show 1 ≤ 24; decide⟩
structure Lw (h₀ : Heap) (L : Addr) (m : Str → Option Value) (imm own : List (Addr × Obj)) (h : Heap) : Prop where
  F : Fr h₀ L h m
  N : News h₀ L h (imm ++ own)
  nd : ((imm ++ own).map fun p : Addr × Obj => p.1).Nodup
section
variable {h₀ h h' : Heap} {L : Addr} {m : Str → Option Value} {imm own : List (Addr × Obj)}
theorem Lw.grown (S : Lw h₀ L m imm own h) (hk : ∀ b o, h.get? b = some o → h'.get? b = some o) : Lw h₀ L m imm own h' := ⟨S.F.keeps hk, S.N.grown hk, S.nd⟩
theorem Lw.add (S : Lw h₀ L m imm own h) {D : Addr} {o : Obj} (hk : ∀ b o, h.get? b = some o → h'.get? b = some o) (hD : h.get? D = none) (ho : h'.get? D = some o) : Lw h₀ L m ((D, o) :: imm) own h' := by
  refine ⟨S.F.keeps hk, ?_, ?_⟩
  · intro p hp
    rcases List.mem_cons.mp hp with rfl | q
    · refine ⟨ho, fun e => ?_, ?_⟩
      · obtain ⟨oL, _, _, hL, _⟩ := S.F.ns
        have e' : D = L := e
        rw [← e', hD] at hL; cases hL
      · cases q : h₀.get? D with
        | none => rfl
        | some o' => have := S.F.keep _ _ q; rw [hD] at this; cases this
    · exact ⟨hk _ _ (S.N p q).1, (S.N p q).2⟩
  · show (D :: ((imm ++ own).map fun p : Addr × Obj => p.1)).Nodup
    rw [List.nodup_cons]
    refine ⟨fun q => ?_, S.nd⟩
    obtain ⟨p, hp, e⟩ := List.mem_map.mp q
    have := (S.N p hp).1
    rw [e, hD] at this; cases this
theorem Lw.addPush (S : Lw h₀ L m imm own h) (o : Obj) (hf : o.isFreed = false := by rfl) : Lw h₀ L m ((h.objs.size, o) :: imm) own (h.push o) :=
  S.add (fun b o' e => Heap.get?_push_of_some _ e) (by
    cases e : h.get? h.objs.size with
    | none => rfl
    | some o' => exact absurd (Heap.lt_size e) (Nat.lt_irrefl _)) (Heap.get?_push_size _ hf)
theorem Lw.call {w : World} (hK : (KF w).In h₀) (hT : ∃ p loose mg mb, TopRead p loose mg mb h₀) {s : Shared} (S : Lw h₀ L m imm own s.heap) {f : Addr} {args : List AV} {vals : List Value} {r : AV} {dn un : Nat}
    (C : CallOK nm w dn un f args [] r []) (ha : RelVs ⟨imm, []⟩ args vals) {A : Around} (hA : A.depth + dn < recursionLimit) (hA' : A.units + un < cLine) (hH : A.handled = none) {R : Result → Shared → Prop}
    (hQ : ∀ v imm' h' tk', (∀ p ∈ imm, p ∈ imm') → RelV ⟨imm', []⟩ r v → Lw h₀ L m imm' own h' → R (.ok (.ret v)) { s with heap := h', toks := tk' }) :
    codeAny (model prg w) A (.call (.ref f) ⟨vals, []⟩) R s := by
  obtain ⟨F, N, nd⟩ := S
  have Ni : ∀ p ∈ imm, s.heap.get? p.1 = some p.2 ∧ p.1 ≠ L ∧ h₀.get? p.1 = none := fun p hp => N p (List.mem_append_left _ hp)
  have No : ∀ p ∈ own, s.heap.get? p.1 = some p.2 ∧ p.1 ≠ L ∧ h₀.get? p.1 = none := fun p hp => N p (List.mem_append_right _ hp)
  rw [List.map_append, List.nodup_append] at nd
  obtain ⟨nd1, nd2, nd3⟩ := nd
  have hst : ∀ b o, h₀.get? b = some o → (hideAll s.heap (imm.map (·.1))).get? b = some o := fun b o e => hideAll_get _ (F.keep b o e) fun q => by
    obtain ⟨p, hp, rfl⟩ := List.mem_map.mp q
    rw [(Ni p hp).2.2] at e; cases e
  have hLn : L ∉ imm.map (·.1) := fun q => by
    obtain ⟨p, hp, e⟩ := List.mem_map.mp q
    exact (Ni p hp).2.1 e
  have hown : ∀ p ∈ own, (hideAll s.heap (imm.map (·.1))).get? p.1 = some p.2 := fun p hp => hideAll_get _ (No p hp).1 fun q => nd3 _ q _ (List.mem_map_of_mem (f := fun p : Addr × Obj => p.1) hp) rfl
  obtain ⟨p, loose, mg, mb, T⟩ := hT
  refine C A (hideAll s.heap (imm.map (·.1))) s ⟨imm, []⟩ vals (hK.keeps hst) ⟨p, loose, mg, mb, T.keeps hst⟩ hA hA' hH ⟨fun b o e => of_hideAll _ e, Nat.le_of_eq (hideAll_size _ _), [], .nil, fun p hp => ?_, ?_⟩ ha R ?_
  · rw [List.append_nil] at hp
    exact ⟨(Ni p hp).1, hideAll_none _ (List.mem_map_of_mem hp)⟩
  · rw [List.append_nil]; exact nd1
  intro v W' h' tk' hw hv ⟨k1, k2, objs', hc', hp', nd'⟩
  obtain ⟨imm', ca'⟩ := W'
  obtain ⟨hw1, t, hw2⟩ := hw
  have hca : ca' = [] := by
    have := hc'.length
    exact List.length_eq_zero_iff.mp (by simpa using this)
  subst hca
  have ho : objs' = [] := by cases hc'; rfl
  subst ho
  rw [List.append_nil] at nd'
  have hp2 : ∀ p ∈ imm', h'.get? p.1 = some p.2 ∧ (hideAll s.heap (imm.map (·.1))).get? p.1 = none := fun p hp => hp' p (by rw [List.append_nil]; exact hp)
  refine hQ v imm' h' tk' hw1 hv ⟨⟨?_, fun b o e => k1 b o (hst b o e), F.above⟩, fun p hp => ?_, ?_⟩
  · obtain ⟨oL, a1, a2, hgL, a3⟩ := F.ns
    exact ⟨oL, a1, a2, k1 _ _ (hideAll_get _ hgL hLn), a3⟩
  · rcases List.mem_append.mp hp with q | q
    · refine ⟨(hp2 p q).1, fun e => ?_, ?_⟩
      · obtain ⟨oL, a1, a2, hgL, a3⟩ := F.ns
        have z := (hp2 p q).2
        rw [e, hideAll_get _ hgL hLn] at z
        cases z
      · cases e : h₀.get? p.1 with
        | none => rfl
        | some o =>
          have z := (hp2 p q).2
          rw [hst _ _ e] at z
          cases z
    · exact ⟨k1 _ _ (hown p q), (No p q).2⟩
  · rw [List.map_append, List.nodup_append]
    refine ⟨nd', nd2, fun a ha b hb e => ?_⟩
    obtain ⟨p, hp, rfl⟩ := List.mem_map.mp ha
    obtain ⟨q, hq, rfl⟩ := List.mem_map.mp hb
    have z := (hp2 p hp).2
    rw [e, hown q hq] at z
    cases z
end
noncomputable abbrev ySc : Str := Str.ofString "script"
noncomputable abbrev yNu : Str := Str.ofString "numbers"
noncomputable abbrev yFo : Str := Str.ofString "formula"
noncomputable abbrev yTo : Str := Str.ofString "told"
noncomputable abbrev yX : Str := Str.ofString "x"
noncomputable abbrev yPl : Str := Str.ofString "place"
noncomputable def lwScope : Scope := ⟨.function, [(ySc, .local), (yNu, .local), (yFo, .cell), (yTo, .local), (Str.ofString "_law_formula", .globalImplicit), (Str.ofString "_law_reckoned", .globalImplicit), (Str.ofString "_law_text", .globalImplicit), (Str.ofString "_law_items", .globalImplicit), (Str.ofString "sum", .globalImplicit), (Str.ofString "range", .globalImplicit)], false, false, [(Str.ofString "fast", .str ySc), (Str.ofString "fast", .str yX), (Str.ofString "fast", .str yNu), (Str.ofString "fast", .str yFo), (Str.ofString "fast", .str yTo), (Str.ofString "fast", .str yPl)]⟩
noncomputable def lwC1 : Scope := ⟨.function, [(Str.ofString ".0", .local), (yX, .local)], false, false, []⟩
noncomputable def lwC2 : Scope := ⟨.function, [(Str.ofString ".0", .local), (yPl, .local), (Str.ofString "_law_holds", .globalImplicit), (yFo, .free)], false, false, []⟩
noncomputable def lwE (L fa : Addr) (cd : Value) : Env := envX (Str.ofString "law") lwScope L fa cd [(yFo, L + 1)]
noncomputable abbrev lwTst : Expr := .Compare (.Name ySc ⟨797,47,797,53⟩) [.NotEq] [.List [] ⟨797,57,797,59⟩] ⟨797,47,797,59⟩
noncomputable abbrev lwElt : Expr := .BinOp (.Name yX ⟨797,15,797,16⟩) .Mod (.Constant (.int 96) 0 ⟨797,19,797,21⟩) ⟨797,15,797,21⟩
noncomputable abbrev lwSlc : Expr := .Subscript (.Name ySc ⟨797,31,797,37⟩) (.Slice none (some (.Constant (.int 12) 0 ⟨797,39,797,41⟩)) none ⟨797,38,797,41⟩) ⟨797,31,797,42⟩
noncomputable abbrev lwLc1 : Expr := .ListComp lwElt [⟨.Name yX ⟨797,26,797,27⟩, lwSlc, [], 0⟩] lwC1 ⟨797,14,797,43⟩
noncomputable abbrev lwDsp : Expr := .List [.Constant (.int 0) 0 ⟨797,66,797,67⟩, .Constant (.int 1) 0 ⟨797,69,797,70⟩, .Constant (.int 4) 0 ⟨797,72,797,73⟩, .Constant (.int 3) 0 ⟨797,75,797,76⟩] ⟨797,65,797,77⟩
noncomputable abbrev lwNum : Expr := .IfExp lwTst lwLc1 lwDsp ⟨797,14,797,77⟩
section
variable {L fa : Addr} {cd : Value}
theorem lk_script : (lwE L fa cd).kindOf ySc = some .local := by kernel_rfl
theorem lk_numbers : (lwE L fa cd).kindOf yNu = some .local := by kernel_rfl
theorem lk_formula : (lwE L fa cd).kindOf yFo = some .cell := by kernel_rfl
theorem lk_told : (lwE L fa cd).kindOf yTo = some .local := by kernel_rfl
theorem ld_script : (ySc == ("__debug__" : Str)) = false := by kernel_rfl
theorem ld_numbers : (yNu == ("__debug__" : Str)) = false := by kernel_rfl
theorem ld_formula : (yFo == ("__debug__" : Str)) = false := by kernel_rfl
theorem ld_told : (yTo == ("__debug__" : Str)) = false := by kernel_rfl
theorem ld_x : (yX == ("__debug__" : Str)) = false := by kernel_rfl
theorem ld_place : (yPl == ("__debug__" : Str)) = false := by kernel_rfl
end
section
variable {w : World} {A : Around} {E : Value → Shared → Prop} {s : Shared} {h₀ : Heap} {L fa : Addr} {cd : Value} {m : Str → Option Value} {imm own : List (Addr × Obj)}
theorem lw_name {x : Str} {p : Pos} {v : Value} {Q : Value → Shared → Prop} (S : Lw h₀ L m imm own s.heap) (hk : (lwE L fa cd).kindOf x = some .local) (hd : (x == ("__debug__" : Str)) = false) (hv : m x = some v) (h : Q v s) : wpAny (model prg w) A (eval (.Name x p) (lwE L fa cd)) Q E s :=
  nameX_L S.F hv h rfl hk hd
theorem lw_newList {vs : List Value} {Q : Value → Shared → Prop} (S : Lw h₀ L m imm own s.heap) (hz : vs.length ≤ 1000) (h : ∀ h', Lw h₀ L m ((s.heap.objs.size, PySem.W.listOf vs.toArray 0) :: imm) own h' → Q (.ref s.heap.objs.size) { s with heap := h' }) : wpAny (model prg w) A (newList vs) Q E s := by
  refine wpAny_newObj_type ?_ (by show vs.toArray.size ≤ sizeLine; rw [List.size_toArray, sizeLine_is]; omega)
  exact h _ (S.addPush (PySem.W.listOf vs.toArray 0) rfl)
theorem lw_empty {p : Pos} {env : Env} {Q : Value → Shared → Prop} (S : Lw h₀ L m imm own s.heap) (h : ∀ h', Lw h₀ L m ((s.heap.objs.size, PySem.W.listOf #[] 0) :: imm) own h' → Q (.ref s.heap.objs.size) { s with heap := h' }) : wpAny (model prg w) A (eval (.List [] p) env) Q E s := by
  refine List_ ?_
  rw [star_nil]
  exact wpAny_pure (lw_newList (vs := []) S (by simp) h)
theorem lw_tst {a : Addr} {vs : List Value} {whole : Sem Value} {Q : Bool → Shared → Prop} (S : Lw h₀ L m imm own s.heap) (hv : m ySc = some (.ref a)) (hl : h₀.IsList a vs.toArray) (hu : A.units < cLine)
    (h : ∀ h' imm', Lw h₀ L m imm' own h' → Q (!vs.isEmpty) { s with heap := h' }) : wpAny (model prg w) A (isTrue lwTst (lwE L fa cd) whole) Q E s := by
  refine wpAny_isTrue_Compare1 ?_ rfl
  refine lw_name S lk_script ld_script hv ?_
  refine lw_empty S fun h' S' => ?_
  have hL : h'.IsList a vs.toArray := by
    obtain ⟨o, e, r⟩ := hl
    exact ⟨o, S'.F.keep _ _ e, r⟩
  have hL' : h'.IsList s.heap.objs.size #[] := isList_of (vs := []) (n := 0) (S'.N _ (.head _)).1
  cases vs with
  | nil =>
    refine (SeqAt.RcNeAt.lists (s := { s with heap := h' }) (A := A) (e := fun _ => true) hL hL' rfl hu (fun j j1 => absurd j1 (by simp))) prg w E _ ?_
    exact wpAny_truthy_bool (h h' _ S')
  | cons x r =>
    refine (SeqAt.RcNeAt.lists_lengths (s := { s with heap := h' }) (A := A) hL hL' (by simp) hu) prg w E _ ?_
    exact wpAny_truthy_bool (h h' _ S')
end
noncomputable def lwNs (zs : List Int) : List Nat := match zs with
  | [] => [0, 1, 4, 3]
  | zs => (zs.take 12).map fun x => (x.fmod 96).toNat
theorem lwNs_ne (zs : List Int) : lwNs zs ≠ [] := by
  cases zs <;> simp [lwNs]
theorem lwNs_len (zs : List Int) : (lwNs zs).length ≤ 12 := by
  cases zs with
  | nil => simp [lwNs]
  | cons z zs => simp only [lwNs, List.length_map, List.length_take]; omega
theorem lwNs_lt (zs : List Int) : ∀ n ∈ lwNs zs, n < 96 := by
  cases zs with
  | nil => intro n hn; simp [lwNs] at hn; omega
  | cons z zs =>
    intro n hn
    simp only [lwNs, List.mem_map] at hn
    obtain ⟨x, _, rfl⟩ := hn
    have h1 := Int.fmod_nonneg_of_pos x (b := 96) (by decide)
    have h2 := Int.fmod_lt_of_pos x (b := 96) (by decide)
    omega
theorem ints_rel {W : Wd} : ∀ {vs : List Value} {zs : List Int} {ns : List Nat}, IntsAre vs zs → zs = ns.map Int.ofNat → RelVs W (nsA ns) vs
  | _, _, [], h, e => by subst e; cases h; exact .nil
  | _, _, n :: ns, h, e => by
    subst e
    cases h with
    | cons _ t h => exact .cons (.int _ t) (ints_rel h rfl)
theorem IntsAre.at : ∀ {vs : List Value} {zs : List Int}, IntsAre vs zs → ∀ {i : Nat} {v : Value}, vs[i]? = some v → ∃ z t, v = .int z t ∧ zs[i]? = some z
  | _, _, .nil, _, _, e => by simp at e
  | _, _, .cons n t h, 0, _, e => by simp at e; subst e; exact ⟨n, t, rfl, rfl⟩
  | _, _, .cons n t h, i + 1, _, e => by simp at e; obtain ⟨z, t', h1, h2⟩ := IntsAre.at h e; exact ⟨z, t', h1, by simpa using h2⟩
theorem IntsAre.snoc : ∀ {vs : List Value} {zs : List Int}, IntsAre vs zs → ∀ (z : Int) (t : Tok), IntsAre (vs ++ [.int z t]) (zs ++ [z])
  | _, _, .nil, z, t => .cons z t .nil
  | _, _, .cons n u h, z, t => .cons n u (IntsAre.snoc h z t)
section
variable {w : World} {A : Around} {E : Value → Shared → Prop} {s : Shared} {h₀ : Heap} {L fa : Addr} {cd : Value} {m : Str → Option Value} {imm own : List (Addr × Obj)}
theorem spl_cons {M : Model} {e : Expr} {rest : List Expr} {env : Env} {pos : Pos} {Q : List Value → Shared → Prop} (hs : starEach (e :: rest) env = (false, eval e env) :: starEach rest env)
    (h : wpAny M A (eval e env) (fun v s₁ => wpAny M A (spliced (backTo pos (starEach rest env))) (fun vs s₂ => Q (v :: vs) s₂) E s₁) E s) : wpAny M A (spliced (backTo pos (starEach (e :: rest) env))) Q E s := by
  rw [hs]
  show wpAny _ _ (do let v ← eval e env; let here ← pure [v]; return here ++ (← holding here (spliced (backTo pos (starEach rest env))))) _ _ _
  refine wpAny_bind (wpAny_mono h (fun v s₁ h₁ => ?_) fun _ _ x => x)
  refine wpAny_bind (wpAny_pure ?_)
  exact wpAny_bind (wpAny_holding (wpAny_mono h₁ (fun vs s₂ h₂ => wpAny_pure h₂) fun _ _ x => x))
theorem spl_nil {M : Model} {env : Env} {pos : Pos} {Q : List Value → Shared → Prop} (h : Q [] s) : wpAny M A (spliced (backTo pos (starEach [] env))) Q E s := by
  rw [star_nil]
  exact wpAny_pure h
theorem lw_dsp {env : Env} {Q : Value → Shared → Prop} (S : Lw h₀ L m imm own s.heap) (h : ∀ v imm' h' tk, RelV ⟨imm', []⟩ (.lst (nsA [0, 1, 4, 3])) v → Lw h₀ L m imm' own h' → Q v { s with heap := h', toks := tk }) : wpAny (model prg w) A (eval lwDsp env) Q E s := by
  refine List_ ?_
  refine spl_cons rfl (wpAny_Constant_int ?_)
  refine spl_cons rfl (wpAny_Constant_int ?_)
  refine spl_cons rfl (wpAny_Constant_int ?_)
  refine spl_cons rfl (wpAny_Constant_int ?_)
  refine spl_nil ?_
  refine lw_newList (s := { s with toks := _ }) S (by simp) fun h' S' => ?_
  exact h _ _ h' _ (.lst (.head _) (by simp [nsA]) (ints_rel (.cons 0 _ (.cons 1 _ (.cons 4 _ (.cons 3 _ .nil)))) rfl)) S'
theorem lw_slc {a : Addr} {vs : List Value} {zs : List Int} {Q : Value → Shared → Prop} (S : Lw h₀ L m imm own s.heap) (hv : m ySc = some (.ref a)) (hl : h₀.IsList a vs.toArray) (hi : IntsAre vs zs) (hz : zs.length ≤ 63)
    (h : ∀ D its h' tk, IntsAre its (zs.take 12) → Lw h₀ L m ((D, PySem.W.listOf its.toArray 0) :: imm) own h' → Q (.ref D) { s with heap := h', toks := tk }) : wpAny (model prg w) A (eval lwSlc (lwE L fa cd)) Q E s := by
  refine Subscript_ ?_
  refine lw_name S lk_script ld_script hv ?_
  refine wpAny_Slice ?_
  rw [evalPart_some, evalPart_none]
  refine wpAny_pure (wpAny_Constant_int (wpAny_pure ?_))
  have hL : s.heap.IsList a vs.toArray := by
    obtain ⟨o, e, r⟩ := hl
    exact ⟨o, S.F.keep _ _ e, r⟩
  have hlen := hi.length
  refine slice_list (s := { s with toks := s.toks + 1 }) S.F S.N hL .none (.int 12 s.toks) (fun h' F' N' => ?_) rfl (fun _ => rfl) (by rw [sizeLine_is, List.size_toArray]; omega)
  have e : slicePick vs.toArray none (some 12) none = (vs.take 12).toArray := by
    rw [slicePick_plain]
    show ((vs.drop 0).take (clipAt vs.toArray.size ((12 : Nat) : Int) - 0)).toArray = _
    rw [clipAt_nat, List.drop_zero, Nat.sub_zero, List.size_toArray]
    congr 1
    by_cases q : vs.length ≤ 12
    · rw [Nat.min_eq_right q, List.take_length, List.take_of_length_le q]
    · rw [Nat.min_eq_left (by omega)]
  rw [e] at N'
  refine h _ (vs.take 12) h' _ (hi.take 12) ⟨F', N', ?_⟩
  show ((s.heap.objs.size + 1) :: ((imm ++ own).map fun p : Addr × Obj => p.1)).Nodup
  rw [List.nodup_cons]
  refine ⟨fun q => ?_, S.nd⟩
  obtain ⟨p, hp, e⟩ := List.mem_map.mp q
  have := Heap.lt_size (S.N p hp).1
  rw [e] at this
  exact absurd this (Nat.not_lt.mpr (Nat.le_succ _))
end
section
variable {w : World} {A : Around} {E : Value → Shared → Prop} {s : Shared} {h₀ : Heap} {L fa : Addr} {cd : Value} {m : Str → Option Value} {imm own : List (Addr × Obj)}
theorem lk_x (C : Addr) : (compEnvC lwC1 [] C (lwE L fa cd)).kindOf yX = some .local := by kernel_rfl
theorem cf1 : (closureFor lwC1 (lwE L fa cd)) = pure [] := by kernel_rfl
theorem c1_cell : ∀ y ∈ lwC1.names, y.2 ≠ .cell := by
  intro y hy
  simp only [lwC1, List.mem_cons, List.not_mem_nil, or_false] at hy
  rcases hy with rfl | rfl <;> exact fun h => by cases h
theorem c1_x : lwC1.names.lookup yX = some .local := by kernel_rfl
theorem c1_0 : lwC1.names.lookup (Str.ofString ".0") = some .local := by kernel_rfl
theorem c1_names : ∀ y ∈ lwC1.names, y.2 = .local → lwC1.names.lookup y.1 = some .local := by
  intro y hy _
  simp only [lwC1, List.mem_cons, List.not_mem_nil, or_false] at hy
  rcases hy with rfl | rfl
  · exact c1_0
  · exact c1_x
theorem c1_rest {its : Array Value} {zs : List Int} (hi : IntsAre its.toList zs) {news : List (Addr × Obj)} {S : List (Addr × Obj) → Prop} (hS : S news) {Fin : List Value → List (Addr × Obj) → Prop}
    (hF : ∀ ys, IntsAre ys (zs.map fun z => z.fmod 96) → Fin ys news) : ∀ (k i : Nat) (ys : List Value), i + k = its.size → IntsAre ys ((zs.take i).map fun z => z.fmod 96) →
    LCg.CompRest prg w A h₀ L m (lwE L fa cd) lwElt yX lwC1 [] s S (fun i v => its[i]? = some v) Fin k i ys news
  | 0, i, ys, hk, hy => by
    refine LCg.CompRest.zero (hF ys ?_)
    have hl := hi.length
    have : its.toList.length = its.size := Array.length_toList
    rw [List.take_of_length_le (by omega)] at hy
    exact hy
  | k + 1, i, ys, hk, hy => by
    refine LCg.CompRest.succ ?_
    intro v I oI C oC D m₂ h tk E' hP hns hm₂ F N off ne
    obtain ⟨z, t, rfl, hz⟩ := IntsAre.at hi (i := i) (v := v) (by simpa using hP)
    refine wpAny_BinOp (wpAny_Name (wpAny_loadName_local rfl (lk_x C) (hns.ns (N (C, oC) (.tail _ (.head _))).1) hm₂ ?_) ld_x)
    refine wpAny_Constant_int (mod_int' (by decide) ?_)
    refine ⟨h, _, news, rfl, F, N, off, hS, c1_rest hi hS hF k (i + 1) _ (by omega) ?_⟩
    have hlt : i < zs.length := by
      rcases Nat.lt_or_ge i zs.length with q | q
      · exact q
      · rw [List.getElem?_eq_none q] at hz; cases hz
    have e : zs.take (i + 1) = zs.take i ++ [z] := by
      rw [List.take_add_one, hz]; rfl
    rw [e, List.map_append]
    exact IntsAre.snoc hy _ _
theorem lw_num {a : Addr} {vs : List Value} {zs : List Int} {Q : Value → Shared → Prop} (S : Lw h₀ L m imm own s.heap) (hv : m ySc = some (.ref a)) (hl : h₀.IsList a vs.toArray) (hi : IntsAre vs zs) (hz : zs.length ≤ 63) (hu : A.units < cLine) (hh : A.handled = none)
    (h : ∀ v imm' h' tk, RelV ⟨imm', []⟩ (.lst (nsA (lwNs zs))) v → Lw h₀ L m imm' own h' → Q v { s with heap := h', toks := tk }) : wpAny (model prg w) A (eval lwNum (lwE L fa cd)) Q E s := by
  refine wpAny_IfExp ?_
  refine lw_tst S hv hl hu fun h₁ imm₁ S₁ => ?_
  cases hi with
  | nil =>
    rw [if_neg (by simp)]
    exact lw_dsp S₁ fun v imm' h' tk hr S' => h v imm' h' tk hr S'
  | @cons z t vs zs hi =>
    rw [if_pos (by simp)]
    refine LCg.ListComp_U (F₀ := S₁.F) cf1 c1_cell rfl c1_names c1_x ?_ (fun _ => rfl)
    refine lw_slc (s := { s with heap := h₁ }) S₁ hv hl (.cons z t hi) hz fun D its h₂ tk₂ hits S₂ => ?_
    have hlen := hits.length
    have hlt : its.length ≤ 12 := by rw [hlen, List.length_take]; omega
    refine LCg.CompSrc.ledger (its := its.toArray) (k := 0) hh S₂.F S₂.N (.head _) (by rw [List.size_toArray, sizeLine_is]; omega) fun g => ?_
    refine c1_rest (its := its.toArray) (by simpa using hits) (.inr ⟨_, .head _, rfl, _, rfl⟩) (fun ys hys => ?_) its.toArray.size 0 [] (Nat.zero_add _) .nil
    intro D' h₃ tk₃ F₃ N₃ off₃
    refine h _ ((D', LCg.lst ys) :: (D, PySem.W.listOf its.toArray 0) :: imm₁) h₃ tk₃ (.lst (vs := ys) (n := ys.length) (.head _) (by simp only [nsA, List.length_map]; have := lwNs_len (z :: zs); omega) (ints_rel hys ?_)) ⟨F₃, N₃, ?_⟩
    · show _ = ((((z :: zs).take 12).map fun x => (x.fmod 96).toNat)).map Int.ofNat
      rw [List.map_map]
      refine List.map_congr_left fun x _ => ?_
      have := Int.fmod_nonneg_of_pos x (b := 96) (by decide)
      exact (Int.toNat_of_nonneg this).symm
    · show (D' :: ((((D, PySem.W.listOf its.toArray 0) :: imm₁) ++ own).map fun p : Addr × Obj => p.1)).Nodup
      rw [List.nodup_cons]
      refine ⟨fun q => ?_, S₂.nd⟩
      obtain ⟨p, hp, e⟩ := List.mem_map.mp q
      have key : ∀ {l : List (Addr × Obj)}, LCg.Off1 D' l → ∀ p ∈ l, p.1 ≠ D' := by
        intro l
        induction l with
        | nil => intro _ p hp; cases hp
        | cons q l ih =>
          intro ho p hp
          rcases List.mem_cons.mp hp with rfl | hp
          · exact ho.1
          · exact ih ho.2 p hp
      exact key off₃ p hp e
end
noncomputable abbrev gFo : Str := Str.ofString "_law_formula"
noncomputable abbrev gRe : Str := Str.ofString "_law_reckoned"
noncomputable abbrev gTe : Str := Str.ofString "_law_text"
noncomputable abbrev gIt : Str := Str.ofString "_law_items"
noncomputable abbrev gHo : Str := Str.ofString "_law_holds"
noncomputable abbrev lwS1 : Stmt := .Assign [.Name yNu ⟨797,4,797,11⟩] lwNum ⟨797,4,797,77⟩
noncomputable abbrev lwS2 : Stmt := .Assign [.Name yFo ⟨798,4,798,11⟩] (.Call (.Name gFo ⟨798,14,798,26⟩) [.Name yNu ⟨798,27,798,34⟩] [] ⟨798,14,798,35⟩) ⟨798,4,798,35⟩
noncomputable abbrev lwIts : Expr := .Call (.Name gIt ⟨799,35,799,45⟩) [.Name yFo ⟨799,46,799,53⟩] [] ⟨799,35,799,54⟩
noncomputable abbrev lwTxt : Expr := .Call (.Name gTe ⟨799,25,799,34⟩) [lwIts, .Name yNu ⟨799,56,799,63⟩] [] ⟨799,25,799,64⟩
noncomputable abbrev lwRck : Expr := .Call (.Name gRe ⟨799,11,799,24⟩) [lwTxt] [] ⟨799,11,799,65⟩
noncomputable abbrev lwS3 : Stmt := .Assign [.Name yTo ⟨799,4,799,8⟩] lwRck ⟨799,4,799,65⟩
theorem gk_fo (w : World) : nsIn (KF w) mainGlobals gFo = some (some (.ref 754)) := by kernel_rfl
theorem gk_it (w : World) : nsIn (KF w) mainGlobals gIt = some (some (.ref 761)) := by kernel_rfl
theorem gk_te (w : World) : nsIn (KF w) mainGlobals gTe = some (some (.ref 768)) := by kernel_rfl
theorem gk_re (w : World) : nsIn (KF w) mainGlobals gRe = some (some (.ref 789)) := by kernel_rfl
theorem gk_ho (w : World) : nsIn (KF w) mainGlobals gHo = some (some (.ref 775)) := by kernel_rfl
theorem gp_fo (w : World) : keepIn (KF w) (.ref 754) = true := by kernel_rfl
theorem gp_it (w : World) : keepIn (KF w) (.ref 761) = true := by kernel_rfl
theorem gp_te (w : World) : keepIn (KF w) (.ref 768) = true := by kernel_rfl
theorem gp_re (w : World) : keepIn (KF w) (.ref 789) = true := by kernel_rfl
theorem gp_ho (w : World) : keepIn (KF w) (.ref 775) = true := by kernel_rfl
theorem gd_fo : (gFo == ("__debug__" : Str)) = false := by kernel_rfl
theorem gd_it : (gIt == ("__debug__" : Str)) = false := by kernel_rfl
theorem gd_te : (gTe == ("__debug__" : Str)) = false := by kernel_rfl
theorem gd_re : (gRe == ("__debug__" : Str)) = false := by kernel_rfl
theorem gd_ho : (gHo == ("__debug__" : Str)) = false := by kernel_rfl
section
variable {L fa : Addr} {cd : Value}
theorem gl_fo : (lwE L fa cd).kindOf gFo = some .globalImplicit := by kernel_rfl
theorem gl_it : (lwE L fa cd).kindOf gIt = some .globalImplicit := by kernel_rfl
theorem gl_te : (lwE L fa cd).kindOf gTe = some .globalImplicit := by kernel_rfl
theorem gl_re : (lwE L fa cd).kindOf gRe = some .globalImplicit := by kernel_rfl
end
theorem imm_le {imm imm' : List (Addr × Obj)} (h : ∀ p ∈ imm, p ∈ imm') : Wd.le ⟨imm, []⟩ ⟨imm', []⟩ := ⟨h, [], rfl⟩
section
variable {w : World} {A : Around} {E : Value → Shared → Prop} {s : Shared} {h₀ : Heap} {L fa : Addr} {cd : Value} {m : Str → Option Value} {imm own : List (Addr × Obj)}
structure LwIn (w : World) (A : Around) (h₀ : Heap) : Prop where
  K : (KF w).In h₀
  T : ∃ p loose mg mb, TopRead p loose mg mb h₀
  d : A.depth + 40 < recursionLimit
  u : A.units + 300 < cLine
  h : A.handled = none
theorem lw_glob (I : LwIn w A h₀) (S : Lw h₀ L m imm own s.heap) {x : Str} {f : Value} {p : Pos} {Q : Value → Shared → Prop} (e : nsIn (KF w) mainGlobals x = some (some f)) (hx : (lwE L fa cd).kindOf x = some .globalImplicit) (hd : (x == ("__debug__" : Str)) = false) (h : Q f s) :
    wpAny (model prg w) A (eval (.Name x p) (lwE L fa cd)) Q E s := by
  obtain ⟨_, _, _, _, T⟩ := I.T
  exact nameX_K S.F I.K T e h rfl hx hd
theorem lw_callW {env : Env} {f : Value} {e : Expr} {es : List Expr} {pos : Pos} {Q : Value → Shared → Prop} (hk : keepIn (KF w) f = true) (hs : starEach (e :: es) env = (false, eval e env) :: starEach es env) (hany : (backTo pos (starEach (e :: es) env)).any (·.1) = false)
    (h : wpAny (model prg w) A (spliced (backTo pos (starEach (e :: es) env))) (fun vs s₁ => (KF w).In s₁.heap ∧ wpAny (model prg w) A (call f vs) Q E s₁) E s) : wpAny (model prg w) A (callWith pos f [] (backTo pos (starEach (e :: es) env)) []) Q E s := by
  refine callWith_of (P := fun h => (KF w).In h) (by rw [hany]; rfl) (KeepOK.fn hk _) ?_
  rw [hs] at h ⊢
  refine evalArgs_plain (Q := fun a s₁ => (KF w).In s₁.heap ∧ wpAny (model prg w) A (call f ([] ++ a.pos) a.kw) Q E s₁) ?_
  exact wpAny_mono h (fun vs s₁ h₁ => h₁) fun _ _ x => x
theorem Lw.kin (I : LwIn w A h₀) (S : Lw h₀ L m imm own s.heap) : (KF w).In s.heap := I.K.keeps S.F.keep
theorem lw_call (I : LwIn w A h₀) (S : Lw h₀ L m imm own s.heap) {f : Addr} {args : List AV} {vals : List Value} {r : AV} {dn un : Nat} (C : CallOK nm w dn un f args [] r []) (ha : RelVs ⟨imm, []⟩ args vals) (hdn : dn ≤ 40) (hun : un ≤ 300) {Q : Value → Shared → Prop}
    (hQ : ∀ v imm' h' tk', (∀ p ∈ imm, p ∈ imm') → RelV ⟨imm', []⟩ r v → Lw h₀ L m imm' own h' → Q v { s with heap := h', toks := tk' }) : wpAny (model prg w) A (call (.ref f) vals) Q E s := by
  have h1 := I.d
  have h2 := I.u
  exact wpAny_call (Lw.call I.K I.T S C ha (by omega) (by omega) I.h hQ)
theorem swap_if (t a b : Expr) (p : Pos) (x : Str) (px : Pos) (n : Nat) (env : Env) : swapsWith (.IfExp t a b p) (some (.Name x px)) n env = pure false := rfl
theorem lw_s1 (I : LwIn w A h₀) (S : Lw h₀ L m imm own s.heap) {a : Addr} {vs : List Value} {zs : List Int} (hv : m ySc = some (.ref a)) (hl : h₀.IsList a vs.toArray) (hi : IntsAre vs zs) (hz : zs.length ≤ 63) {Q : Flow → Shared → Prop}
    (h : ∀ v m' imm' h' tk, m' yNu = some v → RelV ⟨imm', []⟩ (.lst (nsA (lwNs zs))) v → Lw h₀ L m' imm' own h' → Q .next { s with heap := h', toks := tk }) : wpAny (model prg w) A (exec lwS1 (lwE L fa cd)) Q E s := by
  have h2 := I.u
  refine wpAny_Assign_Name ?_ (swap_if _ _ _ _ _ _ _ _)
  refine lw_num S hv hl hi hz (by omega) I.h fun v imm' h' tk hr S' => ?_
  refine storeX_L (s := { s with heap := h', toks := tk }) S'.F S'.N (fun h₂ F₂ N₂ => ?_) rfl lk_numbers
  exact h v _ imm' h₂ _ (by simp) hr ⟨F₂, N₂, S'.nd⟩
theorem lw_s2 (I : LwIn w A h₀) {o : Obj} (S : Lw h₀ L m imm [(L + 1, o)] s.heap) {x₀ : Option Value} (hd : o.data = .cell x₀) {vN : Value} {ns : List Nat} (hn : m yNu = some vN) (hr : RelV ⟨imm, []⟩ (.lst (nsA ns)) vN) (h0 : ns ≠ []) (hl : ns.length ≤ 12) {Q : Flow → Shared → Prop}
    (h : ∀ v o' imm' h' tk, o'.data = .cell (some v) → RelV ⟨imm', []⟩ (theF ns).av v → RelV ⟨imm', []⟩ (.lst (nsA ns)) vN → Lw h₀ L m imm' [(L + 1, o')] h' → Q .next { s with heap := h', toks := tk }) : wpAny (model prg w) A (exec lwS2 (lwE L fa cd)) Q E s := by
  refine wpAny_Assign_Name ?_ (swap_call _ _ _ _ _ _ _)
  refine wpAny_Call_NameR ?_
  refine lw_glob I S (gk_fo w) gl_fo gd_fo ?_
  refine lw_callW (gp_fo w) rfl rfl ?_
  refine spl_cons rfl (lw_name S lk_numbers ld_numbers hn ?_)
  refine spl_nil ⟨S.kin I, ?_⟩
  refine lw_call I S (formula_ok w h0 (by omega)) (.cons hr .nil) (by decide) (by decide) fun v imm' h' tk hle hv S' => ?_
  have hm := S'.N (L + 1, o) (List.mem_append_right _ (.head _))
  refine wpAny_storeName_cell (s := { s with heap := h', toks := tk }) rfl lk_formula (c := L + 1) (by show List.lookup yFo [(yFo, L + 1)] = _; simp) ⟨o, hm.1, hd⟩ fun h₂ hc hs => ?_
  obtain ⟨o', ho', hd'⟩ := hc
  have nd := S'.nd
  refine h v o' imm' h₂ _ hd' hv (hr.mono (imm_le hle)) ⟨S'.F.change hs hm.2.1 hm.2.2, fun p hp => ?_, ?_⟩
  · rcases List.mem_append.mp hp with q | q
    · have z := S'.N p (List.mem_append_left _ q)
      refine ⟨(hs.2 p.1 fun e => ?_).trans z.1, z.2⟩
      rw [List.map_append, List.nodup_append] at nd
      exact nd.2.2 _ (List.mem_map_of_mem (f := fun p : Addr × Obj => p.1) q) (L + 1) (.head _) e
    · rcases List.mem_cons.mp q with rfl | q
      · exact ⟨ho', hm.2⟩
      · cases q
  · simp only [List.map_append, List.map_cons, List.map_nil] at nd ⊢
    exact nd
end
section
variable {w : World} {A : Around} {E : Value → Shared → Prop} {s : Shared} {h₀ : Heap} {L fa : Addr} {cd : Value} {m : Str → Option Value} {imm own : List (Addr × Obj)}
theorem lw_formula {o : Obj} {vF : Value} {p : Pos} {Q : Value → Shared → Prop} (S : Lw h₀ L m imm own s.heap) (ho : (L + 1, o) ∈ own) (hd : o.data = .cell (some vF)) (h : Q vF s) : wpAny (model prg w) A (eval (.Name yFo p) (lwE L fa cd)) Q E s :=
  nameX_C (c := L + 1) (o := o) S.N (by show List.lookup yFo [(yFo, L + 1)] = _; simp) (List.mem_append_right _ ho) hd h rfl lk_formula ld_formula
theorem lw_its (I : LwIn w A h₀) (S : Lw h₀ L m imm own s.heap) {o : Obj} {vF : Value} (ho : (L + 1, o) ∈ own) (hd : o.data = .cell (some vF)) {f : Fm} (hf : f.ok) (hs : f.size ≤ 24) (hr : RelV ⟨imm, []⟩ f.av vF) {Q : Value → Shared → Prop}
    (h : ∀ v imm' h' tk, (∀ p ∈ imm, p ∈ imm') → RelV ⟨imm', []⟩ (.lst (itL f.items)) v → Lw h₀ L m imm' own h' → Q v { s with heap := h', toks := tk }) : wpAny (model prg w) A (eval lwIts (lwE L fa cd)) Q E s := by
  refine wpAny_Call_NameR ?_
  refine lw_glob I S (gk_it w) gl_it gd_it ?_
  refine lw_callW (gp_it w) rfl rfl ?_
  refine spl_cons rfl (lw_formula S ho hd ?_)
  refine spl_nil ⟨S.kin I, ?_⟩
  have hdp := Fm.depth_size f
  exact lw_call I S (items_ok w f.depth f hf (by omega) rfl []) (.cons hr .nil) (by omega) (by omega) h
theorem lw_s3 (I : LwIn w A h₀) (S : Lw h₀ L m imm own s.heap) {o : Obj} {vF vN : Value} (ho : (L + 1, o) ∈ own) (hd : o.data = .cell (some vF)) (hn : m yNu = some vN) {ns : List Nat} (hr : RelV ⟨imm, []⟩ (theF ns).av vF) (hrn : RelV ⟨imm, []⟩ (.lst (nsA ns)) vN)
    (h0 : ns ≠ []) (hl : ns.length ≤ 12) (h96 : ∀ n ∈ ns, n < 96) {Q : Flow → Shared → Prop}
    (h : ∀ v m' imm' h' tk, m' yTo = some v → RelV ⟨imm', []⟩ (.lst [.lst [.int (theF ns).mask], .lst []]) v → RelV ⟨imm', []⟩ (theF ns).av vF → Lw h₀ L m' imm' own h' → Q .next { s with heap := h', toks := tk }) : wpAny (model prg w) A (exec lwS3 (lwE L fa cd)) Q E s := by
  obtain ⟨hf, hs⟩ := theF_ok hl
  have hil := Fm.items_len (theF ns)
  refine wpAny_Assign_Name ?_ (swap_call _ _ _ _ _ _ _)
  refine wpAny_Call_NameR ?_
  refine lw_glob I S (gk_re w) gl_re gd_re ?_
  refine lw_callW (gp_re w) rfl rfl ?_
  refine spl_cons rfl ?_
  refine wpAny_Call_NameR ?_
  refine lw_glob I S (gk_te w) gl_te gd_te ?_
  refine lw_callW (gp_te w) rfl rfl ?_
  refine spl_cons rfl ?_
  refine lw_its I S ho hd hf hs hr fun v₁ imm₁ h₁ tk₁ le₁ r₁ S₁ => ?_
  refine spl_cons rfl (lw_name (s := { s with heap := h₁, toks := tk₁ }) S₁ lk_numbers ld_numbers hn ?_)
  refine spl_nil ⟨Lw.kin (s := { s with heap := h₁, toks := tk₁ }) I S₁, ?_⟩
  refine lw_call (s := { s with heap := h₁, toks := tk₁ }) I S₁ (text_ok w (is := (theF ns).items) h0 h96 (by omega) (by omega)) (.cons r₁ (.cons (hrn.mono (imm_le le₁)) .nil)) (by decide) (by decide) fun v₂ imm₂ h₂ tk₂ le₂ r₂ S₂ => ?_
  refine spl_nil ⟨Lw.kin (s := { s with heap := h₂, toks := tk₂ }) I S₂, ?_⟩
  have hm := its_map ns (theF ns).items 0
  have hlen : (itsOf ns (theF ns).items 0).length = (theF ns).items.length := by
    have := congrArg List.length hm
    simpa using this
  refine lw_call (s := { s with heap := h₂, toks := tk₂ }) I S₂ (reck_ok w (good_its ns _ 0 (goodI_items _ hf)) (by omega) hf hm) (.cons r₂ .nil) (by decide) (by decide) fun v₃ imm₃ h₃ tk₃ le₃ r₃ S₃ => ?_
  refine storeX_L (s := { s with heap := h₃, toks := tk₃ }) S₃.F S₃.N (fun h₄ F₄ N₄ => ?_) rfl lk_told
  exact h v₃ _ imm₃ h₄ _ (by simp) r₃ (hr.mono (imm_le fun p hp => le₃ p (le₂ p (le₁ p hp)))) ⟨F₄, N₄, S₃.nd⟩
end
noncomputable abbrev gSu : Str := Str.ofString "sum"
noncomputable abbrev gRa : Str := Str.ofString "range"
noncomputable abbrev lwCt : Expr := .Call (.Name gHo ⟨800,62,800,72⟩) [.Name yFo ⟨800,73,800,80⟩, .Name yPl ⟨800,82,800,87⟩] [] ⟨800,62,800,88⟩
noncomputable abbrev lwEl2 : Expr := .BinOp (.Constant (.int 2) 0 ⟨800,26,800,27⟩) .Pow (.Name yPl ⟨800,31,800,36⟩) ⟨800,26,800,36⟩
noncomputable abbrev lwRng : Expr := .Call (.Name gRa ⟨800,50,800,55⟩) [.Constant (.int 8) 0 ⟨800,56,800,57⟩] [] ⟨800,50,800,58⟩
noncomputable abbrev lwLc2 : Expr := .ListComp lwEl2 [⟨.Name yPl ⟨800,41,800,46⟩, lwRng, [lwCt], 0⟩] lwC2 ⟨800,25,800,89⟩
section
variable {L fa : Addr} {cd : Value}
noncomputable abbrev lwCl (L : Addr) : List (Str × Addr) := [(yFo, L + 1)]
theorem lk_pl (C : Addr) : (compEnvC lwC2 (lwCl L) C (lwE L fa cd)).kindOf yPl = some .local := by kernel_rfl
theorem lk_fo2 (C : Addr) : (compEnvC lwC2 (lwCl L) C (lwE L fa cd)).kindOf yFo = some .cell := by kernel_rfl
theorem lk_ho (C : Addr) : (compEnvC lwC2 (lwCl L) C (lwE L fa cd)).kindOf gHo = some .globalImplicit := by kernel_rfl
theorem cf2 : (closureFor lwC2 (lwE L fa cd)) = pure (lwCl L) := by kernel_rfl
theorem c2_pl : lwC2.names.lookup yPl = some .local := by kernel_rfl
theorem c2_0 : lwC2.names.lookup (Str.ofString ".0") = some .local := by kernel_rfl
theorem c2_cell : ∀ y ∈ lwC2.names, y.2 ≠ .cell := by
  intro y hy
  simp only [lwC2, List.mem_cons, List.not_mem_nil, or_false] at hy
  rcases hy with rfl | rfl | rfl | rfl <;> exact fun h => by cases h
theorem c2_names : ∀ y ∈ lwC2.names, y.2 = .local → lwC2.names.lookup y.1 = some .local := by
  intro y hy hl
  simp only [lwC2, List.mem_cons, List.not_mem_nil, or_false] at hy
  rcases hy with rfl | rfl | rfl | rfl
  · exact c2_0
  · exact c2_pl
  · cases hl
  · cases hl
end
noncomputable def pws (h : Nat → Bool) (i : Nat) : List Int := ((List.range i).filter h).map fun p => ((2 ^ p : Nat) : Int)
theorem pws_true {h : Nat → Bool} {i : Nat} (e : h i = true) : pws h (i + 1) = pws h i ++ [((2 ^ i : Nat) : Int)] := by
  unfold pws
  rw [List.range_succ, List.filter_append, List.map_append]
  simp [e]
theorem pws_false {h : Nat → Bool} {i : Nat} (e : h i = false) : pws h (i + 1) = pws h i := by
  unfold pws
  rw [List.range_succ, List.filter_append, List.map_append]
  simp [e]
theorem pws_sum (h : Nat → Bool) : (pws h 8).sum = (sumH h : Int) := by
  unfold pws sumH
  generalize (List.range 8).filter h = l
  induction l with
  | nil => rfl
  | cons p l ih => simp only [List.map_cons, List.sum_cons]; rw [ih]; simp
section
variable {w : World} {A : Around} {E : Value → Shared → Prop} {s : Shared} {h₀ : Heap} {L fa : Addr} {cd : Value} {m : Str → Option Value} {own : List (Addr × Obj)}
theorem off_nodup {I C D : Addr} {oI oC oD : Obj} {imm own : List (Addr × Obj)} (nd : ((imm ++ own).map fun p : Addr × Obj => p.1).Nodup) (off : LCg.Off3 I C D (imm ++ own)) (ne : (@Ne Nat I C) ∧ (@Ne Nat I D) ∧ (@Ne Nat C D)) :
    ((imm ++ ((I, oI) :: (C, oC) :: (D, oD) :: own)).map fun p : Addr × Obj => p.1).Nodup := by
  have hm := off.mem
  rw [List.map_append, List.nodup_append] at nd ⊢
  obtain ⟨n1, n2, n3⟩ := nd
  have ho : ∀ (a : Addr), a ∈ own.map (fun p : Addr × Obj => p.1) → a ≠ I ∧ a ≠ C ∧ a ≠ D := by
    intro a ha
    obtain ⟨p, hp, rfl⟩ := List.mem_map.mp ha
    exact hm p (List.mem_append_right _ hp)
  refine ⟨n1, ?_, ?_⟩
  · simp only [List.map_cons, List.nodup_cons, List.mem_cons, not_or]
    exact ⟨⟨ne.1, ne.2.1, fun h => (ho _ h).1 rfl⟩, ⟨ne.2.2, fun h => (ho _ h).2.1 rfl⟩, fun h => (ho _ h).2.2 rfl, n2⟩
  · intro a ha b hb e
    obtain ⟨p, hp, rfl⟩ := List.mem_map.mp ha
    have hz := hm p (List.mem_append_left _ hp)
    simp only [List.map_cons, List.mem_cons] at hb
    rcases hb with rfl | rfl | rfl | hb
    · exact hz.1 e
    · exact hz.2.1 e
    · exact hz.2.2 e
    · exact n3 p.1 (List.mem_map_of_mem (f := fun p : Addr × Obj => p.1) hp) b hb e
theorem nodup_off {I C D : Addr} {oI oC oD : Obj} {imm own : List (Addr × Obj)} (nd : ((imm ++ ((I, oI) :: (C, oC) :: (D, oD) :: own)).map fun p : Addr × Obj => p.1).Nodup) :
    ((imm ++ own).map fun p : Addr × Obj => p.1).Nodup ∧ LCg.Off3 I C D (imm ++ own) := by
  rw [List.map_append, List.nodup_append] at nd
  obtain ⟨n1, n2, n3⟩ := nd
  simp only [List.map_cons, List.nodup_cons, List.mem_cons, not_or] at n2
  refine ⟨?_, LCg.Off3.of fun p hp => ?_⟩
  · rw [List.map_append, List.nodup_append]
    exact ⟨n1, n2.2.2.2, fun a ha b hb => n3 a ha b (.tail _ (.tail _ (.tail _ hb)))⟩
  · rcases List.mem_append.mp hp with q | q
    · have hq := List.mem_map_of_mem (f := fun p : Addr × Obj => p.1) q
      exact ⟨n3 _ hq _ (.head _), n3 _ hq _ (.tail _ (.head _)), n3 _ hq _ (.tail _ (.tail _ (.head _)))⟩
    · have hq := List.mem_map_of_mem (f := fun p : Addr × Obj => p.1) q
      exact ⟨fun e => n2.1.2.2 (e ▸ hq), fun e => n2.2.1.2 (e ▸ hq), fun e => n2.2.2.1 (e ▸ hq)⟩
theorem pow_two (i : Nat) : ((2 : Int) ^ (i : Nat)) = ((2 ^ i : Nat) : Int) := by simp
theorem c2_rest (I : LwIn w A h₀) {o : Obj} {vF : Value} (ho : (L + 1, o) ∈ own) (hd : o.data = .cell (some vF)) {f : Fm} (hf : f.ok) (hs : f.size ≤ 24) {Fin : List Value → List (Addr × Obj) → Prop}
    {rT : AV} {vT : Value}
    (hF : ∀ ys imm, IntsAre ys (pws f.holds 8) → ((imm ++ own).map fun p : Addr × Obj => p.1).Nodup → RelV ⟨imm, []⟩ rT vT → Fin ys (imm ++ own)) : ∀ (k i : Nat) (ys : List Value) (imm : List (Addr × Obj)), i + k = 8 → IntsAre ys (pws f.holds i) → ((imm ++ own).map fun p : Addr × Obj => p.1).Nodup → RelV ⟨imm, []⟩ f.av vF → RelV ⟨imm, []⟩ rT vT →
    LCt.CompRestT prg w A h₀ L m (lwE L fa cd) lwCt lwEl2 yPl lwC2 (lwCl L) s (fun _ => True) (fun i v => ∃ t, v = .int (0 + (i : Int)) t) Fin k i ys (imm ++ own)
  | 0, i, ys, imm, hk, hy, nd, hr, hrT => by
    have : i = 8 := by omega
    subst this
    exact LCt.CompRestT.zero (hF ys imm hy nd hrT)
  | k + 1, i, ys, imm, hk, hy, nd, hr, hrT => by
    refine LCt.CompRestT.succ ?_
    intro v P oI C oC D m₂ h tk E' hP hns hm₂ F N off ne
    obtain ⟨t, rfl⟩ := hP
    rw [Int.zero_add] at hm₂
    have S : Lw h₀ L m imm ((P, oI) :: (C, oC) :: (D, LCg.lst ys) :: own) h := by
      refine ⟨F, fun p hp => N p ?_, off_nodup nd off ne⟩
      simp only [List.mem_append, List.mem_cons] at hp ⊢
      rcases hp with q | q | q | q | q
      · exact .inr (.inr (.inr (.inl q)))
      · exact .inl q
      · exact .inr (.inl q)
      · exact .inr (.inr (.inl q))
      · exact .inr (.inr (.inr (.inr q)))
    have hC : h.Ns C m₂ := hns.ns (N (C, oC) (.tail _ (.head _))).1
    obtain ⟨_, _, _, _, T⟩ := id I.T
    refine wpAny_isTrue_value ?_ rfl
    refine wpAny_Call_NameR ?_
    refine nameG_K (K := KF w) S.F I.K T (gk_ho w) ?_ rfl rfl (lk_ho C) gd_ho
    refine lw_callW (gp_ho w) rfl rfl ?_
    refine spl_cons rfl ?_
    refine wpAny_Name (wpAny_loadName_cell (c := L + 1) rfl (lk_fo2 C) (by show List.lookup yFo [(yFo, L + 1)] = _; simp) ⟨o, (S.N (L + 1, o) (List.mem_append_right _ (.tail _ (.tail _ (.tail _ ho))))).1, hd⟩ ?_) ld_formula
    refine spl_cons rfl ?_
    refine wpAny_Name (wpAny_loadName_local rfl (lk_pl C) hC hm₂ ?_) ld_place
    refine spl_nil ⟨Lw.kin (s := { s with heap := h, toks := tk }) I S, ?_⟩
    have hdp := Fm.depth_size f
    refine lw_call (s := { s with heap := h, toks := tk }) I S (holds_ok w (p := i) (by omega) f.depth f hf (by omega) rfl []) (.cons hr (.cons (.int (Int.ofNat i) t) .nil)) (by omega) (by omega) fun v imm' h' tk' le' hv S' => ?_
    cases hv
    refine wpAny_truthy_bool ?_
    obtain ⟨nd', off'⟩ := nodup_off S'.nd
    have N' : News h₀ L h' ((P, oI) :: (C, oC) :: (D, LCg.lst ys) :: (imm' ++ own)) := by
      intro p hp
      apply S'.N
      simp only [List.mem_append, List.mem_cons] at hp ⊢
      rcases hp with q | q | q | q | q
      · exact .inr (.inl q)
      · exact .inr (.inr (.inl q))
      · exact .inr (.inr (.inr (.inl q)))
      · exact .inl q
      · exact .inr (.inr (.inr (.inr q)))
    have hr' := hr.mono (imm_le le')
    have hC' : h'.Ns C m₂ := hns.ns (N' (C, oC) (.tail _ (.head _))).1
    cases hb : f.holds i with
    | true =>
      rw [if_pos rfl]
      refine wpAny_BinOp (wpAny_Constant_int (wpAny_Name (wpAny_loadName_local rfl (lk_pl C) hC' hm₂ ?_) ld_place))
      refine pow_int (by omega) ?_ ?_
      · have : Builtin.Int.intBits 2 = 2 := by decide
        rw [this]
        have : (i : Int) ≤ 8 := by omega
        omega
      · refine ⟨h', _, imm' ++ own, rfl, S'.F, N', off', trivial, c2_rest I ho hd hf hs hF k (i + 1) _ imm' (by omega) ?_ nd' hr' (hrT.mono (imm_le le'))⟩
        rw [pws_true hb]
        have e : (2 : Int) ^ (i : Int).toNat = ((2 ^ i : Nat) : Int) := by rw [Int.toNat_natCast]; exact pow_two i
        rw [e]
        exact IntsAre.snoc hy _ _
    | false =>
      rw [if_neg Bool.false_ne_true]
      refine ⟨h', _, imm' ++ own, rfl, S'.F, N', off', trivial, c2_rest I ho hd hf hs hF k (i + 1) _ imm' (by omega) ?_ nd' hr' (hrT.mono (imm_le le'))⟩
      rw [pws_false hb]
      exact hy
end
noncomputable abbrev lwSum : Expr := .Call (.Name gSu ⟨800,21,800,24⟩) [lwLc2] [] ⟨800,21,800,90⟩
noncomputable abbrev lwExp : Expr := .List [.List [lwSum] ⟨800,20,800,91⟩, .List [] ⟨800,93,800,95⟩] ⟨800,19,800,96⟩
noncomputable abbrev lwS4 : Stmt := .Return (some (.Compare (.Name yTo ⟨800,11,800,15⟩) [.Eq] [lwExp] ⟨800,11,800,96⟩)) ⟨800,4,800,96⟩
theorem gn_su (w : World) : nsIn (KF w) mainGlobals gSu = some none := by kernel_rfl
theorem gn_ra (w : World) : nsIn (KF w) mainGlobals gRa = some none := by kernel_rfl
theorem gb_su : bootBuiltins gSu = some (.builtin "sum") := by kernel_rfl
theorem gb_ra : bootBuiltins gRa = some (.type "range") := by kernel_rfl
theorem gm_su : gSu ≠ Str.ofString "__name__" := by decide +kernel
theorem gm_ra : gRa ≠ Str.ofString "__name__" := by decide +kernel
theorem gd_su : (gSu == ("__debug__" : Str)) = false := by kernel_rfl
theorem gd_ra : (gRa == ("__debug__" : Str)) = false := by kernel_rfl
section
variable {L fa : Addr} {cd : Value}
theorem gl_su : (lwE L fa cd).kindOf gSu = some .globalImplicit := by kernel_rfl
theorem gl_ra : (lwE L fa cd).kindOf gRa = some .globalImplicit := by kernel_rfl
end
section
variable {w : World} {A : Around} {E : Value → Shared → Prop} {s : Shared} {h₀ : Heap} {L fa : Addr} {cd : Value} {m : Str → Option Value} {imm own : List (Addr × Obj)}
theorem lw_bi (I : LwIn w A h₀) (S : Lw h₀ L m imm own s.heap) {x : Str} {f : Value} {p : Pos} {Q : Value → Shared → Prop} (e : nsIn (KF w) mainGlobals x = some none) (hv : bootBuiltins x = some f) (hn : x ≠ Str.ofString "__name__") (hx : (lwE L fa cd).kindOf x = some .globalImplicit) (hd : (x == ("__debug__" : Str)) = false) (h : Q f s) :
    wpAny (model prg w) A (eval (.Name x p) (lwE L fa cd)) Q E s := by
  obtain ⟨_, _, _, _, T⟩ := I.T
  exact nameX_B S.F I.K T e hv hn h rfl hx hd
theorem lw_callB {env : Env} {f : Value} {e : Expr} {es : List Expr} {pos : Pos} {Q : Value → Shared → Prop} (hk : KeepOK w f) (hs : starEach (e :: es) env = (false, eval e env) :: starEach es env) (hany : (backTo pos (starEach (e :: es) env)).any (·.1) = false)
    (h : wpAny (model prg w) A (spliced (backTo pos (starEach (e :: es) env))) (fun vs s₁ => (KF w).In s₁.heap ∧ wpAny (model prg w) A (call f vs) Q E s₁) E s) : wpAny (model prg w) A (callWith pos f [] (backTo pos (starEach (e :: es) env)) []) Q E s := by
  refine callWith_of (P := fun h => (KF w).In h) (by rw [hany]; rfl) (hk _) ?_
  rw [hs] at h ⊢
  refine evalArgs_plain (Q := fun a s₁ => (KF w).In s₁.heap ∧ wpAny (model prg w) A (call f ([] ++ a.pos) a.kw) Q E s₁) ?_
  exact wpAny_mono h (fun vs s₁ h₁ => h₁) fun _ _ x => x
theorem off1_ne {D : Addr} : ∀ {l : List (Addr × Obj)}, LCg.Off1 D l → ∀ p ∈ l, p.1 ≠ D
  | [], _, p, hp => by cases hp
  | q :: l, ho, p, hp => by
    rcases List.mem_cons.mp hp with rfl | hp
    · exact ho.1
    · exact off1_ne ho.2 p hp
theorem lw_comp (I : LwIn w A h₀) (S : Lw h₀ L m imm own s.heap) {o : Obj} {vF vT : Value} {rT : AV} (ho : (L + 1, o) ∈ own) (hd : o.data = .cell (some vF)) {f : Fm} (hf : f.ok) (hs : f.size ≤ 24) (hr : RelV ⟨imm, []⟩ f.av vF) (hrT : RelV ⟨imm, []⟩ rT vT) {Q : Value → Shared → Prop}
    (h : ∀ D ys imm' h' tk, IntsAre ys (pws f.holds 8) → RelV ⟨imm', []⟩ rT vT → Lw h₀ L m ((D, LCg.lst ys) :: imm') own h' → Q (.ref D) { s with heap := h', toks := tk }) : wpAny (model prg w) A (eval lwLc2 (lwE L fa cd)) Q E s := by
  refine LCt.ListComp_T (F₀ := S.F) cf2 c2_cell rfl c2_names c2_pl ?_ (fun _ => rfl)
  refine wpAny_Call_NameR ?_
  refine lw_bi I S (gn_ra w) gb_ra gm_ra gl_ra gd_ra ?_
  refine lw_callB KeepOK.ty rfl rfl ?_
  refine spl_cons rfl (wpAny_Constant_int ?_)
  refine spl_nil ⟨Lw.kin (s := { s with toks := s.toks + 1 }) I S, ?_⟩
  refine call_range_1 ?_
  have S' := S.grown (h' := s.heap.push { cls := .type "range", data := .fields #[.int 0 (s.toks + 1), .int 8 s.toks, .int 1 (s.toks + 1 + 1)] }) fun b o e => Heap.get?_push_of_some _ e
  refine LCt.CompSrcT.range (a := 0) (b := 8) (n := 8) I.h S'.F S'.N (IsRange.new ..) (by decide) (by decide) (by decide) fun g => ?_
  refine c2_rest I ho hd hf hs (rT := rT) (vT := vT) (fun ys imm' hy nd hT => ?_) 8 0 [] imm rfl .nil S.nd hr hrT
  intro D h₂ tk₂ F₂ N₂ off
  refine h D ys imm' h₂ tk₂ hy hT ⟨F₂, N₂, ?_⟩
  show (D :: ((imm' ++ own).map fun p : Addr × Obj => p.1)).Nodup
  rw [List.nodup_cons]
  refine ⟨fun q => ?_, nd⟩
  obtain ⟨p, hp, e⟩ := List.mem_map.mp q
  exact off1_ne off p hp e
theorem lw_sum (I : LwIn w A h₀) (S : Lw h₀ L m imm own s.heap) {o : Obj} {vF vT : Value} {rT : AV} (ho : (L + 1, o) ∈ own) (hd : o.data = .cell (some vF)) {f : Fm} (hf : f.ok) (hs : f.size ≤ 24) (hr : RelV ⟨imm, []⟩ f.av vF) (hrT : RelV ⟨imm, []⟩ rT vT) {Q : Value → Shared → Prop}
    (h : ∀ t imm' h' tk, RelV ⟨imm', []⟩ rT vT → Lw h₀ L m imm' own h' → Q (.int f.mask t) { s with heap := h', toks := tk }) : wpAny (model prg w) A (eval lwSum (lwE L fa cd)) Q E s := by
  refine wpAny_Call_NameR ?_
  refine lw_bi I S (gn_su w) gb_su gm_su gl_su gd_su ?_
  refine lw_callB KeepOK.bi rfl rfl ?_
  refine spl_cons rfl ?_
  refine lw_comp I S ho hd hf hs hr hrT fun D ys imm' h' tk hy hT S' => ?_
  refine spl_nil ⟨Lw.kin (s := { s with heap := h', toks := tk }) I S', ?_⟩
  refine LSm.sum_ints (s := { s with heap := h', toks := tk }) (vs := ys) S'.F S'.N I.h ⟨_, (S'.N _ (.head _)).1, rfl, _, rfl⟩ hy fun h₂ tk₂ t₂ F₂ N₂ => ?_
  rw [pws_sum, ← sum_eq f hf]
  exact h t₂ ((D, LCg.lst ys) :: imm') h₂ tk₂ (hT.mono (imm_le fun p hp => .tail _ hp)) ⟨F₂, N₂, S'.nd⟩
theorem eq_refs {l b : Addr} (h : SeqAt.RcAt A s (.ref l) (.ref b) true) : SeqAt.EqAt A s (.ref l) (.ref b) true := by
  by_cases e : l = b
  · subst e; exact SeqAt.EqAt.same _
  · exact SeqAt.EqAt.of_refs e h
theorem lw_eq {T X : Addr} {b₁ b₂ c₁ c₂ : Addr} {k : Int} {t u : Tok} {Q : Value → Shared → Prop} (hu : A.units + 2 < cLine) (hT : s.heap.IsList T #[.ref b₁, .ref b₂]) (hb₁ : s.heap.IsList b₁ #[.int k t]) (hb₂ : s.heap.IsList b₂ #[]) (hX : s.heap.IsList X #[.ref c₁, .ref c₂]) (hc₁ : s.heap.IsList c₁ #[.int k u]) (hc₂ : s.heap.IsList c₂ #[])
    (h : Q (.bool true) s) : wpAny (model prg w) A (compareOp .Eq (.ref T) (.ref X)) Q E s := by
  have hu' : A.in1.units < cLine := by show A.units + 1 < cLine; omega
  have i1 : SeqAt.RcAt A.in1 s (.ref b₁) (.ref c₁) true := by
    have := SeqAt.RcAt.lists (A := A.in1) (e := fun _ => true) hb₁ hc₁ rfl hu' (fun j h1 h2 => by
      have : j = 0 := by simp at h1; omega
      subst this
      have := SeqAt.EqAt.int_int (A := A.in1.in1) (s := s) k t k u
      rw [beq_self_eq_true] at this
      exact this)
    exact this
  have i2 : SeqAt.RcAt A.in1 s (.ref b₂) (.ref c₂) true := SeqAt.RcAt.lists (A := A.in1) (e := fun _ => true) hb₂ hc₂ rfl hu' (fun j h1 h2 => by simp at h1)
  have := SeqAt.RcAt.lists (A := A) (e := fun _ => true) hT hX rfl (by omega) (fun j h1 h2 => by
    have hj : j = 0 ∨ j = 1 := by simp at h1; omega
    rcases hj with rfl | rfl
    · exact eq_refs i1
    · exact eq_refs i2)
  exact this prg w E Q h
theorem lw_s4 (I : LwIn w A h₀) (S : Lw h₀ L m imm own s.heap) {o : Obj} {vF vT : Value} (ho : (L + 1, o) ∈ own) (hd : o.data = .cell (some vF)) {f : Fm} (hf : f.ok) (hs : f.size ≤ 24) (hr : RelV ⟨imm, []⟩ f.av vF) (ht : m yTo = some vT) (hrT : RelV ⟨imm, []⟩ (.lst [.lst [.int f.mask], .lst []]) vT) {Q : Flow → Shared → Prop}
    (h : ∀ h' tk, (∀ b o, h₀.get? b = some o → h'.get? b = some o) → Q (.ret (.bool true)) { s with heap := h', toks := tk }) : wpAny (model prg w) A (exec lwS4 (lwE L fa cd)) Q E s := by
  have h2 := I.u
  refine wpAny_Return_some ?_
  refine wpAny_Compare1 ?_ rfl
  refine lw_name S lk_told ld_told ht ?_
  refine List_ ?_
  refine spl_cons rfl (List_ ?_)
  refine spl_cons rfl ?_
  refine lw_sum I S ho hd hf hs hr hrT fun t imm₁ h₁ tk₁ r₁ S₁ => ?_
  refine spl_nil ?_
  refine lw_newList (s := { s with heap := h₁, toks := tk₁ }) (vs := [.int f.mask t]) S₁ (by simp) fun h₂ S₂ => ?_
  refine spl_cons rfl ?_
  refine lw_empty (s := { s with heap := h₂, toks := tk₁ }) S₂ fun h₃ S₃ => ?_
  refine spl_nil ?_
  refine lw_newList (s := { s with heap := h₃, toks := tk₁ }) (vs := [.ref h₁.objs.size, .ref h₂.objs.size]) S₃ (by simp) fun h₄ S₄ => ?_
  have g : ∀ p ∈ imm₁, h₄.get? p.1 = some p.2 := fun p hp => (S₄.N p (.tail _ (.tail _ (.tail _ (List.mem_append_left _ hp))))).1
  cases r₁ with
  | @lst _ T vs n hm _ hvs => cases hvs with
    | cons h1 hvs => cases hvs with
      | cons h2' hvs => cases hvs with
        | nil => cases h1 with
          | @lst _ b₁ vs₁ n₁ hm₁ _ hvs₁ => cases hvs₁ with
            | cons hk hvs₁ => cases hvs₁ with
              | nil => cases hk with
                | int _ t' => cases h2' with
                  | @lst _ b₂ vs₂ n₂ hm₂ _ hvs₂ => cases hvs₂ with
                    | nil =>
                      refine lw_eq (s := { s with heap := h₄, toks := tk₁ }) (k := f.mask) (t := t') (u := t) (by omega) (isList_of (g _ hm)) (isList_of (g _ hm₁)) (isList_of (g _ hm₂)) (isList_of (vs := [.ref h₁.objs.size, .ref h₂.objs.size]) (S₄.N _ (.head _)).1) (isList_of (vs := [.int f.mask t]) (S₄.N _ (.tail _ (.tail _ (.head _)))).1) (isList_of (vs := []) (S₄.N _ (.tail _ (.head _))).1) ?_
                      exact h h₄ tk₁ S₄.F.keep
end
section
variable {w : World} {A : Around} {E : Value → Shared → Prop} {s : Shared} {h₀ : Heap} {L fa : Addr} {cd : Value} {m : Str → Option Value} {imm own : List (Addr × Obj)}
theorem lw_body (I : LwIn w A h₀) {o : Obj} (F : Fr h₀ L s.heap m) (N : News h₀ L s.heap [(L + 1, o)]) {x₀ : Option Value} (hd : o.data = .cell x₀) {a : Addr} {vs : List Value} {zs : List Int} (hv : m ySc = some (.ref a)) (hl : h₀.IsList a vs.toArray) (hi : IntsAre vs zs) (hz : zs.length ≤ 63) {Q : Flow → Shared → Prop}
    (h : ∀ h' tk, (∀ b o, h₀.get? b = some o → h'.get? b = some o) → Q (.ret (.bool true)) { s with heap := h', toks := tk }) : wpAny (model prg w) A (execs [lwS1, lwS2, lwS3, lwS4] (lwE L fa cd)) Q E s := by
  have S : Lw h₀ L m [] [(L + 1, o)] s.heap := ⟨F, N, by simp⟩
  have hne := lwNs_ne zs
  have hl12 := lwNs_len zs
  have h96 := lwNs_lt zs
  obtain ⟨hf, hs⟩ := theF_ok hl12
  refine wpAny_execs_cons ?_
  refine lw_s1 I S hv hl hi hz fun vN m₁ imm₁ h₁ tk₁ hn₁ r₁ S₁ => ?_
  refine wpAny_execs_cons ?_
  refine lw_s2 (s := { s with heap := h₁, toks := tk₁ }) I S₁ hd hn₁ r₁ hne hl12 fun vF o₂ imm₂ h₂ tk₂ hd₂ rF₂ rN₂ S₂ => ?_
  refine wpAny_execs_cons ?_
  refine lw_s3 (s := { s with heap := h₂, toks := tk₂ }) I S₂ (.head _) hd₂ hn₁ rF₂ rN₂ hne hl12 h96 fun vT m₃ imm₃ h₃ tk₃ ht₃ rT₃ rF₃ S₃ => ?_
  refine wpAny_execs_cons ?_
  exact lw_s4 (s := { s with heap := h₃, toks := tk₃ }) I S₃ (.head _) hd₂ hf hs rF₃ ht₃ rT₃ fun h₄ tk₄ hk₄ => h h₄ tk₄ hk₄
end
theorem main.tw10044588960856096794 : True := trivial
theorem main.tw10047173719225811962 : True := trivial
theorem main.tw10047389527955405517 : True := trivial
theorem main.tw10092017014551392330 : True := trivial
theorem main.tw10094358506670053839 : True := trivial
theorem main.tw10101132713571821118 : True := trivial
theorem main.tw10101900104965146230 : True := trivial
theorem main.tw10114013102757674387 : True := trivial
theorem main.tw10123989817122485451 : True := trivial
theorem main.tw10130550132557254169 : True := trivial
theorem main.tw10140136200207757160 : True := trivial
theorem main.tw10149618387772673413 : True := trivial
theorem main.tw10159738436595150677 : True := trivial
theorem main.tw10169072693733980587 : True := trivial
theorem main.tw10177057350305019805 : True := trivial
theorem main.tw10186938856007831324 : True := trivial
theorem main.tw10199874654664476236 : True := trivial
theorem main.tw10204856939554784155 : True := trivial
theorem main.tw10210597933619972095 : True := trivial
theorem main.tw10219080375879083632 : True := trivial
theorem main.tw10225356144477167704 : True := trivial
theorem main.tw10231336680788121439 : True := trivial
theorem main.tw10234815189450012239 : True := trivial
theorem main.tw10242657825688863476 : True := trivial
theorem main.tw10255180020182114038 : True := trivial
theorem main.tw1027651156746619712 : True := trivial
theorem main.tw10283388844273144081 : True := trivial
theorem main.tw10298723112805639129 : True := trivial
theorem main.tw10334261112615635914 : True := trivial
theorem main.tw10372381792597517565 : True := trivial
theorem main.tw10391951854915411234 : True := trivial
theorem main.tw1041082287264499562 : True := trivial
theorem main.tw10418042200766032776 : True := trivial
theorem main.tw10435530978670571659 : True := trivial
theorem main.tw104360540948158410 : True := trivial
theorem main.tw10450603732522932521 : True := trivial
theorem main.tw10452441009100146310 : True := trivial
theorem main.tw10453263994017694363 : True := trivial
theorem main.tw10455743928339290457 : True := trivial
theorem main.tw10463206416058312583 : True := trivial
theorem main.tw10474107093616326617 : True := trivial
theorem main.tw10483362588635715401 : True := trivial
theorem main.tw10522153449588071227 : True := trivial
theorem main.tw10542905334921785414 : True := trivial
theorem main.tw1054321117371714560 : True := trivial
theorem main.tw10543740743216835930 : True := trivial
theorem main.tw10548918766592180815 : True := trivial
theorem main.tw10563736105633104466 : True := trivial
theorem main.tw10564528347858357063 : True := trivial
theorem main.tw10567084921333377638 : True := trivial
theorem main.tw10609540516017602915 : True := trivial
theorem main.tw10625486282989778954 : True := trivial
theorem main.tw10642606787283503386 : True := trivial
theorem main.tw10652611922669240339 : True := trivial
theorem main.tw10652863235454686790 : True := trivial
theorem main.tw10665089971535097683 : True := trivial
theorem main.tw10665469846841522134 : True := trivial
theorem main.tw10669944970481658594 : True := trivial
theorem main.tw10707853282979444102 : True := trivial
theorem main.tw10733187975300939785 : True := trivial
theorem main.tw10747446730583883921 : True := trivial
theorem main.tw10750994468655217958 : True := trivial
theorem main.tw1075715825243056693 : True := trivial
theorem main.tw10806494311037068592 : True := trivial
theorem main.tw10813080517026676716 : True := trivial
theorem main.tw10821422270917381399 : True := trivial
theorem main.tw10825349956297869744 : True := trivial
theorem main.tw10825838108423173272 : True := trivial
theorem main.tw1084114956928915155 : True := trivial
theorem main.tw1084220662915027778 : True := trivial
theorem main.tw10864377008497418100 : True := trivial
theorem main.tw10872709063316003131 : True := trivial
theorem main.tw10876229203375891673 : True := trivial
theorem main.tw10876375607700338302 : True := trivial
theorem main.tw10877679251791092727 : True := trivial
theorem main.tw10896356407431480244 : True := trivial
theorem main.tw10924716458440934090 : True := trivial
theorem main.tw1092785777240315536 : True := trivial
theorem main.tw10939538800803721631 : True := trivial
theorem main.tw10953687544409504101 : True := trivial
theorem main.tw1098248734344127483 : True := trivial
theorem main.tw10987386120367425466 : True := trivial
theorem main.tw11001617756164336837 : True := trivial
theorem main.tw11003572833241299968 : True := trivial
theorem main.tw11019096307435631222 : True := trivial
theorem main.tw11020365191643786025 : True := trivial
theorem main.tw11041547156204584376 : True := trivial
theorem main.tw11041858737867550897 : True := trivial
theorem main.tw11049269918873537771 : True := trivial
theorem main.tw11064553515745592270 : True := trivial
theorem main.tw11086099901593105684 : True := trivial
theorem main.tw11092141859048813250 : True := trivial
theorem main.tw11101190512080308003 : True := trivial
theorem main.tw11125538497796368324 : True := trivial
theorem main.tw11129844816282181526 : True := trivial
theorem main.tw11135027115929721415 : True := trivial
theorem main.tw1118068078248606362 : True := trivial
theorem main.tw11183452524601008856 : True := trivial
theorem main.tw11213863890663495067 : True := trivial
theorem main.tw11218778669853930896 : True := trivial
theorem main.tw11221353774195762014 : True := trivial
theorem main.tw11226649435888080689 : True := trivial
theorem main.tw11227622515816690841 : True := trivial
theorem main.tw11239335112260394413 : True := trivial
theorem main.tw11251407683458634364 : True := trivial
theorem main.tw11261727412033496967 : True := trivial
theorem main.tw11273777480241942364 : True := trivial
theorem main.tw1130211791997205004 : True := trivial
theorem main.tw11311155076762098589 : True := trivial
theorem main.tw11332626419695707122 : True := trivial
theorem main.tw11349898740250378076 : True := trivial
theorem main.tw11374851513655246148 : True := trivial
theorem main.tw11388154006635350966 : True := trivial
theorem main.tw11390293659975261258 : True := trivial
theorem main.tw11399646045708457374 : True := trivial
theorem main.tw11405101455947879731 : True := trivial
theorem main.tw11409991511011244131 : True := trivial
theorem main.tw11410963132546700228 : True := trivial
theorem main.tw1142173933681417890 : True := trivial
theorem main.tw11461230924637031220 : True := trivial
theorem main.tw11463369355524808266 : True := trivial
theorem main.tw11469148683815294839 : True := trivial
theorem main.tw11476092923266045095 : True := trivial
theorem main.tw11487549891475536569 : True := trivial
theorem main.tw11490900464029743698 : True := trivial
theorem main.tw11544348965984651327 : True := trivial
theorem main.tw11548542833958708988 : True := trivial
theorem main.tw11554813239044494598 : True := trivial
theorem main.tw1156462466702112376 : True := trivial
theorem main.tw11595355409239048105 : True := trivial
theorem main.tw11614107205274993552 : True := trivial
theorem main.tw11614346279706655073 : True := trivial
theorem main.tw11646826074482590764 : True := trivial
theorem main.tw11670399090076514202 : True := trivial
theorem main.tw11676816360460091147 : True := trivial
theorem main.tw11710404883906591787 : True := trivial
theorem main.tw11712081513822626495 : True := trivial
theorem main.tw11716418206903941319 : True := trivial
theorem main.tw11725999154989108132 : True := trivial
theorem main.tw11728771520666845194 : True := trivial
theorem main.tw11735423636902730196 : True := trivial
theorem main.tw11752208632293872130 : True := trivial
theorem main.tw11774690029378154688 : True := trivial
theorem main.tw11785714552879321826 : True := trivial
theorem main.tw1178595665728414349 : True := trivial
theorem main.tw11814867827210800679 : True := trivial
theorem main.tw11857135199678951331 : True := trivial
theorem main.tw11863440786858735884 : True := trivial
theorem main.tw11904941031934877020 : True := trivial
theorem main.tw1191263595243908205 : True := trivial
theorem main.tw11962923498438245051 : True := trivial
theorem main.tw11967333016625521393 : True := trivial
theorem main.tw1198661942849946583 : True := trivial
theorem main.tw11987853993630220354 : True := trivial
theorem main.tw11994702600946432102 : True := trivial
theorem main.tw12006131722545458140 : True := trivial
theorem main.tw12014785543569010823 : True := trivial
theorem main.tw12023146180999706270 : True := trivial
theorem main.tw12027323910402764344 : True := trivial
theorem main.tw12029141425527573696 : True := trivial
theorem main.tw12057704586751987240 : True := trivial
theorem main.tw12075919899556687040 : True := trivial
theorem main.tw12077450504624328385 : True := trivial
theorem main.tw12093647306153771053 : True := trivial
theorem main.tw12106859168716417752 : True := trivial
theorem main.tw12118360930388700471 : True := trivial
theorem main.tw12130321265151566525 : True := trivial
theorem main.tw12134908399292295839 : True := trivial
theorem main.tw12139096438432415106 : True := trivial
theorem main.tw12142246244290616864 : True := trivial
theorem main.tw12170992721606120685 : True := trivial
theorem main.tw12205347405646519318 : True := trivial
theorem main.tw12245857906982125569 : True := trivial
theorem main.tw12252054271945606052 : True := trivial
theorem main.tw12255313618399501761 : True := trivial
theorem main.tw12273490649430754879 : True := trivial
theorem main.tw12298629886278197574 : True := trivial
theorem main.tw12304082900475741265 : True := trivial
theorem main.tw12324921354453157484 : True := trivial
theorem main.tw12332102779922042578 : True := trivial
theorem main.tw12338497608069007261 : True := trivial
theorem main.tw12343854547171428336 : True := trivial
theorem main.tw12346658559823942425 : True := trivial
theorem main.tw12361340156312767134 : True := trivial
theorem main.tw1236483940969888574 : True := trivial
theorem main.tw1242282695825638017 : True := trivial
theorem main.tw12450111651097656602 : True := trivial
theorem main.tw12455012482086183272 : True := trivial
theorem main.tw12463224122652932544 : True := trivial
theorem main.tw1247693315553860331 : True := trivial
theorem main.tw12483276189755474720 : True := trivial
theorem main.tw12516419522249374063 : True := trivial
theorem main.tw12518504611687188807 : True := trivial
theorem main.tw12519306246395310219 : True := trivial
theorem main.tw1253437644075932092 : True := trivial
theorem main.tw12543713266681445118 : True := trivial
theorem main.tw1255815211270559930 : True := trivial
theorem main.tw12564604832814323664 : True := trivial
theorem main.tw12570134572688502250 : True := trivial
theorem main.tw12574995316784493246 : True := trivial
theorem main.tw12582173479537470380 : True := trivial
theorem main.tw12590340796369385619 : True := trivial
theorem main.tw1259162542039736189 : True := trivial
theorem main.tw12594366453804578888 : True := trivial
theorem main.tw12608185968620612914 : True := trivial
theorem main.tw1261021989165538067 : True := trivial
theorem main.tw12623159325031504133 : True := trivial
theorem main.tw12670839924663504800 : True := trivial
theorem main.tw12676016255616738260 : True := trivial
theorem main.tw12681957500809781501 : True := trivial
theorem main.tw12692632004510240207 : True := trivial
theorem main.tw1269329923203890863 : True := trivial
theorem main.tw1270039299266317192 : True := trivial
theorem main.tw12702744160499308131 : True := trivial
theorem main.tw12732289081945773324 : True := trivial
theorem main.tw12741544251441588921 : True := trivial
theorem main.tw12747388180105724736 : True := trivial
theorem main.tw12748397558918655664 : True := trivial
theorem main.tw12748590368196086967 : True := trivial
theorem main.tw12751799325998411230 : True := trivial
theorem main.tw12755441557018050348 : True := trivial
theorem main.tw1277820614484962519 : True := trivial
theorem main.tw12800608258095302798 : True := trivial
theorem main.tw12839114828313443825 : True := trivial
theorem main.tw12867379429370454646 : True := trivial
theorem main.tw12870486517592710932 : True := trivial
theorem main.tw12872379398031375081 : True := trivial
theorem main.tw12885385263037960081 : True := trivial
theorem main.tw12885673836220544336 : True := trivial
theorem main.tw1289389943133740499 : True := trivial
theorem main.tw12900284412222446716 : True := trivial
theorem main.tw12909650291622432550 : True := trivial
theorem main.tw12915833801598196605 : True := trivial
theorem main.tw12922898485456448571 : True := trivial
theorem main.tw12927740378394474205 : True := trivial
theorem main.tw12941917028564957548 : True := trivial
theorem main.tw12959741745000181155 : True := trivial
theorem main.tw12969983923199422630 : True := trivial
theorem main.tw12986061983710234785 : True := trivial
theorem main.tw12992176717851604617 : True := trivial
theorem main.tw1306636233014830658 : True := trivial
theorem main.tw13077236301305049449 : True := trivial
theorem main.tw13110970153573199417 : True := trivial
theorem main.tw13113777628852026922 : True := trivial
theorem main.tw13116522157475607773 : True := trivial
theorem main.tw13132915859168520264 : True := trivial
theorem main.tw13148611719377898607 : True := trivial
theorem main.tw13154001654789283132 : True := trivial
theorem main.tw13178119278494513645 : True := trivial
theorem main.tw13180746182150919023 : True := trivial
theorem main.tw13184314607181485883 : True := trivial
theorem main.tw13187166440333854079 : True := trivial
theorem main.tw1318968915056948652 : True := trivial
theorem main.tw13194694976546938235 : True := trivial
theorem main.tw1319676515408343850 : True := trivial
theorem main.tw13205597141304524524 : True := trivial
theorem main.tw13219505800766818778 : True := trivial
theorem main.tw13224007501803129859 : True := trivial
theorem main.tw13227692790652741651 : True := trivial
theorem main.tw13255245976751338989 : True := trivial
theorem main.tw13260870731297125680 : True := trivial
theorem main.tw13270728482189477470 : True := trivial
theorem main.tw13280184839708294561 : True := trivial
theorem main.tw13293747886898857621 : True := trivial
theorem main.tw13300049834081105767 : True := trivial
theorem main.tw13313126695403321540 : True := trivial
theorem main.tw13348322127785295214 : True := trivial
theorem main.tw13350764725976880583 : True := trivial
theorem main.tw13355152605343272895 : True := trivial
theorem main.tw1336659820572712380 : True := trivial
theorem main.tw13402765919934010277 : True := trivial
theorem main.tw13406003279186336099 : True := trivial
theorem main.tw13447304073604360266 : True := trivial
theorem main.tw13465503431842376007 : True := trivial
theorem main.tw13476453092275279800 : True := trivial
theorem main.tw13478642292854932123 : True := trivial
theorem main.tw13503263706703578961 : True := trivial
theorem main.tw13514204307011423542 : True := trivial
theorem main.tw13532707612510029741 : True := trivial
theorem main.tw13547569757486424058 : True := trivial
theorem main.tw1355085073191494161 : True := trivial
theorem main.tw13555666566803518343 : True := trivial
theorem main.tw13585212038103805156 : True := trivial
theorem main.tw13590572293223372214 : True := trivial
theorem main.tw13591255225166038476 : True := trivial
theorem main.tw13597483153833180358 : True := trivial
theorem main.tw13600118204396285686 : True := trivial
theorem main.tw13626721169425172152 : True := trivial
theorem main.tw13642826006792871662 : True := trivial
theorem main.tw13667920496262714385 : True := trivial
theorem main.tw13676971244355772609 : True := trivial
theorem main.tw13693970394777133609 : True := trivial
theorem main.tw13709940891582799460 : True := trivial
theorem main.tw13711685867348743795 : True := trivial
theorem main.tw13713940216889387898 : True := trivial
theorem main.tw13724616953566380437 : True := trivial
theorem main.tw1372806426800153423 : True := trivial
theorem main.tw13777938177461255882 : True := trivial
theorem main.tw13785756576867287988 : True := trivial
theorem main.tw13797323745857372409 : True := trivial
theorem main.tw1390771862084280389 : True := trivial
theorem main.tw13914785722749861914 : True := trivial
theorem main.tw13934608090901567409 : True := trivial
theorem main.tw13962693860625380366 : True := trivial
theorem main.tw13965128551521907918 : True := trivial
theorem main.tw13972245371655741198 : True := trivial
theorem main.tw13974046611088194958 : True := trivial
theorem main.tw13978478705568000493 : True := trivial
theorem main.tw13980345723018547825 : True := trivial
theorem main.tw13989496423458381343 : True := trivial
theorem main.tw13995172100960836882 : True := trivial
theorem main.tw14011416340940902608 : True := trivial
theorem main.tw1402309974066972641 : True := trivial
theorem main.tw14027531716089632829 : True := trivial
theorem main.tw14027650596787315314 : True := trivial
theorem main.tw14035828253484925225 : True := trivial
theorem main.tw14061640607465278742 : True := trivial
theorem main.tw14064073609400967072 : True := trivial
theorem main.tw14080665800827857628 : True := trivial
theorem main.tw14097447854668400296 : True := trivial
theorem main.tw1409966394225722968 : True := trivial
theorem main.tw14105360277320731770 : True := trivial
theorem main.tw14113777837530570566 : True := trivial
theorem main.tw14136325212780177784 : True := trivial
theorem main.tw1415428593365352553 : True := trivial
theorem main.tw14161005256144132680 : True := trivial
theorem main.tw14161465996007527954 : True := trivial
theorem main.tw14168887731352723522 : True := trivial
theorem main.tw14218914174604095658 : True := trivial
theorem main.tw14235155234550121937 : True := trivial
theorem main.tw14286279103370969706 : True := trivial
theorem main.tw14294326805199999026 : True := trivial
theorem main.tw14313897822631088780 : True := trivial
theorem main.tw14338814489775629306 : True := trivial
theorem main.tw14364048958407549093 : True := trivial
theorem main.tw14368271195830560734 : True := trivial
theorem main.tw14377536511252160716 : True := trivial
theorem main.tw14390754486103292620 : True := trivial
theorem main.tw14406990849044604362 : True := trivial
theorem main.tw14434421111180942941 : True := trivial
theorem main.tw14439473939278146460 : True := trivial
theorem main.tw14443092014599818573 : True := trivial
theorem main.tw14457758005677747962 : True := trivial
theorem main.tw14489535830319231195 : True := trivial
theorem main.tw14492832472218066102 : True := trivial
theorem main.tw14504180641510445567 : True := trivial
theorem main.tw14510055921401542917 : True := trivial
theorem main.tw14513571923725367585 : True := trivial
theorem main.tw14535484193269619989 : True := trivial
theorem main.tw1454224541498743561 : True := trivial
theorem main.tw14554314840745968623 : True := trivial
theorem main.tw14562738103837258888 : True := trivial
theorem main.tw14635473669698735251 : True := trivial
theorem main.tw14636892021812066514 : True := trivial
theorem main.tw14637806741061077295 : True := trivial
theorem main.tw14639212616227390028 : True := trivial
theorem main.tw14640416626631428029 : True := trivial
theorem main.tw14646587721710459877 : True := trivial
theorem main.tw14650418986710179151 : True := trivial
theorem main.tw14662554035588321541 : True := trivial
theorem main.tw14666387041718499266 : True := trivial
theorem main.tw14672674291997333471 : True := trivial
theorem main.tw14698241182937546978 : True := trivial
theorem main.tw1469836325065767749 : True := trivial
theorem main.tw14699326698120687454 : True := trivial
theorem main.tw14708136634888185200 : True := trivial
theorem main.tw14721343552236136636 : True := trivial
theorem main.tw14722489848711283861 : True := trivial
theorem main.tw14759895335926876869 : True := trivial
theorem main.tw14788915703135433725 : True := trivial
theorem main.tw14793117695081215449 : True := trivial
theorem main.tw14805756002866571830 : True := trivial
theorem main.tw14806125269305119590 : True := trivial
theorem main.tw14814594519894181452 : True := trivial
theorem main.tw14849204138880929251 : True := trivial
theorem main.tw14859100970857779836 : True := trivial
theorem main.tw14864636224205547913 : True := trivial
theorem main.tw14864641218109852296 : True := trivial
theorem main.tw14893090268090260817 : True := trivial
theorem main.tw14907226015203709474 : True := trivial
theorem main.tw14925635105145352654 : True := trivial
theorem main.tw14962632401376961426 : True := trivial
theorem main.tw14966384500751655702 : True := trivial
theorem main.tw1496695287857109588 : True := trivial
theorem main.tw15015129292197451723 : True := trivial
theorem main.tw15017983477296125989 : True := trivial
theorem main.tw15022946984557111684 : True := trivial
theorem main.tw1504049600530537962 : True := trivial
theorem main.tw15059693217772790739 : True := trivial
theorem main.tw15062679425460387418 : True := trivial
theorem main.tw15079240505294077160 : True := trivial
theorem main.tw15097543051748444868 : True := trivial
theorem main.tw15098031235356848795 : True := trivial
theorem main.tw15099666538600903773 : True := trivial
theorem main.tw15109750227778091905 : True := trivial
theorem main.tw15131278010643852716 : True := trivial
theorem main.tw15136431859952498927 : True := trivial
theorem main.tw1519927702969063271 : True := trivial
theorem main.tw1519992759497675636 : True := trivial
theorem main.tw15225127925928830808 : True := trivial
theorem main.tw15244097889725654702 : True := trivial
theorem main.tw15267601115554557575 : True := trivial
theorem main.tw15270170921892066516 : True := trivial
theorem main.tw15277975159832343749 : True := trivial
theorem main.tw15303317825217679618 : True := trivial
theorem main.tw15312394840280087653 : True := trivial
theorem main.tw15326346284793698685 : True := trivial
theorem main.tw15331262790651375711 : True := trivial
theorem main.tw15342904991969174519 : True := trivial
theorem main.tw15349116539110830665 : True := trivial
theorem main.tw15350898050860989542 : True := trivial
theorem main.tw15356762974548107741 : True := trivial
theorem main.tw15360551289657543444 : True := trivial
theorem main.tw15365013842991253249 : True := trivial
theorem main.tw15387884906608193903 : True := trivial
theorem main.tw15410482203810522393 : True := trivial
theorem main.tw15425874342098770709 : True := trivial
theorem main.tw15432235134303409840 : True := trivial
theorem main.tw15438212644395081984 : True := trivial
theorem main.tw15439916977582995767 : True := trivial
theorem main.tw1544020853599562407 : True := trivial
theorem main.tw15445229340043853549 : True := trivial
theorem main.tw15446329576048744955 : True := trivial
theorem main.tw15462805331683769031 : True := trivial
theorem main.tw15467891735981029475 : True := trivial
theorem main.tw1548279923187021627 : True := trivial
theorem main.tw15485851114877660061 : True := trivial
theorem main.tw15510692781650021527 : True := trivial
theorem main.tw15514936471743626214 : True := trivial
theorem main.tw1552421926411342777 : True := trivial
theorem main.tw15525231078475896479 : True := trivial
theorem main.tw15540984915698410164 : True := trivial
theorem main.tw15554039934745177238 : True := trivial
theorem main.tw15556330048392946422 : True := trivial
theorem main.tw15558288988949320067 : True := trivial
theorem main.tw15565075772751903193 : True := trivial
theorem main.tw15579395750891953841 : True := trivial
theorem main.tw15589955886551607785 : True := trivial
theorem main.tw15595112118272840620 : True := trivial
theorem main.tw15606653302220566414 : True := trivial
theorem main.tw15608450976537380609 : True := trivial
theorem main.tw15616401959046598769 : True := trivial
theorem main.tw15624239662980076321 : True := trivial
theorem main.tw15631942387314964779 : True := trivial
theorem main.tw1563851997348079045 : True := trivial
theorem main.tw15643365686152983790 : True := trivial
theorem main.tw15649996292582860464 : True := trivial
theorem main.tw15656275678258859468 : True := trivial
theorem main.tw15660686498588105780 : True := trivial
theorem main.tw15670109119070698982 : True := trivial
theorem main.tw15672986146971166658 : True := trivial
theorem main.tw15684375888932747349 : True := trivial
theorem main.tw15700715089622651157 : True := trivial
theorem main.tw15734200111481486640 : True := trivial
theorem main.tw15734660467963936456 : True := trivial
theorem main.tw15737690656516749961 : True := trivial
theorem main.tw15768048840197415361 : True := trivial
theorem main.tw15772080087578916929 : True := trivial
theorem main.tw15803610866087392283 : True := trivial
theorem main.tw15810667371194948217 : True := trivial
theorem main.tw15823345248772276812 : True := trivial
theorem main.tw1582473646724877295 : True := trivial
theorem main.tw15845428651173386099 : True := trivial
theorem main.tw1590763530083325563 : True := trivial
theorem main.tw15920655101920903262 : True := trivial
theorem main.tw15928290008803537013 : True := trivial
theorem main.tw15946588712089971113 : True := trivial
theorem main.tw15949526494057022110 : True := trivial
theorem main.tw15949945782058816826 : True := trivial
theorem main.tw15950006927108054178 : True := trivial
theorem main.tw15955573374722617477 : True := trivial
theorem main.tw15957597259013190341 : True := trivial
theorem main.tw15970538086172389420 : True := trivial
theorem main.tw15984706205718930553 : True := trivial
theorem main.tw16008252555379753968 : True := trivial
theorem main.tw16008457594558532635 : True := trivial
theorem main.tw16022572192331126682 : True := trivial
theorem main.tw16026485685270457870 : True := trivial
theorem main.tw16026775910206950810 : True := trivial
theorem main.tw16033097090804400913 : True := trivial
theorem main.tw16035907590883218939 : True := trivial
theorem main.tw16046730324260685337 : True := trivial
theorem main.tw16049902774474827687 : True := trivial
theorem main.tw16057503054469045564 : True := trivial
theorem main.tw1606137496264982490 : True := trivial
theorem main.tw16097269412956081036 : True := trivial
theorem main.tw16128220689672181975 : True := trivial
theorem main.tw16135426469972691074 : True := trivial
theorem main.tw16136984950599521427 : True := trivial
theorem main.tw16142765227538719955 : True := trivial
theorem main.tw16153351446899991344 : True := trivial
theorem main.tw16153842264607907944 : True := trivial
theorem main.tw1615956725737779560 : True := trivial
theorem main.tw16187894506366716058 : True := trivial
theorem main.tw161903638078081290 : True := trivial
theorem main.tw16193401482309157537 : True := trivial
theorem main.tw16203622797070002922 : True := trivial
theorem main.tw16218864148678617972 : True := trivial
theorem main.tw16235428439501865183 : True := trivial
theorem main.tw16251939892948500945 : True := trivial
theorem main.tw16292202817602668162 : True := trivial
theorem main.tw16304157974115477746 : True := trivial
theorem main.tw16305672181175384284 : True := trivial
theorem main.tw1632041292262086317 : True := trivial
theorem main.tw16320729459185622934 : True := trivial
theorem main.tw16338599768312175441 : True := trivial
theorem main.tw16355746345580011080 : True := trivial
theorem main.tw16356685582667847594 : True := trivial
theorem main.tw16396084126727719574 : True := trivial
theorem main.tw16411370214107742406 : True := trivial
theorem main.tw16424990018577422225 : True := trivial
theorem main.tw16444908283905695728 : True := trivial
theorem main.tw16452447596832230105 : True := trivial
theorem main.tw1645717771770832407 : True := trivial
theorem main.tw16480584520131690045 : True := trivial
theorem main.tw16501172079758305675 : True := trivial
theorem main.tw16508919721030705984 : True := trivial
theorem main.tw16519101796099990279 : True := trivial
theorem main.tw16544489699163171333 : True := trivial
theorem main.tw16551855485269240956 : True := trivial
theorem main.tw16572128252103988241 : True := trivial
theorem main.tw16629339528299215175 : True := trivial
theorem main.tw16641786646906312760 : True := trivial
theorem main.tw16651728564920304373 : True := trivial
theorem main.tw16676564476587882173 : True := trivial
theorem main.tw16689149305811164139 : True := trivial
theorem main.tw16723884430069596700 : True := trivial
theorem main.tw16755849432154420019 : True := trivial
theorem main.tw16757190730947197508 : True := trivial
theorem main.tw16758809965011540125 : True := trivial
theorem main.tw16765925921980633802 : True := trivial
theorem main.tw1677766988990989824 : True := trivial
theorem main.tw16778611742570070204 : True := trivial
theorem main.tw16784772322866675431 : True := trivial
theorem main.tw1678875084529416142 : True := trivial
theorem main.tw16790050636404226231 : True := trivial
theorem main.tw16798207577519904205 : True := trivial
theorem main.tw16800174490765802232 : True := trivial
theorem main.tw16806246253224384389 : True := trivial
theorem main.tw16817993663026736274 : True := trivial
theorem main.tw16819838333489098493 : True := trivial
theorem main.tw16832360635688203351 : True := trivial
theorem main.tw16863156106696720372 : True := trivial
theorem main.tw16877947373546393871 : True := trivial
theorem main.tw16891041157754790011 : True := trivial
theorem main.tw16922381011570985944 : True := trivial
theorem main.tw16923884221124529275 : True := trivial
theorem main.tw16932134980577923087 : True := trivial
theorem main.tw16943783955940068219 : True := trivial
theorem main.tw16950194794029067938 : True := trivial
theorem main.tw16952715711813285254 : True := trivial
theorem main.tw16959884160788844718 : True := trivial
theorem main.tw16962576782160293788 : True := trivial
theorem main.tw169701792822576828 : True := trivial
theorem main.tw16972566868458125486 : True := trivial
theorem main.tw16989488325979979065 : True := trivial
theorem main.tw17016820405989369747 : True := trivial
theorem main.tw17025424565251489684 : True := trivial
theorem main.tw17028514697001254897 : True := trivial
theorem main.tw17052023290607921161 : True := trivial
theorem main.tw17057053908230417247 : True := trivial
theorem main.tw17067035981215421688 : True := trivial
theorem main.tw1707505545463187130 : True := trivial
theorem main.tw17091655785135471103 : True := trivial
theorem main.tw17110241357884498264 : True := trivial
theorem main.tw17118054049896295152 : True := trivial
theorem main.tw17120147093228096131 : True := trivial
theorem main.tw17121411545882068716 : True := trivial
theorem main.tw17128291446047057950 : True := trivial
theorem main.tw17128476026691140212 : True := trivial
theorem main.tw17144978775634262171 : True := trivial
theorem main.tw17147588175821073265 : True := trivial
theorem main.tw1714950047550659301 : True := trivial
theorem main.tw17181708857964376112 : True := trivial
theorem main.tw17185042187573640451 : True := trivial
theorem main.tw17201416709059790184 : True := trivial
theorem main.tw17223442867436993403 : True := trivial
theorem main.tw17227442419121036007 : True := trivial
theorem main.tw17236958762192778904 : True := trivial
theorem main.tw1726573815893927611 : True := trivial
theorem main.tw17272174723667511238 : True := trivial
theorem main.tw17275675667316583603 : True := trivial
theorem main.tw17290568124846718506 : True := trivial
theorem main.tw17292155258170135553 : True := trivial
theorem main.tw17297283025540448806 : True := trivial
theorem main.tw17298271098590275757 : True := trivial
theorem main.tw17298425922696826006 : True := trivial
theorem main.tw17321455926096237517 : True := trivial
theorem main.tw17336282652733537790 : True := trivial
theorem main.tw17353955331779342651 : True := trivial
theorem main.tw17402982504261768225 : True := trivial
theorem main.tw17403364634526059139 : True := trivial
theorem main.tw17413806152003534235 : True := trivial
theorem main.tw17431719831054627609 : True := trivial
theorem main.tw17438294365789470252 : True := trivial
theorem main.tw17445186720391901401 : True := trivial
theorem main.tw17450470499104002142 : True := trivial
theorem main.tw17453503289922162039 : True := trivial
theorem main.tw17458222814019902071 : True := trivial
theorem main.tw17474269916031935128 : True := trivial
theorem main.tw17477492558424962760 : True := trivial
theorem main.tw17493723678399337961 : True := trivial
theorem main.tw17495560712657236704 : True := trivial
theorem main.tw17549376196938852968 : True := trivial
theorem main.tw17563168436475441343 : True := trivial
theorem main.tw17585224947871030625 : True := trivial
theorem main.tw17600866488970185278 : True := trivial
theorem main.tw1760738671323445664 : True := trivial
theorem main.tw17644181745481072423 : True := trivial
theorem main.tw17647351573629430322 : True := trivial
theorem main.tw17675692182617842107 : True := trivial
theorem main.tw17679725944135375923 : True := trivial
theorem main.tw17695171507069755227 : True := trivial
theorem main.tw17699438841360665129 : True := trivial
theorem main.tw17708018870387108518 : True := trivial
theorem main.tw17715262827843222689 : True := trivial
theorem main.tw17725498274588495791 : True := trivial
theorem main.tw17734603463515337306 : True := trivial
theorem main.tw17737603089517620647 : True := trivial
theorem main.tw17749094844149355310 : True := trivial
theorem main.tw17760185653835241220 : True := trivial
theorem main.tw17767330081159143506 : True := trivial
theorem main.tw177775050355212561 : True := trivial
theorem main.tw17810739071172958242 : True := trivial
theorem main.tw1781223760143429554 : True := trivial
theorem main.tw17817656438006933710 : True := trivial
theorem main.tw17864028415675338326 : True := trivial
theorem main.tw17871620999419790863 : True := trivial
theorem main.tw17904854198161793398 : True := trivial
theorem main.tw17906638245316424091 : True := trivial
theorem main.tw17920292393507637884 : True := trivial
theorem main.tw17943756269633507525 : True := trivial
theorem main.tw17958375852430007124 : True := trivial
theorem main.tw17974016328880235120 : True := trivial
theorem main.tw18005423509665057918 : True := trivial
theorem main.tw18031918436515192882 : True := trivial
theorem main.tw18046886581883190830 : True := trivial
theorem main.tw18120430973489738927 : True := trivial
theorem main.tw18134284020713443437 : True := trivial
theorem main.tw18165044119631177899 : True := trivial
theorem main.tw18178676814319149831 : True := trivial
theorem main.tw18190005008629794160 : True := trivial
theorem main.tw18218335207050127959 : True := trivial
theorem main.tw18226936182919597279 : True := trivial
theorem main.tw18234761425742761375 : True := trivial
theorem main.tw18238007617527299592 : True := trivial
theorem main.tw1826329307503635854 : True := trivial
theorem main.tw18268577344462482543 : True := trivial
theorem main.tw18284262389922463811 : True := trivial
theorem main.tw18287795668848337631 : True := trivial
theorem main.tw18288009448212308685 : True := trivial
theorem main.tw18299278520007996690 : True := trivial
theorem main.tw18302796317244248524 : True := trivial
theorem main.tw18314829044154829275 : True := trivial
theorem main.tw18315214858253571532 : True := trivial
theorem main.tw18317609476662902477 : True := trivial
theorem main.tw18325589031809861271 : True := trivial
theorem main.tw18328743936084910167 : True := trivial
theorem main.tw18332899500509843999 : True := trivial
theorem main.tw18342001204779339714 : True := trivial
theorem main.tw18344032359734412310 : True := trivial
theorem main.tw18385570937342765463 : True := trivial
theorem main.tw18392154025008590481 : True := trivial
theorem main.tw18406820200293129166 : True := trivial
theorem main.tw18418235949754561950 : True := trivial
theorem main.tw18421580907717582127 : True := trivial
theorem main.tw18425317256667529438 : True := trivial
theorem main.tw18438843042052247593 : True := trivial
theorem main.tw18446094637698972617 : True := trivial
theorem main.tw1850612553970854742 : True := trivial
theorem main.tw1886080085820668685 : True := trivial
theorem main.tw192115239477571890 : True := trivial
theorem main.tw1945474814985131150 : True := trivial
theorem main.tw1980160206288974728 : True := trivial
theorem main.tw2007339730380871907 : True := trivial
theorem main.tw2012372014189735793 : True := trivial
theorem main.tw2019394398466159022 : True := trivial
theorem main.tw2021556316718937628 : True := trivial
theorem main.tw2033968301974640842 : True := trivial
theorem main.tw2058021452347087232 : True := trivial
theorem main.tw2110754180369666209 : True := trivial
theorem main.tw2127038452521536779 : True := trivial
theorem main.tw2173562974560187446 : True := trivial
theorem main.tw2190695567426971638 : True := trivial
theorem main.tw2195194259037543316 : True := trivial
theorem main.tw221909299271738847 : True := trivial
theorem main.tw2225892363528398861 : True := trivial
theorem main.tw2225956059507018244 : True := trivial
theorem main.tw223528310411579522 : True := trivial
theorem main.tw2238316416991798583 : True := trivial
theorem main.tw2261811237465622523 : True := trivial
theorem main.tw2278972029675796859 : True := trivial
theorem main.tw2279707942289718827 : True := trivial
theorem main.tw2287093442842179507 : True := trivial
theorem main.tw2337230598321646361 : True := trivial
theorem main.tw2341703837736514645 : True := trivial
theorem main.tw234599468654550697 : True := trivial
theorem main.tw2354262462317623899 : True := trivial
theorem main.tw2363833142923657126 : True := trivial
theorem main.tw2373237607127697691 : True := trivial
theorem main.tw2399826469436781019 : True := trivial
theorem main.tw2402762420636078793 : True := trivial
theorem main.tw2406621943657119228 : True := trivial
theorem main.tw2428295752970291494 : True := trivial
theorem main.tw2428412748925179849 : True := trivial
theorem main.tw2433702464844828792 : True := trivial
theorem main.tw2442773178527959075 : True := trivial
theorem main.tw244467455267321384 : True := trivial
theorem main.tw2456247091588846565 : True := trivial
theorem main.tw2484414159333256978 : True := trivial
theorem main.tw2538046985915079169 : True := trivial
theorem main.tw2542808073141276813 : True := trivial
theorem main.tw2544328076492683441 : True := trivial
theorem main.tw2564707057010578714 : True := trivial
theorem main.tw2578716770215212684 : True := trivial
theorem main.tw2583023086579268501 : True := trivial
theorem main.tw2599750674813586877 : True := trivial
theorem main.tw2610264678010444752 : True := trivial
theorem main.tw2629084897520917108 : True := trivial
theorem main.tw2647654807098235363 : True := trivial
theorem main.tw2653321512126949328 : True := trivial
theorem main.tw2672093188730551128 : True := trivial
theorem main.tw2675658811408624930 : True := trivial
theorem main.tw270496394426124508 : True := trivial
theorem main.tw2707173551233143345 : True := trivial
theorem main.tw2709746457059553413 : True := trivial
theorem main.tw2714283472998740243 : True := trivial
theorem main.tw2729793432009153956 : True := trivial
theorem main.tw2744014450722944760 : True := trivial
theorem main.tw2746410346276389187 : True := trivial
theorem main.tw2750411421705246143 : True := trivial
theorem main.tw2758626574066147185 : True := trivial
theorem main.tw2759098988195820126 : True := trivial
theorem main.tw2815835355862285053 : True := trivial
theorem main.tw2821470743931037460 : True := trivial
theorem main.tw2847738043507502446 : True := trivial
theorem main.tw2852251193174398662 : True := trivial
theorem main.tw2855982326401850692 : True := trivial
theorem main.tw2895952525429962455 : True := trivial
theorem main.tw2900998541784483753 : True := trivial
theorem main.tw2906824675625879941 : True := trivial
theorem main.tw2921621734765799159 : True := trivial
theorem main.tw2923286348875671695 : True := trivial
theorem main.tw2923326968966308885 : True := trivial
theorem main.tw2965820268544440810 : True := trivial
theorem main.tw302440914744352476 : True := trivial
theorem main.tw3025206774131333587 : True := trivial
theorem main.tw3033261876257692807 : True := trivial
theorem main.tw3045742163950154196 : True := trivial
theorem main.tw3056878081241006185 : True := trivial
theorem main.tw3136416535801588117 : True := trivial
theorem main.tw3137596982192898869 : True := trivial
theorem main.tw31828345220925962 : True := trivial
theorem main.tw3203809635103463919 : True := trivial
theorem main.tw3220561703981169602 : True := trivial
theorem main.tw3222223853247747169 : True := trivial
theorem main.tw3234112476842188716 : True := trivial
theorem main.tw3262662943086543052 : True := trivial
theorem main.tw3288582142898991060 : True := trivial
theorem main.tw3298483428156984901 : True := trivial
theorem main.tw3299218664060906527 : True := trivial
theorem main.tw3305931106042330821 : True := trivial
theorem main.tw332758519628413355 : True := trivial
theorem main.tw3331794540790959469 : True := trivial
theorem main.tw3332543467307319023 : True := trivial
theorem main.tw3342365933539840098 : True := trivial
theorem main.tw3343439749351644125 : True := trivial
theorem main.tw33456957511925785 : True := trivial
theorem main.tw3372685494851243017 : True := trivial
theorem main.tw3374421720907634814 : True := trivial
theorem main.tw3394367416137920725 : True := trivial
theorem main.tw341453280667917650 : True := trivial
theorem main.tw3422715526262721465 : True := trivial
theorem main.tw3459380146013217038 : True := trivial
theorem main.tw3464005467892915075 : True := trivial
theorem main.tw3464709057266567092 : True := trivial
theorem main.tw3466206800631347469 : True := trivial
theorem main.tw3491332818749588091 : True := trivial
theorem main.tw3517876565156422858 : True := trivial
theorem main.tw3532412968194664532 : True := trivial
theorem main.tw3546150205236023746 : True := trivial
theorem main.tw3557749057250611081 : True := trivial
theorem main.tw3558987517978398910 : True := trivial
theorem main.tw3562595001068472590 : True := trivial
theorem main.tw3583811862363856187 : True := trivial
theorem main.tw358491910552652209 : True := trivial
theorem main.tw3613476055612923068 : True := trivial
theorem main.tw3626430660855392483 : True := trivial
theorem main.tw3627144658338631552 : True := trivial
theorem main.tw3635900802997115186 : True := trivial
theorem main.tw365850788961202214 : True := trivial
theorem main.tw3706830351922483016 : True := trivial
theorem main.tw3714520120236048840 : True := trivial
theorem main.tw3724484323120607773 : True := trivial
theorem main.tw372505627349444580 : True := trivial
theorem main.tw3748114642381145586 : True := trivial
theorem main.tw3750506576032048294 : True := trivial
theorem main.tw3765679834809317522 : True := trivial
theorem main.tw3773551536758053184 : True := trivial
theorem main.tw3796207824708393856 : True := trivial
theorem main.tw3814186520784112166 : True := trivial
theorem main.tw3848698983108048278 : True := trivial
theorem main.tw385192861453195556 : True := trivial
theorem main.tw3864431920445960829 : True := trivial
theorem main.tw3867218068155391060 : True := trivial
theorem main.tw3881243767933311072 : True := trivial
theorem main.tw3905226178654972811 : True := trivial
theorem main.tw3911810758690780188 : True := trivial
theorem main.tw3934531018447913466 : True := trivial
theorem main.tw3958507339218470045 : True := trivial
theorem main.tw3994622017586750766 : True := trivial
theorem main.tw4026173324967665524 : True := trivial
theorem main.tw4038153913678941442 : True := trivial
theorem main.tw4038928485795849711 : True := trivial
theorem main.tw4044139247061151142 : True := trivial
theorem main.tw4047586217144654443 : True := trivial
theorem main.tw4072190877284726289 : True := trivial
theorem main.tw4088224383575840552 : True := trivial
theorem main.tw4126091431370883743 : True := trivial
theorem main.tw4139100593308808776 : True := trivial
theorem main.tw4156125974679941130 : True := trivial
theorem main.tw4156893749530806270 : True := trivial
theorem main.tw4189750870438640210 : True := trivial
theorem main.tw4193505271845495863 : True := trivial
theorem main.tw4194166747334905412 : True := trivial
theorem main.tw4210618832060959676 : True := trivial
theorem main.tw4216741518440994707 : True := trivial
theorem main.tw4219356904048308301 : True := trivial
theorem main.tw4224085472438146562 : True := trivial
theorem main.tw4244067443239231564 : True := trivial
theorem main.tw4258463428174104133 : True := trivial
theorem main.tw4261964983698606537 : True := trivial
theorem main.tw4297412468100583042 : True := trivial
theorem main.tw4298948579791158832 : True := trivial
theorem main.tw4310270188432123100 : True := trivial
theorem main.tw4333880214566435006 : True := trivial
theorem main.tw4350604851675314991 : True := trivial
theorem main.tw4359638763739663684 : True := trivial
theorem main.tw4365514962571936147 : True := trivial
theorem main.tw4370134204219402791 : True := trivial
theorem main.tw4370652028205933106 : True := trivial
theorem main.tw4385281892830598654 : True := trivial
theorem main.tw4413345314126155841 : True := trivial
theorem main.tw4420394385881154636 : True := trivial
theorem main.tw4458048076830672230 : True := trivial
theorem main.tw4475767826048309731 : True := trivial
theorem main.tw4491334807805099456 : True := trivial
theorem main.tw4500915450034043215 : True := trivial
theorem main.tw4502447428920916452 : True := trivial
theorem main.tw451873465583785326 : True := trivial
theorem main.tw453184122279072053 : True := trivial
theorem main.tw4535713693919183956 : True := trivial
theorem main.tw4544244032028310869 : True := trivial
theorem main.tw4573282807186111410 : True := trivial
theorem main.tw4585930131862741453 : True := trivial
theorem main.tw4587069139193485165 : True := trivial
theorem main.tw4624279725371242751 : True := trivial
theorem main.tw4637267157515435788 : True := trivial
theorem main.tw4638281056170512193 : True := trivial
theorem main.tw4643574855230585316 : True := trivial
theorem main.tw4644634924443464280 : True := trivial
theorem main.tw4650958065196391918 : True := trivial
theorem main.tw4651154628705390771 : True := trivial
theorem main.tw4681395471914393968 : True := trivial
theorem main.tw470481871638761223 : True := trivial
theorem main.tw4741876487499883015 : True := trivial
theorem main.tw4749052000479324790 : True := trivial
theorem main.tw4775608329324902142 : True := trivial
theorem main.tw4784553394551972577 : True := trivial
theorem main.tw4787216691285184274 : True := trivial
theorem main.tw4812270449578504274 : True := trivial
theorem main.tw4817600198373253283 : True := trivial
theorem main.tw4838787530573997063 : True := trivial
theorem main.tw4839478117068044826 : True := trivial
theorem main.tw4871624949866520906 : True := trivial
theorem main.tw4886955015573163100 : True := trivial
theorem main.tw4887914996728235509 : True := trivial
theorem main.tw4888631031703053926 : True := trivial
theorem main.tw4900431672193113347 : True := trivial
theorem main.tw4908570168794737769 : True := trivial
theorem main.tw4917070330192852093 : True := trivial
theorem main.tw4924694640843408985 : True := trivial
theorem main.tw4948327476702027199 : True := trivial
theorem main.tw495442525896006271 : True := trivial
theorem main.tw4966469486753893531 : True := trivial
theorem main.tw49674306023711395 : True := trivial
theorem main.tw4967792270526972898 : True := trivial
theorem main.tw4990475226369331113 : True := trivial
theorem main.tw5004366561265856203 : True := trivial
theorem main.tw5010051100324977839 : True := trivial
theorem main.tw5061512775090418087 : True := trivial
theorem main.tw5102693214775723256 : True := trivial
theorem main.tw5102715291955495162 : True := trivial
theorem main.tw5127751686995613262 : True := trivial
theorem main.tw5160751907100791332 : True := trivial
theorem main.tw5181119749688162637 : True := trivial
theorem main.tw5187475735202908035 : True := trivial
theorem main.tw5203219222101121401 : True := trivial
theorem main.tw52199770228462824 : True := trivial
theorem main.tw5240536507193477226 : True := trivial
theorem main.tw5240779543111244032 : True := trivial
theorem main.tw5243159528196176124 : True := trivial
theorem main.tw526373878138232175 : True := trivial
theorem main.tw5268168578311729375 : True := trivial
theorem main.tw5287059835090251167 : True := trivial
theorem main.tw5289026146741335887 : True := trivial
theorem main.tw5303952258864922383 : True := trivial
theorem main.tw5309058905264134205 : True := trivial
theorem main.tw5343319030673445083 : True := trivial
theorem main.tw5352104535322881683 : True := trivial
theorem main.tw5363903885879670357 : True := trivial
theorem main.tw5372645768047454471 : True := trivial
theorem main.tw5378808338967829844 : True := trivial
theorem main.tw5396361742852586263 : True := trivial
theorem main.tw5400957986263281647 : True := trivial
theorem main.tw5401703158475992631 : True := trivial
theorem main.tw5418533224930618480 : True := trivial
theorem main.tw5429521446212928802 : True := trivial
theorem main.tw5435614590818080486 : True := trivial
theorem main.tw5450094653865882931 : True := trivial
theorem main.tw545269030811804461 : True := trivial
theorem main.tw5456330333991267789 : True := trivial
theorem main.tw5461779845614304980 : True := trivial
theorem main.tw5464139401052260700 : True := trivial
theorem main.tw5473700226181020891 : True := trivial
theorem main.tw5477019107358212144 : True := trivial
theorem main.tw54841869916938688 : True := trivial
theorem main.tw5491092008493831813 : True := trivial
theorem main.tw5502569546826302122 : True := trivial
theorem main.tw5507402815253087181 : True := trivial
theorem main.tw5518243967957118194 : True := trivial
theorem main.tw5527929279227188259 : True := trivial
theorem main.tw5532463470591059822 : True := trivial
theorem main.tw5571399437266216444 : True := trivial
theorem main.tw5585478044538960755 : True := trivial
theorem main.tw559524936150403780 : True := trivial
theorem main.tw5601763658159288215 : True := trivial
theorem main.tw5607547640370502180 : True := trivial
theorem main.tw5613160597433933154 : True := trivial
theorem main.tw5616070069386785504 : True := trivial
theorem main.tw5638201095994319732 : True := trivial
theorem main.tw563973728909168745 : True := trivial
theorem main.tw5649967823195072380 : True := trivial
theorem main.tw5665406974723832613 : True := trivial
theorem main.tw5665735395497279834 : True := trivial
theorem main.tw5666177248786114152 : True := trivial
theorem main.tw5671064798259553346 : True := trivial
theorem main.tw5677329702179833609 : True := trivial
theorem main.tw5781596087445459943 : True := trivial
theorem main.tw5790326737455844299 : True := trivial
theorem main.tw5831584030425509755 : True := trivial
theorem main.tw5837888446457221635 : True := trivial
theorem main.tw5838101520590548733 : True := trivial
theorem main.tw5839530249802149432 : True := trivial
theorem main.tw5865035375444044283 : True := trivial
theorem main.tw5871769198996169552 : True := trivial
theorem main.tw588950844065142505 : True := trivial
theorem main.tw5890889631881817875 : True := trivial
theorem main.tw5900072995565114194 : True := trivial
theorem main.tw5921134243170700561 : True := trivial
theorem main.tw5942767615974559732 : True := trivial
theorem main.tw5947248009782088908 : True := trivial
theorem main.tw5995161000843957690 : True := trivial
theorem main.tw6053611964639427726 : True := trivial
theorem main.tw6056095068991171605 : True := trivial
theorem main.tw6063798129297943090 : True := trivial
theorem main.tw6075091234017535682 : True := trivial
theorem main.tw6087835443962453003 : True := trivial
theorem main.tw6103277080523754091 : True := trivial
theorem main.tw6106196091520820027 : True := trivial
theorem main.tw6112859857366181021 : True := trivial
theorem main.tw6137908229700043457 : True := trivial
theorem main.tw6140287776057189764 : True := trivial
theorem main.tw6161133996638707016 : True := trivial
theorem main.tw6162249291895867263 : True := trivial
theorem main.tw6164561884633627433 : True := trivial
theorem main.tw6183352029847204284 : True := trivial
theorem main.tw6194229883695054029 : True := trivial
theorem main.tw6203846247750671552 : True := trivial
theorem main.tw6222487380544312443 : True := trivial
theorem main.tw6234934611588079204 : True := trivial
theorem main.tw6237627108579964202 : True := trivial
theorem main.tw6252391252262179987 : True := trivial
theorem main.tw6254453501864316152 : True := trivial
theorem main.tw6264281720289328834 : True := trivial
theorem main.tw6283666216762299864 : True := trivial
theorem main.tw6290756581336388110 : True := trivial
theorem main.tw6298394922185409918 : True := trivial
theorem main.tw6334894449686545209 : True := trivial
theorem main.tw6361450105264607166 : True := trivial
theorem main.tw6384028539975533837 : True := trivial
theorem main.tw6385024630547198690 : True := trivial
theorem main.tw6389877041954997217 : True := trivial
theorem main.tw6394338452064613244 : True := trivial
theorem main.tw6404898279339705064 : True := trivial
theorem main.tw6418202794160714309 : True := trivial
theorem main.tw6425626318312657004 : True := trivial
theorem main.tw6437645805973890128 : True := trivial
theorem main.tw6449824600675878752 : True := trivial
theorem main.tw645136716886899192 : True := trivial
theorem main.tw6455149578367423246 : True := trivial
theorem main.tw6475547167118216264 : True := trivial
theorem main.tw6483966928607899096 : True := trivial
theorem main.tw6508729118710982530 : True := trivial
theorem main.tw6511744376749373798 : True := trivial
theorem main.tw6512923179152221375 : True := trivial
theorem main.tw6516198228755648517 : True := trivial
theorem main.tw6519269512792494810 : True := trivial
theorem main.tw6535589618603614281 : True := trivial
theorem main.tw6559806142732475569 : True := trivial
theorem main.tw65644731488775911 : True := trivial
theorem main.tw6565609875121592624 : True := trivial
theorem main.tw6569515737239586001 : True := trivial
theorem main.tw6570437773673931950 : True := trivial
theorem main.tw657867468410044558 : True := trivial
theorem main.tw6584820252761975732 : True := trivial
theorem main.tw6590341273101898363 : True := trivial
theorem main.tw6596593509180878263 : True := trivial
theorem main.tw6605025701479795990 : True := trivial
theorem main.tw66260789543402106 : True := trivial
theorem main.tw6632538468102435922 : True := trivial
theorem main.tw6635558491612396129 : True := trivial
theorem main.tw6639522245352263942 : True := trivial
theorem main.tw6640438233256266117 : True := trivial
theorem main.tw6657087868060814 : True := trivial
theorem main.tw6660377722381337597 : True := trivial
theorem main.tw6662919308723722847 : True := trivial
theorem main.tw6696893160125735727 : True := trivial
theorem main.tw6697339332421208802 : True := trivial
theorem main.tw6702130215012162313 : True := trivial
theorem main.tw6716461878193332318 : True := trivial
theorem main.tw6741292078354696603 : True := trivial
theorem main.tw6768520987592691376 : True := trivial
theorem main.tw6785657489111691699 : True := trivial
theorem main.tw6788530277367551627 : True := trivial
theorem main.tw6788695710022549768 : True := trivial
theorem main.tw6841729502297724509 : True := trivial
theorem main.tw6855474311058116810 : True := trivial
theorem main.tw6862268138105152660 : True := trivial
theorem main.tw6862492499505807319 : True := trivial
theorem main.tw6868236387235032019 : True := trivial
theorem main.tw6877560268529008848 : True := trivial
theorem main.tw6880717277089553138 : True := trivial
theorem main.tw6886502059237256666 : True := trivial
theorem main.tw6898400011967081535 : True := trivial
theorem main.tw6907636171062424033 : True := trivial
theorem main.tw6910295442248876197 : True := trivial
theorem main.tw6912675738884088206 : True := trivial
theorem main.tw6914184659022975773 : True := trivial
theorem main.tw6921685317656363116 : True := trivial
theorem main.tw6935676897619631941 : True := trivial
theorem main.tw6981580820607432535 : True := trivial
theorem main.tw6981815665589151136 : True := trivial
theorem main.tw7010351842590255796 : True := trivial
theorem main.tw7030361059566637834 : True := trivial
theorem main.tw7054876372555587774 : True := trivial
theorem main.tw7064129683507517428 : True := trivial
theorem main.tw7070123817558143148 : True := trivial
theorem main.tw7073996269223845280 : True := trivial
theorem main.tw7074144079889050967 : True := trivial
theorem main.tw7083192437325867461 : True := trivial
theorem main.tw7093617532817203218 : True := trivial
theorem main.tw7108953243070827183 : True := trivial
theorem main.tw7113585516715319716 : True := trivial
theorem main.tw7139307881021679148 : True := trivial
theorem main.tw7142256002058171272 : True := trivial
theorem main.tw716429049611869786 : True := trivial
theorem main.tw7165207203227711834 : True := trivial
theorem main.tw7173623326730630234 : True := trivial
theorem main.tw7186131708394509389 : True := trivial
theorem main.tw7214478077546791972 : True := trivial
theorem main.tw7235775444256392728 : True := trivial
theorem main.tw7237411587787531456 : True := trivial
theorem main.tw7268301785047649679 : True := trivial
theorem main.tw7273056430967151046 : True := trivial
theorem main.tw7293298908176781663 : True := trivial
theorem main.tw7297187181890747607 : True := trivial
theorem main.tw7298748307773712898 : True := trivial
theorem main.tw7299474751278700455 : True := trivial
theorem main.tw7308723440029596264 : True := trivial
theorem main.tw7332330508316399935 : True := trivial
theorem main.tw7332552209862256014 : True := trivial
theorem main.tw734625210370093676 : True := trivial
theorem main.tw7358942708152152329 : True := trivial
theorem main.tw73751810991705359 : True := trivial
theorem main.tw737557766999305713 : True := trivial
theorem main.tw7380652910202371479 : True := trivial
theorem main.tw7394006948641179287 : True := trivial
theorem main.tw742995749975458928 : True := trivial
theorem main.tw7436448052282571913 : True := trivial
theorem main.tw7439787175107056256 : True := trivial
theorem main.tw7472237861779093752 : True := trivial
theorem main.tw7472368607099979303 : True := trivial
theorem main.tw7483713754202142201 : True := trivial
theorem main.tw7487416344156704005 : True := trivial
theorem main.tw750237026923860459 : True := trivial
theorem main.tw7514964652732493775 : True := trivial
theorem main.tw7521444476212097132 : True := trivial
theorem main.tw7554534293552944094 : True := trivial
theorem main.tw7563215957194029611 : True := trivial
theorem main.tw7577966442626303048 : True := trivial
theorem main.tw7590696779544312186 : True := trivial
theorem main.tw7591743695986301205 : True := trivial
theorem main.tw7608694783052223723 : True := trivial
theorem main.tw7623509227018997848 : True := trivial
theorem main.tw7623511443260959870 : True := trivial
theorem main.tw7624122152786673341 : True := trivial
theorem main.tw7624293977416268664 : True := trivial
theorem main.tw7647378279178456250 : True := trivial
theorem main.tw7668756792840097458 : True := trivial
theorem main.tw7675930258259734528 : True := trivial
theorem main.tw7682646441695089857 : True := trivial
theorem main.tw7691172733374981047 : True := trivial
theorem main.tw7697325545964645800 : True := trivial
theorem main.tw7698036289167662538 : True := trivial
theorem main.tw7738227805910978761 : True := trivial
theorem main.tw7742616358663508648 : True := trivial
theorem main.tw7751025194823839400 : True := trivial
theorem main.tw7761410557224570781 : True := trivial
theorem main.tw77895267037239719 : True := trivial
theorem main.tw7846812961960373227 : True := trivial
theorem main.tw785246043732427063 : True := trivial
theorem main.tw7860819179221955721 : True := trivial
theorem main.tw7875838824674609581 : True := trivial
theorem main.tw7883848961242879871 : True := trivial
theorem main.tw7884273913378172499 : True := trivial
theorem main.tw7884331609784382070 : True := trivial
theorem main.tw7904437144335635152 : True := trivial
theorem main.tw7929128423345735474 : True := trivial
theorem main.tw793299525264137939 : True := trivial
theorem main.tw7943094425149488825 : True := trivial
theorem main.tw796168687070700412 : True := trivial
theorem main.tw7963949975375616125 : True := trivial
theorem main.tw7972779244933481256 : True := trivial
theorem main.tw799486724532869496 : True := trivial
theorem main.tw8007011983602947386 : True := trivial
theorem main.tw8046773169563483271 : True := trivial
theorem main.tw8060562821785662972 : True := trivial
theorem main.tw8074507844701363242 : True := trivial
theorem main.tw8079908401900000222 : True := trivial
theorem main.tw8090509862211737132 : True := trivial
theorem main.tw8097255583852266578 : True := trivial
theorem main.tw8101228097874232548 : True := trivial
theorem main.tw8118072479153026202 : True := trivial
theorem main.tw8125125469695226666 : True := trivial
theorem main.tw8127475511531132179 : True := trivial
theorem main.tw8153860185051352139 : True := trivial
theorem main.tw8207831470162742035 : True := trivial
theorem main.tw8211959896082780389 : True := trivial
theorem main.tw8231103150381890471 : True := trivial
theorem main.tw8249873531624179374 : True := trivial
theorem main.tw8260724100714396741 : True := trivial
theorem main.tw8265370782698574782 : True := trivial
theorem main.tw8281396171620568247 : True := trivial
theorem main.tw8283060676807011144 : True := trivial
theorem main.tw8333931099398465171 : True := trivial
theorem main.tw8344883900605922461 : True := trivial
theorem main.tw8344989883159853150 : True := trivial
theorem main.tw834873547066669988 : True := trivial
theorem main.tw836461626020844116 : True := trivial
theorem main.tw836619830093788917 : True := trivial
theorem main.tw8394416109485655870 : True := trivial
theorem main.tw8402242094647718915 : True := trivial
theorem main.tw8419495778230234659 : True := trivial
theorem main.tw8436210846270712021 : True := trivial
theorem main.tw8440099810896429113 : True := trivial
theorem main.tw8466321980469482115 : True := trivial
theorem main.tw8467378866343419333 : True := trivial
theorem main.tw8475525182357872103 : True := trivial
theorem main.tw8478376212529829071 : True := trivial
theorem main.tw8492455212021363390 : True := trivial
theorem main.tw8496349624203035976 : True := trivial
theorem main.tw8528285597010949478 : True := trivial
theorem main.tw8546124895413445307 : True := trivial
theorem main.tw8548823596671561066 : True := trivial
theorem main.tw854953354671613500 : True := trivial
theorem main.tw854977524454699277 : True := trivial
theorem main.tw8557395850702784662 : True := trivial
theorem main.tw8565580760176719406 : True := trivial
theorem main.tw861011362418597151 : True := trivial
theorem main.tw8624498521744291746 : True := trivial
theorem main.tw8627561154394265716 : True := trivial
theorem main.tw8629479287763417060 : True := trivial
theorem main.tw8634654232796393261 : True := trivial
theorem main.tw8639696213024439973 : True := trivial
theorem main.tw8651587035891514320 : True := trivial
theorem main.tw8652556701797213591 : True := trivial
theorem main.tw8663697691656813868 : True := trivial
theorem main.tw8681388529863501421 : True := trivial
theorem main.tw8708525158762292434 : True := trivial
theorem main.tw8729708805864041840 : True := trivial
theorem main.tw8748973510418095054 : True := trivial
theorem main.tw8809968196449919288 : True := trivial
theorem main.tw8828626079734051433 : True := trivial
theorem main.tw8844148875435155314 : True := trivial
theorem main.tw8844999433837080629 : True := trivial
theorem main.tw8879939841973710529 : True := trivial
theorem main.tw8883465813499100731 : True := trivial
theorem main.tw8903568455446660058 : True := trivial
theorem main.tw8905464785575363620 : True := trivial
theorem main.tw8905992674379837232 : True := trivial
theorem main.tw892681787802806017 : True := trivial
theorem main.tw8928990268580360915 : True := trivial
theorem main.tw8930851030842425676 : True := trivial
theorem main.tw8952462522180670554 : True := trivial
theorem main.tw8984930932524396370 : True := trivial
theorem main.tw8989776476301544223 : True := trivial
theorem main.tw9011639564254621642 : True := trivial
theorem main.tw9017568587781654390 : True := trivial
theorem main.tw9054027147675381713 : True := trivial
theorem main.tw9067231828042526015 : True := trivial
theorem main.tw9071729483887776986 : True := trivial
theorem main.tw9155575984036265788 : True := trivial
theorem main.tw9156686268802561153 : True := trivial
theorem main.tw9161159452563919750 : True := trivial
theorem main.tw917386388269078853 : True := trivial
theorem main.tw9175052073728820173 : True := trivial
theorem main.tw9176378728515989820 : True := trivial
theorem main.tw9190990891756207365 : True := trivial
theorem main.tw9211707205177423737 : True := trivial
theorem main.tw9223241232233168608 : True := trivial
theorem main.tw9247501659233101145 : True := trivial
theorem main.tw9253799994812790149 : True := trivial
theorem main.tw9265829497004654079 : True := trivial
theorem main.tw9268297945177815525 : True := trivial
theorem main.tw9272984997812220495 : True := trivial
theorem main.tw9274054859765456524 : True := trivial
theorem main.tw9287587430799945685 : True := trivial
theorem main.tw9293455121233016472 : True := trivial
theorem main.tw9302470337196694018 : True := trivial
theorem main.tw9303439499767911484 : True := trivial
theorem main.tw9321267617633783869 : True := trivial
theorem main.tw9324701786144819629 : True := trivial
theorem main.tw9360745474812902239 : True := trivial
theorem main.tw9361300454564663673 : True := trivial
theorem main.tw9368617206455126095 : True := trivial
theorem main.tw9369988214560726041 : True := trivial
theorem main.tw9376575566392132001 : True := trivial
theorem main.tw9381277316556691805 : True := trivial
theorem main.tw9381832572418970733 : True := trivial
theorem main.tw9381886862466946253 : True := trivial
theorem main.tw9389665374557996460 : True := trivial
theorem main.tw9394770849952503311 : True := trivial
theorem main.tw9406782406253462049 : True := trivial
theorem main.tw9413229532130371676 : True := trivial
theorem main.tw9417822746687237092 : True := trivial
theorem main.tw9432497158254318119 : True := trivial
theorem main.tw9470667924834194258 : True := trivial
theorem main.tw9483120023164983764 : True := trivial
theorem main.tw9483696857397876608 : True := trivial
theorem main.tw9508770018378322450 : True := trivial
theorem main.tw9512817274939609580 : True := trivial
theorem main.tw9557352009045844224 : True := trivial
theorem main.tw9558744834307401277 : True := trivial
theorem main.tw9561784451562097942 : True := trivial
theorem main.tw9563168847844234846 : True := trivial
theorem main.tw9573086628692744296 : True := trivial
theorem main.tw957831766286570088 : True := trivial
theorem main.tw9608646114965807792 : True := trivial
theorem main.tw961187720498965250 : True := trivial
theorem main.tw9626384672669237482 : True := trivial
theorem main.tw9656510801202774680 : True := trivial
theorem main.tw9658885295015712986 : True := trivial
theorem main.tw9681375758050803366 : True := trivial
theorem main.tw9682133043923132273 : True := trivial
theorem main.tw9686253061174770929 : True := trivial
theorem main.tw9693634834776466397 : True := trivial
theorem main.tw9706551924872666739 : True := trivial
theorem main.tw9707000570625543123 : True := trivial
theorem main.tw9716624006974247489 : True := trivial
theorem main.tw9730157408454304684 : True := trivial
theorem main.tw9747897558166968733 : True := trivial
theorem main.tw9772175576572683089 : True := trivial
theorem main.tw979501456738626862 : True := trivial
theorem main.tw9805168224760091760 : True := trivial
theorem main.tw9830299815844901090 : True := trivial
theorem main.tw983542388872702638 : True := trivial
theorem main.tw9840939614602229412 : True := trivial
theorem main.tw9889869242142760280 : True := trivial
theorem main.tw9897820754763898449 : True := trivial
theorem main.tw9903775340124721222 : True := trivial
theorem main.tw9939699701984659387 : True := trivial
theorem main.tw9942282790977331292 : True := trivial
theorem main.tw9957550378297406723 : True := trivial
theorem main.tw9964214247947446159 : True := trivial
theorem main.tw9976160756891316704 : True := trivial
theorem main.tw9986019674649008433 : True := trivial
theorem main.tw9994787619460420439 : True := trivial
set_option Elab.async true in
set_option maxHeartbeats 8000000 in
theorem main : PySem.Challenge.rw_nq0180_01.Holds := by
  w_on
  o_law
  o_head (kHook KP [2, 3, 45, 46, 52, 53, 59, 60, 73, 74, 100, 101, 103, 104, 105, 130, 131, 361, 371, 377, 378, 384, 385, 391, 392, 405, 406, 547, 553, 554, 555, 561, 562, 607, 608, 660, 666, 667, 673, 674, 675, 703, 704, 710, 711, 742, 743, 753, 754, 760, 761, 767, 768, 774, 775, 781, 782, 788, 789] (fun _ => by kernel_rfl))
  (case hw => w_witness2)
  k_go0
  rename Fr _ _ _ _ => F
  rename News _ _ _ _ => N
  rename IntsAre _ _ => hI
  rename Top _ _ _ _ _ _ => T
  rename Frag.In _ _ => KX
  rename Heap.IsList _ _ _ => hL
  rename _ = #[] => hg
  rename Obj.data _ = _ => hc
  rename ¬ _ < _ => hlen
  refine lw_body ⟨KX, ⟨_, _, _, _, topRead_of T⟩, ?_, ?_, ?_⟩ F N hc ?_ hL hI ?_ ?_
  · exact Nat.le_of_ble_eq_true (by kernel_rfl)
  · exact Nat.le_of_ble_eq_true (by kernel_rfl)
  · rfl
  · kernel_rfl
  · omega
  · intro h' tk hk
    refine ⟨.inl ⟨.bool true, .bool true, [], rfl, fun _ => (by kernel_rfl), .bool true, (by kernel_rfl), fun _ => ⟨List.nodup_nil, fun a ha => by cases ha⟩⟩, hk, rfl, hg⟩
end Mine
theorem PySem.Challenge.cw_nq0180_01_holds : PySem.Challenge.rw_nq0180_01.Holds :=
  Mine.main
