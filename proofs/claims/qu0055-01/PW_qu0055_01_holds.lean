import PyProof.Rows.All
import Wide.All
import OpenK.AllK
import Wide.FinOn
import PySem.Challenge.RW_qu0055_01
open PySem PySem.W PyProof.Rows
set_option Elab.async false
namespace Mine
set_option maxRecDepth 100000
set_option compiler.extract_closed false
abbrev noSt : Stmt := .Pass ⟨0, 0, 0, 0⟩

def dgo : Nat → Nat → List Nat
  | 0, _ => []
  | k + 1, n => Nat.mod n 128 :: dgo k (Nat.div n 128)
def dec (k n : Nat) : PySem.Str := ⟨⟨dgo k n⟩⟩
def asg (k n : Nat) (v : Int) (l a b c : Nat) : Stmt := .Assign [.Name (dec k n) ⟨l, 0, l, a⟩] (.Constant (.int v) 0 ⟨l, b, l, c⟩) ⟨l, 0, l, c⟩
def kx (l k n a b : Nat) : Option PySem.Expr := some (.Constant (.str (dec k n)) 0 ⟨l, a, l, b⟩)
def vx (l k n a b : Nat) : PySem.Expr := .Name (dec k n) ⟨l, a, l, b⟩
theorem z0 : Str.ofString "ENDMARKER" = dec 9 5947898946493949765 := PySem.W.Fast.ofString_ofList ['E', 'N', 'D', 'M', 'A', 'R', 'K', 'E', 'R']
theorem z1 : Str.ofString "LPAR" = dec 4 173041740 := PySem.W.Fast.ofString_ofList ['L', 'P', 'A', 'R']
theorem z2 : Str.ofString "RPAR" = dec 4 173041746 := PySem.W.Fast.ofString_ofList ['R', 'P', 'A', 'R']
theorem z3 : Str.ofString "LSQB" = dec 4 139749836 := PySem.W.Fast.ofString_ofList ['L', 'S', 'Q', 'B']
theorem z4 : Str.ofString "RSQB" = dec 4 139749842 := PySem.W.Fast.ofString_ofList ['R', 'S', 'Q', 'B']
theorem z5 : Str.ofString "COLON" = dec 5 21104895939 := PySem.W.Fast.ofString_ofList ['C', 'O', 'L', 'O', 'N']
theorem z6 : Str.ofString "COMMA" = dec 5 17611057091 := PySem.W.Fast.ofString_ofList ['C', 'O', 'M', 'M', 'A']
theorem z7 : Str.ofString "SEMI" = dec 4 154362579 := PySem.W.Fast.ofString_ofList ['S', 'E', 'M', 'I']
theorem z8 : Str.ofString "PLUS" = dec 4 175466064 := PySem.W.Fast.ofString_ofList ['P', 'L', 'U', 'S']
theorem z9 : Str.ofString "MINUS" = dec 5 22459688141 := PySem.W.Fast.ofString_ofList ['M', 'I', 'N', 'U', 'S']
theorem z10 : Str.ofString "STAR" = dec 4 173042259 := PySem.W.Fast.ofString_ofList ['S', 'T', 'A', 'R']
theorem z11 : Str.ofString "SLASH" = dec 5 19502491219 := PySem.W.Fast.ofString_ofList ['S', 'L', 'A', 'S', 'H']
theorem z12 : Str.ofString "VBAR" = dec 4 173039958 := PySem.W.Fast.ofString_ofList ['V', 'B', 'A', 'R']
theorem z13 : Str.ofString "AMPER" = dec 5 22157731521 := PySem.W.Fast.ofString_ofList ['A', 'M', 'P', 'E', 'R']
theorem z14 : Str.ofString "LESS" = dec 4 175432396 := PySem.W.Fast.ofString_ofList ['L', 'E', 'S', 'S']
theorem z15 : Str.ofString "GREATER" = dec 7 363033321892167 := PySem.W.Fast.ofString_ofList ['G', 'R', 'E', 'A', 'T', 'E', 'R']
theorem z16 : Str.ofString "EQUAL" = dec 5 20538812613 := PySem.W.Fast.ofString_ofList ['E', 'Q', 'U', 'A', 'L']
theorem z17 : Str.ofString "DOT" = dec 3 1386436 := PySem.W.Fast.ofString_ofList ['D', 'O', 'T']
theorem z18 : Str.ofString "PERCENT" = dec 7 372134630433488 := PySem.W.Fast.ofString_ofList ['P', 'E', 'R', 'C', 'E', 'N', 'T']
theorem z19 : Str.ofString "LBRACE" = dec 6 2388944789836 := PySem.W.Fast.ofString_ofList ['L', 'B', 'R', 'A', 'C', 'E']
theorem z20 : Str.ofString "RBRACE" = dec 6 2388944789842 := PySem.W.Fast.ofString_ofList ['R', 'B', 'R', 'A', 'C', 'E']
theorem z21 : Str.ofString "EQEQUAL" = dec 7 336507905861829 := PySem.W.Fast.ofString_ofList ['E', 'Q', 'E', 'Q', 'U', 'A', 'L']
theorem z22 : Str.ofString "NOTEQUAL" = dec 8 43073011950364622 := PySem.W.Fast.ofString_ofList ['N', 'O', 'T', 'E', 'Q', 'U', 'A', 'L']
theorem z23 : Str.ofString "LESSEQUAL" = dec 9 5513345529644638924 := PySem.W.Fast.ofString_ofList ['L', 'E', 'S', 'S', 'E', 'Q', 'U', 'A', 'L']
theorem z24 : Str.ofString "GREATEREQUAL" = dec 12 11562323604180438730500423 := PySem.W.Fast.ofString_ofList ['G', 'R', 'E', 'A', 'T', 'E', 'R', 'E', 'Q', 'U', 'A', 'L']
theorem z25 : Str.ofString "TILDE" = dec 5 18665907412 := PySem.W.Fast.ofString_ofList ['T', 'I', 'L', 'D', 'E']
theorem z26 : Str.ofString "CIRCUMFLEX" = dec 10 816671807960211825859 := PySem.W.Fast.ofString_ofList ['C', 'I', 'R', 'C', 'U', 'M', 'F', 'L', 'E', 'X']
theorem z27 : Str.ofString "LEFTSHIFT" = dec 9 6092567949679370956 := PySem.W.Fast.ofString_ofList ['L', 'E', 'F', 'T', 'S', 'H', 'I', 'F', 'T']
theorem z28 : Str.ofString "RIGHTSHIFT" = dec 10 779848697558963709138 := PySem.W.Fast.ofString_ofList ['R', 'I', 'G', 'H', 'T', 'S', 'H', 'I', 'F', 'T']
theorem z29 : Str.ofString "DOUBLESTAR" = dec 10 761047905859867600836 := PySem.W.Fast.ofString_ofList ['D', 'O', 'U', 'B', 'L', 'E', 'S', 'T', 'A', 'R']
theorem z30 : Str.ofString "PLUSEQUAL" = dec 9 5513345529644672592 := PySem.W.Fast.ofString_ofList ['P', 'L', 'U', 'S', 'E', 'Q', 'U', 'A', 'L']
theorem z31 : Str.ofString "MINEQUAL" = dec 8 43073011950265549 := PySem.W.Fast.ofString_ofList ['M', 'I', 'N', 'E', 'Q', 'U', 'A', 'L']
theorem z32 : Str.ofString "STAREQUAL" = dec 9 5513345529642248787 := PySem.W.Fast.ofString_ofList ['S', 'T', 'A', 'R', 'E', 'Q', 'U', 'A', 'L']
theorem z33 : Str.ofString "SLASHEQUAL" = dec 10 705708227791560926803 := PySem.W.Fast.ofString_ofList ['S', 'L', 'A', 'S', 'H', 'E', 'Q', 'U', 'A', 'L']
theorem z34 : Str.ofString "PERCENTEQUAL" = dec 12 11562323604189540039041744 := PySem.W.Fast.ofString_ofList ['P', 'E', 'R', 'C', 'E', 'N', 'T', 'E', 'Q', 'U', 'A', 'L']
theorem z35 : Str.ofString "AMPEREQUAL" = dec 10 705708227794216167105 := PySem.W.Fast.ofString_ofList ['A', 'M', 'P', 'E', 'R', 'E', 'Q', 'U', 'A', 'L']
theorem z36 : Str.ofString "VBAREQUAL" = dec 9 5513345529642246486 := PySem.W.Fast.ofString_ofList ['V', 'B', 'A', 'R', 'E', 'Q', 'U', 'A', 'L']
theorem z37 : Str.ofString "CIRCUMFLEXEQUAL" = dec 15 24247950071209551195433833112771 := PySem.W.Fast.ofString_ofList ['C', 'I', 'R', 'C', 'U', 'M', 'F', 'L', 'E', 'X', 'E', 'Q', 'U', 'A', 'L']
theorem z38 : Str.ofString "LEFTSHIFTEQUAL" = dec 14 189437109931036938164317037260 := PySem.W.Fast.ofString_ofList ['L', 'E', 'F', 'T', 'S', 'H', 'I', 'F', 'T', 'E', 'Q', 'U', 'A', 'L']
theorem z39 : Str.ofString "RIGHTSHIFTEQUAL" = dec 15 24247950071172728085032584996050 := PySem.W.Fast.ofString_ofList ['R', 'I', 'G', 'H', 'T', 'S', 'H', 'I', 'F', 'T', 'E', 'Q', 'U', 'A', 'L']
theorem z40 : Str.ofString "DOUBLESTAREQUAL" = dec 15 24247950071153927293333488887748 := PySem.W.Fast.ofString_ofList ['D', 'O', 'U', 'B', 'L', 'E', 'S', 'T', 'A', 'R', 'E', 'Q', 'U', 'A', 'L']
theorem z41 : Str.ofString "DOUBLESLASH" = dec 11 85772863465950708852676 := PySem.W.Fast.ofString_ofList ['D', 'O', 'U', 'B', 'L', 'E', 'S', 'L', 'A', 'S', 'H']
theorem z42 : Str.ofString "DOUBLESLASHEQUAL" = dec 16 3103737609096061425062574233577412 := PySem.W.Fast.ofString_ofList ['D', 'O', 'U', 'B', 'L', 'E', 'S', 'L', 'A', 'S', 'H', 'E', 'Q', 'U', 'A', 'L']
theorem z43 : Str.ofString "AT" = dec 2 10817 := PySem.W.Fast.ofString_ofList ['A', 'T']
theorem z44 : Str.ofString "ATEQUAL" = dec 7 336507905862209 := PySem.W.Fast.ofString_ofList ['A', 'T', 'E', 'Q', 'U', 'A', 'L']
theorem z45 : Str.ofString "RARROW" = dec 6 3010676957394 := PySem.W.Fast.ofString_ofList ['R', 'A', 'R', 'R', 'O', 'W']
theorem z46 : Str.ofString "ELLIPSIS" = dec 8 47048777016747589 := PySem.W.Fast.ofString_ofList ['E', 'L', 'L', 'I', 'P', 'S', 'I', 'S']
theorem z47 : Str.ofString "COLONEQUAL" = dec 10 705708227793163331523 := PySem.W.Fast.ofString_ofList ['C', 'O', 'L', 'O', 'N', 'E', 'Q', 'U', 'A', 'L']
theorem z48 : Str.ofString "EXCLAMATION" = dec 11 92820100587566796958789 := PySem.W.Fast.ofString_ofList ['E', 'X', 'C', 'L', 'A', 'M', 'A', 'T', 'I', 'O', 'N']
theorem z49 : Str.ofString "NT_OFFSET" = dec 9 6092048907971848782 := PySem.W.Fast.ofString_ofList ['N', 'T', '_', 'O', 'F', 'F', 'S', 'E', 'T']
theorem z50 : Str.ofString "EXACT_TOKEN_TYPES" = dec 17 433785186788271204750491937364012101 := PySem.W.Fast.ofString_ofList ['E', 'X', 'A', 'C', 'T', '_', 'T', 'O', 'K', 'E', 'N', '_', 'T', 'Y', 'P', 'E', 'S']
theorem z51 : Str.ofString "!" = dec 1 33 := PySem.W.Fast.ofString_ofList ['!']
theorem z52 : Str.ofString "!=" = dec 2 7841 := PySem.W.Fast.ofString_ofList ['!', '=']
theorem z53 : Str.ofString "%" = dec 1 37 := PySem.W.Fast.ofString_ofList ['%']
theorem z54 : Str.ofString "%=" = dec 2 7845 := PySem.W.Fast.ofString_ofList ['%', '=']
theorem z55 : Str.ofString "&" = dec 1 38 := PySem.W.Fast.ofString_ofList ['&']
theorem z56 : Str.ofString "&=" = dec 2 7846 := PySem.W.Fast.ofString_ofList ['&', '=']
theorem z57 : Str.ofString "(" = dec 1 40 := PySem.W.Fast.ofString_ofList ['(']
theorem z58 : Str.ofString ")" = dec 1 41 := PySem.W.Fast.ofString_ofList [')']
theorem z59 : Str.ofString "*" = dec 1 42 := PySem.W.Fast.ofString_ofList ['*']
theorem z60 : Str.ofString "**" = dec 2 5418 := PySem.W.Fast.ofString_ofList ['*', '*']
theorem z61 : Str.ofString "**=" = dec 3 1004842 := PySem.W.Fast.ofString_ofList ['*', '*', '=']
theorem z62 : Str.ofString "*=" = dec 2 7850 := PySem.W.Fast.ofString_ofList ['*', '=']
theorem z63 : Str.ofString "+" = dec 1 43 := PySem.W.Fast.ofString_ofList ['+']
theorem z64 : Str.ofString "+=" = dec 2 7851 := PySem.W.Fast.ofString_ofList ['+', '=']
theorem z65 : Str.ofString "," = dec 1 44 := PySem.W.Fast.ofString_ofList [',']
theorem z66 : Str.ofString "-" = dec 1 45 := PySem.W.Fast.ofString_ofList ['-']
theorem z67 : Str.ofString "-=" = dec 2 7853 := PySem.W.Fast.ofString_ofList ['-', '=']
theorem z68 : Str.ofString "->" = dec 2 7981 := PySem.W.Fast.ofString_ofList ['-', '>']
theorem z69 : Str.ofString "." = dec 1 46 := PySem.W.Fast.ofString_ofList ['.']
theorem z70 : Str.ofString "..." = dec 3 759598 := PySem.W.Fast.ofString_ofList ['.', '.', '.']
theorem z71 : Str.ofString "/" = dec 1 47 := PySem.W.Fast.ofString_ofList ['/']
theorem z72 : Str.ofString "//" = dec 2 6063 := PySem.W.Fast.ofString_ofList ['/', '/']
theorem z73 : Str.ofString "//=" = dec 3 1005487 := PySem.W.Fast.ofString_ofList ['/', '/', '=']
theorem z74 : Str.ofString "/=" = dec 2 7855 := PySem.W.Fast.ofString_ofList ['/', '=']
theorem z75 : Str.ofString ":" = dec 1 58 := PySem.W.Fast.ofString_ofList [':']
theorem z76 : Str.ofString ":=" = dec 2 7866 := PySem.W.Fast.ofString_ofList [':', '=']
theorem z77 : Str.ofString ";" = dec 1 59 := PySem.W.Fast.ofString_ofList [';']
theorem z78 : Str.ofString "<" = dec 1 60 := PySem.W.Fast.ofString_ofList ['<']
theorem z79 : Str.ofString "<<" = dec 2 7740 := PySem.W.Fast.ofString_ofList ['<', '<']
theorem z80 : Str.ofString "<<=" = dec 3 1007164 := PySem.W.Fast.ofString_ofList ['<', '<', '=']
theorem z81 : Str.ofString "<=" = dec 2 7868 := PySem.W.Fast.ofString_ofList ['<', '=']
theorem z82 : Str.ofString "=" = dec 1 61 := PySem.W.Fast.ofString_ofList ['=']
theorem z83 : Str.ofString "==" = dec 2 7869 := PySem.W.Fast.ofString_ofList ['=', '=']
theorem z84 : Str.ofString ">" = dec 1 62 := PySem.W.Fast.ofString_ofList ['>']
theorem z85 : Str.ofString ">=" = dec 2 7870 := PySem.W.Fast.ofString_ofList ['>', '=']
theorem z86 : Str.ofString ">>" = dec 2 7998 := PySem.W.Fast.ofString_ofList ['>', '>']
theorem z87 : Str.ofString ">>=" = dec 3 1007422 := PySem.W.Fast.ofString_ofList ['>', '>', '=']
theorem z88 : Str.ofString "@" = dec 1 64 := PySem.W.Fast.ofString_ofList ['@']
theorem z89 : Str.ofString "@=" = dec 2 7872 := PySem.W.Fast.ofString_ofList ['@', '=']
theorem z90 : Str.ofString "[" = dec 1 91 := PySem.W.Fast.ofString_ofList ['[']
theorem z91 : Str.ofString "]" = dec 1 93 := PySem.W.Fast.ofString_ofList [']']
theorem z92 : Str.ofString "^" = dec 1 94 := PySem.W.Fast.ofString_ofList ['^']
theorem z93 : Str.ofString "^=" = dec 2 7902 := PySem.W.Fast.ofString_ofList ['^', '=']
theorem z94 : Str.ofString "{" = dec 1 123 := PySem.W.Fast.ofString_ofList ['{']
theorem z95 : Str.ofString "|" = dec 1 124 := PySem.W.Fast.ofString_ofList ['|']
theorem z96 : Str.ofString "|=" = dec 2 7932 := PySem.W.Fast.ofString_ofList ['|', '=']
theorem z97 : Str.ofString "}" = dec 1 125 := PySem.W.Fast.ofString_ofList ['}']
theorem z98 : Str.ofString "~" = dec 1 126 := PySem.W.Fast.ofString_ofList ['~']
def st0 : Stmt := by
  refine (?f : (x : Stmt) → PySem.Challenge.pw_qu0055_01.main.body.getD 0 noSt = x → Stmt) (_) (by ((conv => lhs; whnf) <;> rfl))
  exact fun x _ => x
def st1 : Stmt := by
  refine (?f : (x : Stmt) → PySem.Challenge.pw_qu0055_01.main.body.getD 1 noSt = x → Stmt) (asg _ _ _ _ _ _ _) (by ((conv => lhs; (whnf; try simp only [z0])) <;> rfl))
  exact fun x _ => x
theorem st1_eq : st1 = PySem.Challenge.pw_qu0055_01.main.body.getD 1 noSt := by
  refine Eq.symm ?_
  ((conv => lhs; (whnf; try simp only [z0])) <;> rfl)
def st2 : Stmt := by
  refine (?f : (x : Stmt) → PySem.Challenge.pw_qu0055_01.main.body.getD 2 noSt = x → Stmt) (asg _ _ _ _ _ _ _) (by ((conv => lhs; (whnf; try simp only [z1])) <;> rfl))
  exact fun x _ => x
theorem st2_eq : st2 = PySem.Challenge.pw_qu0055_01.main.body.getD 2 noSt := by
  refine Eq.symm ?_
  ((conv => lhs; (whnf; try simp only [z1])) <;> rfl)
def st3 : Stmt := by
  refine (?f : (x : Stmt) → PySem.Challenge.pw_qu0055_01.main.body.getD 3 noSt = x → Stmt) (asg _ _ _ _ _ _ _) (by ((conv => lhs; (whnf; try simp only [z2])) <;> rfl))
  exact fun x _ => x
theorem st3_eq : st3 = PySem.Challenge.pw_qu0055_01.main.body.getD 3 noSt := by
  refine Eq.symm ?_
  ((conv => lhs; (whnf; try simp only [z2])) <;> rfl)
def st4 : Stmt := by
  refine (?f : (x : Stmt) → PySem.Challenge.pw_qu0055_01.main.body.getD 4 noSt = x → Stmt) (asg _ _ _ _ _ _ _) (by ((conv => lhs; (whnf; try simp only [z3])) <;> rfl))
  exact fun x _ => x
theorem st4_eq : st4 = PySem.Challenge.pw_qu0055_01.main.body.getD 4 noSt := by
  refine Eq.symm ?_
  ((conv => lhs; (whnf; try simp only [z3])) <;> rfl)
def st5 : Stmt := by
  refine (?f : (x : Stmt) → PySem.Challenge.pw_qu0055_01.main.body.getD 5 noSt = x → Stmt) (asg _ _ _ _ _ _ _) (by ((conv => lhs; (whnf; try simp only [z4])) <;> rfl))
  exact fun x _ => x
theorem st5_eq : st5 = PySem.Challenge.pw_qu0055_01.main.body.getD 5 noSt := by
  refine Eq.symm ?_
  ((conv => lhs; (whnf; try simp only [z4])) <;> rfl)
def st6 : Stmt := by
  refine (?f : (x : Stmt) → PySem.Challenge.pw_qu0055_01.main.body.getD 6 noSt = x → Stmt) (asg _ _ _ _ _ _ _) (by ((conv => lhs; (whnf; try simp only [z5])) <;> rfl))
  exact fun x _ => x
theorem st6_eq : st6 = PySem.Challenge.pw_qu0055_01.main.body.getD 6 noSt := by
  refine Eq.symm ?_
  ((conv => lhs; (whnf; try simp only [z5])) <;> rfl)
def st7 : Stmt := by
  refine (?f : (x : Stmt) → PySem.Challenge.pw_qu0055_01.main.body.getD 7 noSt = x → Stmt) (asg _ _ _ _ _ _ _) (by ((conv => lhs; (whnf; try simp only [z6])) <;> rfl))
  exact fun x _ => x
theorem st7_eq : st7 = PySem.Challenge.pw_qu0055_01.main.body.getD 7 noSt := by
  refine Eq.symm ?_
  ((conv => lhs; (whnf; try simp only [z6])) <;> rfl)
def st8 : Stmt := by
  refine (?f : (x : Stmt) → PySem.Challenge.pw_qu0055_01.main.body.getD 8 noSt = x → Stmt) (asg _ _ _ _ _ _ _) (by ((conv => lhs; (whnf; try simp only [z7])) <;> rfl))
  exact fun x _ => x
theorem st8_eq : st8 = PySem.Challenge.pw_qu0055_01.main.body.getD 8 noSt := by
  refine Eq.symm ?_
  ((conv => lhs; (whnf; try simp only [z7])) <;> rfl)
def st9 : Stmt := by
  refine (?f : (x : Stmt) → PySem.Challenge.pw_qu0055_01.main.body.getD 9 noSt = x → Stmt) (asg _ _ _ _ _ _ _) (by ((conv => lhs; (whnf; try simp only [z8])) <;> rfl))
  exact fun x _ => x
theorem st9_eq : st9 = PySem.Challenge.pw_qu0055_01.main.body.getD 9 noSt := by
  refine Eq.symm ?_
  ((conv => lhs; (whnf; try simp only [z8])) <;> rfl)
def st10 : Stmt := by
  refine (?f : (x : Stmt) → PySem.Challenge.pw_qu0055_01.main.body.getD 10 noSt = x → Stmt) (asg _ _ _ _ _ _ _) (by ((conv => lhs; (whnf; try simp only [z9])) <;> rfl))
  exact fun x _ => x
theorem st10_eq : st10 = PySem.Challenge.pw_qu0055_01.main.body.getD 10 noSt := by
  refine Eq.symm ?_
  ((conv => lhs; (whnf; try simp only [z9])) <;> rfl)
def st11 : Stmt := by
  refine (?f : (x : Stmt) → PySem.Challenge.pw_qu0055_01.main.body.getD 11 noSt = x → Stmt) (asg _ _ _ _ _ _ _) (by ((conv => lhs; (whnf; try simp only [z10])) <;> rfl))
  exact fun x _ => x
theorem st11_eq : st11 = PySem.Challenge.pw_qu0055_01.main.body.getD 11 noSt := by
  refine Eq.symm ?_
  ((conv => lhs; (whnf; try simp only [z10])) <;> rfl)
def st12 : Stmt := by
  refine (?f : (x : Stmt) → PySem.Challenge.pw_qu0055_01.main.body.getD 12 noSt = x → Stmt) (asg _ _ _ _ _ _ _) (by ((conv => lhs; (whnf; try simp only [z11])) <;> rfl))
  exact fun x _ => x
theorem st12_eq : st12 = PySem.Challenge.pw_qu0055_01.main.body.getD 12 noSt := by
  refine Eq.symm ?_
  ((conv => lhs; (whnf; try simp only [z11])) <;> rfl)
def st13 : Stmt := by
  refine (?f : (x : Stmt) → PySem.Challenge.pw_qu0055_01.main.body.getD 13 noSt = x → Stmt) (asg _ _ _ _ _ _ _) (by ((conv => lhs; (whnf; try simp only [z12])) <;> rfl))
  exact fun x _ => x
theorem st13_eq : st13 = PySem.Challenge.pw_qu0055_01.main.body.getD 13 noSt := by
  refine Eq.symm ?_
  ((conv => lhs; (whnf; try simp only [z12])) <;> rfl)
def st14 : Stmt := by
  refine (?f : (x : Stmt) → PySem.Challenge.pw_qu0055_01.main.body.getD 14 noSt = x → Stmt) (asg _ _ _ _ _ _ _) (by ((conv => lhs; (whnf; try simp only [z13])) <;> rfl))
  exact fun x _ => x
theorem st14_eq : st14 = PySem.Challenge.pw_qu0055_01.main.body.getD 14 noSt := by
  refine Eq.symm ?_
  ((conv => lhs; (whnf; try simp only [z13])) <;> rfl)
def st15 : Stmt := by
  refine (?f : (x : Stmt) → PySem.Challenge.pw_qu0055_01.main.body.getD 15 noSt = x → Stmt) (asg _ _ _ _ _ _ _) (by ((conv => lhs; (whnf; try simp only [z14])) <;> rfl))
  exact fun x _ => x
theorem st15_eq : st15 = PySem.Challenge.pw_qu0055_01.main.body.getD 15 noSt := by
  refine Eq.symm ?_
  ((conv => lhs; (whnf; try simp only [z14])) <;> rfl)
def st16 : Stmt := by
  refine (?f : (x : Stmt) → PySem.Challenge.pw_qu0055_01.main.body.getD 16 noSt = x → Stmt) (asg _ _ _ _ _ _ _) (by ((conv => lhs; (whnf; try simp only [z15])) <;> rfl))
  exact fun x _ => x
theorem st16_eq : st16 = PySem.Challenge.pw_qu0055_01.main.body.getD 16 noSt := by
  refine Eq.symm ?_
  ((conv => lhs; (whnf; try simp only [z15])) <;> rfl)
def st17 : Stmt := by
  refine (?f : (x : Stmt) → PySem.Challenge.pw_qu0055_01.main.body.getD 17 noSt = x → Stmt) (asg _ _ _ _ _ _ _) (by ((conv => lhs; (whnf; try simp only [z16])) <;> rfl))
  exact fun x _ => x
theorem st17_eq : st17 = PySem.Challenge.pw_qu0055_01.main.body.getD 17 noSt := by
  refine Eq.symm ?_
  ((conv => lhs; (whnf; try simp only [z16])) <;> rfl)
def st18 : Stmt := by
  refine (?f : (x : Stmt) → PySem.Challenge.pw_qu0055_01.main.body.getD 18 noSt = x → Stmt) (asg _ _ _ _ _ _ _) (by ((conv => lhs; (whnf; try simp only [z17])) <;> rfl))
  exact fun x _ => x
theorem st18_eq : st18 = PySem.Challenge.pw_qu0055_01.main.body.getD 18 noSt := by
  refine Eq.symm ?_
  ((conv => lhs; (whnf; try simp only [z17])) <;> rfl)
def st19 : Stmt := by
  refine (?f : (x : Stmt) → PySem.Challenge.pw_qu0055_01.main.body.getD 19 noSt = x → Stmt) (asg _ _ _ _ _ _ _) (by ((conv => lhs; (whnf; try simp only [z18])) <;> rfl))
  exact fun x _ => x
theorem st19_eq : st19 = PySem.Challenge.pw_qu0055_01.main.body.getD 19 noSt := by
  refine Eq.symm ?_
  ((conv => lhs; (whnf; try simp only [z18])) <;> rfl)
def st20 : Stmt := by
  refine (?f : (x : Stmt) → PySem.Challenge.pw_qu0055_01.main.body.getD 20 noSt = x → Stmt) (asg _ _ _ _ _ _ _) (by ((conv => lhs; (whnf; try simp only [z19])) <;> rfl))
  exact fun x _ => x
theorem st20_eq : st20 = PySem.Challenge.pw_qu0055_01.main.body.getD 20 noSt := by
  refine Eq.symm ?_
  ((conv => lhs; (whnf; try simp only [z19])) <;> rfl)
def st21 : Stmt := by
  refine (?f : (x : Stmt) → PySem.Challenge.pw_qu0055_01.main.body.getD 21 noSt = x → Stmt) (asg _ _ _ _ _ _ _) (by ((conv => lhs; (whnf; try simp only [z20])) <;> rfl))
  exact fun x _ => x
theorem st21_eq : st21 = PySem.Challenge.pw_qu0055_01.main.body.getD 21 noSt := by
  refine Eq.symm ?_
  ((conv => lhs; (whnf; try simp only [z20])) <;> rfl)
def st22 : Stmt := by
  refine (?f : (x : Stmt) → PySem.Challenge.pw_qu0055_01.main.body.getD 22 noSt = x → Stmt) (asg _ _ _ _ _ _ _) (by ((conv => lhs; (whnf; try simp only [z21])) <;> rfl))
  exact fun x _ => x
theorem st22_eq : st22 = PySem.Challenge.pw_qu0055_01.main.body.getD 22 noSt := by
  refine Eq.symm ?_
  ((conv => lhs; (whnf; try simp only [z21])) <;> rfl)
def st23 : Stmt := by
  refine (?f : (x : Stmt) → PySem.Challenge.pw_qu0055_01.main.body.getD 23 noSt = x → Stmt) (asg _ _ _ _ _ _ _) (by ((conv => lhs; (whnf; try simp only [z22])) <;> rfl))
  exact fun x _ => x
theorem st23_eq : st23 = PySem.Challenge.pw_qu0055_01.main.body.getD 23 noSt := by
  refine Eq.symm ?_
  ((conv => lhs; (whnf; try simp only [z22])) <;> rfl)
def st24 : Stmt := by
  refine (?f : (x : Stmt) → PySem.Challenge.pw_qu0055_01.main.body.getD 24 noSt = x → Stmt) (asg _ _ _ _ _ _ _) (by ((conv => lhs; (whnf; try simp only [z23])) <;> rfl))
  exact fun x _ => x
theorem st24_eq : st24 = PySem.Challenge.pw_qu0055_01.main.body.getD 24 noSt := by
  refine Eq.symm ?_
  ((conv => lhs; (whnf; try simp only [z23])) <;> rfl)
def st25 : Stmt := by
  refine (?f : (x : Stmt) → PySem.Challenge.pw_qu0055_01.main.body.getD 25 noSt = x → Stmt) (asg _ _ _ _ _ _ _) (by ((conv => lhs; (whnf; try simp only [z24])) <;> rfl))
  exact fun x _ => x
theorem st25_eq : st25 = PySem.Challenge.pw_qu0055_01.main.body.getD 25 noSt := by
  refine Eq.symm ?_
  ((conv => lhs; (whnf; try simp only [z24])) <;> rfl)
def st26 : Stmt := by
  refine (?f : (x : Stmt) → PySem.Challenge.pw_qu0055_01.main.body.getD 26 noSt = x → Stmt) (asg _ _ _ _ _ _ _) (by ((conv => lhs; (whnf; try simp only [z25])) <;> rfl))
  exact fun x _ => x
theorem st26_eq : st26 = PySem.Challenge.pw_qu0055_01.main.body.getD 26 noSt := by
  refine Eq.symm ?_
  ((conv => lhs; (whnf; try simp only [z25])) <;> rfl)
def st27 : Stmt := by
  refine (?f : (x : Stmt) → PySem.Challenge.pw_qu0055_01.main.body.getD 27 noSt = x → Stmt) (asg _ _ _ _ _ _ _) (by ((conv => lhs; (whnf; try simp only [z26])) <;> rfl))
  exact fun x _ => x
theorem st27_eq : st27 = PySem.Challenge.pw_qu0055_01.main.body.getD 27 noSt := by
  refine Eq.symm ?_
  ((conv => lhs; (whnf; try simp only [z26])) <;> rfl)
def st28 : Stmt := by
  refine (?f : (x : Stmt) → PySem.Challenge.pw_qu0055_01.main.body.getD 28 noSt = x → Stmt) (asg _ _ _ _ _ _ _) (by ((conv => lhs; (whnf; try simp only [z27])) <;> rfl))
  exact fun x _ => x
theorem st28_eq : st28 = PySem.Challenge.pw_qu0055_01.main.body.getD 28 noSt := by
  refine Eq.symm ?_
  ((conv => lhs; (whnf; try simp only [z27])) <;> rfl)
def st29 : Stmt := by
  refine (?f : (x : Stmt) → PySem.Challenge.pw_qu0055_01.main.body.getD 29 noSt = x → Stmt) (asg _ _ _ _ _ _ _) (by ((conv => lhs; (whnf; try simp only [z28])) <;> rfl))
  exact fun x _ => x
theorem st29_eq : st29 = PySem.Challenge.pw_qu0055_01.main.body.getD 29 noSt := by
  refine Eq.symm ?_
  ((conv => lhs; (whnf; try simp only [z28])) <;> rfl)
def st30 : Stmt := by
  refine (?f : (x : Stmt) → PySem.Challenge.pw_qu0055_01.main.body.getD 30 noSt = x → Stmt) (asg _ _ _ _ _ _ _) (by ((conv => lhs; (whnf; try simp only [z29])) <;> rfl))
  exact fun x _ => x
theorem st30_eq : st30 = PySem.Challenge.pw_qu0055_01.main.body.getD 30 noSt := by
  refine Eq.symm ?_
  ((conv => lhs; (whnf; try simp only [z29])) <;> rfl)
def st31 : Stmt := by
  refine (?f : (x : Stmt) → PySem.Challenge.pw_qu0055_01.main.body.getD 31 noSt = x → Stmt) (asg _ _ _ _ _ _ _) (by ((conv => lhs; (whnf; try simp only [z30])) <;> rfl))
  exact fun x _ => x
theorem st31_eq : st31 = PySem.Challenge.pw_qu0055_01.main.body.getD 31 noSt := by
  refine Eq.symm ?_
  ((conv => lhs; (whnf; try simp only [z30])) <;> rfl)
def st32 : Stmt := by
  refine (?f : (x : Stmt) → PySem.Challenge.pw_qu0055_01.main.body.getD 32 noSt = x → Stmt) (asg _ _ _ _ _ _ _) (by ((conv => lhs; (whnf; try simp only [z31])) <;> rfl))
  exact fun x _ => x
theorem st32_eq : st32 = PySem.Challenge.pw_qu0055_01.main.body.getD 32 noSt := by
  refine Eq.symm ?_
  ((conv => lhs; (whnf; try simp only [z31])) <;> rfl)
def st33 : Stmt := by
  refine (?f : (x : Stmt) → PySem.Challenge.pw_qu0055_01.main.body.getD 33 noSt = x → Stmt) (asg _ _ _ _ _ _ _) (by ((conv => lhs; (whnf; try simp only [z32])) <;> rfl))
  exact fun x _ => x
theorem st33_eq : st33 = PySem.Challenge.pw_qu0055_01.main.body.getD 33 noSt := by
  refine Eq.symm ?_
  ((conv => lhs; (whnf; try simp only [z32])) <;> rfl)
def st34 : Stmt := by
  refine (?f : (x : Stmt) → PySem.Challenge.pw_qu0055_01.main.body.getD 34 noSt = x → Stmt) (asg _ _ _ _ _ _ _) (by ((conv => lhs; (whnf; try simp only [z33])) <;> rfl))
  exact fun x _ => x
theorem st34_eq : st34 = PySem.Challenge.pw_qu0055_01.main.body.getD 34 noSt := by
  refine Eq.symm ?_
  ((conv => lhs; (whnf; try simp only [z33])) <;> rfl)
def st35 : Stmt := by
  refine (?f : (x : Stmt) → PySem.Challenge.pw_qu0055_01.main.body.getD 35 noSt = x → Stmt) (asg _ _ _ _ _ _ _) (by ((conv => lhs; (whnf; try simp only [z34])) <;> rfl))
  exact fun x _ => x
theorem st35_eq : st35 = PySem.Challenge.pw_qu0055_01.main.body.getD 35 noSt := by
  refine Eq.symm ?_
  ((conv => lhs; (whnf; try simp only [z34])) <;> rfl)
def st36 : Stmt := by
  refine (?f : (x : Stmt) → PySem.Challenge.pw_qu0055_01.main.body.getD 36 noSt = x → Stmt) (asg _ _ _ _ _ _ _) (by ((conv => lhs; (whnf; try simp only [z35])) <;> rfl))
  exact fun x _ => x
theorem st36_eq : st36 = PySem.Challenge.pw_qu0055_01.main.body.getD 36 noSt := by
  refine Eq.symm ?_
  ((conv => lhs; (whnf; try simp only [z35])) <;> rfl)
def st37 : Stmt := by
  refine (?f : (x : Stmt) → PySem.Challenge.pw_qu0055_01.main.body.getD 37 noSt = x → Stmt) (asg _ _ _ _ _ _ _) (by ((conv => lhs; (whnf; try simp only [z36])) <;> rfl))
  exact fun x _ => x
theorem st37_eq : st37 = PySem.Challenge.pw_qu0055_01.main.body.getD 37 noSt := by
  refine Eq.symm ?_
  ((conv => lhs; (whnf; try simp only [z36])) <;> rfl)
def st38 : Stmt := by
  refine (?f : (x : Stmt) → PySem.Challenge.pw_qu0055_01.main.body.getD 38 noSt = x → Stmt) (asg _ _ _ _ _ _ _) (by ((conv => lhs; (whnf; try simp only [z37])) <;> rfl))
  exact fun x _ => x
theorem st38_eq : st38 = PySem.Challenge.pw_qu0055_01.main.body.getD 38 noSt := by
  refine Eq.symm ?_
  ((conv => lhs; (whnf; try simp only [z37])) <;> rfl)
def st39 : Stmt := by
  refine (?f : (x : Stmt) → PySem.Challenge.pw_qu0055_01.main.body.getD 39 noSt = x → Stmt) (asg _ _ _ _ _ _ _) (by ((conv => lhs; (whnf; try simp only [z38])) <;> rfl))
  exact fun x _ => x
theorem st39_eq : st39 = PySem.Challenge.pw_qu0055_01.main.body.getD 39 noSt := by
  refine Eq.symm ?_
  ((conv => lhs; (whnf; try simp only [z38])) <;> rfl)
def st40 : Stmt := by
  refine (?f : (x : Stmt) → PySem.Challenge.pw_qu0055_01.main.body.getD 40 noSt = x → Stmt) (asg _ _ _ _ _ _ _) (by ((conv => lhs; (whnf; try simp only [z39])) <;> rfl))
  exact fun x _ => x
theorem st40_eq : st40 = PySem.Challenge.pw_qu0055_01.main.body.getD 40 noSt := by
  refine Eq.symm ?_
  ((conv => lhs; (whnf; try simp only [z39])) <;> rfl)
def st41 : Stmt := by
  refine (?f : (x : Stmt) → PySem.Challenge.pw_qu0055_01.main.body.getD 41 noSt = x → Stmt) (asg _ _ _ _ _ _ _) (by ((conv => lhs; (whnf; try simp only [z40])) <;> rfl))
  exact fun x _ => x
theorem st41_eq : st41 = PySem.Challenge.pw_qu0055_01.main.body.getD 41 noSt := by
  refine Eq.symm ?_
  ((conv => lhs; (whnf; try simp only [z40])) <;> rfl)
def st42 : Stmt := by
  refine (?f : (x : Stmt) → PySem.Challenge.pw_qu0055_01.main.body.getD 42 noSt = x → Stmt) (asg _ _ _ _ _ _ _) (by ((conv => lhs; (whnf; try simp only [z41])) <;> rfl))
  exact fun x _ => x
theorem st42_eq : st42 = PySem.Challenge.pw_qu0055_01.main.body.getD 42 noSt := by
  refine Eq.symm ?_
  ((conv => lhs; (whnf; try simp only [z41])) <;> rfl)
def st43 : Stmt := by
  refine (?f : (x : Stmt) → PySem.Challenge.pw_qu0055_01.main.body.getD 43 noSt = x → Stmt) (asg _ _ _ _ _ _ _) (by ((conv => lhs; (whnf; try simp only [z42])) <;> rfl))
  exact fun x _ => x
theorem st43_eq : st43 = PySem.Challenge.pw_qu0055_01.main.body.getD 43 noSt := by
  refine Eq.symm ?_
  ((conv => lhs; (whnf; try simp only [z42])) <;> rfl)
def st44 : Stmt := by
  refine (?f : (x : Stmt) → PySem.Challenge.pw_qu0055_01.main.body.getD 44 noSt = x → Stmt) (asg _ _ _ _ _ _ _) (by ((conv => lhs; (whnf; try simp only [z43])) <;> rfl))
  exact fun x _ => x
theorem st44_eq : st44 = PySem.Challenge.pw_qu0055_01.main.body.getD 44 noSt := by
  refine Eq.symm ?_
  ((conv => lhs; (whnf; try simp only [z43])) <;> rfl)
def st45 : Stmt := by
  refine (?f : (x : Stmt) → PySem.Challenge.pw_qu0055_01.main.body.getD 45 noSt = x → Stmt) (asg _ _ _ _ _ _ _) (by ((conv => lhs; (whnf; try simp only [z44])) <;> rfl))
  exact fun x _ => x
theorem st45_eq : st45 = PySem.Challenge.pw_qu0055_01.main.body.getD 45 noSt := by
  refine Eq.symm ?_
  ((conv => lhs; (whnf; try simp only [z44])) <;> rfl)
def st46 : Stmt := by
  refine (?f : (x : Stmt) → PySem.Challenge.pw_qu0055_01.main.body.getD 46 noSt = x → Stmt) (asg _ _ _ _ _ _ _) (by ((conv => lhs; (whnf; try simp only [z45])) <;> rfl))
  exact fun x _ => x
theorem st46_eq : st46 = PySem.Challenge.pw_qu0055_01.main.body.getD 46 noSt := by
  refine Eq.symm ?_
  ((conv => lhs; (whnf; try simp only [z45])) <;> rfl)
def st47 : Stmt := by
  refine (?f : (x : Stmt) → PySem.Challenge.pw_qu0055_01.main.body.getD 47 noSt = x → Stmt) (asg _ _ _ _ _ _ _) (by ((conv => lhs; (whnf; try simp only [z46])) <;> rfl))
  exact fun x _ => x
theorem st47_eq : st47 = PySem.Challenge.pw_qu0055_01.main.body.getD 47 noSt := by
  refine Eq.symm ?_
  ((conv => lhs; (whnf; try simp only [z46])) <;> rfl)
def st48 : Stmt := by
  refine (?f : (x : Stmt) → PySem.Challenge.pw_qu0055_01.main.body.getD 48 noSt = x → Stmt) (asg _ _ _ _ _ _ _) (by ((conv => lhs; (whnf; try simp only [z47])) <;> rfl))
  exact fun x _ => x
theorem st48_eq : st48 = PySem.Challenge.pw_qu0055_01.main.body.getD 48 noSt := by
  refine Eq.symm ?_
  ((conv => lhs; (whnf; try simp only [z47])) <;> rfl)
def st49 : Stmt := by
  refine (?f : (x : Stmt) → PySem.Challenge.pw_qu0055_01.main.body.getD 49 noSt = x → Stmt) (asg _ _ _ _ _ _ _) (by ((conv => lhs; (whnf; try simp only [z48])) <;> rfl))
  exact fun x _ => x
theorem st49_eq : st49 = PySem.Challenge.pw_qu0055_01.main.body.getD 49 noSt := by
  refine Eq.symm ?_
  ((conv => lhs; (whnf; try simp only [z48])) <;> rfl)
def st50 : Stmt := by
  refine (?f : (x : Stmt) → PySem.Challenge.pw_qu0055_01.main.body.getD 50 noSt = x → Stmt) (asg _ _ _ _ _ _ _) (by ((conv => lhs; (whnf; try simp only [z49])) <;> rfl))
  exact fun x _ => x
theorem st50_eq : st50 = PySem.Challenge.pw_qu0055_01.main.body.getD 50 noSt := by
  refine Eq.symm ?_
  ((conv => lhs; (whnf; try simp only [z49])) <;> rfl)
def st51 : Stmt := by
  refine (?f : (x : Stmt) → PySem.Challenge.pw_qu0055_01.main.body.getD 51 noSt = x → Stmt) (.Assign [vx _ _ _ _ _] (.Dict [kx _ _ _ _ _, kx _ _ _ _ _, kx _ _ _ _ _, kx _ _ _ _ _, kx _ _ _ _ _, kx _ _ _ _ _, kx _ _ _ _ _, kx _ _ _ _ _, kx _ _ _ _ _, kx _ _ _ _ _, kx _ _ _ _ _, kx _ _ _ _ _, kx _ _ _ _ _, kx _ _ _ _ _, kx _ _ _ _ _, kx _ _ _ _ _, kx _ _ _ _ _, kx _ _ _ _ _, kx _ _ _ _ _, kx _ _ _ _ _, kx _ _ _ _ _, kx _ _ _ _ _, kx _ _ _ _ _, kx _ _ _ _ _, kx _ _ _ _ _, kx _ _ _ _ _, kx _ _ _ _ _, kx _ _ _ _ _, kx _ _ _ _ _, kx _ _ _ _ _, kx _ _ _ _ _, kx _ _ _ _ _, kx _ _ _ _ _, kx _ _ _ _ _, kx _ _ _ _ _, kx _ _ _ _ _, kx _ _ _ _ _, kx _ _ _ _ _, kx _ _ _ _ _, kx _ _ _ _ _, kx _ _ _ _ _, kx _ _ _ _ _, kx _ _ _ _ _, kx _ _ _ _ _, kx _ _ _ _ _, kx _ _ _ _ _, kx _ _ _ _ _, kx _ _ _ _ _] [vx _ _ _ _ _, vx _ _ _ _ _, vx _ _ _ _ _, vx _ _ _ _ _, vx _ _ _ _ _, vx _ _ _ _ _, vx _ _ _ _ _, vx _ _ _ _ _, vx _ _ _ _ _, vx _ _ _ _ _, vx _ _ _ _ _, vx _ _ _ _ _, vx _ _ _ _ _, vx _ _ _ _ _, vx _ _ _ _ _, vx _ _ _ _ _, vx _ _ _ _ _, vx _ _ _ _ _, vx _ _ _ _ _, vx _ _ _ _ _, vx _ _ _ _ _, vx _ _ _ _ _, vx _ _ _ _ _, vx _ _ _ _ _, vx _ _ _ _ _, vx _ _ _ _ _, vx _ _ _ _ _, vx _ _ _ _ _, vx _ _ _ _ _, vx _ _ _ _ _, vx _ _ _ _ _, vx _ _ _ _ _, vx _ _ _ _ _, vx _ _ _ _ _, vx _ _ _ _ _, vx _ _ _ _ _, vx _ _ _ _ _, vx _ _ _ _ _, vx _ _ _ _ _, vx _ _ _ _ _, vx _ _ _ _ _, vx _ _ _ _ _, vx _ _ _ _ _, vx _ _ _ _ _, vx _ _ _ _ _, vx _ _ _ _ _, vx _ _ _ _ _, vx _ _ _ _ _] _) _) (by ((conv => lhs; (whnf; try simp only [z0, z1, z2, z3, z4, z5, z6, z7, z8, z9, z10, z11, z12, z13, z14, z15, z16, z17, z18, z19, z20, z21, z22, z23, z24, z25, z26, z27, z28, z29, z30, z31, z32, z33, z34, z35, z36, z37, z38, z39, z40, z41, z42, z43, z44, z45, z46, z47, z48, z49, z50, z51, z52, z53, z54, z55, z56, z57, z58, z59, z60, z61, z62, z63, z64, z65, z66, z67, z68, z69, z70, z71, z72, z73, z74, z75, z76, z77, z78, z79, z80, z81, z82, z83, z84, z85, z86, z87, z88, z89, z90, z91, z92, z93, z94, z95, z96, z97, z98])) <;> rfl))
  exact fun x _ => x
theorem st51_eq : st51 = PySem.Challenge.pw_qu0055_01.main.body.getD 51 noSt := by
  refine Eq.symm ?_
  ((conv => lhs; (whnf; try simp only [z0, z1, z2, z3, z4, z5, z6, z7, z8, z9, z10, z11, z12, z13, z14, z15, z16, z17, z18, z19, z20, z21, z22, z23, z24, z25, z26, z27, z28, z29, z30, z31, z32, z33, z34, z35, z36, z37, z38, z39, z40, z41, z42, z43, z44, z45, z46, z47, z48, z49, z50, z51, z52, z53, z54, z55, z56, z57, z58, z59, z60, z61, z62, z63, z64, z65, z66, z67, z68, z69, z70, z71, z72, z73, z74, z75, z76, z77, z78, z79, z80, z81, z82, z83, z84, z85, z86, z87, z88, z89, z90, z91, z92, z93, z94, z95, z96, z97, z98])) <;> rfl)
def st52 : Stmt := by
  refine (?f : (x : Stmt) → PySem.Challenge.pw_qu0055_01.main.body.getD 52 noSt = x → Stmt) (_) (by ((conv => lhs; whnf) <;> rfl))
  exact fun x _ => x
def st53 : Stmt := by
  refine (?f : (x : Stmt) → PySem.Challenge.pw_qu0055_01.main.body.getD 53 noSt = x → Stmt) (_) (by ((conv => lhs; whnf) <;> rfl))
  exact fun x _ => x
def st54 : Stmt := by
  refine (?f : (x : Stmt) → PySem.Challenge.pw_qu0055_01.main.body.getD 54 noSt = x → Stmt) (_) (by ((conv => lhs; whnf) <;> rfl))
  exact fun x _ => x
def st55 : Stmt := by
  refine (?f : (x : Stmt) → PySem.Challenge.pw_qu0055_01.main.body.getD 55 noSt = x → Stmt) (_) (by ((conv => lhs; whnf) <;> rfl))
  exact fun x _ => x
def st56 : Stmt := by
  refine (?f : (x : Stmt) → PySem.Challenge.pw_qu0055_01.main.body.getD 56 noSt = x → Stmt) (_) (by ((conv => lhs; whnf) <;> rfl))
  exact fun x _ => x
def st57 : Stmt := by
  refine (?f : (x : Stmt) → PySem.Challenge.pw_qu0055_01.main.body.getD 57 noSt = x → Stmt) (_) (by ((conv => lhs; whnf) <;> rfl))
  exact fun x _ => x
def st58 : Stmt := by
  refine (?f : (x : Stmt) → PySem.Challenge.pw_qu0055_01.main.body.getD 58 noSt = x → Stmt) (_) (by ((conv => lhs; whnf) <;> rfl))
  exact fun x _ => x
def st59 : Stmt := by
  refine (?f : (x : Stmt) → PySem.Challenge.pw_qu0055_01.main.body.getD 59 noSt = x → Stmt) (_) (by ((conv => lhs; whnf) <;> rfl))
  exact fun x _ => x
def st60 : Stmt := by
  refine (?f : (x : Stmt) → PySem.Challenge.pw_qu0055_01.main.body.getD 60 noSt = x → Stmt) (_) (by ((conv => lhs; whnf) <;> rfl))
  exact fun x _ => x
def st61 : Stmt := by
  refine (?f : (x : Stmt) → PySem.Challenge.pw_qu0055_01.main.body.getD 61 noSt = x → Stmt) (_) (by ((conv => lhs; whnf) <;> rfl))
  exact fun x _ => x
def st62 : Stmt := by
  refine (?f : (x : Stmt) → PySem.Challenge.pw_qu0055_01.main.body.getD 62 noSt = x → Stmt) (_) (by ((conv => lhs; whnf) <;> rfl))
  exact fun x _ => x
def st63 : Stmt := by
  refine (?f : (x : Stmt) → PySem.Challenge.pw_qu0055_01.main.body.getD 63 noSt = x → Stmt) (_) (by ((conv => lhs; whnf) <;> rfl))
  exact fun x _ => x
def st64 : Stmt := by
  refine (?f : (x : Stmt) → PySem.Challenge.pw_qu0055_01.main.body.getD 64 noSt = x → Stmt) (_) (by ((conv => lhs; whnf) <;> rfl))
  exact fun x _ => x
def st65 : Stmt := by
  refine (?f : (x : Stmt) → PySem.Challenge.pw_qu0055_01.main.body.getD 65 noSt = x → Stmt) (_) (by ((conv => lhs; whnf) <;> rfl))
  exact fun x _ => x
def st66 : Stmt := by
  refine (?f : (x : Stmt) → PySem.Challenge.pw_qu0055_01.main.body.getD 66 noSt = x → Stmt) (_) (by ((conv => lhs; whnf) <;> rfl))
  exact fun x _ => x
def st67 : Stmt := by
  refine (?f : (x : Stmt) → PySem.Challenge.pw_qu0055_01.main.body.getD 67 noSt = x → Stmt) (_) (by ((conv => lhs; whnf) <;> rfl))
  exact fun x _ => x
def st68 : Stmt := by
  refine (?f : (x : Stmt) → PySem.Challenge.pw_qu0055_01.main.body.getD 68 noSt = x → Stmt) (_) (by ((conv => lhs; whnf) <;> rfl))
  exact fun x _ => x
def st69 : Stmt := by
  refine (?f : (x : Stmt) → PySem.Challenge.pw_qu0055_01.main.body.getD 69 noSt = x → Stmt) (_) (by ((conv => lhs; whnf) <;> rfl))
  exact fun x _ => x
def st70 : Stmt := by
  refine (?f : (x : Stmt) → PySem.Challenge.pw_qu0055_01.main.body.getD 70 noSt = x → Stmt) (_) (by ((conv => lhs; whnf) <;> rfl))
  exact fun x _ => x
def st71 : Stmt := by
  refine (?f : (x : Stmt) → PySem.Challenge.pw_qu0055_01.main.body.getD 71 noSt = x → Stmt) (_) (by ((conv => lhs; whnf) <;> rfl))
  exact fun x _ => x
def st72 : Stmt := by
  refine (?f : (x : Stmt) → PySem.Challenge.pw_qu0055_01.main.body.getD 72 noSt = x → Stmt) (_) (by ((conv => lhs; whnf) <;> rfl))
  exact fun x _ => x
def sc0 : Scope := by
  refine (?f : (x : Scope) → PySem.Challenge.pw_qu0055_01.main.scope = x → Scope) (_) (by ((conv => lhs; (whnf; try simp only [z0, z1, z2, z3, z4, z5, z6, z7, z8, z9, z10, z11, z12, z13, z14, z15, z16, z17, z18, z19, z20, z21, z22, z23, z24, z25, z26, z27, z28, z29, z30, z31, z32, z33, z34, z35, z36, z37, z38, z39, z40, z41, z42, z43, z44, z45, z46, z47, z48, z49, z50])) <;> rfl))
  exact fun x _ => x
theorem sc0_eq : sc0 = PySem.Challenge.pw_qu0055_01.main.scope := by
  refine Eq.symm ?_
  ((conv => lhs; (whnf; try simp only [z0, z1, z2, z3, z4, z5, z6, z7, z8, z9, z10, z11, z12, z13, z14, z15, z16, z17, z18, z19, z20, z21, z22, z23, z24, z25, z26, z27, z28, z29, z30, z31, z32, z33, z34, z35, z36, z37, z38, z39, z40, z41, z42, z43, z44, z45, z46, z47, z48, z49, z50])) <;> rfl)
def gv0 : Given := by
  refine (?f : (x : Given) → PySem.Challenge.pw_qu0055_01.given = x → Given) (_) (by ((conv => lhs; whnf) <;> rfl))
  exact fun x _ => x
def ab0 : List PySem.Str := by
  refine (?f : (x : List PySem.Str) → PySem.Challenge.rw_qu0055_01.about = x → List PySem.Str) (_) (by ((conv => lhs; whnf) <;> rfl))
  exact fun x _ => x
def prog0 (b : List Stmt) (sc : Scope) : Program := { main := { body := b, scope := sc, futureAnnotations := false, file := Str.ofString "/claim/cut.py", more := [] }, modules := [], parses := [], absent := [], harvested := [], given := gv0 }
def row0 (p : Program) : OpenLaw := { prog := p, name := Str.ofString "law", about := ab0, foot := 7, most := some 63, bound := none, writes := false }
def prog2 : Program := { main := { body := [st0, st1, st2, st3, st4, st5, st6, st7, st8, st9, st10, st11, st12, st13, st14, st15, st16, st17, st18, st19, st20, st21, st22, st23, st24, st25, st26, st27, st28, st29, st30, st31, st32, st33, st34, st35, st36, st37, st38, st39, st40, st41, st42, st43, st44, st45, st46, st47, st48, st49, st50, st51, st52, st53, st54, st55, st56, st57, st58, st59, st60, st61, st62, st63, st64, st65, st66, st67, st68, st69, st70, st71, st72], scope := sc0, futureAnnotations := false, file := Str.ofString "/claim/cut.py", more := [] }, modules := [], parses := [], absent := [], harvested := [], given := gv0 }
def row2 : OpenLaw := { prog := prog2, name := Str.ofString "law", about := ab0, foot := 7, most := some 63, bound := none, writes := false }
theorem cn {α : Type} {a b : α} {l m : List α} (h : a = b) (k : l = m) : a :: l = b :: m := by rw [h, k]
theorem row2_eq : row2 = PySem.Challenge.rw_qu0055_01 := by
  have e : row2 = row0 (prog0 [st0, PySem.Challenge.pw_qu0055_01.main.body.getD 1 noSt, PySem.Challenge.pw_qu0055_01.main.body.getD 2 noSt, PySem.Challenge.pw_qu0055_01.main.body.getD 3 noSt, PySem.Challenge.pw_qu0055_01.main.body.getD 4 noSt, PySem.Challenge.pw_qu0055_01.main.body.getD 5 noSt, PySem.Challenge.pw_qu0055_01.main.body.getD 6 noSt, PySem.Challenge.pw_qu0055_01.main.body.getD 7 noSt, PySem.Challenge.pw_qu0055_01.main.body.getD 8 noSt, PySem.Challenge.pw_qu0055_01.main.body.getD 9 noSt, PySem.Challenge.pw_qu0055_01.main.body.getD 10 noSt, PySem.Challenge.pw_qu0055_01.main.body.getD 11 noSt, PySem.Challenge.pw_qu0055_01.main.body.getD 12 noSt, PySem.Challenge.pw_qu0055_01.main.body.getD 13 noSt, PySem.Challenge.pw_qu0055_01.main.body.getD 14 noSt, PySem.Challenge.pw_qu0055_01.main.body.getD 15 noSt, PySem.Challenge.pw_qu0055_01.main.body.getD 16 noSt, PySem.Challenge.pw_qu0055_01.main.body.getD 17 noSt, PySem.Challenge.pw_qu0055_01.main.body.getD 18 noSt, PySem.Challenge.pw_qu0055_01.main.body.getD 19 noSt, PySem.Challenge.pw_qu0055_01.main.body.getD 20 noSt, PySem.Challenge.pw_qu0055_01.main.body.getD 21 noSt, PySem.Challenge.pw_qu0055_01.main.body.getD 22 noSt, PySem.Challenge.pw_qu0055_01.main.body.getD 23 noSt, PySem.Challenge.pw_qu0055_01.main.body.getD 24 noSt, PySem.Challenge.pw_qu0055_01.main.body.getD 25 noSt, PySem.Challenge.pw_qu0055_01.main.body.getD 26 noSt, PySem.Challenge.pw_qu0055_01.main.body.getD 27 noSt, PySem.Challenge.pw_qu0055_01.main.body.getD 28 noSt, PySem.Challenge.pw_qu0055_01.main.body.getD 29 noSt, PySem.Challenge.pw_qu0055_01.main.body.getD 30 noSt, PySem.Challenge.pw_qu0055_01.main.body.getD 31 noSt, PySem.Challenge.pw_qu0055_01.main.body.getD 32 noSt, PySem.Challenge.pw_qu0055_01.main.body.getD 33 noSt, PySem.Challenge.pw_qu0055_01.main.body.getD 34 noSt, PySem.Challenge.pw_qu0055_01.main.body.getD 35 noSt, PySem.Challenge.pw_qu0055_01.main.body.getD 36 noSt, PySem.Challenge.pw_qu0055_01.main.body.getD 37 noSt, PySem.Challenge.pw_qu0055_01.main.body.getD 38 noSt, PySem.Challenge.pw_qu0055_01.main.body.getD 39 noSt, PySem.Challenge.pw_qu0055_01.main.body.getD 40 noSt, PySem.Challenge.pw_qu0055_01.main.body.getD 41 noSt, PySem.Challenge.pw_qu0055_01.main.body.getD 42 noSt, PySem.Challenge.pw_qu0055_01.main.body.getD 43 noSt, PySem.Challenge.pw_qu0055_01.main.body.getD 44 noSt, PySem.Challenge.pw_qu0055_01.main.body.getD 45 noSt, PySem.Challenge.pw_qu0055_01.main.body.getD 46 noSt, PySem.Challenge.pw_qu0055_01.main.body.getD 47 noSt, PySem.Challenge.pw_qu0055_01.main.body.getD 48 noSt, PySem.Challenge.pw_qu0055_01.main.body.getD 49 noSt, PySem.Challenge.pw_qu0055_01.main.body.getD 50 noSt, PySem.Challenge.pw_qu0055_01.main.body.getD 51 noSt, st52, st53, st54, st55, st56, st57, st58, st59, st60, st61, st62, st63, st64, st65, st66, st67, st68, st69, st70, st71, st72] PySem.Challenge.pw_qu0055_01.main.scope) :=
    congrArg row0 ((congrArg (fun l => prog0 l sc0) (cn rfl (cn st1_eq (cn st2_eq (cn st3_eq (cn st4_eq (cn st5_eq (cn st6_eq (cn st7_eq (cn st8_eq (cn st9_eq (cn st10_eq (cn st11_eq (cn st12_eq (cn st13_eq (cn st14_eq (cn st15_eq (cn st16_eq (cn st17_eq (cn st18_eq (cn st19_eq (cn st20_eq (cn st21_eq (cn st22_eq (cn st23_eq (cn st24_eq (cn st25_eq (cn st26_eq (cn st27_eq (cn st28_eq (cn st29_eq (cn st30_eq (cn st31_eq (cn st32_eq (cn st33_eq (cn st34_eq (cn st35_eq (cn st36_eq (cn st37_eq (cn st38_eq (cn st39_eq (cn st40_eq (cn st41_eq (cn st42_eq (cn st43_eq (cn st44_eq (cn st45_eq (cn st46_eq (cn st47_eq (cn st48_eq (cn st49_eq (cn st50_eq (cn st51_eq (rfl)))))))))))))))))))))))))))))))))))))))))))))))))))))).trans (congrArg (prog0 _) sc0_eq))
  exact e.trans rfl
noncomputable def en (P : Params) (k n t : Nat) (v : Value) : DictEntry := ⟨PyData.keyHash P (dec k n), .str (dec k n) t, v⟩
noncomputable def ei (P : Params) (k n t : Nat) (i : Int) (u : Nat) : DictEntry := en P k n t (.int i u)
noncomputable def er (P : Params) (k n t a : Nat) : DictEntry := en P k n t (.ref a)
noncomputable def dO (es : List DictEntry) (n : Nat) : Obj := { cls := .type "dict", data := .dict es.toArray n }
noncomputable abbrev cutS : PySem.Str := Str.ofString "/claim/cut.py"
noncomputable def cO (k n t l ac a u : Nat) (x y z : Value) : Obj := { cls := .type "code", data := .fields #[.str (dec k n) t, .str (dec k n) (t + 1), .str cutS (t + 2), .int (Int.ofNat l) 0, .int (Int.ofNat ac) 0, .int 0 0, .int 0 0, .int 3 0, .ref a, .bool true, .int 181 0, .ref (a + 1), .none, x, y, z, .int (Int.ofNat u) 0, .int (Int.ofNat l) 0, .str cutS (u + 1)] }
noncomputable def c5 (k n t l ac a u : Nat) : Obj := cO k n t l ac a u (.ref (a + 2)) (.ref (a + 3)) (.ref (a + 4))
noncomputable def c3 (k n t l ac a u : Nat) : Obj := cO k n t l ac a u .none .none (.ref (a + 2))
noncomputable def fO (st : Stmt) (pm : PySem.Str) (t cd : Nat) : Obj := match st with
  | .FunctionDef name args body _ _ _ scope _ _ _ => { cls := .type "function", data := .func { name := name, qualname := name, params := args, body := .stmts body, scope := scope, globals := 3, closure := [], defaults := .none, kwdefaults := .none, pyModule := .str pm t, code := .ref cd } }
  | _ => default
noncomputable def ob3 (P : Params) : Obj := dO (en P 8 53901559791857631 165 (.str (Str.ofString "law_qu0055_01") 498) :: en P 7 421105403244511 166 .none :: en P 11 113039760542812094607327 167 .none :: en P 10 883130438894441148383 168 (.builtin "__main__.__loader__#opaque") :: en P 8 53901488956436447 169 .none :: er P 15 30344151541145318921183520387039 170 6 :: er P 12 14469218985635115783729119 171 4 :: en P 8 53901559540068319 173 (.str cutS 172) :: en P 10 883122557733039566815 174 .none :: ei P 9 5947898946493949765 190 0 189 :: ei P 4 173041740 192 7 191 :: ei P 4 173041746 194 8 193 :: ei P 4 139749836 196 9 195 :: ei P 4 139749842 198 10 197 :: ei P 5 21104895939 200 11 199 :: ei P 5 17611057091 202 12 201 :: ei P 4 154362579 204 13 203 :: ei P 4 175466064 206 14 205 :: ei P 5 22459688141 208 15 207 :: ei P 4 173042259 210 16 209 :: ei P 5 19502491219 212 17 211 :: ei P 4 173039958 214 18 213 :: ei P 5 22157731521 216 19 215 :: ei P 4 175432396 218 20 217 :: ei P 7 363033321892167 220 21 219 :: ei P 5 20538812613 222 22 221 :: ei P 3 1386436 224 23 223 :: ei P 7 372134630433488 226 24 225 :: ei P 6 2388944789836 228 25 227 :: ei P 6 2388944789842 230 26 229 :: ei P 7 336507905861829 232 27 231 :: ei P 8 43073011950364622 234 28 233 :: ei P 9 5513345529644638924 236 29 235 :: ei P 12 11562323604180438730500423 238 30 237 :: ei P 5 18665907412 240 31 239 :: ei P 10 816671807960211825859 242 32 241 :: ei P 9 6092567949679370956 244 33 243 :: ei P 10 779848697558963709138 246 34 245 :: ei P 10 761047905859867600836 248 35 247 :: ei P 9 5513345529644672592 250 36 249 :: ei P 8 43073011950265549 252 37 251 :: ei P 9 5513345529642248787 254 38 253 :: ei P 10 705708227791560926803 256 39 255 :: ei P 12 11562323604189540039041744 258 40 257 :: ei P 10 705708227794216167105 260 41 259 :: ei P 9 5513345529642246486 262 42 261 :: ei P 15 24247950071209551195433833112771 264 43 263 :: ei P 14 189437109931036938164317037260 266 44 265 :: ei P 15 24247950071172728085032584996050 268 45 267 :: ei P 15 24247950071153927293333488887748 270 46 269 :: ei P 11 85772863465950708852676 272 47 271 :: ei P 16 3103737609096061425062574233577412 274 48 273 :: ei P 2 10817 276 49 275 :: ei P 7 336507905862209 278 50 277 :: ei P 6 3010676957394 280 51 279 :: ei P 8 47048777016747589 282 52 281 :: ei P 10 705708227793163331523 284 53 283 :: ei P 11 92820100587566796958789 286 54 285 :: ei P 9 6092048907971848782 288 256 287 :: er P 17 433785186788271204750491937364012101 385 15 :: er P 10 705704252235048102345 392 24 :: er P 5 18957298121 399 31 :: ei P 10 780067126301401703007 403 4000 402 :: er P 8 62143792397578847 420 38 :: er P 8 62148190712525407 434 45 :: er P 11 136845572035241163076831 445 52 :: er P 11 137970793631934871925343 456 59 :: er P 11 136799955053019093693023 471 66 :: er P 10 930397480772916033385 481 73 :: en P 15 26159136210028821327257355363909 485 (.str (Str.ofString "...") 484) :: er P 15 33206286287828290556881868108511 497 80 :: er P 10 1069114467355289220703 505 85 :: er P 10 967654041333710485087 511 90 :: er P 10 994738148395556828767 517 95 :: er P 10 1058807983353263322719 529 102 :: er P 12 17513835651023550100829791 535 107 :: er P 12 16742909974572812841023071 546 114 :: er P 3 1962220 552 119 :: []) 78
noncomputable def ob15 (P : Params) : Obj := dO (ei P 1 33 289 54 285 :: ei P 2 7841 291 28 233 :: ei P 1 37 293 24 225 :: ei P 2 7845 295 40 257 :: ei P 1 38 297 19 215 :: ei P 2 7846 299 41 259 :: ei P 1 40 301 7 191 :: ei P 1 41 303 8 193 :: ei P 1 42 305 16 209 :: ei P 2 5418 307 35 247 :: ei P 3 1004842 309 46 269 :: ei P 2 7850 311 38 253 :: ei P 1 43 313 14 205 :: ei P 2 7851 315 36 249 :: ei P 1 44 317 12 201 :: ei P 1 45 319 15 207 :: ei P 2 7853 321 37 251 :: ei P 2 7981 323 51 279 :: ei P 1 46 325 23 223 :: ei P 3 759598 327 52 281 :: ei P 1 47 329 17 211 :: ei P 2 6063 331 47 271 :: ei P 3 1005487 333 48 273 :: ei P 2 7855 335 39 255 :: ei P 1 58 337 11 199 :: ei P 2 7866 339 53 283 :: ei P 1 59 341 13 203 :: ei P 1 60 343 20 217 :: ei P 2 7740 345 33 243 :: ei P 3 1007164 347 44 265 :: ei P 2 7868 349 29 235 :: ei P 1 61 351 22 221 :: ei P 2 7869 353 27 231 :: ei P 1 62 355 21 219 :: ei P 2 7870 357 30 237 :: ei P 2 7998 358 34 245 :: ei P 3 1007422 359 45 267 :: ei P 1 64 360 49 275 :: ei P 2 7872 361 50 277 :: ei P 1 91 362 9 195 :: ei P 1 93 363 10 197 :: ei P 1 94 364 32 241 :: ei P 2 7902 365 43 263 :: ei P 1 123 366 25 227 :: ei P 1 124 367 18 213 :: ei P 2 7932 368 42 261 :: ei P 1 125 369 26 229 :: ei P 1 126 370 31 239 :: []) 48
noncomputable abbrev mdT : PySem.Str := Str.ofString "cpy313.token"
noncomputable abbrev mdP : PySem.Str := Str.ofString "cpy313._pylong"
noncomputable abbrev mdD : PySem.Str := Str.ofString "cpy313.doctest"
noncomputable abbrev mdL : PySem.Str := Str.ofString "law_qu0055_01"
noncomputable def ob23 : Obj := c5 10 705704252235048102345 386 53 1 18 390
noncomputable def ob24 : Obj := fO st52 mdT 187 23
noncomputable def ob30 : Obj := c5 5 18957298121 393 55 1 25 397
noncomputable def ob31 : Obj := fO st53 mdT 187 30
noncomputable def ob37 : Obj := c5 8 62143792397578847 404 59 3 32 418
noncomputable def ob38 : Obj := fO st56 mdP 400 37
noncomputable def ob44 : Obj := c5 8 62148190712525407 421 75 6 39 432
noncomputable def ob45 : Obj := fO st57 mdP 400 44
noncomputable def ob51 : Obj := c5 11 136845572035241163076831 435 85 2 46 443
noncomputable def ob52 : Obj := fO st58 mdP 400 51
noncomputable def ob58 : Obj := c5 11 137970793631934871925343 446 101 2 53 454
noncomputable def ob59 : Obj := fO st59 mdP 400 58
noncomputable def ob65 : Obj := c5 11 136799955053019093693023 457 110 2 60 469
noncomputable def ob66 : Obj := fO st60 mdP 400 65
noncomputable def ob72 : Obj := c5 10 930397480772916033385 472 121 2 67 479
noncomputable def ob73 : Obj := fO st61 mdP 400 72
noncomputable def ob79 : Obj := c5 15 33206286287828290556881868108511 486 134 2 74 495
noncomputable def ob80 : Obj := fO st64 mdD 482 79
noncomputable def ob84 : Obj := c3 10 1069114467355289220703 500 163 1 81 503
noncomputable def ob85 : Obj := fO st66 mdL 498 84
noncomputable def ob89 : Obj := c3 10 967654041333710485087 506 170 2 86 509
noncomputable def ob90 : Obj := fO st67 mdL 498 89
noncomputable def ob94 : Obj := c3 10 994738148395556828767 512 181 2 91 515
noncomputable def ob95 : Obj := fO st68 mdL 498 94
noncomputable def ob101 : Obj := c5 10 1058807983353263322719 518 189 3 96 527
noncomputable def ob102 : Obj := fO st69 mdL 498 101
noncomputable def ob106 : Obj := c3 12 17513835651023550100829791 530 196 1 103 533
noncomputable def ob107 : Obj := fO st70 mdL 498 106
noncomputable def ob113 : Obj := c5 12 16742909974572812841023071 536 205 3 108 544
noncomputable def ob114 : Obj := fO st71 mdL 498 113
noncomputable def ob118 : Obj := c3 3 1962220 547 211 1 115 550
noncomputable def ob119 : Obj := fO st72 mdL 498 118
noncomputable def KK (P : Params) : Frag := (nat_lit 2, { cls := .none, data := .dict #[] }) :: (nat_lit 3, ob3 P) :: (nat_lit 15, ob15 P) :: (nat_lit 23, ob23) :: (nat_lit 24, ob24) :: (nat_lit 30, ob30) :: (nat_lit 31, ob31) :: (nat_lit 37, ob37) :: (nat_lit 38, ob38) :: (nat_lit 44, ob44) :: (nat_lit 45, ob45) :: (nat_lit 51, ob51) :: (nat_lit 52, ob52) :: (nat_lit 58, ob58) :: (nat_lit 59, ob59) :: (nat_lit 65, ob65) :: (nat_lit 66, ob66) :: (nat_lit 72, ob72) :: (nat_lit 73, ob73) :: (nat_lit 79, ob79) :: (nat_lit 80, ob80) :: (nat_lit 84, ob84) :: (nat_lit 85, ob85) :: (nat_lit 89, ob89) :: (nat_lit 90, ob90) :: (nat_lit 94, ob94) :: (nat_lit 95, ob95) :: (nat_lit 101, ob101) :: (nat_lit 102, ob102) :: (nat_lit 106, ob106) :: (nat_lit 107, ob107) :: (nat_lit 113, ob113) :: (nat_lit 114, ob114) :: (nat_lit 118, ob118) :: (nat_lit 119, ob119) :: []
def kas : List Addr := [2, 3, 15, 23, 24, 30, 31, 37, 38, 44, 45, 51, 52, 58, 59, 65, 66, 72, 73, 79, 80, 84, 85, 89, 90, 94, 95, 101, 102, 106, 107, 113, 114, 118, 119]
end Mine

set_option maxRecDepth 100000

section
set_option compiler.extract_closed false
namespace Mine
open PySem PySem.W PyProof.Rows PySem.Calls

abbrev P0 : Program := Mine.row2.row.prog
noncomputable abbrev KH (w : World) : Frag := Mine.KK w.params

/-- what the base (the heap of the law's start, the two code tables hidden) gives -/
structure Gl (w : World) (g : Heap) : Prop where
  K : (KH w).In g
  top : ∃ p loose mean mg mb, Top p loose mean mg mb g
  c1 : CodeHd g 51 47
  c2 : CodeHd g 58 54
  n1 : g.get? 47 = none
  n2 : g.get? 54 = none
  big : 54 < g.objs.size

def TabOk (P : Addr) (l c : Nat) (q : PySem.Str) (h : Heap) : Prop :=
  ∃ ps, h.get? P = some (tabObj ps) ∧ TriplesOk ps.toList ∧
    ∀ el ec, (codeAmong ⟨l, c, el, ec⟩ ps.toList = none ∨ ∃ cv, codeAmong ⟨l, c, el, ec⟩ ps.toList = some cv ∧ h.CodeRec cv q)

abbrev q1 : PySem.Str := PySem.Str.ofString "_int2digits.<locals>.inner"
abbrev q2 : PySem.Str := PySem.Str.ofString "_digits2int.<locals>.inner"

structure Ok (g h : Heap) : Prop where
  keep : ∀ a o, g.get? a = some o → h.get? a = some o
  t1 : TabOk 47 88 4 q1 h
  t2 : TabOk 54 103 4 q2 h

def Ext (h h' : Heap) : Prop := ∀ a o, a ≠ 47 → a ≠ 54 → h.get? a = some o → h'.get? a = some o
theorem Ext.refl (h : Heap) : Ext h h := fun _ _ _ _ e => e
theorem Ext.trans {h h' h'' : Heap} (x : Ext h h') (y : Ext h' h'') : Ext h h'' := fun a o n m e => y a o n m (x a o n m e)
theorem Ext.of {h h' : Heap} (x : ∀ a o, h.get? a = some o → h'.get? a = some o) : Ext h h' := fun a o _ _ e => x a o e

def NotCode (o : Obj) : Prop := ∀ vs q t, o.data = .fields vs → vs[1]? ≠ some (Value.str q t)

theorem TabOk.mono {P l c : Nat} {q : PySem.Str} {h h' : Heap} (T : TabOk P l c q h) (k : ∀ a o, h.get? a = some o → h'.get? a = some o) : TabOk P l c q h' := by
  obtain ⟨ps, e, t, r⟩ := T
  refine ⟨ps, k _ _ e, t, fun el ec => (r el ec).imp id ?_⟩
  rintro ⟨cv, a, b⟩
  exact ⟨cv, a, b.keeps k⟩
theorem TabOk.but {P l c : Nat} {q : PySem.Str} {h h' : Heap} {a : Addr} {oa : Obj} (T : TabOk P l c q h) (k : Heap.ExtBut a h h') (ha : h.get? a = some oa) (hP : P ≠ a) (hn : NotCode oa) : TabOk P l c q h' := by
  obtain ⟨ps, e, t, r⟩ := T
  refine ⟨ps, k _ _ hP e, t, fun el ec => (r el ec).imp id ?_⟩
  rintro ⟨cv, b, c, o, vs, t, e1, e2, e3, e4⟩
  refine ⟨cv, b, c, o, vs, t, e1, k _ _ ?_ e2, e3, e4⟩
  rintro rfl
  rw [ha] at e2; cases e2
  exact hn _ _ _ e3 e4

section
variable {w : World} {g : Heap}
theorem Gl.ne1 (G : Gl w g) {a : Addr} {o : Obj} (e : g.get? a = some o) : a ≠ 47 := by rintro rfl; rw [G.n1] at e; cases e
theorem Gl.ne2 (G : Gl w g) {a : Addr} {o : Obj} (e : g.get? a = some o) : a ≠ 54 := by rintro rfl; rw [G.n2] at e; cases e
end

theorem nlt {a b : Nat} (h : a < b) : @LT.lt Nat _ a b := h
theorem nle {a b : Nat} (h : a ≤ b) : @LE.le Nat _ a b := h
theorem nne {a b : Nat} (h : @Ne Nat a b) : a ≠ b := h
theorem gtne {a b c : Nat} (h : b ≤ c) (k : c ≤ a) (l : 54 < b) : a ≠ 47 ∧ a ≠ 54 := ⟨by lia, by lia⟩

/-- an address that the heap b does not hold -/
def Fr0 (b : Heap) (a : Addr) : Prop := b.get? a = none ∧ a ≠ 47 ∧ a ≠ 54
theorem Fr0.of {b : Heap} {a : Addr} (h : b.objs.size ≤ a) (l : 54 < b.objs.size) : Fr0 b a := ⟨Heap.get?_none_of_le h, (gtne (Nat.le_refl _) h l).1, (gtne (Nat.le_refl _) h l).2⟩
theorem Fr0.ne {b : Heap} {a x : Addr} {o : Obj} (F : Fr0 b a) (e : b.get? x = some o) : x ≠ a := by rintro rfl; rw [F.1] at e; cases e

/-- the state of a running def: base b (as at the entry), frame L, locals m, own objects (may change), new objects that never change -/
structure Sh (g b : Heap) (L : Addr) (h : Heap) (m : PySem.Str → Option Value) (own imm : List (Addr × Obj)) : Prop where
  ns : h.Ns L m
  ext : Ext b h
  mine : ∀ p ∈ own, h.get? p.1 = some p.2 ∧ p.1 ≠ L ∧ Fr0 b p.1
  nd : (own.map (·.1)).Nodup
  le : b.objs.size ≤ L
  big : 54 < b.objs.size
  gle : g.objs.size ≤ b.objs.size
  ok : Ok g h
  bk : ∀ a o, g.get? a = some o → a ≠ 47 ∧ a ≠ 54 ∧ b.get? a = some o
  im : ∀ p ∈ imm, h.get? p.1 = some p.2 ∧ p.1 ≠ L ∧ Fr0 b p.1 ∧ p.1 ∉ own.map (·.1)

section
variable {g b h h' : Heap} {L : Addr} {m m' : PySem.Str → Option Value} {own imm : List (Addr × Obj)}

theorem Sh.get (S : Sh g b L h m own imm) {a : Addr} {o : Obj} (hm : (a, o) ∈ own) : h.get? a = some o := (S.mine _ hm).1
theorem Sh.geti (S : Sh g b L h m own imm) {a : Addr} {o : Obj} (hm : (a, o) ∈ imm) : h.get? a = some o := (S.im _ hm).1
theorem Sh.old (S : Sh g b L h m own imm) {a : Addr} {o : Obj} (e : b.get? a = some o) (h1 : a ≠ 47) (h2 : a ≠ 54) : h.get? a = some o := S.ext a o h1 h2 e
theorem Sh.gk (S : Sh g b L h m own imm) {a : Addr} {o : Obj} (e : g.get? a = some o) : h.get? a = some o := S.ok.keep a o e
theorem Sh.bsz (S : Sh g b L h m own imm) : b.objs.size ≤ h.objs.size := Nat.le_trans S.le (Nat.le_of_lt S.ns.lt)
theorem Sh.gsz (S : Sh g b L h m own imm) : g.objs.size ≤ h.objs.size := Nat.le_trans S.gle S.bsz
theorem Sh.fr (S : Sh g b L h m own imm) : Fr g L h m := ⟨S.ns, S.ok.keep, Nat.le_trans S.gle S.le⟩

theorem frameNotCode (n : h.Ns L m) : ∃ o, h.get? L = some o ∧ NotCode o := by
  obtain ⟨o, es, ep, e, d, _⟩ := n
  exact ⟨o, e, fun vs q t hd => by rw [d] at hd; cases hd⟩

theorem Sh.set (S : Sh g b L h m own imm) (hn : h'.Ns L m') (hs : Heap.SameBut L h h') : Sh g b L h' m' own imm := by
  obtain ⟨o, eo, nc⟩ := frameNotCode S.ns
  have x := hs.extBut
  refine ⟨hn, fun a o h1 h2 e => (hs.2 a ?_).trans (S.ext a o h1 h2 e), fun p hp => ⟨(hs.2 _ (S.mine p hp).2.1).trans (S.mine p hp).1, (S.mine p hp).2⟩, S.nd, S.le, S.big, S.gle,
    ⟨fun a o e => (hs.2 a ?_).trans (S.ok.keep a o e), S.ok.t1.but x eo (Ne.symm (gtne (Nat.le_refl _) S.le S.big).1) nc, S.ok.t2.but x eo (Ne.symm (gtne (Nat.le_refl _) S.le S.big).2) nc⟩, S.bk,
    fun p hp => ⟨(hs.2 _ (S.im p hp).2.1).trans (S.im p hp).1, (S.im p hp).2⟩⟩
  · exact Nat.ne_of_lt (Nat.lt_of_lt_of_le (Heap.lt_size e) S.le)
  · exact Nat.ne_of_lt (Nat.lt_of_lt_of_le (Heap.lt_size (S.bk a o e).2.2) S.le)

/-- a heap that grew by a call (or by objects nobody keeps) -/
theorem Sh.grow (S : Sh g b L h m own imm) (x : Ext h h') (o : Ok g h') : Sh g b L h' m own imm := by
  refine ⟨?_, S.ext.trans x, fun p hp => ⟨x _ _ ?_ ?_ (S.mine p hp).1, (S.mine p hp).2⟩, S.nd, S.le, S.big, S.gle, o, S.bk, fun p hp => ⟨x _ _ ?_ ?_ (S.im p hp).1, (S.im p hp).2⟩⟩
  · obtain ⟨ol, es, ep, e, r⟩ := S.ns
    exact ⟨ol, es, ep, x _ _ (gtne (Nat.le_refl _) S.le S.big).1 (gtne (Nat.le_refl _) S.le S.big).2 e, r⟩
  · exact (S.mine p hp).2.2.2.1
  · exact (S.mine p hp).2.2.2.2
  · exact (S.im p hp).2.2.1.2.1
  · exact (S.im p hp).2.2.1.2.2
theorem Sh.keeps (S : Sh g b L h m own imm) (k : ∀ a o, h.get? a = some o → h'.get? a = some o) : Sh g b L h' m own imm :=
  S.grow (.of k) ⟨fun a o e => k a o (S.ok.keep a o e), S.ok.t1.mono k, S.ok.t2.mono k⟩
theorem Sh.push0 (S : Sh g b L h m own imm) (o : Obj) : Sh g b L (h.push o) m own imm := S.keeps fun _ _ e => Heap.get?_push_of_some o e

theorem Sh.push (S : Sh g b L h m own imm) (o : Obj) (hf : o.isFreed = false := by rfl) : Sh g b L (h.push o) m ((h.objs.size, o) :: own) imm := by
  have S' := S.push0 o
  have ll := S.ns.lt
  refine ⟨S'.ns, S'.ext, fun p hp => ?_, ?_, S.le, S.big, S.gle, S'.ok, S.bk, fun p hp => ?_⟩
  · rcases List.mem_cons.mp hp with rfl | hp
    · exact ⟨Heap.get?_push_size _ hf, Nat.ne_of_gt ll, Fr0.of (Nat.le_trans S.le (Nat.le_of_lt ll)) S.big⟩
    · exact S'.mine p hp
  · refine List.nodup_cons.mpr ⟨fun q => ?_, S.nd⟩
    obtain ⟨p, hp, e⟩ := List.mem_map.mp q
    exact absurd (Heap.lt_size (S.mine p hp).1) (by simp only at e; rw [e]; exact Nat.lt_irrefl _)
  · refine ⟨(S'.im p hp).1, (S'.im p hp).2.1, (S'.im p hp).2.2.1, fun q => ?_⟩
    rcases List.mem_cons.mp q with e | q
    · exact absurd (Heap.lt_size (S.im p hp).1) (by simp only at e; rw [e]; exact Nat.lt_irrefl _)
    · exact (S.im p hp).2.2.2 q

theorem Sh.fr0 (S : Sh g b L h m own imm) {a : Addr} (F : Fr0 h a) : Fr0 b a := by
  refine ⟨?_, F.2⟩
  cases e : b.get? a with
  | none => rfl
  | some o => have := S.ext a o F.2.1 F.2.2 e; rw [F.1] at this; cases this
theorem Sh.adopt {nw : List (Addr × Obj)} (S : Sh g b L h m own imm) (x : Ext h h') (o : Ok g h') (hn : ∀ p ∈ nw, h'.get? p.1 = some p.2 ∧ Fr0 h p.1) : Sh g b L h' m own (nw ++ imm) := by
  have S' := S.grow x o
  refine ⟨S'.ns, S'.ext, S'.mine, S.nd, S.le, S.big, S.gle, o, S.bk, fun p hp => ?_⟩
  rcases List.mem_append.mp hp with q | q
  · refine ⟨(hn p q).1, ?_, S.fr0 (hn p q).2, fun z => ?_⟩
    · obtain ⟨oL, _, _, eL, _⟩ := S.ns
      exact Ne.symm ((hn p q).2.ne eL)
    · obtain ⟨r, hr, e⟩ := List.mem_map.mp z
      exact (hn p q).2.ne (S.mine r hr).1 e
  · exact S'.im p q

theorem Sh.pushI (S : Sh g b L h m own imm) (o : Obj) (hf : o.isFreed = false := by rfl) : Sh g b L (h.push o) m own ((h.objs.size, o) :: imm) := by
  have S' := S.push0 o
  exact S.adopt (nw := [(h.objs.size, o)]) (.of fun _ _ e => Heap.get?_push_of_some o e) S'.ok fun p hp => by
    rcases List.mem_cons.mp hp with rfl | hp
    · exact ⟨Heap.get?_push_size _ hf, Fr0.of (Nat.le_refl _) (Nat.lt_of_lt_of_le S.big S.bsz)⟩
    · cases hp

theorem Sh.upd {l₁ l₂ : List (Addr × Obj)} {a : Addr} {o o' : Obj} (S : Sh g b L h m (l₁ ++ (a, o) :: l₂) imm) (hs : Heap.ExtBut a h h') (e' : h'.get? a = some o') (nc : NotCode o) : Sh g b L h' m (l₁ ++ (a, o') :: l₂) imm := by
  have A := S.mine (a, o) (by simp)
  have al : Fr0 b a := A.2.2
  have nd := S.nd
  rw [List.map_append, List.map_cons, List.nodup_append] at nd
  obtain ⟨_, nd2, nd3⟩ := nd
  rw [List.nodup_cons] at nd2
  refine ⟨?_, fun x ox h1 h2 e => hs x ox ?_ (S.ext x ox h1 h2 e), fun p hp => ?_, by have := S.nd; simpa using this, S.le, S.big, S.gle,
    ⟨fun x ox e => hs x ox ?_ (S.ok.keep x ox e), S.ok.t1.but hs A.1 (Ne.symm al.2.1) nc, S.ok.t2.but hs A.1 (Ne.symm al.2.2) nc⟩, S.bk, fun p hp => ?_⟩
  · exact S.ns.extBut hs (Ne.symm A.2.1)
  · exact al.ne e
  · rcases List.mem_append.mp hp with q | q
    · have P := S.mine p (List.mem_append_left _ q)
      exact ⟨hs _ _ (nd3 _ (List.mem_map_of_mem q) _ (List.mem_cons_self)) P.1, P.2⟩
    · rcases List.mem_cons.mp q with rfl | q
      · exact ⟨e', A.2⟩
      · have P := S.mine p (List.mem_append_right _ (.tail _ q))
        refine ⟨hs _ _ (fun z => nd2.1 ?_) P.1, P.2⟩
        rw [← z]; exact List.mem_map.mpr ⟨p, q, rfl⟩
  · exact al.ne (S.bk x ox e).2.2
  · have P := S.im p hp
    refine ⟨hs _ _ (fun z => P.2.2.2 ?_) P.1, P.2.1, P.2.2.1, by have := P.2.2.2; simpa using this⟩
    rw [z]; simp

theorem Sh.drop {own' : List (Addr × Obj)} (S : Sh g b L h m own imm) (hs : own'.Sublist own) : Sh g b L h m own' imm :=
  ⟨S.ns, S.ext, fun p hp => S.mine p (hs.subset hp), S.nd.sublist (hs.map _), S.le, S.big, S.gle, S.ok, S.bk, fun p hp => ⟨(S.im p hp).1, (S.im p hp).2.1, (S.im p hp).2.2.1, fun q => (S.im p hp).2.2.2 ((hs.map _).subset q)⟩⟩
theorem Sh.dropI {imm' : List (Addr × Obj)} (S : Sh g b L h m own imm) (hs : ∀ p ∈ imm', p ∈ imm) : Sh g b L h m own imm' :=
  ⟨S.ns, S.ext, S.mine, S.nd, S.le, S.big, S.gle, S.ok, S.bk, fun p hp => S.im p (hs p hp)⟩

/-- one that is changed and not kept any longer -/
theorem Sh.forget {l₁ l₂ : List (Addr × Obj)} {a : Addr} {o : Obj} (S : Sh g b L h m (l₁ ++ (a, o) :: l₂) imm) (hs : Heap.ExtBut a h h') (nc : NotCode o) : Sh g b L h' m (l₁ ++ l₂) imm := by
  have A := S.mine (a, o) (by simp)
  have al : Fr0 b a := A.2.2
  have nd := S.nd
  rw [List.map_append, List.map_cons, List.nodup_append] at nd
  obtain ⟨_, nd2, nd3⟩ := nd
  rw [List.nodup_cons] at nd2
  refine ⟨?_, fun x ox h1 h2 e => hs x ox ?_ (S.ext x ox h1 h2 e), fun p hp => ?_, ?_, S.le, S.big, S.gle,
    ⟨fun x ox e => hs x ox ?_ (S.ok.keep x ox e), S.ok.t1.but hs A.1 (Ne.symm al.2.1) nc, S.ok.t2.but hs A.1 (Ne.symm al.2.2) nc⟩, S.bk, fun p hp => ?_⟩
  · exact S.ns.extBut hs (Ne.symm A.2.1)
  · exact al.ne e
  · rcases List.mem_append.mp hp with q | q
    · have P := S.mine p (List.mem_append_left _ q)
      exact ⟨hs _ _ (nd3 _ (List.mem_map_of_mem q) _ (List.mem_cons_self)) P.1, P.2⟩
    · have P := S.mine p (List.mem_append_right _ (.tail _ q))
      refine ⟨hs _ _ (fun z => nd2.1 ?_) P.1, P.2⟩
      rw [← z]; exact List.mem_map.mpr ⟨p, q, rfl⟩
  · exact S.nd.sublist (((List.sublist_cons_self _ _).append_left _).map _)
  · exact al.ne (S.bk x ox e).2.2
  · have P := S.im p hp
    refine ⟨hs _ _ (fun z => P.2.2.2 ?_) P.1, P.2.1, P.2.2.1, fun q => P.2.2.2 ?_⟩
    · rw [z]; simp
    · exact (((List.sublist_cons_self _ _).append_left _).map _).subset q

/-- an own object becomes one that never changes again -/
theorem Sh.freeze {l₁ l₂ : List (Addr × Obj)} {a : Addr} {o : Obj} (S : Sh g b L h m (l₁ ++ (a, o) :: l₂) imm) : Sh g b L h m (l₁ ++ l₂) ((a, o) :: imm) := by
  have A := S.mine (a, o) (by simp)
  have S' := S.drop (own' := l₁ ++ l₂) ((List.sublist_cons_self _ _).append_left _)
  have nd := S.nd
  rw [List.map_append, List.map_cons, List.nodup_append] at nd
  obtain ⟨_, nd2, nd3⟩ := nd
  rw [List.nodup_cons] at nd2
  refine ⟨S'.ns, S'.ext, S'.mine, S'.nd, S'.le, S'.big, S'.gle, S'.ok, S'.bk, fun p hp => ?_⟩
  rcases List.mem_cons.mp hp with rfl | hp
  · refine ⟨A.1, A.2.1, A.2.2, fun q => ?_⟩
    rw [List.map_append] at q
    rcases List.mem_append.mp q with q | q
    · exact nd3 _ q _ List.mem_cons_self rfl
    · exact nd2.1 q
  · exact S'.im p hp

theorem Sh.perm {own' : List (Addr × Obj)} (S : Sh g b L h m own imm) (hp : own'.Perm own) : Sh g b L h m own' imm :=
  ⟨S.ns, S.ext, fun x hx => S.mine x (hp.mem_iff.mp hx), (hp.map _).nodup_iff.mpr S.nd, S.le, S.big, S.gle, S.ok, S.bk, fun p h => ⟨(S.im p h).1, (S.im p h).2.1, (S.im p h).2.2.1, fun q => (S.im p h).2.2.2 ((hp.map _).mem_iff.mp q)⟩⟩
theorem Sh.swap {p q : Addr × Obj} {r : List (Addr × Obj)} (S : Sh g b L h m (p :: q :: r) imm) : Sh g b L h m (q :: p :: r) imm := S.perm (List.Perm.swap ..)
theorem Sh.mid {p : Addr × Obj} {l fr : List (Addr × Obj)} (S : Sh g b L h m (p :: (l ++ fr)) imm) : Sh g b L h m (l ++ p :: fr) imm := S.perm List.perm_middle
theorem keptSh : KeptH (fun h => Sh g b L h m own imm) := fun _ ob S => S.push0 ob
end

abbrev Loc := PySem.Str → Option Value
abbrev Led := List (Addr × Obj)
def Same (s s' : Shared) : Prop := s'.gens = s.gens ∧ s'.drawn = s.drawn ∧ s'.os = s.os
theorem Same.refl (s : Shared) : Same s s := ⟨rfl, rfl, rfl⟩
theorem Same.trans {s s' s'' : Shared} (a : Same s s') (b : Same s' s'') : Same s s'' := ⟨b.1.trans a.1, b.2.1.trans a.2.1, b.2.2.trans a.2.2⟩
/-- the state of a running def, as a whole: b the state at its entry -/
def St (g : Heap) (b : Shared) (L : Addr) (s : Shared) (m : Loc) (own imm : Led) : Prop := Sh g b.heap L s.heap m own imm ∧ Same b s

section
variable {g : Heap} {b s s' : Shared} {L : Addr} {m m' : Loc} {own imm : Led}
theorem St.sh (S : St g b L s m own imm) : Sh g b.heap L s.heap m own imm := S.1
theorem St.same (S : St g b L s m own imm) : Same b s := S.2
theorem St.ok (S : St g b L s m own imm) : Ok g s.heap := S.1.ok
theorem St.ext (S : St g b L s m own imm) : Ext b.heap s.heap := S.1.ext
theorem St.gsz (S : St g b L s m own imm) : g.objs.size ≤ s.heap.objs.size := S.1.gsz
theorem St.get (S : St g b L s m own imm) {a : Addr} {o : Obj} (hm : (a, o) ∈ own) : s.heap.get? a = some o := S.1.get hm
theorem St.geti (S : St g b L s m own imm) {a : Addr} {o : Obj} (hm : (a, o) ∈ imm) : s.heap.get? a = some o := S.1.geti hm
theorem St.gets (S : St g b L s m own imm) : ∀ p ∈ imm, s.heap.get? p.1 = some p.2 := fun p hp => (S.1.im p hp).1
theorem St.old (S : St g b L s m own imm) {a : Addr} {o : Obj} (e : b.heap.get? a = some o) (h1 : a ≠ 47) (h2 : a ≠ 54) : s.heap.get? a = some o := S.1.old e h1 h2
theorem St.gk (S : St g b L s m own imm) {a : Addr} {o : Obj} (e : g.get? a = some o) : s.heap.get? a = some o := S.1.gk e
theorem St.neI (S : St g b L s m own imm) {a : Addr} {o : Obj} (hm : (a, o) ∈ imm) : a ≠ 47 ∧ a ≠ 54 := (S.1.im _ hm).2.2.1.2
theorem St.neO (S : St g b L s m own imm) {a : Addr} {o : Obj} (hm : (a, o) ∈ own) : a ≠ 47 ∧ a ≠ 54 := (S.1.mine _ hm).2.2.2
theorem St.geI (S : St g b L s m own imm) : ∀ p ∈ imm, s.heap.get? p.1 = some p.2 ∧ Fr0 b.heap p.1 := fun p hp => ⟨(S.1.im p hp).1, (S.1.im p hp).2.2.1⟩
theorem St.geO (S : St g b L s m own imm) {a : Addr} {o : Obj} (hm : (a, o) ∈ own) : Fr0 b.heap a := (S.1.mine _ hm).2.2
theorem St.perm {own' : Led} (S : St g b L s m own imm) (hp : own'.Perm own) : St g b L s m own' imm := ⟨S.1.perm hp, S.2⟩
theorem St.swap {p q : Addr × Obj} {r : Led} (S : St g b L s m (p :: q :: r) imm) : St g b L s m (q :: p :: r) imm := ⟨S.1.swap, S.2⟩
theorem St.mid {p : Addr × Obj} {l fr : Led} (S : St g b L s m (p :: (l ++ fr)) imm) : St g b L s m (l ++ p :: fr) imm := ⟨S.1.mid, S.2⟩
theorem St.drop {own' : Led} (S : St g b L s m own imm) (hs : own'.Sublist own) : St g b L s m own' imm := ⟨S.1.drop hs, S.2⟩
theorem St.dropI {imm' : Led} (S : St g b L s m own imm) (hs : ∀ p ∈ imm', p ∈ imm) : St g b L s m own imm' := ⟨S.1.dropI hs, S.2⟩
theorem St.freeze {l₁ l₂ : Led} {a : Addr} {o : Obj} (S : St g b L s m (l₁ ++ (a, o) :: l₂) imm) : St g b L s m (l₁ ++ l₂) ((a, o) :: imm) := ⟨S.1.freeze, S.2⟩
theorem St.grow (S : St g b L s m own imm) (e : Same s s') (x : Ext s.heap s'.heap) (o : Ok g s'.heap) : St g b L s' m own imm := ⟨S.1.grow x o, S.2.trans e⟩
theorem St.adopt {nw : Led} (S : St g b L s m own imm) (e : Same s s') (x : Ext s.heap s'.heap) (o : Ok g s'.heap) (hn : ∀ p ∈ nw, s'.heap.get? p.1 = some p.2 ∧ Fr0 s.heap p.1) : St g b L s' m own (nw ++ imm) := ⟨S.1.adopt x o hn, S.2.trans e⟩
/-- another state of the same heap's make -/
theorem St.of {h' : Heap} {tk : Nat} (S : St g b L s m own imm) {m' : Loc} {own' imm' : Led} (H : Sh g b.heap L h' m' own' imm') : St g b L { s with heap := h', toks := tk } m' own' imm' := ⟨H, S.2⟩
theorem St.asc {l r : Led} {p : Addr × Obj} (S : St g b L s m (l ++ p :: r) imm) : St g b L s m ((l ++ [p]) ++ r) imm := by rwa [List.append_assoc]
theorem St.csa {l r : Led} {p : Addr × Obj} (S : St g b L s m ((l ++ [p]) ++ r) imm) : St g b L s m (l ++ p :: r) imm := by rwa [List.append_assoc] at S
theorem keptSt {b : Shared} : KeptH (fun h => Sh g b.heap L h m own imm) := keptSh
end

/-- places in a list -/
theorem m0 {α : Type} {x : α} {l : List α} : x ∈ x :: l := .head _
theorem m1 {α : Type} {a0 x : α} {l : List α} : x ∈ a0 :: x :: l := .tail _ m0
theorem m2 {α : Type} {a0 a1 x : α} {l : List α} : x ∈ a0 :: a1 :: x :: l := .tail _ m1
theorem m3 {α : Type} {a0 a1 a2 x : α} {l : List α} : x ∈ a0 :: a1 :: a2 :: x :: l := .tail _ m2
theorem m4 {α : Type} {a0 a1 a2 a3 x : α} {l : List α} : x ∈ a0 :: a1 :: a2 :: a3 :: x :: l := .tail _ m3
theorem m5 {α : Type} {a0 a1 a2 a3 a4 x : α} {l : List α} : x ∈ a0 :: a1 :: a2 :: a3 :: a4 :: x :: l := .tail _ m4
theorem m6 {α : Type} {a0 a1 a2 a3 a4 a5 x : α} {l : List α} : x ∈ a0 :: a1 :: a2 :: a3 :: a4 :: a5 :: x :: l := .tail _ m5
theorem m7 {α : Type} {a0 a1 a2 a3 a4 a5 a6 x : α} {l : List α} : x ∈ a0 :: a1 :: a2 :: a3 :: a4 :: a5 :: a6 :: x :: l := .tail _ m6
theorem m8 {α : Type} {a0 a1 a2 a3 a4 a5 a6 a7 x : α} {l : List α} : x ∈ a0 :: a1 :: a2 :: a3 :: a4 :: a5 :: a6 :: a7 :: x :: l := .tail _ m7
/-- a term as a letter, for good (generalize is undone when the proof is written down) -/
@[elab_as_elim] theorem letter {α : Type} {p : α → Prop} (a : α) (h : ∀ x, p x) : p a := h a
@[elab_as_elim] theorem letterE {α : Type} {p : α → Prop} (a : α) (h : ∀ x, a = x → p x) : p a := h a rfl
theorem ifpos {c : Prop} [h : Decidable c] {a b : Prop} (hc : c) (k : a) : if c then a else b := (if_pos hc).mpr k
theorem ifneg {c : Prop} [h : Decidable c] {a b : Prop} (hc : ¬ c) (k : b) : if c then a else b := (if_neg hc).mpr k
/-- a postcondition as a letter: the steps behind it stay small -/
theorem cut {α : Type} {M : Model} {A : Around} {c : Sem α} {Q : α → Shared → Prop} {E : Value → Shared → Prop} {s : Shared} (h : ∀ QQ : α → Shared → Prop, (∀ a s', Q a s' → QQ a s') → wpAny M A c QQ E s) : wpAny M A c Q E s := h Q fun _ _ x => x
/-- one statement, what is behind it as a letter -/
theorem xs {M : Model} {A : Around} {st : Stmt} {rest : List Stmt} {env : Env} {Q : Flow → Shared → Prop} {E : Value → Shared → Prop} {s : Shared} (h : ∀ QQ : Flow → Shared → Prop, (∀ s', wpAny M A (execs rest env) Q E s' → QQ .next s') → wpAny M A (exec st env) QQ E s) :
    wpAny M A (execs (st :: rest) env) Q E s := wpAny_execs_cons (h _ fun _ k => k)
theorem xsr {M : Model} {A : Around} {st : Stmt} {rest : List Stmt} {env : Env} {Q : Flow → Shared → Prop} {E : Value → Shared → Prop} {s : Shared} (h : ∀ QQ : Flow → Shared → Prop, (∀ s', wpAny M A (execs rest env) Q E s' → QQ .next s') → (∀ v s', Q (.ret v) s' → QQ (.ret v) s') → wpAny M A (exec st env) QQ E s) :
    wpAny M A (execs (st :: rest) env) Q E s := wpAny_execs_cons (h _ (fun _ k => k) fun _ _ k => k)
/-! chains of ∃ and ∧ taken apart and put together in one step: rcases repeats the rest of the chain at each level -/
theorem ex2 {α β : Type} {p : α → β → Prop} {C : Prop} (h : ∃ a b, p a b) (k : ∀ a b, p a b → C) : C :=
  h.elim fun a h => h.elim fun b h => k a b h
theorem me2 {α β : Type} {p : α → β → Prop} (a : α) (b : β) (h : p a b) : ∃ a b, p a b := ⟨a, b, h⟩
theorem ex3 {α β γ : Type} {p : α → β → γ → Prop} {C : Prop} (h : ∃ a b c, p a b c) (k : ∀ a b c, p a b c → C) : C :=
  h.elim fun a h => h.elim fun b h => h.elim fun c h => k a b c h
theorem me3 {α β γ : Type} {p : α → β → γ → Prop} (a : α) (b : β) (c : γ) (h : p a b c) : ∃ a b c, p a b c := ⟨a, b, c, h⟩
theorem ex4 {α β γ δ : Type} {p : α → β → γ → δ → Prop} {C : Prop} (h : ∃ a b c d, p a b c d) (k : ∀ a b c d, p a b c d → C) : C :=
  h.elim fun a h => h.elim fun b h => h.elim fun c h => h.elim fun d h => k a b c d h
theorem me4 {α β γ δ : Type} {p : α → β → γ → δ → Prop} (a : α) (b : β) (c : γ) (d : δ) (h : p a b c d) : ∃ a b c d, p a b c d := ⟨a, b, c, d, h⟩
theorem ex5 {α β γ δ ε : Type} {p : α → β → γ → δ → ε → Prop} {C : Prop} (h : ∃ a b c d e, p a b c d e) (k : ∀ a b c d e, p a b c d e → C) : C :=
  h.elim fun a h => h.elim fun b h => h.elim fun c h => h.elim fun d h => h.elim fun e h => k a b c d e h
theorem me5 {α β γ δ ε : Type} {p : α → β → γ → δ → ε → Prop} (a : α) (b : β) (c : γ) (d : δ) (e : ε) (h : p a b c d e) : ∃ a b c d e, p a b c d e := ⟨a, b, c, d, e, h⟩
theorem an2 {a1 a2 C : Prop} (h : a1 ∧ a2) (k : a1 → a2 → C) : C :=
  k h.1 h.2
theorem ma2 {a1 a2 : Prop} (h1 : a1) (h2 : a2) : a1 ∧ a2 := ⟨h1, h2⟩
theorem an3 {a1 a2 a3 C : Prop} (h : a1 ∧ a2 ∧ a3) (k : a1 → a2 → a3 → C) : C :=
  k h.1 h.2.1 h.2.2
theorem ma3 {a1 a2 a3 : Prop} (h1 : a1) (h2 : a2) (h3 : a3) : a1 ∧ a2 ∧ a3 := ⟨h1, h2, h3⟩
theorem an4 {a1 a2 a3 a4 C : Prop} (h : a1 ∧ a2 ∧ a3 ∧ a4) (k : a1 → a2 → a3 → a4 → C) : C :=
  k h.1 h.2.1 h.2.2.1 h.2.2.2
theorem ma4 {a1 a2 a3 a4 : Prop} (h1 : a1) (h2 : a2) (h3 : a3) (h4 : a4) : a1 ∧ a2 ∧ a3 ∧ a4 := ⟨h1, h2, h3, h4⟩
theorem an5 {a1 a2 a3 a4 a5 C : Prop} (h : a1 ∧ a2 ∧ a3 ∧ a4 ∧ a5) (k : a1 → a2 → a3 → a4 → a5 → C) : C :=
  k h.1 h.2.1 h.2.2.1 h.2.2.2.1 h.2.2.2.2
theorem ma5 {a1 a2 a3 a4 a5 : Prop} (h1 : a1) (h2 : a2) (h3 : a3) (h4 : a4) (h5 : a5) : a1 ∧ a2 ∧ a3 ∧ a4 ∧ a5 := ⟨h1, h2, h3, h4, h5⟩
theorem an6 {a1 a2 a3 a4 a5 a6 C : Prop} (h : a1 ∧ a2 ∧ a3 ∧ a4 ∧ a5 ∧ a6) (k : a1 → a2 → a3 → a4 → a5 → a6 → C) : C :=
  k h.1 h.2.1 h.2.2.1 h.2.2.2.1 h.2.2.2.2.1 h.2.2.2.2.2
theorem ma6 {a1 a2 a3 a4 a5 a6 : Prop} (h1 : a1) (h2 : a2) (h3 : a3) (h4 : a4) (h5 : a5) (h6 : a6) : a1 ∧ a2 ∧ a3 ∧ a4 ∧ a5 ∧ a6 := ⟨h1, h2, h3, h4, h5, h6⟩
theorem an7 {a1 a2 a3 a4 a5 a6 a7 C : Prop} (h : a1 ∧ a2 ∧ a3 ∧ a4 ∧ a5 ∧ a6 ∧ a7) (k : a1 → a2 → a3 → a4 → a5 → a6 → a7 → C) : C :=
  k h.1 h.2.1 h.2.2.1 h.2.2.2.1 h.2.2.2.2.1 h.2.2.2.2.2.1 h.2.2.2.2.2.2
theorem ma7 {a1 a2 a3 a4 a5 a6 a7 : Prop} (h1 : a1) (h2 : a2) (h3 : a3) (h4 : a4) (h5 : a5) (h6 : a6) (h7 : a7) : a1 ∧ a2 ∧ a3 ∧ a4 ∧ a5 ∧ a6 ∧ a7 := ⟨h1, h2, h3, h4, h5, h6, h7⟩
theorem an8 {a1 a2 a3 a4 a5 a6 a7 a8 C : Prop} (h : a1 ∧ a2 ∧ a3 ∧ a4 ∧ a5 ∧ a6 ∧ a7 ∧ a8) (k : a1 → a2 → a3 → a4 → a5 → a6 → a7 → a8 → C) : C :=
  k h.1 h.2.1 h.2.2.1 h.2.2.2.1 h.2.2.2.2.1 h.2.2.2.2.2.1 h.2.2.2.2.2.2.1 h.2.2.2.2.2.2.2
theorem ma8 {a1 a2 a3 a4 a5 a6 a7 a8 : Prop} (h1 : a1) (h2 : a2) (h3 : a3) (h4 : a4) (h5 : a5) (h6 : a6) (h7 : a7) (h8 : a8) : a1 ∧ a2 ∧ a3 ∧ a4 ∧ a5 ∧ a6 ∧ a7 ∧ a8 := ⟨h1, h2, h3, h4, h5, h6, h7, h8⟩
theorem an9 {a1 a2 a3 a4 a5 a6 a7 a8 a9 C : Prop} (h : a1 ∧ a2 ∧ a3 ∧ a4 ∧ a5 ∧ a6 ∧ a7 ∧ a8 ∧ a9) (k : a1 → a2 → a3 → a4 → a5 → a6 → a7 → a8 → a9 → C) : C :=
  k h.1 h.2.1 h.2.2.1 h.2.2.2.1 h.2.2.2.2.1 h.2.2.2.2.2.1 h.2.2.2.2.2.2.1 h.2.2.2.2.2.2.2.1 h.2.2.2.2.2.2.2.2
theorem ma9 {a1 a2 a3 a4 a5 a6 a7 a8 a9 : Prop} (h1 : a1) (h2 : a2) (h3 : a3) (h4 : a4) (h5 : a5) (h6 : a6) (h7 : a7) (h8 : a8) (h9 : a9) : a1 ∧ a2 ∧ a3 ∧ a4 ∧ a5 ∧ a6 ∧ a7 ∧ a8 ∧ a9 := ⟨h1, h2, h3, h4, h5, h6, h7, h8, h9⟩
end Mine
end

section
set_option compiler.extract_closed false
namespace Mine
open PySem PySem.W PyProof.Rows PySem.Calls

def put (m : Loc) (x : PySem.Str) (v : Value) : Loc := fun y => if y = x then some v else m y
theorem put_eq {m : Loc} {x : PySem.Str} {v : Value} : put m x v x = some v := if_pos rfl
theorem put_ne {m : Loc} {x y : PySem.Str} {v : Value} {r : Option Value} (h : m y = r) (n : y ≠ x) : put m x v y = r := (if_neg n).trans h

structure Pre (A : Around) (d u : Nat) : Prop where
  hh : A.handled = none
  dp : A.depth + d < recursionLimit
  un : A.units + u < cLine
theorem Pre.le {A : Around} {d u d' u' : Nat} (P : Pre A d u) (h : d' ≤ d) (k : u' ≤ u) : Pre A d' u' := ⟨P.hh, by have := P.dp; lia, by have := P.un; lia⟩
theorem Pre.deeper {A : Around} {d u : Nat} {env : Env} (P : Pre A (d + 1) (u + 3)) : Pre (A.deeper env) d u :=
  ⟨P.hh, by have := P.dp; show A.depth + 1 + d < _; lia, by have := P.un; show A.units + 3 + u < _; lia⟩

/-- a def's contract -/
def Con (w : World) (g : Heap) (f : Addr) (args : List Value) (d u : Nat) (pre : Heap → Prop) (post : Heap → Value → Heap → Prop) : Prop :=
  ∀ (A : Around) (s : Shared) (Q E : Value → Shared → Prop), Pre A d u → Ok g s.heap → g.objs.size ≤ s.heap.objs.size → pre s.heap →
    (∀ v s', Same s s' → Ok g s'.heap → Ext s.heap s'.heap → post s.heap v s'.heap → Q v s') → wpAny (model P0 w) A (call (.ref f) args) Q E s

theorem isCode_of {w : World} {g : Heap} (G : Gl w g) {cd : Value} {q : PySem.Str} (e : codeIn (KH w) cd q = true) : g.CodeRec cd q := codeRec_of G.K e

theorem enter {w : World} {g : Heap} {f : Addr} {o : Obj} {name : PySem.Str} {params : Arguments} {body : List Stmt} {scope : Scope} {pm cd doc : Value} {args : List Value} {binds : List (PySem.Str × Value)} {d u : Nat}
    {A : Around} {s : Shared} {Q E : Value → Shared → Prop}
    (G : Gl w g) (hk : (KH w).lookup f = some o) (hd : o.data = .func (docDef name params body scope pm cd doc)) (hcd : codeIn (KH w) cd name = true)
    (hbind : bindArgs (docDef name params body scope pm cd doc) ⟨args, []⟩ = pure binds) (hloc : (binds.all fun x => decide (scope.names.lookup x.1 = some .local)) = true)
    (P : Pre A (d + 1) (u + 3)) (O : Ok g s.heap) (sz : g.objs.size ≤ s.heap.objs.size)
    (h : ∀ L s₁ A', Pre A' d u → St g s L s₁ (fun x => binds.reverse.lookup x) [] [] →
      wpAny (model P0 w) A' (execs body (envOf name scope L f cd))
        (fun fl s' => Q (match fl with | .ret v => v | _ => .none) s') (fun _ _ => False) s₁)
    (hco : scope.isCoroutine = false := by rfl) (hgen : scope.isGenerator = false := by rfl) (hki : scope.kind = .function := by rfl)
    (hcell : ∀ x ∈ scope.names, x.2 ≠ .cell := by decide) :
    wpAny (model P0 w) A (call (.ref f) args) Q E s := by
  obtain ⟨p, loose, mean, mg, mb, T⟩ := G.top
  refine wpAny_call (call_plain_ret (by have := P.dp; lia) (O.keep _ _ (G.K _ _ hk)) hd (T.nolimit.keeps O.keep) ((isCode_of G hcd).keeps O.keep) hbind (locs hloc) (fun h₁ F => ?_) hco hgen hki hcell)
  exact h _ _ _ P.deeper ⟨⟨F.ns, fun a o _ _ e => F.keep a o e, (fun p hp => nomatch hp), List.nodup_nil, Nat.le_refl _, Nat.lt_of_lt_of_le G.big sz, sz, ⟨fun a o e => F.keep a o (O.keep a o e), O.t1.mono F.keep, O.t2.mono F.keep⟩, fun a o e => ⟨G.ne1 e, G.ne2 e, O.keep a o e⟩, (fun p hp => nomatch hp)⟩, rfl, rfl, rfl⟩

section
variable {w : World} {g : Heap} {b : Shared} {L : Addr} {m : Loc} {own imm : Led} {A : Around} {E : Value → Shared → Prop} {s : Shared} {env : Env} {x : PySem.Str} {pos : Pos} {v : Value}

/-- the state as a letter again -/
theorem norm {α : Type} {t : Sem α} {Q : α → Shared → Prop} (S : St g b L s m own imm) (h : ∀ s', St g b L s' m own imm → wpAny (model P0 w) A t Q E s') : wpAny (model P0 w) A t Q E s := h s S
theorem normC {c : Code} {R : Result → Shared → Prop} (S : St g b L s m own imm) (h : ∀ s', St g b L s' m own imm → codeAny (model P0 w) A c R s') : codeAny (model P0 w) A c R s := h s S

theorem e_loc {Q : Value → Shared → Prop} (S : St g b L s m own imm) (hv : m x = some v) (h : Q v s)
    (hL : env.locals = L := by rfl) (hk : env.scope.kind = .function := by rfl) (hl : env.kindOf x = some .local := by rfl) (hd : (x == ("__debug__" : PySem.Str)) = false := by decide) :
    wpAny (model P0 w) A (eval (.Name x pos) env) Q E s := wpAny_Name (wpAny_loadName_local hk hl (hL ▸ S.sh.ns) hv h) hd
theorem e_ldn {Q : Value → Shared → Prop} (S : St g b L s m own imm) (hv : m x = some v) (h : Q v s)
    (hL : env.locals = L := by rfl) (hk : env.scope.kind = .function := by rfl) (hl : env.kindOf x = some .local := by rfl) :
    wpAny (model P0 w) A (loadName env x) Q E s := wpAny_loadName_local hk hl (hL ▸ S.sh.ns) hv h
theorem e_glob {Q : Value → Shared → Prop} (G : Gl w g) (S : St g b L s m own imm) (e : nsIn (KH w) mainGlobals x = some (some v)) (h : Q v s)
    (hg : env.globals = mainGlobals := by rfl) (hk : env.scope.kind = .function := by rfl) (hx : env.kindOf x = some .globalImplicit := by rfl) (hd : (x == ("__debug__" : PySem.Str)) = false := by decide) :
    wpAny (model P0 w) A (eval (.Name x pos) env) Q E s := by
  obtain ⟨p, loose, mean, mg, mb, T⟩ := G.top
  exact Name_function_global hk hx (loadGlobal_global (hg ▸ T.g.keeps S.ok.keep) (mg_of G.K T.g e) h) hd
theorem e_bi {Q : Value → Shared → Prop} (G : Gl w g) (S : St g b L s m own imm) (e : nsIn (KH w) mainGlobals x = some none) (hv : bootBuiltins x = some v) (h : Q v s) (hn : x ≠ "__name__" := by decide)
    (hg : env.globals = mainGlobals := by rfl) (hb : env.builtins = builtinsNs := by rfl) (hk : env.scope.kind = .function := by rfl) (hx : env.kindOf x = some .globalImplicit := by rfl) (hd : (x == ("__debug__" : PySem.Str)) = false := by decide) :
    wpAny (model P0 w) A (eval (.Name x pos) env) Q E s := by
  obtain ⟨p, loose, mean, mg, mb, T⟩ := G.top
  exact Name_function_global hk hx (loadGlobal_builtin (hg ▸ T.g.keeps S.ok.keep) (mg_none_of G.K T.g e) (hb ▸ T.b.keeps S.ok.keep) ((T.builtins x hn).trans hv) h) hd

theorem st_loc {Q : Unit → Shared → Prop} (S : St g b L s m own imm) (h : ∀ s', St g b L s' (put m x v) own imm → Q () s')
    (hL : env.locals = L := by rfl) (hl : env.kindOf x = some .local := by rfl) (hp : (env.scope.kind == .class || (env.scope.kind == .module && env.locals != env.globals)) = false := by rfl) :
    wpAny (model P0 w) A (storeName env x v) Q E s := by
  subst hL
  exact wpAny_storeName_local hl S.sh.ns (fun h' hn hs => h _ (S.of (S.sh.set hn hs))) hp
end

abbrev rngIt (a : Int) (n : Int) : Obj := { cls := .type "range_iterator", dict := none, data := .fields #[rawInt a, rawInt n, rawInt 1], slots := #[] }
theorem rngIt_nc (a n : Int) : NotCode (rngIt a n) := fun vs q t e => by cases e; simp [rawInt]

section
variable {w : World} {g : Heap} 
set_option maxHeartbeats 4000000
theorem c_isterm (G : Gl w g) (x : Int) (t : Tok) : Con w g 24 [.int x t] 1 8 (fun _ => True) (fun _ v _ => v = .bool (decide (x < 256))) := by
  intro A s Q E P O sz _ hQ
  refine enter (d := 0) (u := 5) (binds := [(PySem.Str.ofString "x", .int x t)]) G (by rfl) (by rfl) (by kernel_rfl) (by rfl) (by rfl) P O sz fun L s₁ A' P S => ?_
  refine wpAny_execs_cons (wpAny_Return_some (wpAny_Compare1 ?_))
  refine e_loc S (by rfl) (e_glob G S (by rfl) (lt_int ?_))
  exact hQ _ _ S.same S.ok S.ext rfl
theorem c_iseof (G : Gl w g) (x : Int) (t : Tok) : Con w g 31 [.int x t] 1 8 (fun _ => True) (fun _ v _ => v = .bool (x == 0)) := by
  intro A s Q E P O sz _ hQ
  refine enter (d := 0) (u := 5) (binds := [(PySem.Str.ofString "x", .int x t)]) G (by rfl) (by rfl) (by kernel_rfl) (by rfl) (by rfl) P O sz fun L s₁ A' P S => ?_
  refine wpAny_execs_cons (wpAny_Return_some (wpAny_Compare1 ?_))
  refine e_loc S (by rfl) (e_glob G S (by rfl) (eq_int ?_))
  exact hQ _ _ S.same S.ok S.ext rfl
end
end Mine
end

section
set_option compiler.extract_closed false
namespace Mine
open PySem PySem.W PyProof.Rows PySem.Calls

abbrev lst (vs : List Value) (n : Nat) : Obj := { cls := .type "list", data := .seq vs.toArray n }
abbrev tup (vs : List Value) : Obj := { cls := .type "tuple", data := .seq vs.toArray }
theorem lst_nc (vs : List Value) (n : Nat) : NotCode (lst vs n) := fun _ _ _ e => by cases e
theorem isList_lst {h : Heap} {a : Addr} {vs : List Value} {n : Nat} (e : h.get? a = some (lst vs n)) : h.IsList a vs.toArray := ⟨_, e, rfl, n, rfl⟩
theorem isTup_tup {h : Heap} {a : Addr} {vs : List Value} (e : h.get? a = some (tup vs)) : IsTup h a vs.toArray := ⟨_, e, rfl, 0, rfl⟩

section
variable {w : World} {g : Heap} {b : Shared} {L : Addr} {m : Loc} {own imm fr : Led} {A : Around} {E : Value → Shared → Prop} {s : Shared} {env : Env} {x : PySem.Str} {v : Value}

theorem n_list {vs : List Value} {Q : Value → Shared → Prop} (S : St g b L s m own imm) (h : ∀ a s', St g b L s' m ((a, lst vs 0) :: own) imm → Q (.ref a) s')
    (hsz : vs.length ≤ sizeLine := by size_fits) : wpAny (model P0 w) A (newList vs) Q E s :=
  wpAny_newObj_type (h _ _ (S.of (S.sh.push (lst vs 0)))) (by show vs.toArray.size ≤ sizeLine; rw [List.size_toArray]; exact hsz)
theorem n_tup {vs : List Value} {Q : Value → Shared → Prop} (S : St g b L s m own imm) (h : ∀ a s', St g b L s' m own ((a, tup vs) :: imm) → Q (.ref a) s')
    (hsz : vs.length ≤ sizeLine := by size_fits) : wpAny (model P0 w) A (newTuple vs) Q E s :=
  wpAny_newObj_type (h _ _ (S.of (S.sh.pushI (tup vs)))) (by show vs.toArray.size ≤ sizeLine; rw [List.size_toArray]; exact hsz)

theorem a_append {l : Addr} {vs : List Value} {n : Nat} {l₁ l₂ : Led} {Q : Value → Shared → Prop} (S : St g b L s m (l₁ ++ (l, lst vs n) :: l₂) imm)
    (h : ∀ s', St g b L s' m (l₁ ++ (l, lst (vs ++ [v]) (n + 1)) :: l₂) imm → Q .none s') (hsz : vs.length ≤ 1000000) :
    wpAny (model P0 w) A (call (.builtin "list.append") [.ref l, v]) Q E s := by
  refine append_at (its := vs.toArray) (n := n) (S.get (by simp)) (fun h' hs e => h _ (S.of (S.sh.upd hs.extBut ?_ (lst_nc _ _)))) ?_
  · rw [e]; simp [lst]
  · rw [List.size_toArray, sizeLine_eq]; lia

theorem a_addTup {t c : Addr} {vs ws : List Value} {Q : Value → Shared → Prop} (S : St g b L s m own imm) (ht : (t, tup vs) ∈ imm) (hc : (c, tup ws) ∈ imm)
    (h : ∀ r s' imm', St g b L s' m own imm' → (∀ p ∈ imm, p ∈ imm') → (r, tup (vs ++ ws)) ∈ imm' → Q (.ref r) s') (hsz : vs.length + ws.length ≤ 1000000) :
    wpAny (model P0 w) A (binaryOp .Add (.ref t) (.ref c)) Q E s := by
  have e1 := S.geti ht
  have e2 := S.geti hc
  by_cases hv : vs = []
  · subst hv
    exact concat_meets ⟨_, e1, rfl⟩ ⟨_, e2, rfl⟩ noFill_tuple_add seq_tuple_add PySem.F.slot_tuple_add PySem.F.entry_tuple_add (PySem.F.args_tuple_add_2 _ _)
      (tuple_addW0 t c _ _ _ _ _ _ _ _ (by simp)) ⟨e1, e2, h c _ imm S (fun _ q => q) (by simpa using hc)⟩
  · by_cases hw : ws = []
    · subst hw
      exact concat_meets ⟨_, e1, rfl⟩ ⟨_, e2, rfl⟩ noFill_tuple_add seq_tuple_add PySem.F.slot_tuple_add PySem.F.entry_tuple_add (PySem.F.args_tuple_add_2 _ _)
        (tuple_addW1 t c _ _ _ _ _ _ _ _ (by simpa using hv) (by simp)) ⟨e1, e2, h t _ imm S (fun _ q => q) (by simpa using ht)⟩
    · refine concat_meets ⟨_, e1, rfl⟩ ⟨_, e2, rfl⟩ noFill_tuple_add seq_tuple_add PySem.F.slot_tuple_add PySem.F.entry_tuple_add (PySem.F.args_tuple_add_2 _ _)
        (tuple_addW2 t c _ _ _ _ _ _ _ _ (by simpa using hv) (by simpa using hw) (by rw [List.size_toArray, List.size_toArray, sizeLine_eq]; lia)) ⟨e1, e2, ?_⟩
      rw [show vs.toArray ++ ws.toArray = (vs ++ ws).toArray by simp]
      exact h _ _ _ (S.of (S.sh.pushI (tup (vs ++ ws)))) (fun p q => .tail _ q) (.head _)

theorem adjust_upto (c n : Nat) (hc : c ≤ n) : Builtin.Slice.sliceAdjust none (some (c : Int)) 1 (n : Int) = (0, (c : Int)) := by
  unfold Builtin.Slice.sliceAdjust
  have h1 : ¬ ((1 : Int) < 0) := by lia
  have h2 : ¬ ((c : Int) < 0) := by lia
  simp only [h1, h2, if_false]
  congr 1
  lia
theorem places_upto (c : Nat) : Builtin.Slice.slicePlaces 0 (c : Int) 1 = c := by
  unfold Builtin.Slice.slicePlaces
  have h1 : (1 : Int) > 0 := by lia
  simp only [h1, if_true, Int.ediv_one]
  split <;> lia
theorem pick_upto (xs : Array Value) (c : Nat) (hc : c ≤ xs.size) : ((List.range c).filterMap fun (k : Nat) => xs[((0 : Int) + (k : Int) * 1).toNat]?).toArray = (xs.toList.take c).toArray := by
  congr 1
  obtain ⟨l⟩ := xs
  simp only [List.size_toArray] at hc
  induction c with
  | zero => simp
  | succ c ih =>
    have hlt : c < l.length := by lia
    rw [List.range_succ, List.filterMap_append, ih (by lia), List.take_add_one]
    simp [hlt]

theorem sliceApplied_upto {sl : Addr} {c n : Nat} {u : Tok} {Q : Int × Int × Nat → Shared → Prop} (hs : s.heap.IsSliceOf sl .none (.int c u) .none) (hc : c ≤ n) (h : Q ((0 : Int), 1, c) s) :
    wpAny (model P0 w) A (Builtin.Slice.sliceApplied (.ref sl) (pure (n : Int))) Q E s := by
  obtain ⟨os, hos, hcs, hds⟩ := id hs
  unfold Builtin.Slice.sliceApplied Builtin.Slice.sliceFields
  refine wpAny_bind (wpAny_bind (wpAny_field hos hds (x := .none) rfl (wpAny_bind (wpAny_field hos hds (x := .int c u) rfl (wpAny_bind (wpAny_field hos hds (x := .none) rfl (wpAny_pure ?_)))))))
  refine wpAny_bind (slicePart_none ?_)
  show wpAny _ _ (if ((1 : Int) == 0) = true then _ else _) _ _ s
  rw [if_neg (by decide)]
  refine wpAny_bind (slicePart_none (wpAny_bind (slicePart_int (wpAny_bind (wpAny_pure ?_)))))
  show wpAny _ _ (match Builtin.Slice.sliceAdjust none (some (c : Int)) 1 (n : Int) with | (lo, hi) => pure (lo, (1 : Int), Builtin.Slice.slicePlaces lo hi 1)) _ _ s
  rw [adjust_upto c n hc]
  show wpAny _ _ (pure ((0 : Int), (1 : Int), Builtin.Slice.slicePlaces 0 (c : Int) 1)) _ _ s
  rw [places_upto c]
  exact wpAny_pure h

theorem getItem_tuple_upto {t sl : Addr} {items : Array Value} {c : Nat} {u : Tok} {Q : Value → Shared → Prop} (ht : IsTup s.heap t items) (hs : s.heap.IsSliceOf sl .none (.int c u) .none) (hc : c < items.size)
    (h : Q (.ref s.heap.objs.size) { s with heap := s.heap.push { cls := .type "tuple", data := .seq (items.toList.take c).toArray } })
    (hsz : items.size ≤ sizeLine) : wpAny (model P0 w) A (getItem (.ref t) (.ref sl)) Q E s := by
  have hdrop : sizeOk (.seq (items.toList.take c).toArray) := by
    show (items.toList.take c).toArray.size ≤ sizeLine
    rw [List.size_toArray, List.length_take, Array.length_toList]
    lia
  obtain ⟨os, hos, hcs, hds⟩ := id hs
  have hTs : s.TypeIs (.ref sl) "slice" := ⟨os, hos, hcs⟩
  unfold getItem
  try with_reducible refine wpAny_holding ?_
  first | refine wpAny_bind (wpAny_pure ?_) | skip
  refine wpAny_bind (wpAny_sequenceKey ht.typeIs (by decide) ?_)
  refine wpAny_bind (wpAny_callSpecial?_slot (name := Str.ofString "__getitem__") ht.typeIs slot_tuple_getitem
    (wpAny_call_entry slot_tuple_getitem ht.typeIs entry_tuple_getitem ?_ (args_tuple_getitem _ _)))
  show wpAny _ _ (Builtin.Tuple.tupleItemsOf (.ref t) >>= _) _ _ s
  refine wpAny_bind (tupleItemsOf_ ht ?_)
  refine wpAny_bind (wpAny_typeOf hTs ?_)
  rw [if_pos (by decide)]
  refine wpAny_bind (sliceApplied_upto hs (Nat.le_of_lt hc) ?_)
  have hno : ¬ (((0 : Int) == 0 && (1 : Int) == 1 && c == items.size) = true) := by
    have : (c == items.size) = false := by rw [beq_eq_false_iff_ne]; lia
    rw [this]; simp
  show wpAny _ _ (if ((0 : Int) == 0 && (1 : Int) == 1 && c == items.size) = true then _ else _) _ _ s
  rw [if_neg hno, pick_upto items c (Nat.le_of_lt hc)]
  first
    | exact wpAny_bind (m := Builtin.Tuple.tupleExact _) (wpAny_newObj_type (wpAny_pure ⟨_, rfl, wpAny_pure h⟩) hdrop)
    | exact wpAny_bind (m := Builtin.Tuple.tupleExact _) (wpAny_newObj_type (wpAny_bind (wpAny_pure (wpAny_pure ⟨_, rfl, wpAny_pure h⟩))) hdrop)
    | exact wpAny_bind (wpAny_bind (m := Builtin.Tuple.tupleExact _) (wpAny_newObj_type (wpAny_pure (wpAny_pure ⟨_, rfl, wpAny_pure h⟩)) hdrop))
    | exact wpAny_bind (wpAny_bind (m := Builtin.Tuple.tupleExact _) (wpAny_newObj_type (wpAny_pure ⟨_, rfl, wpAny_pure h⟩) hdrop))

theorem a_tupUpto {value slice : Expr} {t : Addr} {cvs : List Value} {k : Int} {c : Nat} {u : Tok} {Q : Value → Shared → Prop} (S : St g b L s m own imm) (ht : IsTup s.heap t cvs.toArray) (hk : k = c) (hc : c < cvs.length) (hz : cvs.length ≤ 1000000)
    (h : ∀ r s', St g b L s' m own ((r, tup (cvs.take c)) :: imm) → Q (.ref r) s')
    (hs : subscripted slice false (.ref t) (.ref s.heap.objs.size) = operate [.ref s.heap.objs.size, .ref t] (getItem (.ref t) (.ref s.heap.objs.size)) := by with_unfolding_all rfl) :
    wpAny (model P0 w) A (subscriptTail value slice (.ref t) (.ref s.heap.objs.size)) Q E { s with heap := s.heap.push { cls := .type "slice", data := .fields #[.none, .int k u, .none] } } := by
  subst hk
  have ht' : IsTup (s.heap.push { cls := .type "slice", data := .fields #[.none, .int c u, .none] }) t cvs.toArray := ht.keeps fun _ _ e => Heap.get?_push_of_some _ e
  refine tail_any ht'.typeIs slot_tuple_getitem.lookup (getItem_tuple_upto ht' (Heap.IsSliceOf.new ..) (by simpa using hc) ?_ (by rw [List.size_toArray, sizeLine_eq]; lia)) hs
  exact h _ _ (S.of ((S.sh.push0 _).pushI (tup (cvs.take c))))
theorem a_tupFrom {value slice : Expr} {t : Addr} {cvs : List Value} {k : Int} {c : Nat} {u : Tok} {Q : Value → Shared → Prop} (S : St g b L s m own imm) (ht : IsTup s.heap t cvs.toArray) (hk : k = c) (h1 : 1 ≤ c) (hc : c ≤ cvs.length) (hz : cvs.length ≤ 1000000)
    (h : ∀ r s', St g b L s' m own ((r, tup (cvs.drop c)) :: imm) → Q (.ref r) s')
    (hs : subscripted slice false (.ref t) (.ref s.heap.objs.size) = operate [.ref s.heap.objs.size, .ref t] (getItem (.ref t) (.ref s.heap.objs.size)) := by with_unfolding_all rfl) :
    wpAny (model P0 w) A (subscriptTail value slice (.ref t) (.ref s.heap.objs.size)) Q E { s with heap := s.heap.push { cls := .type "slice", data := .fields #[.int k u, .none, .none] } } := by
  subst hk
  have ht' : IsTup (s.heap.push { cls := .type "slice", data := .fields #[.int c u, .none, .none] }) t cvs.toArray := ht.keeps fun _ _ e => Heap.get?_push_of_some _ e
  refine tail_any ht'.typeIs slot_tuple_getitem.lookup (getItem_tuple_from ht' (Heap.IsSliceOf.new ..) h1 (by simpa using hc) ?_ (by rw [List.size_toArray, sizeLine_eq]; lia)) hs
  exact h _ _ (S.of ((S.sh.push0 _).pushI (tup (cvs.drop c))))

theorem rsz (n : Nat) : Builtin.Range.rangeSize 0 n 1 = n := by
  unfold Builtin.Range.rangeSize
  rw [if_pos (by lia)]
  split <;> lia
theorem rsmall {n : Nat} (h : n < 1000000) : Builtin.Range.small 0 n 1 = true := by
  unfold Builtin.Range.small
  rw [rsz]
  unfold Builtin.Range.rangeFitsLong
  simp only [Bool.and_eq_true, Bool.or_eq_true, decide_eq_true_eq]
  refine ⟨⟨⟨⟨?_, ?_⟩, ?_⟩, ?_⟩, .inr ?_⟩ <;> (try rw [if_pos (by lia)]) <;> (try simp only [Bool.and_eq_true, decide_eq_true_eq]) <;> lia
theorem rgo {n : Nat} {t : Tok} {C : Addr → Shared → Prop} (h1 : n < 1000000) (S : St g b L s m own imm) (k : ∀ it s₂, St g b L s₂ m ((it, rngIt 0 n) :: own) imm → C it s₂) :
    ∃ (n' : Nat) (t' : Tok) (m₁ : Loc) (own₁ imm₁ : Led), Value.int n t = .int n' t' ∧ n' < 1000000 ∧ St g b L s m₁ own₁ imm₁ ∧ ∀ it s₂, St g b L s₂ m₁ ((it, rngIt 0 n') :: own₁) imm₁ → C it s₂ := ⟨n, t, m, own, imm, rfl, h1, S, k⟩
/-- for x in range(e) -/
theorem x_range {Q : Flow → Shared → Prop} {p1 p2 pos px : Pos} {e : Expr} {body : List Stmt} (G : Gl w g) (S : St g b L s m own imm)
    (h : wpAny (model P0 w) A (eval e env) (fun v s₁ => ∃ (n : Nat) (t : Tok) (m₁ : Loc) (own₁ imm₁ : Led), v = .int n t ∧ n < 1000000 ∧ St g b L s₁ m₁ own₁ imm₁ ∧
      ∀ it s₂, St g b L s₂ m₁ ((it, rngIt 0 n) :: own₁) imm₁ → codeAny (model P0 w) A (.forLoop (.Name x px) (.ref it) body [] env)
        (fun r s' => match r with | .ok f => Q f s' | .error _ => False) s₂) (fun _ _ => False) s)
    (hn : nsIn (KH w) mainGlobals (Str.ofString "range") = some none) (hbt : bootBuiltins (Str.ofString "range") = some (.type "range"))
    (he : starEach [e] env = [(false, eval e env)] := by rfl)
    (hg : env.globals = mainGlobals := by rfl) (hb : env.builtins = builtinsNs := by rfl) (hk : env.scope.kind = .function := by rfl) (hx : env.kindOf (Str.ofString "range") = some .globalImplicit := by rfl) :
    wpAny (model P0 w) A (exec (.For (.Name x px) (.Call (.Name (Str.ofString "range") p1) [e] [] p2) body [] pos) env) Q (fun _ _ => False) s := by
  refine wpAny_For (Call_Name rfl (e_bi G S hn hbt (Pv.callWith_type1 (spliced_more (wpAny_mono h (fun v s₁ h₁ => spliced_none ?_) fun _ _ e => e) he) he) (by decide) hg hb hk hx))
  obtain ⟨n, t, m₁, own₁, imm₁, rfl, hn1, S₁, k⟩ := h₁
  refine call_range_1 ?_
  have S₂ := S₁.sh.pushI { cls := .type "range", data := .fields #[.int 0 s₁.toks, .int n t, .int 1 (s₁.toks + 1)] }
  refine wpAny_pyIter_range (a := 0) (b := n) (c := 1) (Heap.get?_push_size _ rfl) ?_ ?_
  · exact rsmall hn1
  · have S₃ := (S₂.push { cls := .type "range_iterator", data := .fields #[rawInt 0, rawInt (Builtin.Range.rangeSize 0 n 1), rawInt 1] }).dropI (imm' := imm₁) fun p hp => .tail _ hp
    rw [rsz] at S₃ ⊢
    exact codeAny_mono (k _ _ (S₁.of S₃)) fun r s' hr => by cases r with | ok f => exact hr | error e => exact hr.elim
end
end Mine
end

section
set_option compiler.extract_closed false
namespace Mine
open PySem PySem.W PyProof.Rows PySem.Calls

/-- an iterator object: n items, V i the i-th, ob i what the object looks like before it, side what must stand meanwhile -/
structure Iter (w : World) (it : Addr) (n : Nat) (ob : Nat → Obj → Prop) (V : Nat → Value → Prop) (side : Heap → Prop) : Prop where
  nc : ∀ i o, ob i o → NotCode o
  next : ∀ {A : Around} {E : Value → Shared → Prop} {s : Shared} {i : Nat} {o : Obj} {Q : Option Value → Shared → Prop}, i < n → s.heap.get? it = some o → ob i o → side s.heap →
    (∀ v o' s', V i v → Same s s' → s'.heap.get? it = some o' → ob (i + 1) o' → Heap.SameBut it s.heap s'.heap → Q (some v) s') → wpAny (model P0 w) A (pyNext (.ref it)) Q E s
  again : ∀ {A : Around} {E : Value → Shared → Prop} {s : Shared} {o : Obj} {Q : Value → Shared → Prop}, s.heap.get? it = some o → ob 0 o → Q (.ref it) s → wpAny (model P0 w) A (pyIter (.ref it)) Q E s
  stop : ∀ {A : Around} {E : Value → Shared → Prop} {s : Shared} {o : Obj} {Q : Option Value → Shared → Prop}, A.handled = none → s.heap.get? it = some o → ob n o → side s.heap →
    (∀ s', Same s s' → Heap.ExtBut it s.heap s'.heap → Q none s') → wpAny (model P0 w) A (pyNext (.ref it)) Q E s

theorem rngIter (w : World) (it : Addr) (a : Int) (n : Nat) : Iter w it n (fun i o => o = rngIt (a + i) (n - i)) (fun i v => ∃ t, v = .int (a + i) t) (fun _ => True) where
  nc := fun i o e => e ▸ rngIt_nc _ _
  next := fun {A E s i o Q} hi e eo _ h => by
    subst eo
    refine wpAny_pyNext_range_item (x := a + i) (left := n - i) (step := 1) e (by lia) fun h' hit hs => h _ _ _ ⟨_, rfl⟩ ⟨rfl, rfl, rfl⟩ hit ?_ hs
    have e1 : a + (i : Int) + 1 = a + ((i + 1 : Nat) : Int) := by lia
    have e2 : (n : Int) - (i : Int) - 1 = (n : Int) - ((i + 1 : Nat) : Int) := by lia
    rw [e1, e2]
  again := fun {A E s o Q} e eo h => by subst eo; exact wpAny_pyIter_rangeiter e h
  stop := fun {A E s o Q} hh e eo _ h => by
    subst eo
    exact wpAny_pyNext_range_end hh e (by lia) fun h' x => h _ ⟨rfl, rfl, rfl⟩ x

theorem lstIter (w : World) (it l : Addr) (items : List Value) (k : Nat) :
    Iter w it items.length (fun i o => o.cls = .type "list_iterator" ∧ o.data = .fields #[.ref l, .int i 0]) (fun i v => items[i]? = some v) (fun h => h.get? l = some (lst items k)) where
  nc := fun i o e vs q t h => by rw [e.2] at h; cases h; simp
  next := fun {A E s i o Q} hi e eo hs h => by
    refine wpAny_pyNext_list_item (i := i) (x := items[i]) ⟨o, e, eo⟩ (isList_lst hs) (by simp [hi]) fun h' ⟨o', e', eo'⟩ hs => h _ o' _ (by simp [hi]) ⟨rfl, rfl, rfl⟩ e' eo' hs
  again := fun {A E s o Q} e eo h => wpAny_pyIter_listiter (i := 0) ⟨o, e, eo⟩ h
  stop := fun {A E s o Q} hh e eo hs h => wpAny_pyNext_list_end hh ⟨o, e, eo⟩ (isList_lst hs) (by simp) fun h' x => h _ ⟨rfl, rfl, rfl⟩ x

theorem strIter (w : World) (it : Addr) (x : PySem.Str) (t : Tok) :
    Iter w it x.cps.size (fun i o => o.cls = .type "str_ascii_iterator" ∧ o.data = .fields #[.str x t, .int i 0]) (fun i v => ∃ c t', x.cps[i]? = some c ∧ v = .str ⟨#[c]⟩ t') (fun _ => True) where
  nc := fun i o e vs q t h => by rw [e.2] at h; cases h; simp
  next := fun {A E s i o Q} hi e eo hs h => by
    refine wpAny_pyNext_ascii_item (i := i) (c := x.cps[i]) ⟨o, e, eo⟩ (by simp [hi]) fun h' ⟨o', e', eo'⟩ hs => h _ o' _ ⟨_, _, by simp [hi], rfl⟩ ⟨rfl, rfl, rfl⟩ e' eo' hs
  again := fun {A E s o Q} e eo h => wpAny_pyIter_striter_ascii (i := 0) ⟨o, e, eo⟩ h
  stop := fun {A E s o Q} hh e eo hs h => wpAny_pyNext_ascii_end hh ⟨o, e, eo⟩ (by simp) fun h' x => h _ ⟨rfl, rfl, rfl⟩ x

section
variable {w : World} {g : Heap} {b : Shared} {L : Addr} {m : Loc} {own imm fr : Led} {A : Around} {s : Shared} {env : Env} {x : PySem.Str} {R : Result → Shared → Prop}
  {it : Addr} {n : Nat} {ob : Nat → Obj → Prop} {V : Nat → Value → Prop} {side : Heap → Prop}

/-- a for over an iterator, its target one local name -/
theorem l_for {px : Pos} {body : List Stmt} {o₀ : Obj} (I : Iter w it n ob V side)
    (P : A.handled = none) (S : St g b L s m ((it, o₀) :: (own ++ fr)) imm) (ho : ob 0 o₀)
    (hside : ∀ s' m' own' imm', St g b L s' m' own' imm' → (∀ p ∈ imm, p ∈ imm') → side s'.heap)
    (J : Nat → Loc → Led → Led → Prop) (h0 : J 0 m own imm)
    (step : ∀ (i : Nat) m₁ own₁ imm₁ s₁ v o, i < n → (∀ p ∈ imm, p ∈ imm₁) → J i m₁ own₁ imm₁ → V i v → St g b L s₁ (put m₁ x v) (own₁ ++ (it, o) :: fr) imm₁ →
      wpAny (model P0 w) A (execs body env) (fun f s₂ => match f with
        | .next | .cont => ∃ m₂ own₂ imm₂, St g b L s₂ m₂ (own₂ ++ (it, o) :: fr) imm₂ ∧ (∀ p ∈ imm, p ∈ imm₂) ∧ J (i + 1) m₂ own₂ imm₂
        | .brk => R (.ok .next) s₂
        | .ret v => R (.ok (.ret v)) s₂) (fun _ _ => False) s₁)
    (fin : ∀ s' m' own' imm', St g b L s' m' (own' ++ fr) imm' → (∀ p ∈ imm, p ∈ imm') → J n m' own' imm' → R (.ok .next) s')
    (hL : env.locals = L := by rfl) (hl : env.kindOf x = some .local := by rfl) (hp : (env.scope.kind == .class || (env.scope.kind == .module && env.locals != env.globals)) = false := by rfl) :
    codeAny (model P0 w) A (.forLoop (.Name x px) (.ref it) body [] env) R s := by
  refine codeAny_forLoop (fun k s' => ∃ m' own' imm' i o, St g b L s' m' (own' ++ (it, o) :: fr) imm' ∧ ob i o ∧ (∀ p ∈ imm, p ∈ imm') ∧ J i m' own' imm' ∧ i ≤ n ∧ k = n - i) ?_ n
    ⟨m, own, imm, 0, o₀, S.mid, ho, fun _ h => h, h0, Nat.zero_le _, rfl⟩
  intro k s' hI
  refine cut fun QQ hQ => ?_
  obtain ⟨m', own', imm', i, o, S', ho, hi', hJ, hi, rfl⟩ := hI
  have hit : s'.heap.get? it = some o := S'.get (by first | exact m0 | exact m1 | exact m2 | exact m3 | exact m4 | exact m5 | exact m6 | simp)
  by_cases hlt : i < n
  · refine I.next (i := i) hlt hit ho (hside _ _ _ _ S' hi') fun v o' s₁ hv sm e' ho' hs₁ => hQ _ _ ?_
    have S₁ : St g b L s₁ m' (own' ++ (it, o') :: fr) imm' := ⟨S'.sh.upd hs₁.extBut e' (I.nc _ _ ho), S'.same.trans sm⟩
    refine wpAny_assign_Name (st_loc S₁ (fun s₂ S₂ => ?_) hL hl hp)
    refine wpAny_mono (step i m' own' imm' s₂ _ _ hlt hi' hJ hv S₂) (fun f s₃ h₃ => ?_) fun _ _ e => e.elim
    cases f with
    | next => obtain ⟨m₃, own₃, imm₃, S₃, k₃, hJ₃⟩ := h₃; exact ⟨n - (i + 1), by lia, m₃, own₃, imm₃, i + 1, o', S₃, ho', k₃, hJ₃, hlt, rfl⟩
    | cont => obtain ⟨m₃, own₃, imm₃, S₃, k₃, hJ₃⟩ := h₃; exact ⟨n - (i + 1), by lia, m₃, own₃, imm₃, i + 1, o', S₃, ho', k₃, hJ₃, hlt, rfl⟩
    | brk => exact h₃
    | ret v => exact h₃
  · have hin : i = n := by lia
    subst hin
    refine I.stop P hit ho (hside _ _ _ _ S' hi') fun s₁ sm he₁ => hQ _ _ (wpAny_execs_nil ?_)
    exact fin s₁ m' own' imm' ⟨S'.sh.forget he₁ (I.nc _ _ ho), S'.same.trans sm⟩ hi' hJ

/-- the same over a range from 0 -/
theorem l_range {px : Pos} {body : List Stmt}
    (P : A.handled = none) (S : St g b L s m ((it, rngIt 0 n) :: (own ++ fr)) imm)
    (J : Nat → Loc → Led → Led → Prop) (h0 : J 0 m own imm)
    (step : ∀ (i : Nat) m₁ own₁ imm₁ s₁ t o, i < n → (∀ p ∈ imm, p ∈ imm₁) → J i m₁ own₁ imm₁ → St g b L s₁ (put m₁ x (.int i t)) (own₁ ++ (it, o) :: fr) imm₁ →
      wpAny (model P0 w) A (execs body env) (fun f s₂ => match f with
        | .next | .cont => ∃ m₂ own₂ imm₂, St g b L s₂ m₂ (own₂ ++ (it, o) :: fr) imm₂ ∧ (∀ p ∈ imm, p ∈ imm₂) ∧ J (i + 1) m₂ own₂ imm₂
        | .brk => R (.ok .next) s₂
        | .ret v => R (.ok (.ret v)) s₂) (fun _ _ => False) s₁)
    (fin : ∀ s' m' own' imm', St g b L s' m' (own' ++ fr) imm' → (∀ p ∈ imm, p ∈ imm') → J n m' own' imm' → R (.ok .next) s')
    (hL : env.locals = L := by rfl) (hl : env.kindOf x = some .local := by rfl) (hp : (env.scope.kind == .class || (env.scope.kind == .module && env.locals != env.globals)) = false := by rfl) :
    codeAny (model P0 w) A (.forLoop (.Name x px) (.ref it) body [] env) R s := by
  refine l_for (rngIter w it 0 n) P S (by simp) (fun _ _ _ _ _ _ => trivial) J h0 (fun i m₁ own₁ imm₁ s₁ v o hi hs hJ hv S₁ => ?_) fin hL hl hp
  obtain ⟨t, rfl⟩ := hv
  rw [Int.zero_add] at S₁
  exact step i m₁ own₁ imm₁ s₁ t o hi hs hJ S₁
end

/-- into a comprehension's own frame C, and back -/
theorem Sh.intoC {g b h h' : Heap} {L : Addr} {m mC : Loc} {own imm : Led} (S : Sh g b L h m own imm) {o : Obj} (hn : h'.Ns h.objs.size mC) (hs : Heap.SameBut h.objs.size (h.push o) h') :
    ∃ oL, Sh g b h.objs.size h' mC ((L, oL) :: own) imm ∧ ∀ h'' : Heap, h''.get? L = some oL → h''.Ns L m := by
  have k : ∀ a o', h.get? a = some o' → h'.get? a = some o' := fun a o' e => (hs.2 a (Nat.ne_of_lt (Heap.lt_size e))).trans (Heap.get?_push_of_some o e)
  have S' := S.keeps k
  have ll := S.ns.lt
  obtain ⟨oL, es, ep, e, r⟩ := S.ns
  refine ⟨oL, ⟨hn, S'.ext, fun p hp => ?_, ?_, Nat.le_trans S.le (Nat.le_of_lt ll), S.big, S.gle, S'.ok, S.bk, fun p hp => ?_⟩, fun h'' e'' => ⟨oL, es, ep, e'', r⟩⟩
  · rcases List.mem_cons.mp hp with rfl | hp
    · exact ⟨k _ _ e, Nat.ne_of_lt ll, Fr0.of S.le S.big⟩
    · exact ⟨(S'.mine p hp).1, Nat.ne_of_lt (Heap.lt_size (S.mine p hp).1), (S.mine p hp).2.2⟩
  · refine List.nodup_cons.mpr ⟨fun q => ?_, S.nd⟩
    obtain ⟨p, hp, e⟩ := List.mem_map.mp q
    exact (S.mine p hp).2.1 e
  · refine ⟨(S'.im p hp).1, Nat.ne_of_lt (Heap.lt_size (S.im p hp).1), (S.im p hp).2.2.1, fun q => ?_⟩
    rcases List.mem_cons.mp q with e | q
    · exact (S.im p hp).2.1 e
    · exact (S.im p hp).2.2.2 q
theorem Sh.outC {g b h : Heap} {L C : Addr} {m mC : Loc} {l₁ l₂ imm : Led} {oL : Obj} (S : Sh g b C h mC (l₁ ++ (L, oL) :: l₂) imm) (hn : ∀ h'' : Heap, h''.get? L = some oL → h''.Ns L m) (hle : b.objs.size ≤ L) :
    ∃ oC, NotCode oC ∧ (∀ h'' : Heap, h''.get? C = some oC → h''.Ns C mC) ∧ Sh g b L h m ((C, oC) :: (l₁ ++ l₂)) imm := by
  have A := S.mine (L, oL) (by simp)
  have nd := S.nd
  rw [List.map_append, List.map_cons, List.nodup_append] at nd
  obtain ⟨_, nd2, nd3⟩ := nd
  rw [List.nodup_cons] at nd2
  have S' := S.drop (own' := l₁ ++ l₂) ((List.sublist_cons_self _ _).append_left _)
  obtain ⟨oC, es, ep, eC, dC, rC⟩ := S.ns
  have nc : NotCode oC := fun vs q t hd => by rw [dC] at hd; cases hd
  refine ⟨oC, nc, fun h'' e'' => ⟨oC, es, ep, e'', dC, rC⟩, hn _ A.1, S.ext, fun p hp => ?_, ?_, hle, S.big, S.gle, S.ok, S.bk, fun p hp => ⟨(S.im p hp).1, fun e => ?_, (S.im p hp).2.2.1, fun q => ?_⟩⟩
  · rcases List.mem_cons.mp hp with rfl | hp
    · exact ⟨eC, Ne.symm A.2.1, Fr0.of S.le S.big⟩
    · refine ⟨(S'.mine p hp).1, ?_, (S'.mine p hp).2.2⟩
      rcases List.mem_append.mp hp with q | q
      · exact nd3 _ (List.mem_map_of_mem q) _ List.mem_cons_self
      · exact fun e => nd2.1 (by rw [← e]; exact List.mem_map.mpr ⟨p, q, rfl⟩)
  · refine List.nodup_cons.mpr ⟨fun q => ?_, S'.nd⟩
    obtain ⟨p, hp, e⟩ := List.mem_map.mp q
    exact (S'.mine p hp).2.1 e
  · exact (S.im p hp).2.2.2 (by rw [e]; simp)
  · rcases List.mem_cons.mp q with e | q
    · exact (S.im p hp).2.1 e
    · exact (S'.im p hp).2.2.2 q

section
variable {w : World} {g : Heap} {b : Shared} {L : Addr} {m : Loc} {own imm : Led} {A : Around} {s : Shared} {env : Env} {x : PySem.Str}
  {it : Addr} {n : Nat} {ob : Nat → Obj → Prop} {V : Nat → Value → Prop} {side : Heap → Prop}

/-- a comprehension's test -/
abbrev compTest (ifs : List Expr) (cenv : Env) : Sem Bool := forIn ifs true fun c r => if r = true then do let ok ← isTrue c cenv (eval c cenv); pure (ForInStep.yield ok) else pure (ForInStep.yield r)

/-- one turn of a list comprehension -/
def CompStep (w : World) (g : Heap) (b : Shared) (L : Addr) (A : Around) (env : Env) (scope : Scope) (cl : List (PySem.Str × Addr)) (x : PySem.Str) (ifs : List Expr) (elt : Expr) (it : Addr) (n : Nat) (V : Nat → Value → Prop) (own imm : Led)
    (J : Nat → List Value → Led → Led → Prop) : Prop :=
  ∀ (i : Nat) C acc items k own₁ imm₁ mC s₁ v o oL, i < n → (∀ p ∈ imm, p ∈ imm₁) → J i items own₁ imm₁ → V i v →
    St g b C s₁ (put mC x v) (own₁ ++ (acc, lst items k) :: (it, o) :: (L, oL) :: own) imm₁ →
    wpAny (model P0 w) A (compTest ifs (compEnvC scope cl C env)) (fun ok s₃ =>
      if ok = true then wpAny (model P0 w) A (eval elt (compEnvC scope cl C env)) (fun y s₄ => ∃ own₂ imm₂ mC',
          St g b C s₄ mC' (own₂ ++ (acc, lst items k) :: (it, o) :: (L, oL) :: own) imm₂ ∧ (∀ p ∈ imm, p ∈ imm₂) ∧ J (i + 1) (items ++ [y]) own₂ imm₂) (fun _ _ => False) s₃
      else ∃ own₂ imm₂ mC', St g b C s₃ mC' (own₂ ++ (acc, lst items k) :: (it, o) :: (L, oL) :: own) imm₂ ∧ (∀ p ∈ imm, p ∈ imm₂) ∧ J (i + 1) items own₂ imm₂)
      (fun _ _ => False) s₁

/-- a list comprehension with one clause over an iterator, behind the clause's pyIter -/
theorem l_comp0 {elt iter : Expr} {px pos : Pos} {ifs : List Expr} {scope : Scope} {cl : List (PySem.Str × Addr)} {o₀ : Obj} {RR : Value → Addr → Result → Shared → Prop} (I : Iter w it n ob V side)
    (P : A.handled = none) (S : St g b L s m ((it, o₀) :: own) imm) (ho : ob 0 o₀)
    (hside : ∀ C s' m' own' imm', St g b C s' m' own' imm' → (∀ p ∈ imm, p ∈ imm') → side s'.heap)
    (J : Nat → List Value → Led → Led → Prop) (h0 : J 0 [] [] imm) (hlen : ∀ i items own₁ imm₁, J i items own₁ imm₁ → items.length ≤ 1000000)
    (step : CompStep w g b L A env scope cl x ifs elt it n V own imm J)
    (fin : ∀ C oC mC acc items k own' imm' s', NotCode oC → (∀ h'' : Heap, h''.get? C = some oC → h''.Ns C mC) → St g b L s' m ((C, oC) :: (own' ++ (acc, lst items k) :: own)) imm' → (∀ p ∈ imm, p ∈ imm') → J n items own' imm' → RR (.ref acc) C (.ok .next) s')
    (hcell : ∀ y ∈ scope.names, y.2 ≠ .cell := by decide) (hkind : scope.kind = .function := by rfl) (hl : scope.names.lookup x = some .local := by rfl) :
    wpAny (model P0 w) A (newList []) (fun acc s₃ => wpAny (model P0 w) A (newFunctionEnv scope env.globals cl [] env.qual none .none (some env)) (fun cenv s₄ =>
      codeAny (model P0 w) A (.compStart (.ListComp elt [⟨.Name x px, iter, ifs, 0⟩] scope pos) 0 (.ref it) acc { cenv with scope := relabel scope env }) (RR acc cenv.locals) s₄) (fun _ _ => False) s₃) (fun _ _ => False) s := by
  refine n_list S fun acc s₁ S => ?_
  refine wpAny_newFunctionEnv hcell (fun _ hx => nomatch hx) (fun h₂ hn hs => ?_) hkind
  obtain ⟨oL, SC, hback⟩ := S.sh.intoC hn hs
  revert SC
  refine letterE (s₁.heap.objs.size) ?_
  intro C hC SC
  show codeAny _ _ (.compStart _ 0 (.ref it) (.ref acc) (compEnvC scope cl C env)) (RR (.ref acc) C) _
  have kl : (compEnvC scope cl C env).kindOf x = some .local := lookup_relabel_local hl
  have kp : ((compEnvC scope cl C env).scope.kind == .class || ((compEnvC scope cl C env).scope.kind == .module && (compEnvC scope cl C env).locals != (compEnvC scope cl C env).globals)) = false := by
    show (scope.kind == .class || (scope.kind == .module && _)) = false
    rw [hkind]; rfl
  have hle := S.sh.le
  have SC : St g b C { s₁ with heap := h₂, toks := s₁.toks + ([] : List (PySem.Str × Value)).length } (fun x => ([] : List (PySem.Str × Value)).reverse.lookup x) ([] ++ (acc, lst [] 0) :: (it, o₀) :: (L, oL) :: own) imm :=
    ⟨SC.perm ((List.Perm.cons _ (List.Perm.swap ..)).trans (List.Perm.swap ..)), S.same⟩
  refine normC SC fun s₂ SC => ?_
  revert SC
  refine letter ((fun x => ([] : List (PySem.Str × Value)).reverse.lookup x)) ?_
  intro mC SC
  have loop : codeAny (model P0 w) A (.compLoop (.ListComp elt [⟨.Name x px, iter, ifs, 0⟩] scope pos) 0 (.ref it) (.ref acc) (compEnvC scope cl C env)) (RR (.ref acc) C) s₂ := by
    refine codeAny_compLoop_tests (fun k s' => ∃ mC items kk own' imm' i o, St g b C s' mC (own' ++ (acc, lst items kk) :: (it, o) :: (L, oL) :: own) imm' ∧ ob i o ∧ (∀ p ∈ imm, p ∈ imm') ∧ J i items own' imm' ∧ i ≤ n ∧ k = n - i) ?_ n
      ⟨mC, [], 0, [], imm, 0, o₀, SC, ho, fun _ h => h, h0, Nat.zero_le _, rfl⟩
    intro k s' hI
    refine cut fun QQ hQ => ?_
    obtain ⟨mC, items, kk, own', imm', i, o, S', ho, hi', hJ, hi, rfl⟩ := hI
    have hit : s'.heap.get? it = some o := S'.get (by first | exact m0 | exact m1 | exact m2 | exact m3 | exact m4 | exact m5 | exact m6 | simp)
    have S'' : St g b C s' mC ((own' ++ [(acc, lst items kk)]) ++ (it, o) :: (L, oL) :: own) imm' := S'.asc
    by_cases hlt : i < n
    · refine I.next (i := i) hlt hit ho (hside _ _ _ _ _ S' hi') fun v o' s₁ hv sm e' ho' hs₁ => hQ _ _ ?_
      have S₁ : St g b C s₁ mC ((own' ++ [(acc, lst items kk)]) ++ (it, o') :: (L, oL) :: own) imm' := ⟨S''.sh.upd hs₁.extBut e' (I.nc _ _ ho), S''.same.trans sm⟩
      refine wpAny_assign_Name (st_loc S₁ (fun s₂ S₂ => ?_) rfl kl kp)
      have S₂ : St g b C s₂ (put mC x v) (own' ++ (acc, lst items kk) :: (it, o') :: (L, oL) :: own) imm' := S₂.csa
      refine wpAny_mono (step i C acc items kk own' imm' mC s₂ v o' oL hlt hi' hJ hv S₂) (fun ok s₃ h₃ => ?_) fun _ _ e => e.elim
      cases ok with
      | false =>
        rw [if_neg Bool.false_ne_true] at h₃ ⊢
        obtain ⟨own₂, imm₂, mC', S₄, k₄, hJ₄⟩ := h₃
        exact ⟨n - (i + 1), by lia, mC', items, kk, own₂, imm₂, i + 1, o', S₄, ho', k₄, hJ₄, hlt, rfl⟩
      | true =>
        rw [if_pos rfl] at h₃ ⊢
        refine wpAny_mono h₃ (fun y s₄ h₄ => ?_) fun _ _ e => e.elim
        obtain ⟨own₂, imm₂, mC', S₄, k₄, hJ₄⟩ := h₄
        refine a_append S₄ (fun s₅ S₅ => ⟨n - (i + 1), by lia, mC', items ++ [y], kk + 1, own₂, imm₂, i + 1, o', S₅, ho', k₄, hJ₄, hlt, rfl⟩) (hlen _ _ _ _ hJ)
    · have hin : i = n := by lia
      subst hin
      refine I.stop P hit ho (hside _ _ _ _ _ S' hi') fun s₁ sm he₁ => hQ _ _ ?_
      have S₁ := S''.sh.forget he₁ (I.nc _ _ ho)
      obtain ⟨oC, nc, hC', S₃⟩ := S₁.outC hback hle
      exact fin C oC mC acc items kk own' imm' s₁ nc hC' ⟨by simpa using S₃, S''.same.trans sm⟩ hi' hJ
  exact codeAny_compStart_list loop (I.again (SC.get (by first | exact m0 | exact m1 | exact m2 | exact m3 | exact m4 | exact m5 | exact m6 | simp)) ho loop)

/-- what is to be shown where a comprehension's iterator stands -/
def CompGo (w : World) (g : Heap) (b : Shared) (L : Addr) (A : Around) (env : Env) (scope : Scope) (cl : List (PySem.Str × Addr)) (x : PySem.Str) (ifs : List Expr) (elt : Expr) (K : Loc → Led → Addr → List Value → Led → Prop) (itv : Value) (s₂ : Shared) : Prop :=
  ∃ (it : Addr) (n : Nat) (ob : Nat → Obj → Prop) (V : Nat → Value → Prop) (side : Heap → Prop) (o₀ : Obj) (m : Loc) (own imm : Led) (J : Nat → List Value → Led → Led → Prop),
    itv = .ref it ∧ Iter w it n ob V side ∧ ob 0 o₀ ∧ St g b L s₂ m ((it, o₀) :: own) imm ∧
    (∀ C s' m' own' imm', St g b C s' m' own' imm' → (∀ p ∈ imm, p ∈ imm') → side s'.heap) ∧ J 0 [] [] imm ∧ (∀ i items own₁ imm₁, J i items own₁ imm₁ → items.length ≤ 1000000) ∧
    CompStep w g b L A env scope cl x ifs elt it n V own imm J ∧
    (∀ acc items k own' imm', (∀ p ∈ imm, p ∈ imm') → J n items own' imm' → K m (own' ++ (acc, lst items k) :: own) acc items imm')

theorem CompGo.mk {scope : Scope} {cl : List (PySem.Str × Addr)} {ifs : List Expr} {elt : Expr} {K : Loc → Led → Addr → List Value → Led → Prop} {s₂ : Shared} {o₀ : Obj} (J : Nat → List Value → Led → Led → Prop) (I : Iter w it n ob V side) (ho : ob 0 o₀) (S : St g b L s₂ m ((it, o₀) :: own) imm)
    (hside : ∀ C s' m' own' imm', St g b C s' m' own' imm' → (∀ p ∈ imm, p ∈ imm') → side s'.heap) (h0 : J 0 [] [] imm) (hlen : ∀ i items own₁ imm₁, J i items own₁ imm₁ → items.length ≤ 1000000)
    (step : CompStep w g b L A env scope cl x ifs elt it n V own imm J) (fin : ∀ acc items k own' imm', (∀ p ∈ imm, p ∈ imm') → J n items own' imm' → K m (own' ++ (acc, lst items k) :: own) acc items imm') :
    CompGo w g b L A env scope cl x ifs elt K (.ref it) s₂ := ⟨it, n, ob, V, side, o₀, m, own, imm, J, rfl, I, ho, S, hside, h0, hlen, step, fin⟩
/-- the same, its value read -/
theorem ListComp_ {elt iter : Expr} {px pos : Pos} {ifs : List Expr} {scope : Scope} {cl : List (PySem.Str × Addr)} {Q : Value → Shared → Prop}
    (hclos : closureFor scope env = pure cl)
    (h : wpAny (model P0 w) A (eval iter env) (fun v s₁ => wpAny (model P0 w) A (pyIter v) (fun itv s₂ =>
      CompGo w g b L A env scope cl x ifs elt (fun m own acc _ imm' => ∀ s', St g b L s' m own imm' → Q (.ref acc) s') itv s₂) (fun _ _ => False) s₁) (fun _ _ => False) s)
    (hP : A.handled = none) (hs : ∀ x, foldedSetIterable iter env x = pure x := by intro _; rfl) (hcell : ∀ y ∈ scope.names, y.2 ≠ .cell := by decide) (hkind : scope.kind = .function := by rfl) (hl : scope.names.lookup x = some .local := by rfl)
    (hnames : ∀ x ∈ scope.names, x.2 = .local → scope.names.lookup x.1 = some .local := by decide) :
    wpAny (model P0 w) A (eval (.ListComp elt [⟨.Name x px, iter, ifs, 0⟩] scope pos) env) Q (fun _ _ => False) s := by
  rw [eval_ListComp]
  refine wpAny_comprehension_free (use := none) rfl hs hclos hkind hnames (wpAny_mono h (fun v s₁ h₁ => wpAny_mono h₁ (fun itv s₂ h₂ => ?_) fun _ _ e => e) fun _ _ e => e)
  obtain ⟨it, n, ob, V, side, o₀, m, own, imm, J, rfl, I, ho, S, hside, h0, hlen, step, fin⟩ := h₂
  refine l_comp0 (RR := fun acc C => compPost (model P0 w) A (fun _ _ => False) none Q acc C) I hP S ho hside J h0 hlen step (fun C oC mC acc items k own' imm' s' nc hC S' hi hJ => ?_) hcell hkind hl
  refine ⟨mC, hC _ (S'.get (by first | exact m0 | exact m1 | exact m2 | exact m3 | exact m4 | exact m5 | exact m6 | simp)), fun h₂ hs₂ => ?_⟩
  exact fin acc items k own' imm' hi hJ _ (S'.of (Sh.forget (l₁ := []) S'.sh hs₂.extBut nc))

/-- the same, bound to a local name in its own statement -/
theorem Assign_ListComp_ {elt iter : Expr} {px py pos spos : Pos} {y : PySem.Str} {ifs : List Expr} {scope : Scope} {cl : List (PySem.Str × Addr)} {Q : Flow → Shared → Prop}
    (hsw : swapsWith (.ListComp elt [⟨.Name x px, iter, ifs, 0⟩] scope pos) (some (.Name y py)) spos.line env = pure true) (hclos : closureFor scope env = pure cl)
    (h : wpAny (model P0 w) A (eval iter env) (fun v s₁ => wpAny (model P0 w) A (pyIter v) (fun itv s₂ =>
      CompGo w g b L A env scope cl x ifs elt (fun m own acc _ imm' => ∀ s', St g b L s' (put m y (.ref acc)) own imm' → Q .next s') itv s₂) (fun _ _ => False) s₁) (fun _ _ => False) s)
    (hP : A.handled = none) (hs : ∀ x, foldedSetIterable iter env x = pure x := by intro _; rfl) (hcell : ∀ y ∈ scope.names, y.2 ≠ .cell := by decide) (hkind : scope.kind = .function := by rfl) (hl : scope.names.lookup x = some .local := by rfl)
    (hnames : ∀ x ∈ scope.names, x.2 = .local → scope.names.lookup x.1 = some .local := by decide)
    (hL : env.locals = L := by rfl) (hy : env.kindOf y = some .local := by rfl) (hp : (env.scope.kind == .class || (env.scope.kind == .module && env.locals != env.globals)) = false := by rfl) :
    wpAny (model P0 w) A (exec (.Assign [.Name y py] (.ListComp elt [⟨.Name x px, iter, ifs, 0⟩] scope pos) spos) env) Q (fun _ _ => False) s := by
  rw [exec_Assign_Name_used _ _ _ _ hsw]
  refine wpAny_bind (wpAny_standAt (wpAny_bind ?_))
  show wpAny _ A (do let _ ← comprehension (.ListComp elt [⟨.Name x px, iter, ifs, 0⟩] scope pos) scope env _ (newList []) false (eval iter env) (some (assign (.Name y py) env))) _ _ s
  refine wpAny_bind (wpAny_mono (wpAny_comprehension_free (use := some (assign (.Name y py) env)) (Q := fun _ s' => Q .next s') rfl hs hclos hkind hnames
    (wpAny_mono h (fun xv s₁ h₁ => wpAny_mono h₁ (fun it s₂ h₂ => ?_) fun _ _ e => e) fun _ _ e => e)) (fun _ s' hq => wpAny_pure (wpAny_pure hq)) fun _ _ e => e)
  obtain ⟨it, n, ob, V, side, o₀, m, own, imm, J, rfl, I, ho, S, hside, h0, hlen, step, fin⟩ := h₂
  refine l_comp0 (RR := fun acc C => compPost (model P0 w) A (fun _ _ => False) (some (assign (.Name y py) env)) (fun _ s' => Q .next s') acc C) I hP S ho hside J h0 hlen step (fun C oC mC acc items k own' imm' s' nc hC S' hi hJ => ?_) hcell hkind hl
  show wpAny _ A (assign (.Name y py) env (.ref acc)) _ _ _
  refine wpAny_assign_Name (st_loc S' (fun s₃ S₃ => ⟨mC, hC _ (S₃.get (by first | exact m0 | exact m1 | exact m2 | exact m3 | exact m4 | exact m5 | exact m6 | simp)), fun h₄ hs₄ => ?_⟩) hL hy hp)
  exact fin acc items k own' imm' hi hJ _ (S₃.of (Sh.forget (l₁ := []) S₃.sh hs₄.extBut nc))
end
end Mine
end

section
set_option compiler.extract_closed false
namespace Mine
open PySem PySem.W PyProof.Rows PySem.Calls

theorem gn_range (w : World) : nsIn (KH w) mainGlobals (Str.ofString "range") = some none := by kernel_rfl
theorem bb_range : bootBuiltins (Str.ofString "range") = some (.type "range") := boot_range

inductive Items (imm : Led) : List Value → List (List Int) → Prop
  | nil : Items imm [] []
  | cons {a : Addr} {vs : List Value} {c : List Int} {items : List Value} {mv : List (List Int)} : (a, tup vs) ∈ imm → IntsAre vs c → Items imm items mv → Items imm (.ref a :: items) (c :: mv)
theorem Items.mono {imm imm' : Led} {items : List Value} {mv : List (List Int)} (I : Items imm items mv) (k : ∀ p ∈ imm, p ∈ imm') : Items imm' items mv := by
  induction I with
  | nil => exact .nil
  | cons h i _ ih => exact .cons (k _ h) i ih
theorem Items.snoc {imm : Led} {items : List Value} {mv : List (List Int)} {a : Addr} {vs : List Value} {c : List Int} (I : Items imm items mv) (h : (a, tup vs) ∈ imm) (i : IntsAre vs c) : Items imm (items ++ [.ref a]) (mv ++ [c]) := by
  induction I with
  | nil => exact .cons h i .nil
  | cons x y _ ih => exact .cons x y ih

noncomputable def aftIn (ss : List PySem.Str) (cs : List Int) (sg : PySem.Str) (p j : Nat) : List (List Int) :=
  ((List.range j).filter fun (low : Nat) => Txt.item (ss.getD p default) (low : Int) == sg).map fun (low : Nat) => cs.take p ++ [(low : Int)] ++ cs.drop (p + 1)
noncomputable def aftTo (ss : List PySem.Str) (cs : List Int) (sg : PySem.Str) : Nat → List (List Int)
  | 0 => []
  | p + 1 => aftTo ss cs sg p ++ aftIn ss cs sg p (cs.getD p 0).toNat

theorem aftIn_succ (ss : List PySem.Str) (cs : List Int) (sg : PySem.Str) (p j : Nat) :
    aftIn ss cs sg p (j + 1) = aftIn ss cs sg p j ++ (if Txt.item (ss.getD p default) (j : Int) == sg then [cs.take p ++ [(j : Int)] ++ cs.drop (p + 1)] else []) := by
  unfold aftIn
  rw [List.range_succ, List.filter_append, List.map_append]
  congr 1
  rw [List.filter_cons, List.filter_nil]
  split <;> rfl

structure AftM (m : Loc) (a b c d : Value) : Prop where
  st : m (Str.ofString "stalks") = some a
  ct : m (Str.ofString "cut") = some b
  sg : m (Str.ofString "sign") = some c
  lf : m (Str.ofString "left") = some d
theorem AftM.put {m : Loc} {a b c d v : Value} {x : PySem.Str} (M : AftM m a b c d) (h1 : Str.ofString "stalks" ≠ x) (h2 : Str.ofString "cut" ≠ x) (h3 : Str.ofString "sign" ≠ x) (h4 : Str.ofString "left" ≠ x) : AftM (put m x v) a b c d :=
  ⟨put_ne M.st h1, put_ne M.ct h2, put_ne M.sg h3, put_ne M.lf h4⟩

theorem intsAre_get {vs : List Value} {ns : List Int} (h : IntsAre vs ns) (i : Nat) (hi : i < ns.length) : ∃ t, vs[i]? = some (.int (ns.getD i 0) t) := by
  induction h generalizing i with
  | nil => simp at hi
  | cons n t _ ih =>
    cases i with
    | zero => exact ⟨t, rfl⟩
    | succ i => obtain ⟨t', e⟩ := ih i (by simpa using hi); exact ⟨t', by simpa using e⟩
theorem intsAre_take {vs : List Value} {ns : List Int} (h : IntsAre vs ns) (i : Nat) : IntsAre (vs.take i) (ns.take i) := by
  induction h generalizing i with
  | nil => simpa using IntsAre.nil
  | cons n t _ ih => cases i with
    | zero => exact .nil
    | succ i => exact .cons n t (ih i)
theorem intsAre_drop {vs : List Value} {ns : List Int} (h : IntsAre vs ns) (i : Nat) : IntsAre (vs.drop i) (ns.drop i) := by
  induction h generalizing i with
  | nil => simpa using IntsAre.nil
  | cons n t h ih => cases i with
    | zero => exact .cons n t h
    | succ i => exact ih i

theorem strsAre_get {vs : List Value} {ns : List PySem.Str} (h : StrsAre vs ns) (i : Nat) (hi : i < ns.length) : ∃ t, vs[i]? = some (.str (ns.getD i default) t) := by
  induction h generalizing i with
  | nil => simp at hi
  | cons n t _ ih =>
    cases i with
    | zero => exact ⟨t, rfl⟩
    | succ i => obtain ⟨t', e⟩ := ih i (by simpa using hi); exact ⟨t', by simpa using e⟩
theorem seqIdx {i n : Nat} (h : i < n) : seqIndex? (i : Int) n = some i := by
  unfold seqIndex?
  have h1 : ¬ ((i : Int) < 0) := by lia
  have h2 : ((i : Int) < (n : Int)) := by lia
  simp only [h1, if_false]
  rw [if_pos (by simp only [Bool.and_eq_true, decide_eq_true_eq]; lia), Int.toNat_natCast]
theorem fitsI {i : Int} (h0 : 0 ≤ i) (h1 : i ≤ 1000000) : fitsSsize i = true := by
  unfold fitsSsize
  simp only [Bool.not_eq_true', Bool.or_eq_false_iff, decide_eq_false_iff_not]
  lia
section
variable {w : World} {g : Heap}
set_option maxHeartbeats 4000000
theorem c_after (G : Gl w g) (st ct : Addr) (n0 : Nat) (svs cvs : List Value) (ss : List PySem.Str) (cs : List Int) (sg : PySem.Str) (t : Tok)
    (hss : StrsAre svs ss) (hcs : IntsAre cvs cs) (l3 : ss.length = 3) (l4 : cs.length = 3) (hb : ∀ p < 3, 0 ≤ cs.getD p 0 ∧ cs.getD p 0 ≤ (ss.getD p default).length ∧ cs.getD p 0 ≤ 1000) :
    Con w g 102 [.ref st, .ref ct, .str sg t] 2 16 (fun h => st ≠ 47 ∧ st ≠ 54 ∧ ct ≠ 47 ∧ ct ≠ 54 ∧ h.get? st = some (lst svs n0) ∧ h.get? ct = some (tup cvs))
      (fun h v h' => ∃ r items n imm, v = .ref r ∧ h'.get? r = some (lst items n) ∧ Fr0 h r ∧ (∀ p ∈ imm, h'.get? p.1 = some p.2 ∧ Fr0 h p.1) ∧ Items imm items (aftTo ss cs sg 3)) := by
  intro A s Q E P O sz ⟨n1, n2, n3, n4, es, ec⟩ hQ
  refine enter (d := 1) (u := 13) (binds := [(Str.ofString "stalks", .ref st), (Str.ofString "cut", .ref ct), (Str.ofString "sign", .str sg t)]) G (by rfl) (by rfl) (by kernel_rfl) (by rfl) (by rfl) P O sz fun L s₁ A P S => ?_
  refine wpAny_execs_cons (wpAny_Assign_Name (List_ (spliced_none (n_list S fun lf s₂ S => st_loc S fun s₃ S => ?_))))
  refine wpAny_execs_cons (x_range G S ?_ (gn_range w) bb_range)
  refine wpAny_Constant_int (rgo (n := 3) (by decide) S fun it s₄ S => ?_)
  refine l_range (own := [(lf, lst [] 0)]) (fr := []) P.hh S (fun i m own imm => AftM m (.ref st) (.ref ct) (.str sg t) (.ref lf) ∧ ∃ items n, own = [(lf, lst items n)] ∧ Items imm items (aftTo ss cs sg i) ∧ items.length ≤ 1000 * i) ?_ ?_ ?_
  · exact ⟨⟨rfl, rfl, rfl, rfl⟩, [], 0, rfl, .nil, Nat.le_refl _⟩
  · intro i m own imm s₁ ti o1 hi hsub hJ S
    refine cut fun QQ hQ1 => ?_
    obtain ⟨M, items, n, rfl, I, hlen⟩ := hJ
    obtain ⟨ht0, ht1, ht2⟩ := hb i hi
    obtain ⟨tc, hget⟩ := intsAre_get hcs i (by lia)
    obtain ⟨k, hk⟩ : ∃ k : Nat, cs.getD i 0 = (k : Int) := ⟨_, (Int.toNat_of_nonneg ht0).symm⟩
    obtain ⟨tss, hsget⟩ := strsAre_get hss i (by lia)
    have hlen3 : cvs.length = 3 := hcs.length ▸ l4
    refine wpAny_execs_cons (x_range G S ?_ (gn_range w) bb_range)
    refine Subscript_ (e_loc S (put_ne M.ct (by decide)) (e_loc S put_eq ?_))
    refine item_tupleT (l := cvs) (j := i) (isTup_tup (S.old ec n3 n4)) (by lia) (by lia) (by rw [hlen3]; exact seqIdx hi) hget ?_
    rw [hk]
    refine rgo (n := k) (by lia) S fun it2 s₅ S => ?_
    refine l_range (own := [(lf, lst items n)]) (fr := [_]) P.hh S (fun j m own imm => AftM m (.ref st) (.ref ct) (.str sg t) (.ref lf) ∧ m (Str.ofString "place") = some (.int i ti) ∧ ∃ items n, own = [(lf, lst items n)] ∧ Items imm items (aftTo ss cs sg i ++ aftIn ss cs sg i j) ∧ items.length ≤ 1000 * i + j) ?_ ?_ ?_
    · exact ⟨M.put (by decide) (by decide) (by decide) (by decide), put_eq, items, n, rfl, by simpa [aftIn] using I, hlen⟩
    · intro j m own imm' s₁ tj o2 hj hsub2 hJ S
      refine cut fun QQ hQ2 => ?_
      obtain ⟨M, hp, items, n, rfl, I, hlen⟩ := hJ
      refine wpAny_execs_cons (wpAny_If (wpAny_isTrue_Compare1 ?_))
      refine Subscript_ (Subscript_ (e_loc S (put_ne M.st (by decide)) (e_loc S (put_ne hp (by decide)) ?_)))
      refine item_listL (l := svs) (isList_lst (S.old es n1 n2)) (by lia) (by lia) (by rw [Int.toNat_natCast]; exact hsget) ?_
      refine e_loc S put_eq ?_
      refine item_str (fitsI (by lia) (by lia)) (by lia) (by lia) fun _ => ?_
      refine e_loc S (put_ne M.sg (by decide)) ?_
      refine eq_str (wpAny_truthy_bool ?_)
      by_cases hc : (Txt.item (ss.getD i default) (j : Int) == sg) = true
      · refine ifpos hc ?_
        refine wpAny_execs_cons (wpAny_Expr (MethodCall_ (e_loc S (put_ne M.lf (by decide)) (getMethod_list_append (S.get (a := lf) (o := lst items n) (by first | exact m0 | exact m1 | exact m2 | exact m3 | exact m4 | exact m5 | exact m6 | simp)) rfl rfl (callWith_method1 (spliced_more ?_))))))
        refine wpAny_BinOp (wpAny_BinOp (Subscript_ (e_loc S (put_ne M.ct (by decide)) (wpAny_Slice (wpAny_pure (e_loc S (put_ne hp (by decide)) (wpAny_pure ?_)))))))
        refine a_tupUpto S (isTup_tup (S.old ec n3 n4)) rfl (by lia) (by lia) fun r1 s₂ S => ?_
        refine Tuple_ (spliced_more (e_loc S put_eq (spliced_none (n_tup S fun r2 s₃ S => ?_))))
        refine a_addTup S (.tail _ (.head _)) (.head _) (fun r3 s₄ imm1 S k1 hr3 => ?_) (by simp; lia)
        refine Subscript_ (e_loc S (put_ne M.ct (by decide)) (wpAny_Slice (wpAny_BinOp (e_loc S (put_ne hp (by decide)) (wpAny_Constant_int (add_int (wpAny_pure (wpAny_pure ?_))))))))
        refine a_tupFrom (c := i + 1) S (isTup_tup (S.old ec n3 n4)) (by lia) (by lia) (by lia) (by lia) fun r4 s₅ S => ?_
        refine a_addTup S (.tail _ hr3) (.head _) (fun r5 s₆ imm2 S k2 hr5 => ?_) (by simp; lia)
        refine spliced_none ?_
        refine a_append (l₁ := []) S (fun s₇ S => ?_) (by lia)
        have kk : ∀ p ∈ imm', p ∈ imm2 := fun p q => k2 _ (.tail _ (k1 _ (.tail _ (.tail _ q))))
        refine wpAny_execs_nil (wpAny_execs_nil (hQ2 _ _ ⟨_, _, _, S, fun p q => kk _ (hsub2 _ q), M.put (by decide) (by decide) (by decide) (by decide), put_ne hp (by decide), _, _, rfl, ?_, by simp; lia⟩))
        rw [aftIn_succ, if_pos hc, ← List.append_assoc]
        refine Items.snoc (I.mono kk) hr5 ?_
        exact ((intsAre_take hcs i).append (.cons _ _ .nil)).append (intsAre_drop hcs (i + 1))
      · refine ifneg hc ?_
        refine wpAny_execs_nil (wpAny_execs_nil (hQ2 _ _ ⟨_, _, _, S, hsub2, M.put (by decide) (by decide) (by decide) (by decide), put_ne hp (by decide), items, n, rfl, ?_, by lia⟩))
        rw [aftIn_succ, if_neg hc, List.append_nil]; exact I
    · rintro s' m' own' imm' S hsub2 ⟨M, hp, items, n, rfl, I, hlen⟩
      refine wpAny_execs_nil (hQ1 _ _ ⟨_, _, _, S, fun p q => hsub2 _ (hsub _ q), M, items, n, rfl, ?_, by lia⟩)
      show Items imm' items (aftTo ss cs sg i ++ aftIn ss cs sg i (cs.getD i 0).toNat)
      rw [hk]; exact I
  · rintro s' m' own' imm' S hsub ⟨M, items, n, rfl, I, hlen⟩
    refine wpAny_execs_cons (wpAny_Return_some (e_loc S M.lf ?_))
    refine hQ _ _ S.same S.ok S.ext ⟨lf, items, n, imm', rfl, S.get (by first | exact m0 | exact m1 | exact m2 | exact m3 | exact m4 | exact m5 | exact m6 | simp), S.geO (o := lst items n) (by first | exact m0 | exact m1 | exact m2 | exact m3 | exact m4 | exact m5 | exact m6 | simp), S.geI, I⟩
end
end Mine
end

section
set_option compiler.extract_closed false
namespace Mine
open PySem PySem.W PyProof.Rows PySem.Calls

theorem Sh.addOwn {g b h : Heap} {L : Addr} {m : Loc} {own imm : Led} {a : Addr} {o : Obj} (S : Sh g b L h m own imm) (e : h.get? a = some o) (h1 : a ≠ L) (h2 : Fr0 b a) (h3 : a ∉ own.map (·.1)) (h4 : a ∉ imm.map (·.1)) :
    Sh g b L h m ((a, o) :: own) imm := by
  refine ⟨S.ns, S.ext, fun p hp => ?_, List.nodup_cons.mpr ⟨h3, S.nd⟩, S.le, S.big, S.gle, S.ok, S.bk, fun p hp => ⟨(S.im p hp).1, (S.im p hp).2.1, (S.im p hp).2.2.1, fun q => ?_⟩⟩
  · rcases List.mem_cons.mp hp with rfl | hp
    · exact ⟨e, h1, h2⟩
    · exact S.mine p hp
  · rcases List.mem_cons.mp q with q | q
    · exact h4 (List.mem_map.mpr ⟨p, hp, q⟩)
    · exact (S.im p hp).2.2.2 q

theorem enterC {w : World} {g : Heap} {f : Addr} {o : Obj} {name : PySem.Str} {params : Arguments} {body : List Stmt} {scope : Scope} {pm cd doc : Value} {args : List Value} {binds : List (PySem.Str × Value)} {d u : Nat}
    {A : Around} {s : Shared} {Q E : Value → Shared → Prop}
    (G : Gl w g) (hk : (KH w).lookup f = some o) (hd : o.data = .func (docDef name params body scope pm cd doc)) (hcd : codeIn (KH w) cd name = true)
    (hbind : bindArgs (docDef name params body scope pm cd doc) ⟨args, []⟩ = pure binds) (hkind : (binds.all fun y => scope.names.lookup y.1 == some .local || scope.names.lookup y.1 == some .cell) = true)
    (P : Pre A (d + 1) (u + 3)) (O : Ok g s.heap) (sz : g.objs.size ≤ s.heap.objs.size)
    (h : ∀ L s₁ A', L = s.heap.objs.size → Pre A' d u → St g s L s₁ (bindL (envOfC name scope L f cd).kindOf binds fun _ => none) [] [] →
      (∀ n c, (cellsFrom (L + 1) scope.names []).lookup n = some c → s₁.heap.IsCell c (bindC (envOfC name scope L f cd).kindOf binds (fun _ => none) n)) →
      wpAny (model P0 w) A' (execs body (envOfC name scope L f cd))
        (fun fl s' => Q (match fl with | .ret v => v | _ => .none) s') (fun _ _ => False) s₁)
    (hco : scope.isCoroutine = false := by rfl) (hgen : scope.isGenerator = false := by rfl) (hki : scope.kind = .function := by rfl) :
    wpAny (model P0 w) A (call (.ref f) args) Q E s := by
  obtain ⟨p, loose, mean, mg, mb, T⟩ := G.top
  refine wpAny_call (codeAny_call_cells (by have := P.dp; lia) (O.keep _ _ (G.K _ _ hk)) hd (T.nolimit.keeps O.keep) ((isCode_of G hcd).keeps O.keep) rfl hbind rfl (kindsX hkind _) (fun s₁ x => ?_) hco hgen hki)
  have k := x.toInCall.keep
  refine wpAny_mono (h _ s₁ _ rfl P.deeper ⟨⟨x.toInCall.ns, fun a o _ _ e => k a o e, (fun p hp => nomatch hp), List.nodup_nil, Nat.le_refl _, Nat.lt_of_lt_of_le G.big sz, sz, ⟨fun a o e => k a o (O.keep a o e), O.t1.mono k, O.t2.mono k⟩, fun a o e => ⟨G.ne1 e, G.ne2 e, O.keep a o e⟩, (fun p hp => nomatch hp)⟩, ?_⟩ x.cell) (fun _ _ q => q) fun _ _ e => e.elim
  obtain ⟨h₁, tk, rfl⟩ := x.toInCall.same
  exact ⟨rfl, rfl, rfl⟩

section
variable {w : World} {g : Heap} {b : Shared} {L : Addr} {m : Loc} {own imm : Led} {A : Around} {E : Value → Shared → Prop} {s : Shared} {env : Env} {x : PySem.Str} {pos : Pos} {v : Value} {c : Addr}
theorem cell_nc {o : Obj} {v : Option Value} (h : o.data = .cell v) : NotCode o := fun vs q t e => by rw [h] at e; cases e
theorem e_cell {o : Obj} {Q : Value → Shared → Prop} (S : St g b L s m own imm) (hm : (c, o) ∈ own) (hv : o.data = .cell (some v)) (h : Q v s)
    (hc : env.cells.lookup x = some c := by rfl) (hk : env.scope.kind = .function := by rfl) (hl : env.kindOf x = some .cell := by rfl) (hd : (x == ("__debug__" : PySem.Str)) = false := by decide) :
    wpAny (model P0 w) A (eval (.Name x pos) env) Q E s := wpAny_Name (wpAny_loadName_cell hk hl hc ⟨o, S.get hm, hv⟩ h) hd
theorem e_free {o : Obj} {Q : Value → Shared → Prop} (S : St g b L s m own imm) (hm : (c, o) ∈ own) (hv : o.data = .cell (some v)) (h : Q v s)
    (hc : env.cells.lookup x = some c := by rfl) (hk : env.scope.kind = .function := by rfl) (hl : env.kindOf x = some .free := by rfl) (hd : (x == ("__debug__" : PySem.Str)) = false := by decide) (hn : (x == ("__classdict__" : PySem.Str)) = false := by decide) :
    wpAny (model P0 w) A (eval (.Name x pos) env) Q E s := wpAny_Name (wpAny_loadName_free hk hl hc ⟨o, S.get hm, hv⟩ h hn) hd
theorem e_freeI {o : Obj} {Q : Value → Shared → Prop} (hm : s.heap.get? c = some o) (hv : o.data = .cell (some v)) (h : Q v s)
    (hc : env.cells.lookup x = some c := by rfl) (hk : env.scope.kind = .function := by rfl) (hl : env.kindOf x = some .free := by rfl) (hd : (x == ("__debug__" : PySem.Str)) = false := by decide) (hn : (x == ("__classdict__" : PySem.Str)) = false := by decide) :
    wpAny (model P0 w) A (eval (.Name x pos) env) Q E s := wpAny_Name (wpAny_loadName_free hk hl hc ⟨o, hm, hv⟩ h hn) hd
theorem st_cell {l₁ l₂ : Led} {o : Obj} {v₀ : Option Value} {Q : Unit → Shared → Prop} (S : St g b L s m (l₁ ++ (c, o) :: l₂) imm) (hv : o.data = .cell v₀)
    (h : ∀ o' s', o'.data = .cell (some v) → St g b L s' m (l₁ ++ (c, o') :: l₂) imm → Q () s')
    (hc : env.cells.lookup x = some c := by rfl) (hk : env.scope.kind = .function := by rfl) (hl : env.kindOf x = some .cell := by rfl) :
    wpAny (model P0 w) A (storeName env x v) Q E s :=
  wpAny_storeName_cell hk hl hc ⟨o, S.get (by simp), hv⟩ fun h' ⟨o', e', d'⟩ hs => h o' _ d' (S.of (S.sh.upd hs.extBut e' (cell_nc hv)))
end
end Mine
end

section
set_option compiler.extract_closed false
namespace Mine
open PySem PySem.W PyProof.Rows PySem.Calls

abbrev Tab := List (List Int × Bool × Bool)
noncomputable def getW (t : Tab) (k : List Int) : Option (Bool × Bool) := (t.find? fun x => decide (x.1 = k)).map (·.2)
theorem getW_snoc (t : Tab) (key k : List Int) (p : Bool × Bool) : getW (t ++ [(key, p)]) k = match getW t k with | some q => some q | none => if key = k then some p else none := by
  unfold getW
  rw [List.find?_append]
  cases h : t.find? (fun x => decide (x.1 = k)) with
  | some q => simp
  | none =>
    by_cases e : key = k
    · simp [e]
    · simp [e]
abbrev cLt : PySem.Str := PySem.Str.ofString "<"
abbrev cGt : PySem.Str := PySem.Str.ofString ">"
noncomputable def okL (t : Tab) (c : List Int) : Bool := !((getW t c).getD (false, false)).2
noncomputable def okR (t : Tab) (c : List Int) : Bool := !((getW t c).getD (false, false)).1
noncomputable def stepW (ss : List PySem.Str) (t : Tab) (k : List Int) : Tab :=
  t ++ [(k, decide ((aftTo ss k cLt 3).filter (okL t) ≠ []), decide ((aftTo ss k cGt 3).filter (okR t) ≠ []))]
noncomputable def winK (ss : List PySem.Str) (i j : Nat) (t : Tab) : Nat → Tab
  | 0 => t
  | k + 1 => stepW ss (winK ss i j t k) [(i : Int), (j : Int), (k : Int)]
noncomputable def winJ (ss : List PySem.Str) (n2 i : Nat) (t : Tab) : Nat → Tab
  | 0 => t
  | j + 1 => winK ss i j (winJ ss n2 i t j) n2
noncomputable def winI (ss : List PySem.Str) (n1 n2 : Nat) : Nat → Tab
  | 0 => []
  | i + 1 => winJ ss n2 i (winI ss n1 n2 i) n1

/-- the keys that stand ahead of the turn i, j, k -/
def TI (n1 n2 i j k : Nat) (t : Tab) : Prop :=
  ∀ c : List Int, (getW t c).isSome = true ↔ ∃ a b d : Nat, c = [(a : Int), (b : Int), (d : Int)] ∧ b < n1 ∧ d < n2 ∧ (a < i ∨ (a = i ∧ (b < j ∨ (b = j ∧ d < k))))
theorem TI.start (n1 n2 : Nat) : TI n1 n2 0 0 0 [] := fun c => by
  constructor
  · intro h; simp [getW] at h
  · rintro ⟨a, b, d, _, _, _, h⟩; lia
theorem TI.step {n1 n2 i j k : Nat} {t : Tab} (T : TI n1 n2 i j k t) (hj : j < n1) (hk : k < n2) (p : Bool × Bool) : TI n1 n2 i j (k + 1) (t ++ [([(i : Int), (j : Int), (k : Int)], p)]) := fun c => by
  rw [getW_snoc]
  have := T c
  cases h : getW t c with
  | some q =>
    rw [h] at this
    simp only [Option.isSome_some, true_iff] at this ⊢
    obtain ⟨a, b, d, e, h1, h2, h3⟩ := this
    exact ⟨a, b, d, e, h1, h2, by lia⟩
  | none =>
    rw [h] at this
    simp only [Option.isSome_none, Bool.false_eq_true, false_iff] at this
    by_cases e : [(i : Int), (j : Int), (k : Int)] = c
    · simp only [e, if_true, Option.isSome_some, true_iff]
      exact ⟨i, j, k, e.symm, hj, hk, by lia⟩
    · simp only [e, if_false, Option.isSome_none, Bool.false_eq_true, false_iff]
      rintro ⟨a, b, d, rfl, h1, h2, h3⟩
      by_cases hx : a < i ∨ (a = i ∧ (b < j ∨ (b = j ∧ d < k)))
      · exact this ⟨a, b, d, rfl, h1, h2, hx⟩
      · have : a = i ∧ b = j ∧ d = k := by lia
        obtain ⟨rfl, rfl, rfl⟩ := this
        exact e rfl
theorem TI.nextJ {n1 n2 i j : Nat} {t : Tab} (T : TI n1 n2 i j n2 t) : TI n1 n2 i (j + 1) 0 t := fun c => by
  rw [T c]
  constructor
  · rintro ⟨a, b, d, e, h1, h2, h3⟩; exact ⟨a, b, d, e, h1, h2, by lia⟩
  · rintro ⟨a, b, d, e, h1, h2, h3⟩; exact ⟨a, b, d, e, h1, h2, by lia⟩
theorem TI.nextI {n1 n2 i : Nat} {t : Tab} (T : TI n1 n2 i n1 0 t) : TI n1 n2 (i + 1) 0 0 t := fun c => by
  rw [T c]
  constructor
  · rintro ⟨a, b, d, e, h1, h2, h3⟩; exact ⟨a, b, d, e, h1, h2, by lia⟩
  · rintro ⟨a, b, d, e, h1, h2, h3⟩; exact ⟨a, b, d, e, h1, h2, by lia⟩
theorem TI.fresh {n1 n2 i j k : Nat} {t : Tab} (T : TI n1 n2 i j k t) : getW t [(i : Int), (j : Int), (k : Int)] = none := by
  cases h : getW t [(i : Int), (j : Int), (k : Int)] with
  | none => rfl
  | some q =>
    obtain ⟨a, b, d, e, h1, h2, h3⟩ := (T [(i : Int), (j : Int), (k : Int)]).mp (by rw [h]; rfl)
    simp only [List.cons.injEq, and_true] at e
    lia
theorem mem_aftIn {ss : List PySem.Str} {cs : List Int} {sg : PySem.Str} {p n : Nat} {c : List Int} (h : c ∈ aftIn ss cs sg p n) : ∃ low : Nat, low < n ∧ c = cs.take p ++ [(low : Int)] ++ cs.drop (p + 1) := by
  unfold aftIn at h
  obtain ⟨low, hl, rfl⟩ := List.mem_map.mp h
  exact ⟨low, List.mem_range.mp (List.mem_filter.mp hl).1, rfl⟩
theorem TI.known {n1 n2 i j k : Nat} {t : Tab} (T : TI n1 n2 i j k t) (hj : j < n1) (hk : k < n2) {ss : List PySem.Str} {sg : PySem.Str} {c : List Int} (h : c ∈ aftTo ss [(i : Int), (j : Int), (k : Int)] sg 3) : ∃ q, getW t c = some q := by
  refine Option.isSome_iff_exists.mp ((T c).mpr ?_)
  simp only [aftTo, List.nil_append, List.mem_append] at h
  rcases h with (h | h) | h <;> obtain ⟨low, hl, rfl⟩ := mem_aftIn h
  · exact ⟨low, j, k, by simp, hj, hk, .inl (by simpa using hl)⟩
  · have : low < j := by simpa using hl
    exact ⟨i, low, k, by simp, by lia, hk, by lia⟩
  · have : low < k := by simpa using hl
    exact ⟨i, j, low, by simp, hj, by lia, by lia⟩

abbrev TK (w : World) : HeapKind P0 w (List Int) := tupleKind (intKind P0 w)
inductive WRel (imm : Led) : List (List Int × Addr × Value) → Tab → Prop
  | nil : WRel imm [] []
  | cons {key : List Int} {ka va : Addr} {kvs : List Value} {p q : Bool} {xs : List (List Int × Addr × Value)} {t : Tab} : (ka, tup kvs) ∈ imm → IntsAre kvs key → (va, tup [.bool p, .bool q]) ∈ imm → WRel imm xs t →
      WRel imm ((key, ka, .ref va) :: xs) ((key, p, q) :: t)
theorem WRel.mono {imm imm' : Led} {xs : List (List Int × Addr × Value)} {t : Tab} (R : WRel imm xs t) (k : ∀ p ∈ imm, p ∈ imm') : WRel imm' xs t := by
  induction R with
  | nil => exact .nil
  | cons a b c _ ih => exact .cons (k _ a) b (k _ c) ih
theorem WRel.snoc {imm : Led} {xs : List (List Int × Addr × Value)} {t : Tab} (R : WRel imm xs t) {key : List Int} {ka va : Addr} {kvs : List Value} {p q : Bool} (h1 : (ka, tup kvs) ∈ imm) (h2 : IntsAre kvs key) (h3 : (va, tup [.bool p, .bool q]) ∈ imm) :
    WRel imm (xs ++ [(key, ka, .ref va)]) (t ++ [(key, p, q)]) := by
  induction R with
  | nil => exact .cons h1 h2 h3 .nil
  | cons a b c _ ih => exact .cons a b c ih
theorem WRel.get {imm : Led} {xs : List (List Int × Addr × Value)} {t : Tab} (R : WRel imm xs t) {k : List Int} {q : Bool × Bool} (h : getW t k = some q) : ∃ ka va, atKey xs k = some (ka, .ref va) ∧ (va, tup [.bool q.1, .bool q.2]) ∈ imm := by
  induction R with
  | nil => simp [getW] at h
  | @cons key ka va kvs p q' xs t a b c _ ih =>
    unfold getW atKey at *
    simp only [List.find?_cons] at h ⊢
    by_cases e : key = k
    · simp only [e, decide_true] at h ⊢
      cases h
      exact ⟨ka, va, rfl, c⟩
    · simp only [e, decide_false] at h ⊢
      exact ih h
theorem WRel.none {imm : Led} {xs : List (List Int × Addr × Value)} {t : Tab} (R : WRel imm xs t) {k : List Int} (h : getW t k = Option.none) : atKey xs k = Option.none := by
  induction R with
  | nil => rfl
  | @cons key ka va kvs p q' xs t a b c _ ih =>
    unfold getW atKey at *
    simp only [List.find?_cons] at h ⊢
    by_cases e : key = k
    · simp only [e, decide_true] at h
      cases h
    · simp only [e, decide_false] at h ⊢
      exact ih h
theorem WRel.length {imm : Led} {xs : List (List Int × Addr × Value)} {t : Tab} (R : WRel imm xs t) : xs.length = t.length := by
  induction R with
  | nil => rfl
  | cons _ _ _ _ ih => simp [ih]

structure WD (w : World) (o : Obj) (xs : List (List Int × Addr × Value)) : Prop where
  ex : o.ExactDict
  da : ∃ es ep, o.data = .dict es ep ∧ es.toList = xs.map (entryOfKey (TK w))
  nd : (xs.map (·.1)).Nodup
theorem WD.nc {w : World} {o : Obj} {xs : List (List Int × Addr × Value)} (W : WD w o xs) : NotCode o := fun vs q t e => by obtain ⟨es, ep, d, _⟩ := W.da; rw [d] at e; cases e

theorem itemsAre_ints {w : World} {vs : List Value} {ns : List Int} (h : IntsAre vs ns) : ItemsAre (intKind P0 w) ns vs := by
  induction h with
  | nil => exact .nil
  | cons n t _ ih => exact .cons (by simp [intKind, Value.isInt]) ih
theorem isKey {w : World} {h : Heap} {a : Addr} {vs : List Value} {ns : List Int} (e : h.get? a = some (tup vs)) (hi : IntsAre vs ns) : (TK w).is h ns a := ⟨_, _, 0, e, rfl, rfl, by simpa using itemsAre_ints hi⟩

theorem WRel.keys {w : World} {imm : Led} {xs : List (List Int × Addr × Value)} {t : Tab} (R : WRel imm xs t) {h : Heap} (k : ∀ p ∈ imm, h.get? p.1 = some p.2) : ∀ x ∈ xs, (TK w).is h x.1 x.2.1 := by
  induction R with
  | nil => intro x hx; cases hx
  | cons a b c _ ih =>
    intro x hx
    rcases List.mem_cons.mp hx with rfl | hx
    · exact isKey (k _ a) b
    · exact ih x hx
theorem dictH {w : World} {h : Heap} {d : Addr} {o : Obj} {imm : Led} {xs : List (List Int × Addr × Value)} {t : Tab} (e : h.get? d = some o) (W : WD w o xs) (R : WRel imm xs t) (k : ∀ p ∈ imm, h.get? p.1 = some p.2) : h.DictOfH (TK w) d xs :=
  let ⟨es, ep, d1, d2⟩ := W.da
  ⟨o, es, ep, e, W.ex, d1, d2, R.keys k, W.nd⟩
end Mine
end

section
set_option compiler.extract_closed false
namespace Mine
open PySem PySem.W PyProof.Rows PySem.Calls

theorem gn_len (w : World) : nsIn (KH w) mainGlobals (Str.ofString "len") = some none := by kernel_rfl
theorem gn_after (w : World) : nsIn (KH w) mainGlobals (Str.ofString "_law_after") = some (some (.ref 102)) := by kernel_rfl
theorem kp_after (w : World) : keepIn (KH w) (.ref 102) = true := by kernel_rfl

theorem Items.length {imm : Led} {items : List Value} {mv : List (List Int)} (I : Items imm items mv) : items.length = mv.length := by
  induction I with
  | nil => rfl
  | cons _ _ _ ih => simp [ih]
theorem Items.get {imm : Led} {items : List Value} {mv : List (List Int)} (I : Items imm items mv) {i : Nat} {v : Value} (h : items[i]? = some v) : ∃ a vs c, v = .ref a ∧ (a, tup vs) ∈ imm ∧ IntsAre vs c ∧ mv[i]? = some c := by
  induction I generalizing i with
  | nil => simp at h
  | @cons a vs c items mv x y _ ih =>
    cases i with
    | zero => simp at h; exact ⟨a, vs, c, h.symm, x, y, rfl⟩
    | succ i => simpa using ih (by simpa using h)
theorem aftIn_len (ss : List PySem.Str) (cs : List Int) (sg : PySem.Str) (p n : Nat) : (aftIn ss cs sg p n).length ≤ n := by
  unfold aftIn
  rw [List.length_map]
  exact Nat.le_trans (List.length_filter_le _ _) (by simp)
theorem aft_len {ss : List PySem.Str} {cs : List Int} {sg : PySem.Str} (h : ∀ p < 3, cs.getD p 0 ≤ 1000) : (aftTo ss cs sg 3).length ≤ 3000 := by
  have h0 := aftIn_len ss cs sg 0 (cs.getD 0 0).toNat
  have h1 := aftIn_len ss cs sg 1 (cs.getD 1 0).toNat
  have h2 := aftIn_len ss cs sg 2 (cs.getD 2 0).toNat
  have a0 := h 0 (by lia)
  have a1 := h 1 (by lia)
  have a2 := h 2 (by lia)
  simp only [aftTo, List.nil_append, List.length_append]
  lia
theorem filter_take_succ {α : Type} (p : α → Bool) (l : List α) (i : Nat) (c : α) (h : l[i]? = some c) : (l.take (i + 1)).filter p = (l.take i).filter p ++ (if p c = true then [c] else []) := by
  rw [List.take_add_one, h, List.filter_append]
  cases hp : p c <;> simp [hp]

theorem readsInts {h : Heap} {vs : List Value} {ns : List Int} (hi : IntsAre vs ns) : ReadsAll h vs (ns.map PyData.int) [] := readsAll_of_ints hi
theorem Items.reads {imm : Led} {items : List Value} {mv : List (List Int)} (I : Items imm items mv) {h : Heap} (k : ∀ p ∈ imm, h.get? p.1 = some p.2) : ReadsAll h items (mv.map fun c => PyData.tuple (c.map PyData.int)) [] := by
  induction I with
  | nil => exact .nil
  | cons x y _ ih => exact readsAll_cons_val (reads_tuple_at (k _ x) rfl rfl (by simpa using readsInts y)) ih
theorem canLay_mv : ∀ mv : List (List Int), PyData.canLayAll0 (mv.map fun c => PyData.tuple (c.map PyData.int)) = true
  | [] => rfl
  | c :: r => by simp [PyData.canLayAll0, PyData.canLay0, canLay_mv r, ke_canLayAll0 c]
theorem depth_mv : ∀ mv : List (List Int), PyData.depthAll (mv.map fun c => PyData.tuple (c.map PyData.int)) ≤ 1
  | [] => by simp [PyData.depthAll]
  | c :: r => by
    have := depth_mv r
    simp only [List.map_cons, PyData.depthAll, PyData.depth, ke_depthAll c]
    lia
theorem shaped_mv (mv : List (List Int)) : SeqAt.shaped (.list (mv.map fun c => PyData.tuple (c.map PyData.int))) = true := by
  have h1 := depth_mv mv
  have h2 : PyData.depth (.list (mv.map fun c => PyData.tuple (c.map PyData.int))) ≤ 64 := by simp only [PyData.depth]; lia
  show (PyData.canLay0 (.list (mv.map fun c => PyData.tuple (c.map PyData.int))) && decide (PyData.depth (.list (mv.map fun c => PyData.tuple (c.map PyData.int))) ≤ 64)) = true
  rw [Bool.and_eq_true]
  exact ⟨by simp only [PyData.canLay0]; exact canLay_mv mv, decide_eq_true h2⟩
theorem eqv_mv (mv : List (List Int)) : PyData.eqv (.list (mv.map fun c => PyData.tuple (c.map PyData.int))) (.list []) = decide (mv = []) := by
  cases mv with
  | nil => simp [PyData.eqv, PyData.eqvAll]
  | cons c r => simp [PyData.eqv, PyData.eqvAll]

structure WinM (m : Loc) (a : Value) : Prop where
  st : m (Str.ofString "stalks") = some a
theorem WinM.put {m : Loc} {a v : Value} {x : PySem.Str} (M : WinM m a) (h1 : Str.ofString "stalks" ≠ x) : WinM (put m x v) a := ⟨put_ne M.st h1⟩

section
variable {w : World} {g : Heap}
set_option maxHeartbeats 4000000
theorem c_winners (G : Gl w g) (st : Addr) (n0 : Nat) (svs : List Value) (ss : List PySem.Str) (hss : StrsAre svs ss) (l3 : ss.length = 3) (hb : ∀ p < 3, (ss.getD p default).length ≤ 50) :
    Con w g 107 [.ref st] 4 300 (fun h => st ≠ 47 ∧ st ≠ 54 ∧ h.get? st = some (lst svs n0))
      (fun h v h' => ∃ d o xs imm, v = .ref d ∧ d ≠ 1 ∧ h'.get? d = some o ∧ Fr0 h d ∧ (∀ p ∈ imm, h'.get? p.1 = some p.2 ∧ Fr0 h p.1) ∧ WD w o xs ∧
        WRel imm xs (winI ss ((ss.getD 1 default).length + 1) ((ss.getD 2 default).length + 1) ((ss.getD 0 default).length + 1))) := by
  intro A s Q E P O sz ⟨n1, n2, es⟩ hQ
  refine enterC (d := 3) (u := 297) (binds := [(Str.ofString "stalks", .ref st)]) G (by rfl) (by rfl) (by kernel_rfl) (by rfl) (by rfl) P O sz fun L s₁ A eL P S hcell => ?_
  obtain ⟨oc, ec, dc⟩ := hcell (Str.ofString "wins") (L + 1) rfl
  have S : St g s L s₁ _ [(L + 1, oc)] [] := ⟨S.sh.addOwn ec (Nat.ne_of_gt (Nat.lt_succ_self _)) (Fr0.of (Nat.le_trans S.sh.le (Nat.le_succ _)) S.sh.big) (by simp) (by simp), S.same⟩
  clear hcell
  obtain ⟨t0, hg0⟩ := strsAre_get hss 0 (by lia)
  obtain ⟨t1, hg1⟩ := strsAre_get hss 1 (by lia)
  obtain ⟨t2, hg2⟩ := strsAre_get hss 2 (by lia)
  have b0 := hb 0 (by lia)
  have b1 := hb 1 (by lia)
  have b2 := hb 2 (by lia)
  refine wpAny_execs_cons (wpAny_Assign_Name ?_)
  rw [eval_Dict_empty]
  refine wpAny_bind (wpAny_standAt (wpAny_newObj_type ?_))
  have hd1 : s₁.heap.objs.size ≠ 1 := Nat.ne_of_gt (Nat.lt_of_lt_of_le (Nat.lt_trans (by decide) S.sh.big) S.sh.bsz)
  have S := S.of (tk := s₁.toks) (S.sh.push { cls := .type "dict", data := .dict #[] })
  generalize s₁.heap.objs.size = d at S hd1
  refine st_cell (l₁ := [_]) (l₂ := []) S dc fun oc s₂ dc S => ?_
  have S := S.swap
  refine wpAny_execs_cons (x_range G S ?_ (gn_range w) bb_range)
  refine wpAny_BinOp (Call_Name rfl (e_bi G S (gn_len w) boot_len (callWith_method1 (spliced_more (Subscript_ (e_loc S (by rfl) (wpAny_Constant_int (item_listL (l := svs) (isList_lst (S.old es n1 n2)) (by lia) (by lia) hg0 (spliced_none (len_str (by lia) ?_))))))))))
  refine wpAny_Constant_int (add_int (rgo (n := (ss.getD 0 default).length + 1) (by lia) S fun it1 s₃ S => ?_))
  have W0 : WD w { cls := .type "dict", data := .dict #[] } [] := ⟨⟨rfl, rfl, rfl⟩, ⟨#[], 0, rfl, rfl⟩, List.nodup_nil⟩
  refine l_range (own := [(L + 1, oc), (d, _)]) (fr := []) P.hh S (fun i m own imm => WinM m (.ref st) ∧ ∃ o xs, own = [(L + 1, oc), (d, o)] ∧ WD w o xs ∧ WRel imm xs (winI ss ((ss.getD 1 default).length + 1) ((ss.getD 2 default).length + 1) i) ∧ TI ((ss.getD 1 default).length + 1) ((ss.getD 2 default).length + 1) i 0 0 (winI ss ((ss.getD 1 default).length + 1) ((ss.getD 2 default).length + 1) i) ∧ xs.length ≤ 10000 * i) ?_ ?_ ?_
  · exact ⟨⟨rfl⟩, _, [], rfl, W0, .nil, TI.start _ _, Nat.le_refl _⟩
  · intro i m own imm s₁ ti o1 hi hsub1 hJ S
    refine cut fun QQ hQ1 => ?_
    refine an2 hJ fun M h1 => ex2 h1 fun o xs h2 => an5 h2 fun e W R T hx => ?_
    clear hJ h1 h2
    subst e
    revert R T
    refine letterE (winI ss ((ss.getD 1 default).length + 1) ((ss.getD 2 default).length + 1) i) ?_
    intro t hti R T
    refine wpAny_execs_cons (x_range G S ?_ (gn_range w) bb_range)
    refine wpAny_BinOp (Call_Name rfl (e_bi G S (gn_len w) boot_len (callWith_method1 (spliced_more (Subscript_ (e_loc S (put_ne M.st (by decide)) (wpAny_Constant_int (item_listL (l := svs) (isList_lst (S.old es n1 n2)) (by lia) (by lia) hg1 (spliced_none (len_str (by lia) ?_))))))))))
    refine wpAny_Constant_int (add_int (rgo (n := (ss.getD 1 default).length + 1) (by lia) S fun it2 s₃ S => ?_))
    refine l_range (own := [(L + 1, oc), (d, o)]) (fr := [_]) P.hh S (fun j m own imm => WinM m (.ref st) ∧ m (Str.ofString "i") = some (.int i ti) ∧ ∃ o xs, own = [(L + 1, oc), (d, o)] ∧ WD w o xs ∧ WRel imm xs (winJ ss ((ss.getD 2 default).length + 1) i t j) ∧ TI ((ss.getD 1 default).length + 1) ((ss.getD 2 default).length + 1) i j 0 (winJ ss ((ss.getD 2 default).length + 1) i t j) ∧ xs.length ≤ 10000 * i + 100 * j) ?_ ?_ ?_
    · exact ⟨M.put (by decide), put_eq, o, xs, rfl, W, R, T, hx⟩
    · intro j m own imm2 s₁ tj o2 hj hsub2 hJ S
      refine cut fun QQ hQ2 => ?_
      refine an3 hJ fun M mi h1 => ex2 h1 fun o xs h2 => an5 h2 fun e W R T hx => ?_
      clear hJ h1 h2
      subst e
      revert R T
      refine letterE (winJ ss ((ss.getD 2 default).length + 1) i t j) ?_
      intro t' htj R T
      refine wpAny_execs_cons (x_range G S ?_ (gn_range w) bb_range)
      refine wpAny_BinOp (Call_Name rfl (e_bi G S (gn_len w) boot_len (callWith_method1 (spliced_more (Subscript_ (e_loc S (put_ne M.st (by decide)) (wpAny_Constant_int (item_listL (l := svs) (isList_lst (S.old es n1 n2)) (by lia) (by lia) hg2 (spliced_none (len_str (by lia) ?_))))))))))
      refine wpAny_Constant_int (add_int (rgo (n := (ss.getD 2 default).length + 1) (by lia) S fun it3 s₃ S => ?_))
      refine l_range (own := [(L + 1, oc), (d, o)]) (fr := [_, _]) P.hh S (fun k m own imm => WinM m (.ref st) ∧ m (Str.ofString "i") = some (.int i ti) ∧ m (Str.ofString "j") = some (.int j tj) ∧ ∃ o xs, own = [(L + 1, oc), (d, o)] ∧ WD w o xs ∧ WRel imm xs (winK ss i j t' k) ∧ TI ((ss.getD 1 default).length + 1) ((ss.getD 2 default).length + 1) i j k (winK ss i j t' k) ∧ xs.length ≤ 10000 * i + 100 * j + k) ?_ ?_ ?_
      · exact ⟨M.put (by decide), put_ne mi (by decide), put_eq, o, xs, rfl, W, R, T, hx⟩
      · intro k m own imm3 s₁ tk' o3 hk hsub3 hJ S
        refine cut fun QQ hQ3 => ?_
        refine an4 hJ fun M mi mj h1 => ex2 h1 fun o xs h2 => an5 h2 fun e W R T hx => ?_
        clear hJ h1 h2
        subst e
        revert R T
        refine letterE (winK ss i j t' k) ?_
        intro t'' htk R T
        have hbb : ∀ p < 3, 0 ≤ ([(i : Int), (j : Int), (k : Int)] : List Int).getD p 0 ∧ ([(i : Int), (j : Int), (k : Int)] : List Int).getD p 0 ≤ (ss.getD p default).length ∧ ([(i : Int), (j : Int), (k : Int)] : List Int).getD p 0 ≤ 1000 := by
          intro p hp
          match p, hp with
          | 0, _ => simp only [List.getD_cons_zero]; lia
          | 1, _ => simp only [List.getD_cons_succ, List.getD_cons_zero]; lia
          | 2, _ => simp only [List.getD_cons_succ, List.getD_cons_zero]; lia
        refine wpAny_execs_cons (Assign_ListComp_ (g := g) (b := s) (L := L) (by rfl) (by rfl) ?_ P.hh)
        refine Call_Name rfl (e_glob G S (gn_after w) (callWith_K G.K (kp_after w) ?_))
        refine spliced_more (e_loc S (put_ne M.st (by decide)) ?_)
        refine spliced_more (Tuple_ ?_)
        refine spliced_more (e_loc S (put_ne mi (by decide)) ?_)
        refine spliced_more (e_loc S (put_ne mj (by decide)) ?_)
        refine spliced_more (e_loc S put_eq ?_)
        refine spliced_none (n_tup S fun r1 s₂ S => ?_)
        refine spliced_more (Constant_str (spliced_none ⟨fun a o e => S.gk (G.K _ _ e), ?_⟩))
        refine c_after G st r1 n0 svs [.int i ti, .int j tj, .int k tk'] ss [(i : Int), (j : Int), (k : Int)] cLt _ hss (.cons _ _ (.cons _ _ (.cons _ _ .nil))) l3 rfl hbb _ _ _ _ (P.le (by lia) (by lia)) S.ok S.gsz ⟨n1, n2, (S.neI (.head _)).1, (S.neI (.head _)).2, S.old es n1 n2, S.geti (.head _)⟩ ?_
        refine fun _ s₃ e₃ O₃ X₃ h1 => ex4 h1 fun r items nn immA h2 => an5 h2 fun e er hr himA IA => ?_
        clear h1 h2
        subst e
        have S := S.adopt (nw := (r, lst items nn) :: immA) e₃ X₃ O₃ (fun p hp => by rcases List.mem_cons.mp hp with rfl | hp; exact ⟨er, hr⟩; exact himA p hp)
        refine wpAny_pyIter_list (isList_lst er) ?_
        have S := S.of (tk := s₃.toks) (S.sh.push { cls := .type "list_iterator", data := .fields #[.ref r, .int 0 0] })
        refine CompGo.mk (fun q its own₁ imm₁ => own₁ = [] ∧ Items imm₁ its (((aftTo ss [(i : Int), (j : Int), (k : Int)] cLt 3).take q).filter (okL t''))) (lstIter w _ r items nn) ⟨rfl, rfl⟩ S ?_ ⟨rfl, .nil⟩ ?_ ?_ ?_
        · exact fun C s' m' own' imm' S' hsub => S'.geti (hsub _ (.head _))
        · rintro q its own₁ imm₁ ⟨_, I⟩
          have l1 := I.length
          have l2 := aft_len (ss := ss) (cs := [(i : Int), (j : Int), (k : Int)]) (sg := cLt) (fun p hp => (hbb p hp).2.2)
          have l4 := List.length_filter_le (okL t'') ((aftTo ss [(i : Int), (j : Int), (k : Int)] cLt 3).take q)
          rw [List.length_take] at l4
          lia
        · intro q C acc its kk own₁ imm₁ mC s₁ v oI oL hq hsub hJ hv S
          refine cut fun QT hQT => ?_
          obtain ⟨rfl, I⟩ := hJ
          refine ex3 (IA.get hv) fun a vs c h1 => an4 h1 fun e ha hvs hc => ?_
          clear h1
          subst e
          obtain ⟨pq, hpq⟩ := T.known hj hk (List.mem_of_getElem? hc)
          have Rm := R.mono (imm' := imm₁) (fun p hp => hsub _ (List.mem_append_right _ (.tail _ hp)))
          obtain ⟨ka, va, hat, hva⟩ := Rm.get hpq
          have ha' : (a, tup vs) ∈ imm₁ := hsub _ (List.mem_append_left _ (.tail _ ha))
          refine wpAny_tests_one (isTrue_not (isTrue_plain (Subscript_ (Subscript_ (e_cell S (c := L + 1) (o := oc) (by first | exact m0 | exact m1 | exact m2 | exact m3 | exact m4 | exact m5 | exact m6 | simp) dc (e_loc S put_eq ?_))))))
          have DH := dictH (w := w) (S.get (a := d) (o := o) (by first | exact m0 | exact m1 | exact m2 | exact m3 | exact m4 | exact m5 | exact m6 | simp)) W Rm S.gets
          refine tail_any (ops := [.ref d, .ref a]) DH.typeIs slot_dict_getitem.lookup (wpAny_getItem_heap (tupleKind_room_in1 (by have := P.un; lia)) (isKey (S.geti ha') hvs) DH hat ?_) (by with_unfolding_all rfl)
          refine wpAny_Constant_int (item_tupleT (l := [.bool pq.1, .bool pq.2]) (j := 1) (isTup_tup (S.geti hva)) (by lia) (by lia) (by rfl) (by rfl) (wpAny_truthy_bool ?_))
          have hok : okL t'' c = !pq.2 := by unfold okL; rw [hpq]; rfl
          refine hQT _ _ ?_
          cases hb2 : pq.2 with
          | true =>
            refine ifneg (by simp) ?_
            refine ⟨[], imm₁, _, S, hsub, rfl, ?_⟩
            rw [filter_take_succ _ _ _ _ hc, hok, hb2, if_neg (by simp), List.append_nil]; exact I
          | false =>
            refine ifpos (by simp) ?_
            refine e_loc S put_eq ⟨[], imm₁, _, S, hsub, rfl, ?_⟩
            rw [filter_take_succ _ _ _ _ hc, hok, hb2, if_pos (by simp)]; exact I.snoc ha' hvs
        rintro bl itsbl kbl own' immbl hsubbl ⟨rfl, Ibl⟩ s' S
        rw [List.take_of_length_le (by rw [IA.length]; exact Nat.le_refl _)] at Ibl
        have R := R.mono (imm' := immbl) (fun p hp => hsubbl _ (List.mem_append_right _ (.tail _ hp)))
        refine wpAny_execs_cons (Assign_ListComp_ (g := g) (b := s) (L := L) (by rfl) (by rfl) ?_ P.hh)
        refine Call_Name rfl (e_glob G S (gn_after w) (callWith_K G.K (kp_after w) ?_))
        refine spliced_more (e_loc S (put_ne (put_ne M.st (by decide)) (by decide)) ?_)
        refine spliced_more (Tuple_ ?_)
        refine spliced_more (e_loc S (put_ne (put_ne mi (by decide)) (by decide)) ?_)
        refine spliced_more (e_loc S (put_ne (put_ne mj (by decide)) (by decide)) ?_)
        refine spliced_more (e_loc S (put_ne put_eq (by decide)) ?_)
        refine spliced_none (n_tup S fun r1 s₂ S => ?_)
        refine spliced_more (Constant_str (spliced_none ⟨fun a o e => S.gk (G.K _ _ e), ?_⟩))
        refine c_after G st r1 n0 svs [.int i ti, .int j tj, .int k tk'] ss [(i : Int), (j : Int), (k : Int)] cGt _ hss (.cons _ _ (.cons _ _ (.cons _ _ .nil))) l3 rfl hbb _ _ _ _ (P.le (by lia) (by lia)) S.ok S.gsz ⟨n1, n2, (S.neI (.head _)).1, (S.neI (.head _)).2, S.old es n1 n2, S.geti (.head _)⟩ ?_
        refine fun _ s₃ e₃ O₃ X₃ h1 => ex4 h1 fun r items nn immA h2 => an5 h2 fun e er hr himA IA => ?_
        clear h1 h2
        subst e
        have S := S.adopt (nw := (r, lst items nn) :: immA) e₃ X₃ O₃ (fun p hp => by rcases List.mem_cons.mp hp with rfl | hp; exact ⟨er, hr⟩; exact himA p hp)
        refine wpAny_pyIter_list (isList_lst er) ?_
        have S := S.of (tk := s₃.toks) (S.sh.push { cls := .type "list_iterator", data := .fields #[.ref r, .int 0 0] })
        refine CompGo.mk (fun q its own₁ imm₁ => own₁ = [] ∧ Items imm₁ its (((aftTo ss [(i : Int), (j : Int), (k : Int)] cGt 3).take q).filter (okR t''))) (lstIter w _ r items nn) ⟨rfl, rfl⟩ S ?_ ⟨rfl, .nil⟩ ?_ ?_ ?_
        · exact fun C s' m' own' imm' S' hsub => S'.geti (hsub _ (.head _))
        · rintro q its own₁ imm₁ ⟨_, I⟩
          have l1 := I.length
          have l2 := aft_len (ss := ss) (cs := [(i : Int), (j : Int), (k : Int)]) (sg := cGt) (fun p hp => (hbb p hp).2.2)
          have l4 := List.length_filter_le (okR t'') ((aftTo ss [(i : Int), (j : Int), (k : Int)] cGt 3).take q)
          rw [List.length_take] at l4
          lia
        · intro q C acc its kk own₁ imm₁ mC s₁ v oI oL hq hsub hJ hv S
          refine cut fun QT hQT => ?_
          obtain ⟨rfl, I⟩ := hJ
          refine ex3 (IA.get hv) fun a vs c h1 => an4 h1 fun e ha hvs hc => ?_
          clear h1
          subst e
          obtain ⟨pq, hpq⟩ := T.known hj hk (List.mem_of_getElem? hc)
          have Rm := R.mono (imm' := imm₁) (fun p hp => hsub _ (List.mem_append_right _ (.tail _ hp)))
          obtain ⟨ka, va, hat, hva⟩ := Rm.get hpq
          have ha' : (a, tup vs) ∈ imm₁ := hsub _ (List.mem_append_left _ (.tail _ ha))
          refine wpAny_tests_one (isTrue_not (isTrue_plain (Subscript_ (Subscript_ (e_cell S (c := L + 1) (o := oc) (by first | exact m0 | exact m1 | exact m2 | exact m3 | exact m4 | exact m5 | exact m6 | simp) dc (e_loc S put_eq ?_))))))
          have DH := dictH (w := w) (S.get (a := d) (o := o) (by first | exact m0 | exact m1 | exact m2 | exact m3 | exact m4 | exact m5 | exact m6 | simp)) W Rm S.gets
          refine tail_any (ops := [.ref d, .ref a]) DH.typeIs slot_dict_getitem.lookup (wpAny_getItem_heap (tupleKind_room_in1 (by have := P.un; lia)) (isKey (S.geti ha') hvs) DH hat ?_) (by with_unfolding_all rfl)
          refine wpAny_Constant_int (item_tupleT (l := [.bool pq.1, .bool pq.2]) (j := 0) (isTup_tup (S.geti hva)) (by lia) (by lia) (by rfl) (by rfl) (wpAny_truthy_bool ?_))
          have hok : okR t'' c = !pq.1 := by unfold okR; rw [hpq]; rfl
          refine hQT _ _ ?_
          cases hb2 : pq.1 with
          | true =>
            refine ifneg (by simp) ?_
            refine ⟨[], imm₁, _, S, hsub, rfl, ?_⟩
            rw [filter_take_succ _ _ _ _ hc, hok, hb2, if_neg (by simp), List.append_nil]; exact I
          | false =>
            refine ifpos (by simp) ?_
            refine e_loc S put_eq ⟨[], imm₁, _, S, hsub, rfl, ?_⟩
            rw [filter_take_succ _ _ _ _ hc, hok, hb2, if_pos (by simp)]; exact I.snoc ha' hvs
        rintro br itsbr kbr own' immbr hsubbr ⟨rfl, Ibr⟩ s' S
        rw [List.take_of_length_le (by rw [IA.length]; exact Nat.le_refl _)] at Ibr
        have R := R.mono (imm' := immbr) (fun p hp => hsubbr _ (List.mem_append_right _ (.tail _ hp)))
        have Ibl := Ibl.mono (imm' := immbr) (fun p hp => hsubbr _ (List.mem_append_right _ (.tail _ hp)))
        have sb : ∀ p ∈ imm3, p ∈ immbr := fun p hp => by
          have h1 : p ∈ immbl := hsubbl _ (List.mem_append_right _ (.tail _ hp))
          exact hsubbr _ (List.mem_append_right _ (.tail _ h1))
        refine wpAny_execs_cons (wpAny_Assign_Subscript (Tuple_ (spliced_more (wpAny_Compare1 (e_loc S (put_ne put_eq (by decide)) (List_ (spliced_none (n_list S fun e1 s₄ S => ?_))))))))
        refine ne_dataH (reads_list_at (S.get (a := bl) (o := lst itsbl kbl) (by first | exact m0 | exact m1 | exact m2 | exact m3 | exact m4 | exact m5 | exact m6 | simp)) rfl rfl (by simpa using Ibl.reads S.gets)) (reads_list_at (S.get (a := e1) (o := lst [] 0) (by first | exact m0 | exact m1 | exact m2 | exact m3 | exact m4 | exact m5 | exact m6 | simp)) rfl rfl .nil) (shaped_mv _) (shaped_mv []) (by have := P.un; lia) ?_
        rw [eqv_mv]
        refine spliced_more (wpAny_Compare1 (e_loc S put_eq (List_ (spliced_none (n_list S fun e2 s₅ S => ?_)))))
        refine ne_dataH (reads_list_at (S.get (a := br) (o := lst itsbr kbr) (by first | exact m0 | exact m1 | exact m2 | exact m3 | exact m4 | exact m5 | exact m6 | simp)) rfl rfl (by simpa using Ibr.reads S.gets)) (reads_list_at (S.get (a := e2) (o := lst [] 0) (by first | exact m0 | exact m1 | exact m2 | exact m3 | exact m4 | exact m5 | exact m6 | simp)) rfl rfl .nil) (shaped_mv _) (shaped_mv []) (by have := P.un; lia) ?_
        rw [eqv_mv]
        refine spliced_none (n_tup S fun va s₆ S => ?_)
        refine e_cell S (c := L + 1) (o := oc) (by first | exact m0 | exact m1 | exact m2 | exact m3 | exact m4 | exact m5 | exact m6 | simp) dc ?_
        refine Tuple_ (spliced_more (e_loc S (put_ne (put_ne (put_ne mi (by decide)) (by decide)) (by decide)) ?_))
        refine spliced_more (e_loc S (put_ne (put_ne (put_ne mj (by decide)) (by decide)) (by decide)) ?_)
        refine spliced_more (e_loc S (put_ne (put_ne put_eq (by decide)) (by decide)) ?_)
        refine spliced_none (n_tup S fun ka s₇ S => ?_)
        have S := S.drop (own' := (L + 1, oc) :: (d, o) :: (it3, o3) :: _) (((((List.Sublist.refl _).cons _).cons _).cons _).cons _)
        have DH := dictH (w := w) (S.get (a := d) (o := o) (by first | exact m0 | exact m1 | exact m2 | exact m3 | exact m4 | exact m5 | exact m6 | simp)) W (R.mono (imm' := _ :: _ :: immbr) fun p hp => .tail _ (.tail _ hp)) S.gets
        refine wpAny_setItem_heap (tupleKind_room_in1 (by have := P.un; lia)) (isKey (S.geti (.head _)) (.cons _ _ (.cons _ _ (.cons _ _ .nil)))) DH (fun h' D' hs => ?_) (by rw [sizeLine_eq]; lia)
        rw [storedH_new (R.none T.fresh)] at D'
        obtain ⟨o', es', ep', eo', ex', da', he', his', nd'⟩ := D'
        have S := S.of (tk := s₇.toks + (TK w).draws [(i : Int), (j : Int), (k : Int)]) (S.sh.upd (l₁ := [(L + 1, oc)]) hs.extBut eo' W.nc)
        refine wpAny_execs_nil (hQ3 _ _ ⟨_, [(L + 1, oc), (d, o')], _, S, fun p q => .tail _ (.tail _ (sb _ (hsub3 _ q))), ?_, ?_, ?_, o', _, rfl, ⟨ex', ⟨es', ep', da', he'⟩, nd'⟩, ?_, ?_, ?_⟩)
        · exact ((M.put (by decide)).put (by decide)).put (by decide)
        · exact put_ne (put_ne (put_ne mi (by decide)) (by decide)) (by decide)
        · exact put_ne (put_ne (put_ne mj (by decide)) (by decide)) (by decide)
        · show WRel _ _ (stepW ss (winK ss i j t' k) _)
          rw [htk]
          unfold stepW
          simp only [ne_eq, decide_not]
          exact (R.mono fun p hp => .tail _ (.tail _ hp)).snoc (.head _) (.cons _ _ (.cons _ _ (.cons _ _ .nil))) (.tail _ (.head _))
        · show TI _ _ i j (k + 1) (stepW ss (winK ss i j t' k) _)
          rw [htk]
          exact T.step hj hk _
        · rw [List.length_append, List.length_singleton]; lia
      · refine fun s' m' own' imm' S hsub3 h0 => an4 h0 fun M mi mj h1 => ex2 h1 fun o xs h2 => an5 h2 fun e W R T hx => ?_
        clear h0 h1 h2
        subst e
        refine wpAny_execs_nil (hQ2 _ _ ⟨_, _, _, S, fun p q => hsub3 _ (hsub2 _ q), M, mi, o, xs, rfl, W, ?_, ?_, by lia⟩)
        · show WRel imm' xs (winK ss i j (winJ ss _ i t j) _)
          rw [htj]; exact R
        · show TI _ _ i (j + 1) 0 (winK ss i j (winJ ss _ i t j) _)
          rw [htj]; exact T.nextJ
    · refine fun s' m' own' imm' S hsub2 h0 => an3 h0 fun M mi h1 => ex2 h1 fun o xs h2 => an5 h2 fun e W R T hx => ?_
      clear h0 h1 h2
      subst e
      refine wpAny_execs_nil (hQ1 _ _ ⟨_, _, _, S, fun p q => hsub2 _ (hsub1 _ q), M, o, xs, rfl, W, ?_, ?_, by lia⟩)
      · show WRel imm' xs (winJ ss _ i (winI ss _ _ i) _)
        rw [hti]; exact R
      · show TI _ _ (i + 1) 0 0 (winJ ss _ i (winI ss _ _ i) _)
        rw [hti]; exact T.nextI
  · refine fun s' m' own' imm' S hsub1 h0 => an2 h0 fun M h1 => ex2 h1 fun o xs h2 => an5 h2 fun e W R T hx => ?_
    clear h0 h1 h2
    subst e
    refine wpAny_execs_cons (wpAny_Return_some (e_cell S (c := L + 1) (o := oc) (by first | exact m0 | exact m1 | exact m2 | exact m3 | exact m4 | exact m5 | exact m6 | simp) dc ?_))
    refine hQ _ _ S.same S.ok S.ext ⟨d, o, xs, imm', rfl, hd1, S.get (by first | exact m0 | exact m1 | exact m2 | exact m3 | exact m4 | exact m5 | exact m6 | simp), S.geO (o := o) (by first | exact m0 | exact m1 | exact m2 | exact m3 | exact m4 | exact m5 | exact m6 | simp), S.geI, W, R⟩
end
end Mine
end

section
set_option compiler.extract_closed false
namespace Mine
open PySem PySem.W PyProof.Rows PySem.Calls

theorem triples_one {l : List Value} (h : TriplesOk l) {q : PySem.Str} {t : Tok} (hv : l[1]? = some (.str q t)) : False := by
  match l, h, hv with
  | .int _ _ :: .int _ _ :: _ :: _, _, hv => simp at hv
theorem codeAmong_lc (l c a b a' b' : Nat) : ∀ xs : List Value, codeAmong ⟨l, c, a, b⟩ xs = codeAmong ⟨l, c, a', b'⟩ xs := by
  intro xs
  fun_induction codeAmong ⟨l, c, a, b⟩ xs with
  | case1 line t col t' cc rest h => simp only [codeAmong]; rw [if_pos h]
  | case2 line t col t' cc rest h ih => simp only [codeAmong]; rw [if_neg h]; exact ih
  | case3 xs h =>
    unfold codeAmong
    split
    · exact absurd rfl (h _ _ _ _ _ _)
    · rfl
theorem TabOk.ne {P l c : Nat} {q : PySem.Str} {h : Heap} (T : TabOk P l c q h) {a : Addr} {o : Obj} {vs : Array Value} {q' : PySem.Str} {t : Tok} (e : h.get? a = some o) (d : o.data = .fields vs) (hv : vs[1]? = some (.str q' t)) : a ≠ P := by
  rintro rfl
  obtain ⟨ps, e', tr, _⟩ := T
  have : o = tabObj ps := Option.some.inj (e.symm.trans e')
  subst this
  have d' : ps = vs := by cases d; rfl
  subst d'
  exact triples_one tr (by rw [← hv]; simp)
theorem codeRec_ext {g h h' : Heap} (O : Ok g h) {cv : Value} {q : PySem.Str} (C : h.CodeRec cv q) (x : Ext h h') : h'.CodeRec cv q := by
  obtain ⟨c, o, vs, t, e, ho, hd, hv⟩ := C
  exact ⟨c, o, vs, t, e, x c o (O.t1.ne ho hd hv) (O.t2.ne ho hd hv) ho, hd, hv⟩

abbrev fnObj (name q : PySem.Str) (params : Arguments) (body : List Stmt) (scope : Scope) (clos : List (PySem.Str × Addr)) (doc pm cv ctv : Value) : Obj :=
  { cls := .type "function", data := .func (fnX name q params body scope clos .none .none doc pm none cv ctv) }

theorem Sh.tab {g b h h' : Heap} {L : Addr} {m : Loc} {own imm : Led} (S : Sh g b L h m own imm) {P : Addr} (hP : P = 47 ∨ P = 54) (x : Heap.ExtBut P h h') (o : Ok g h') : Sh g b L h' m own imm :=
  S.grow (fun a o' h1 h2 e => x a o' (by rcases hP with rfl | rfl; exact h1; exact h2) e) o

section
variable {w : World} {g : Heap} {b : Shared} {L : Addr} {m : Loc} {own imm : Led} {A : Around} {E : Value → Shared → Prop} {s : Shared} {env : Env} {pos : Pos}
/-- a def within a def: its code is laid into the table P of the code c, or found there -/
theorem x_make {name q : PySem.Str} {params : Arguments} {body : List Stmt} {scope : Scope} {clos : List (PySem.Str × Addr)} {c P : Addr} {firstLine : Nat} {Q : Value → Shared → Prop} (G : Gl w g) (S : St g b L s m own imm)
    (hcl : closureFor scope env = pure clos) (hcode : env.code = .ref c) (C : CodeHd g c P) (hP : P = 47 ∨ P = 54) (hT : ∀ h : Heap, Ok g h → TabOk P pos.line pos.col q h)
    (hO : ∀ h h' : Heap, Ok g h → (∀ a o, a ≠ P → h.get? a = some o → h'.get? a = some o) → TabOk P pos.line pos.col q h' → Ok g h')
    (h : ∀ fa doc pm cv ctv s', St g b L s' m own ((fa, fnObj name q params body scope clos doc pm cv ctv) :: imm) → s'.heap.CodeRec cv q → Q (.ref fa) s')
    (hge0 : env.globals = mainGlobals := by rfl) :
    wpAny (model P0 w) A (makeFunction name q params (.stmts body) scope env [] [] [] pos firstLine) Q E s := by
  obtain ⟨p, loose, mean, mg, mb, T⟩ := G.top
  obtain ⟨bm, ob, b1, b2, b3, b4, b5, b6⟩ := T.bmain
  have hgP : mainGlobals ≠ P := by
    obtain ⟨o, es, ep, e, _⟩ := T.g
    rcases hP with rfl | rfl
    · exact G.ne1 e
    · exact G.ne2 e
  have hbP : bm ≠ P := by
    rcases hP with rfl | rfl
    · exact G.ne1 b3
    · exact G.ne2 b3
  have hbG : bm ≠ mainGlobals := fun q => by
    obtain ⟨o, es, ep, e, hd, _⟩ := T.g
    rw [q, e] at b3; cases b3; rw [hd] at b6; cases b6
  have BA : s.heap.BuiltinsAt mg P := ⟨bm, ob, b1, b2, hbG, hbP, S.gk b3, b4, b5, b6⟩
  have O := S.ok
  obtain ⟨ps, eP, tr, hit⟩ := hT _ O
  rcases hit pos.endLine pos.endCol with hnf | ⟨cv, hf, hrec⟩
  · refine makeFunction_K (mg := mg) hcl hge0 (T.g.keeps O.keep) hcode (C.keeps O.keep) eP tr hnf hgP BA fun c' ctv doc h' tk hx hge hlt hrec htb => ?_
    have tr' : TriplesOk (ps ++ #[rawInt pos.line, rawInt pos.col, .ref c']).toList := by
      rw [Array.toList_append]
      exact TriplesOk_snoc _ _ _ _ tr
    have O' : Ok g h' := hO _ _ O (fun a o ha e => hx a o ha e) ⟨_, htb, tr', fun el ec => .inr ⟨.ref c', by
      rw [Array.toList_append]; exact codeAmong_snoc (pos := ⟨pos.line, pos.col, el, ec⟩) _ tr (by rw [← hnf]; exact codeAmong_lc _ _ _ _ _ _ _), hrec⟩⟩
    have S' := (S.sh.tab hP hx O').pushI (fnObj name q params body scope clos doc ((mg "__name__").getD .none) (.ref c') ctv)
    exact h _ doc _ (.ref c') ctv _ (S.of S') (hrec.push _)
  · refine makeFunction_hit (mg := mg) hcl hge0 (T.g.keeps O.keep) hcode (C.keeps O.keep) eP tr hf BA fun ctv doc h' tk hk hsz => ?_
    have S' := (S.sh.keeps hk).pushI (fnObj name q params body scope clos doc ((mg "__name__").getD .none) cv ctv)
    exact h _ doc _ cv ctv _ (S.of S') ((hrec.keeps hk).push _)
end
end Mine
end

section
set_option compiler.extract_closed false
namespace Mine
open PySem PySem.W PyProof.Rows PySem.Calls

theorem enterF {w : World} {g : Heap} {f : Addr} {o : Obj} {name qual : PySem.Str} {params : Arguments} {body : List Stmt} {scope : Scope} {cl : List (PySem.Str × Addr)} {pm cd doc ctv : Value} {args : List Value} {binds : List (PySem.Str × Value)} {d u : Nat}
    {A : Around} {s : Shared} {Q E : Value → Shared → Prop}
    (G : Gl w g) (ho : s.heap.get? f = some o) (hd : o.data = .func (fnX name qual params body scope cl .none .none doc pm none cd ctv)) (hcd : s.heap.CodeRec cd qual)
    (hbind : bindArgs (fnX name qual params body scope cl .none .none doc pm none cd ctv) ⟨args, []⟩ = pure binds) (hloc : (binds.all fun x => decide (scope.names.lookup x.1 = some .local)) = true)
    (P : Pre A (d + 1) (u + 3)) (O : Ok g s.heap) (sz : g.objs.size ≤ s.heap.objs.size)
    (h : ∀ L s₁ A', Pre A' d u → St g s L s₁ (fun x => binds.reverse.lookup x) [] [] →
      wpAny (model P0 w) A' (execs body (envX qual scope L f cd cl))
        (fun fl s' => Q (match fl with | .ret v => v | _ => .none) s') (fun _ _ => False) s₁)
    (hco : scope.isCoroutine = false := by rfl) (hgen : scope.isGenerator = false := by rfl) (hki : scope.kind = .function := by rfl)
    (hcell : ∀ x ∈ scope.names, x.2 ≠ .cell := by decide) :
    wpAny (model P0 w) A (call (.ref f) args) Q E s := by
  obtain ⟨p, loose, mean, mg, mb, T⟩ := G.top
  refine wpAny_call (codeAny_call_def (fd := fnX name qual params body scope cl .none .none doc pm none cd ctv) (by have := P.dp; lia) ho hd (T.nolimit.keeps O.keep) hcd rfl (BindsTo.of_eq hbind) hcell (locs hloc) (fun h₁ hns k => ?_) hco hgen hki)
  refine wpAny_mono (h _ _ _ P.deeper ⟨⟨hns, fun a o _ _ e => k a o e, (fun p hp => nomatch hp), List.nodup_nil, Nat.le_refl _, Nat.lt_of_lt_of_le G.big sz, sz, ⟨fun a o e => k a o (O.keep a o e), O.t1.mono k, O.t2.mono k⟩, fun a o e => ⟨G.ne1 e, G.ne2 e, O.keep a o e⟩, (fun p hp => nomatch hp)⟩, rfl, rfl, rfl⟩) (fun _ _ q => q) fun _ _ e => e.elim

noncomputable def d2i (n : Nat) : List Int → Int
  | [] => 0
  | d :: r => d + 2 ^ n * d2i n r
theorem d2i_append (n : Nat) (xs ys : List Int) : d2i n (xs ++ ys) = d2i n xs + 2 ^ (n * xs.length) * d2i n ys := by
  induction xs with
  | nil => simp [d2i]
  | cons d r ih =>
    simp only [List.cons_append, d2i, ih, List.length_cons]
    rw [Nat.mul_add, Nat.mul_one, Nat.add_comm (n * r.length) n, Int.pow_add, Int.mul_add, Int.mul_assoc, Int.add_assoc]
noncomputable def sl (ds : List Int) (l r : Nat) : List Int := (ds.drop l).take (r - l)
theorem sl_split (ds : List Int) {l k r : Nat} (h1 : l ≤ k) (h2 : k ≤ r) : sl ds l r = sl ds l k ++ sl ds k r := by
  unfold sl
  have : r - l = (k - l) + (r - k) := by lia
  rw [this, List.take_add, List.drop_drop]
  congr 3
  lia
theorem sl_len (ds : List Int) {l r : Nat} (h1 : l ≤ r) (h2 : r ≤ ds.length) : (sl ds l r).length = r - l := by
  unfold sl; rw [List.length_take, List.length_drop]; lia
theorem sl_one (ds : List Int) {l : Nat} (h : l < ds.length) : sl ds l (l + 1) = [ds.getD l 0] := by
  unfold sl
  have : l + 1 - l = 1 := by lia
  rw [this, List.take_one, List.head?_drop]
  simp [h]
theorem sl_all (ds : List Int) : sl ds 0 ds.length = ds := by unfold sl; simp

theorem gn_d2i (w : World) : nsIn (KH w) mainGlobals (Str.ofString "_digits2int") = some (some (.ref 59)) := by kernel_rfl
theorem kp_d2i (w : World) : keepIn (KH w) (.ref 59) = true := by kernel_rfl

theorem okT2 {g h : Heap} (O : Ok g h) : TabOk 54 103 4 q2 h := O.t2
theorem okT1 {g h : Heap} (O : Ok g h) : TabOk 47 88 4 q1 h := O.t1
theorem okBut2 {w : World} {g : Heap} (G : Gl w g) (h h' : Heap) (O : Ok g h) (k : ∀ a o, a ≠ 54 → h.get? a = some o → h'.get? a = some o) (T : TabOk 54 103 4 q2 h') : Ok g h' := by
  refine ⟨fun a o e => k a o (G.ne2 e) (O.keep a o e), ?_, T⟩
  obtain ⟨ps, e, tr, r⟩ := O.t1
  refine ⟨ps, k _ _ (by decide) e, tr, fun el ec => (r el ec).imp id ?_⟩
  rintro ⟨cv, a, c, o, vs, t, e1, e2, e3, e4⟩
  exact ⟨cv, a, c, o, vs, t, e1, k _ _ (O.t2.ne e2 e3 e4) e2, e3, e4⟩
theorem okBut1 {w : World} {g : Heap} (G : Gl w g) (h h' : Heap) (O : Ok g h) (k : ∀ a o, a ≠ 47 → h.get? a = some o → h'.get? a = some o) (T : TabOk 47 88 4 q1 h') : Ok g h' := by
  refine ⟨fun a o e => k a o (G.ne1 e) (O.keep a o e), T, ?_⟩
  obtain ⟨ps, e, tr, r⟩ := O.t2
  refine ⟨ps, k _ _ (by decide) e, tr, fun el ec => (r el ec).imp id ?_⟩
  rintro ⟨cv, a, c, o, vs, t, e1, e2, e3, e4⟩
  exact ⟨cv, a, c, o, vs, t, e1, k _ _ (O.t1.ne e2 e3 e4) e2, e3, e4⟩

section
variable {w : World} {g : Heap} {b : Shared} {L : Addr} {m : Loc} {own imm : Led} {A : Around} {E : Value → Shared → Prop} {s : Shared} {env : Env} {x : PySem.Str} {pos : Pos} {v : Value} {c : Addr}
theorem st_cellR {l₁ l₂ : Led} {o : Obj} {v₀ : Option Value} {Q : Unit → Shared → Prop} (S : St g b L s m (l₁ ++ (c, o) :: l₂) imm) (hv : o.data = .cell v₀)
    (h : ∀ o' s', o'.data = .cell (some v) → (∀ cv q, s.heap.CodeRec cv q → s'.heap.CodeRec cv q) → St g b L s' m (l₁ ++ (c, o') :: l₂) imm → Q () s')
    (hc : env.cells.lookup x = some c := by rfl) (hk : env.scope.kind = .function := by rfl) (hl : env.kindOf x = some .cell := by rfl) :
    wpAny (model P0 w) A (storeName env x v) Q E s :=
  wpAny_storeName_cell hk hl hc ⟨o, S.get (by first | exact m0 | exact m1 | exact m2 | exact m3 | exact m4 | exact m5 | exact m6 | simp), hv⟩ fun h' ⟨o', e', d'⟩ hs => h o' _ d' (fun cv q C => C.keepsBut hs.extBut (S.get (a := c) (o := o) (by first | exact m0 | exact m1 | exact m2 | exact m3 | exact m4 | exact m5 | exact m6 | simp)) (fun vs e => by rw [hv] at e; cases e)) (S.of (S.sh.upd hs.extBut e' (cell_nc hv)))
end
theorem mulOk {a b : Int} (h1 : -(2 ^ 64) < a) (h2 : a < 2 ^ 64) : IntMulOk a b := .of_left (intBits_le_64 h1 h2)
section
variable {w : World} {g : Heap}
set_option maxHeartbeats 1000000
theorem c_d2i (G : Gl w g) (dl : Addr) (k0 nn : Nat) (t : Tok) (dvs : List Value) (ds : List Int) (hds : IntsAre dvs ds) (hlen : ds.length ≤ 20) (hn : nn ≤ 10) (hbd : ∀ l r, (d2i nn (sl ds l r)).natAbs < 2 ^ 60) :
    Con w g 59 [.ref dl, .int nn t] 25 300 (fun h => dl ≠ 47 ∧ dl ≠ 54 ∧ h.get? dl = some (lst dvs k0)) (fun _ v _ => ∃ t', v = .int (d2i nn ds) t') := by
  intro A s Q E P O sz ⟨n1, n2, ed⟩ hQ
  refine enterC (d := 24) (u := 297) (binds := [(Str.ofString "digits", .ref dl), (Str.ofString "n", .int nn t)]) G (by rfl) (by rfl) (by kernel_rfl) (by rfl) (by rfl) P O sz fun L s₁ A eL P S hcell => ?_
  obtain ⟨oD, eD, dD⟩ := hcell (Str.ofString "digits") (L + 1) rfl
  obtain ⟨oN, eN, dN⟩ := hcell (Str.ofString "n") (L + 2) rfl
  obtain ⟨oI, eI, dI⟩ := hcell (Str.ofString "inner") (L + 3) rfl
  have dD : oD.data = .cell (some (.ref dl)) := dD
  have dN : oN.data = .cell (some (.int nn t)) := dN
  have S : St g s L s₁ _ [(L + 1, oD)] [] := ⟨S.sh.addOwn eD (Nat.ne_of_gt (by lia)) (Fr0.of (Nat.le_trans S.sh.le (by lia)) S.sh.big) (by simp) (by simp), S.same⟩
  have S : St g s L s₁ _ [(L + 2, oN), (L + 1, oD)] [] := ⟨S.sh.addOwn eN (Nat.ne_of_gt (by lia)) (Fr0.of (Nat.le_trans S.sh.le (by lia)) S.sh.big) (by simp) (by simp), S.same⟩
  have S : St g s L s₁ _ [(L + 3, oI), (L + 2, oN), (L + 1, oD)] [] := ⟨S.sh.addOwn eI (Nat.ne_of_gt (by lia)) (Fr0.of (Nat.le_trans S.sh.le (by lia)) S.sh.big) (by simp) (by simp), S.same⟩
  clear hcell eD eN eI
  refine wpAny_execs_cons (nestDef_K rfl rfl rfl ?_)
  refine x_make (q := q2) (P := 54) G S (by rfl) rfl G.c2 (.inr rfl) (fun h O => O.t2) (fun h h' O k T => okBut2 G h h' O k T) fun fa doc pm cv ctv s₂ S C => ?_
  refine st_cellR (l₁ := []) S dI fun oI s₂ dI hC S => ?_
  have C := hC _ _ C
  clear hC
  have eF := S.geti (.head _)
  have nF := S.neI (.head _)
  have eN := S.get (a := L + 2) (o := oN) (by first | exact m0 | exact m1 | exact m2 | exact m3 | exact m4 | exact m5 | exact m6 | simp)
  have eD := S.get (a := L + 1) (o := oD) (by first | exact m0 | exact m1 | exact m2 | exact m3 | exact m4 | exact m5 | exact m6 | simp)
  have eI := S.get (a := L + 3) (o := oI) (by first | exact m0 | exact m1 | exact m2 | exact m3 | exact m4 | exact m5 | exact m6 | simp)
  have nN := S.neO (a := L + 2) (o := oN) (by first | exact m0 | exact m1 | exact m2 | exact m3 | exact m4 | exact m5 | exact m6 | simp)
  have nD := S.neO (a := L + 1) (o := oD) (by first | exact m0 | exact m1 | exact m2 | exact m3 | exact m4 | exact m5 | exact m6 | simp)
  have nI := S.neO (a := L + 3) (o := oI) (by first | exact m0 | exact m1 | exact m2 | exact m3 | exact m4 | exact m5 | exact m6 | simp)
  have ed2 := S.old ed n1 n2
  have O2 := S.ok
  have inner : ∀ n, ∀ (l r : Nat) (t1 t2 : Tok) (A' : Around) (s' : Shared) (Q' E' : Value → Shared → Prop), r - l = n → l < r → r ≤ ds.length → Pre A' (n + 1) (4 * n + 50) → Ext s₂.heap s'.heap → Ok g s'.heap → g.objs.size ≤ s'.heap.objs.size →
      (∀ v s'', Same s' s'' → Ok g s''.heap → Ext s'.heap s''.heap → (∃ t', v = .int (d2i nn (sl ds l r)) t') → Q' v s'') → wpAny (model P0 w) A' (call (.ref fa) [.int l t1, .int r t2]) Q' E' s' := by
    intro n
    induction n using Nat.strongRecOn with
    | ind n ih =>
      intro l r t1 t2 A' s' Q' E' hlr h1 h2 P' X O' sz' hQ'
      refine enterF (d := n) (u := 4 * n + 47) (binds := [(Str.ofString "L", .int l t1), (Str.ofString "R", .int r t2)]) G (X _ _ nF.1 nF.2 eF) rfl (codeRec_ext O2 C X) (by rfl) (by rfl) P' O' sz' fun L' s₃ A'' P'' S => ?_
      refine wpAny_execs_cons (wpAny_If (wpAny_isTrue_Compare1 (wpAny_BinOp (e_loc S (by rfl) (wpAny_Constant_int (add_int (e_loc S (by rfl) (eq_int (wpAny_truthy_bool ?_)))))))))
      by_cases hone : l + 1 = r
      · refine ifpos (by rw [beq_iff_eq]; lia) ?_
        subst hone
        obtain ⟨td, hget⟩ := intsAre_get hds l (by lia)
        refine wpAny_execs_cons (wpAny_Return_some (Subscript_ (e_freeI (S.old (X _ _ nD.1 nD.2 eD) nD.1 nD.2) dD (e_loc S (by rfl) ?_))))
        refine item_listL (l := dvs) (isList_lst (S.old (X _ _ n1 n2 ed2) n1 n2)) (by lia) (by lia) (by rw [Int.toNat_natCast]; exact hget) ?_
        refine hQ' _ _ S.same S.ok S.ext ⟨td, ?_⟩
        rw [sl_one ds (by lia)]
        simp [d2i]
      · refine ifneg (by rw [beq_iff_eq]; lia) ?_
        refine wpAny_execs_nil ?_
        refine wpAny_execs_cons (wpAny_Assign_Name (wpAny_BinOp (wpAny_BinOp (e_loc S (by rfl) (e_loc S (by rfl) (add_int (wpAny_Constant_int (rshift_int (by lia) (st_loc S fun s₄ S => ?_)))))))))
        obtain ⟨k, hk⟩ : ∃ k : Nat, ((l : Int) + (r : Int)).fdiv (2 ^ (1 : Int).toNat) = (k : Int) := ⟨(l + r) / 2, by
          rw [show (2 : Int) ^ (1 : Int).toNat = ((2 : Nat) : Int) from rfl, ← Int.natCast_add, Int.fdiv_eq_ediv_of_nonneg _ (by lia)]; rfl⟩
        have hk1 : k = (l + r) / 2 := by
          have e : ((l : Int) + (r : Int)).fdiv (2 ^ (1 : Int).toNat) = (((l + r) / 2 : Nat) : Int) := by
            rw [show (2 : Int) ^ (1 : Int).toNat = ((2 : Nat) : Int) from rfl, ← Int.natCast_add, Int.fdiv_eq_ediv_of_nonneg _ (by lia)]; rfl
          lia
        rw [hk] at S
        refine wpAny_execs_cons (wpAny_Assign_Name (wpAny_BinOp (wpAny_BinOp (e_loc S put_eq (e_loc S (by rfl) (sub_int (e_freeI (S.old (X _ _ nN.1 nN.2 eN) nN.1 nN.2) dN ?_)))))))
        refine mul_int (st_loc S fun s₅ S => ?_) (mulOk (by lia) (by lia))
        refine wpAny_execs_cons (wpAny_Return_some (wpAny_BinOp (wpAny_BinOp ?_)))
        refine Call_Name rfl (e_freeI (S.old (X _ _ nI.1 nI.2 eI) nI.1 nI.2) dI (callWith_F ⟨_, _, _, _, S.old (X _ _ nF.1 nF.2 eF) nF.1 nF.2⟩ (spliced_more (e_loc S (put_ne put_eq (by decide)) (spliced_more (e_loc S (by rfl) (spliced_none ⟨⟨_, _, _, _, S.old (X _ _ nF.1 nF.2 eF) nF.1 nF.2⟩, ?_⟩)))))))
        refine ih (r - k) (by lia) k r _ _ _ _ _ _ rfl (by lia) h2 (P''.le (by lia) (by lia)) (X.trans S.ext) S.ok S.gsz ?_
        rintro _ s₆ e₆ O₆ X₆ ⟨t6, rfl⟩
        have S := S.grow e₆ X₆ O₆
        refine e_loc S put_eq ?_
        refine lshift_int_small (by have : (0:Int) ≤ ((k : Int) - l) * nn := Int.mul_nonneg (by lia) (by lia); exact this) ?_ (Nat.lt_trans (hbd k r) (by decide)) ?_
        · have h3 : ((k : Int) - l) * nn ≤ 20 * 10 := Int.mul_le_mul (by lia) (by lia) (by lia) (by lia)
          lia
        refine Call_Name rfl (e_freeI (S.old (X _ _ nI.1 nI.2 eI) nI.1 nI.2) dI (callWith_F ⟨_, _, _, _, S.old (X _ _ nF.1 nF.2 eF) nF.1 nF.2⟩ (spliced_more (e_loc S (by rfl) (spliced_more (e_loc S (put_ne put_eq (by decide)) (spliced_none ⟨⟨_, _, _, _, S.old (X _ _ nF.1 nF.2 eF) nF.1 nF.2⟩, ?_⟩)))))))
        refine ih (k - l) (by lia) l k _ _ _ _ _ _ rfl (by lia) (by lia) (P''.le (by lia) (by lia)) (X.trans S.ext) S.ok S.gsz ?_
        rintro _ s₇ e₇ O₇ X₇ ⟨t7, rfl⟩
        have S := S.grow e₇ X₇ O₇
        have e3 : (((k : Int) - l) * nn).toNat = nn * (k - l) := by
          have : ((k : Int) - l) * nn = ((nn * (k - l) : Nat) : Int) := by
            rw [Int.natCast_mul, Int.natCast_sub (by lia), Int.mul_comm]
          rw [this, Int.toNat_natCast]
        have e4 : d2i nn (sl ds k r) * 2 ^ (((k : Int) - l) * nn).toNat + d2i nn (sl ds l k) = d2i nn (sl ds l r) := by
          rw [sl_split ds (show l ≤ k by lia) (show k ≤ r by lia), d2i_append, sl_len ds (by lia) (by lia), e3, Int.mul_comm, Int.add_comm]
        refine add_int ?_
        rw [e4]
        exact hQ' _ _ S.same S.ok S.ext ⟨_, rfl⟩
  refine wpAny_execs_cons (wpAny_Return_some (IfExp_ (isTrue_plain (e_cell S (c := L + 1) (o := oD) (by first | exact m0 | exact m1 | exact m2 | exact m3 | exact m4 | exact m5 | exact m6 | simp) dD ?_))))
  have hdl : dvs.length = ds.length := hds.length
  refine wpAny_truthy_list (isList_lst (S.old ed n1 n2)) (by rw [List.size_toArray]; lia) ?_
  by_cases hz : ds = []
  · have hz' : dvs = [] := List.eq_nil_of_length_eq_zero (by rw [hdl, hz]; rfl)
    subst hz hz'
    refine ifneg (by simp) ?_
    exact wpAny_Constant_int (hQ _ _ S.same S.ok S.ext ⟨_, rfl⟩)
  · have hz' : dvs ≠ [] := fun e => hz (List.eq_nil_of_length_eq_zero (by rw [← hdl, e]; rfl))
    have hpos : 0 < ds.length := List.length_pos_iff.mpr hz
    refine ifpos (by simpa using hz') ?_
    refine Call_Name rfl (e_cell S (c := L + 3) (o := oI) (by first | exact m0 | exact m1 | exact m2 | exact m3 | exact m4 | exact m5 | exact m6 | simp) dI (callWith_F ⟨_, _, _, _, eF⟩ (spliced_more (wpAny_Constant_int (spliced_more (Call_Name rfl (e_bi G S (gn_len w) boot_len (callWith_method1 (spliced_more (e_cell S (c := L + 1) (o := oD) (by first | exact m0 | exact m1 | exact m2 | exact m3 | exact m4 | exact m5 | exact m6 | simp) dD (spliced_none ?_)))))))))))
    refine len_list (isList_lst (S.old ed n1 n2)) (by rw [List.size_toArray]; lia) (spliced_none ⟨⟨_, _, _, _, eF⟩, ?_⟩)
    rw [List.size_toArray, hdl]
    refine inner ds.length 0 ds.length _ _ _ _ _ _ rfl hpos (Nat.le_refl _) (P.le (by lia) (by lia)) (Ext.refl _) S.ok S.gsz ?_
    rintro _ s₆ e₆ O₆ X₆ ⟨t6, rfl⟩
    rw [sl_all]
    have S := S.grow (s' := s₆) e₆ X₆ O₆
    exact hQ _ _ S.same S.ok S.ext ⟨_, rfl⟩
end
end Mine
end

section
set_option compiler.extract_closed false
namespace Mine
open PySem PySem.W PyProof.Rows PySem.Calls

/-- an entry with one object lent: it may change -/
theorem enterFL {w : World} {g : Heap} {f dl : Addr} {o ol : Obj} {name qual : PySem.Str} {params : Arguments} {body : List Stmt} {scope : Scope} {cl : List (PySem.Str × Addr)} {pm cd doc ctv : Value} {args : List Value} {binds : List (PySem.Str × Value)} {d u : Nat}
    {A : Around} {s : Shared} {Q E : Value → Shared → Prop}
    (G : Gl w g) (ho : s.heap.get? f = some o) (hd : o.data = .func (fnX name qual params body scope cl .none .none doc pm none cd ctv)) (hcd : s.heap.CodeRec cd qual)
    (hbind : bindArgs (fnX name qual params body scope cl .none .none doc pm none cd ctv) ⟨args, []⟩ = pure binds) (hloc : (binds.all fun x => decide (scope.names.lookup x.1 = some .local)) = true)
    (P : Pre A (d + 1) (u + 3)) (O : Ok g s.heap) (sz : g.objs.size ≤ s.heap.objs.size) (hl : s.heap.get? dl = some ol) (n1 : dl ≠ 47) (n2 : dl ≠ 54) (gd : g.get? dl = none)
    (h : ∀ L s₁ A', Pre A' d u → St g { s with heap := s.heap.hide dl } L s₁ (fun x => binds.reverse.lookup x) [(dl, ol)] [] →
      wpAny (model P0 w) A' (execs body (envX qual scope L f cd cl))
        (fun fl s' => Q (match fl with | .ret v => v | _ => .none) s') (fun _ _ => False) s₁)
    (hco : scope.isCoroutine = false := by rfl) (hgen : scope.isGenerator = false := by rfl) (hki : scope.kind = .function := by rfl)
    (hcell : ∀ x ∈ scope.names, x.2 ≠ .cell := by decide) :
    wpAny (model P0 w) A (call (.ref f) args) Q E s := by
  obtain ⟨p, loose, mean, mg, mb, T⟩ := G.top
  refine wpAny_call (codeAny_call_def (fd := fnX name qual params body scope cl .none .none doc pm none cd ctv) (by have := P.dp; lia) ho hd (T.nolimit.keeps O.keep) hcd rfl (BindsTo.of_eq hbind) hcell (locs hloc) (fun h₁ hns k => ?_) hco hgen hki)
  refine wpAny_mono (h _ _ _ P.deeper ⟨⟨hns, fun a o _ _ e => k a o (Heap.of_hide e), (fun p hp => ?_), by simp, ?_, ?_, ?_, ⟨fun a o e => k a o (O.keep a o e), O.t1.mono k, O.t2.mono k⟩, fun a o e => ⟨G.ne1 e, G.ne2 e, ?_⟩, (fun p hp => nomatch hp)⟩, rfl, rfl, rfl⟩) (fun _ _ q => q) fun _ _ e => e.elim
  · rcases List.mem_cons.mp hp with rfl | hp
    · exact ⟨k _ _ hl, Nat.ne_of_lt (Heap.lt_size hl), Heap.hide_self _ _, n1, n2⟩
    · cases hp
  · show (s.heap.hide dl).objs.size ≤ _; rw [Heap.hide_size]; exact Nat.le_refl _
  · show 54 < (s.heap.hide dl).objs.size; rw [Heap.hide_size]; exact Nat.lt_of_lt_of_le G.big sz
  · show _ ≤ (s.heap.hide dl).objs.size; rw [Heap.hide_size]; exact sz
  · show (s.heap.hide dl).get? a = _
    rw [Heap.hide_ne]
    · exact O.keep a o e
    · rintro rfl; rw [gd] at e; cases e

theorem Ext.hideTrans {h h' h'' : Heap} {d : Addr} (x : Ext (h.hide d) h') (y : Ext (h'.hide d) h'') : Ext (h.hide d) h'' := fun a o n m e => by
  refine y a o n m ?_
  rw [Heap.hide_ne]
  · exact x a o n m e
  · rintro rfl; rw [Heap.hide_self] at e; cases e
theorem Ext.get {h h' : Heap} {d a : Addr} {o : Obj} (x : Ext (h.hide d) h') (n : a ≠ d) (h1 : a ≠ 47) (h2 : a ≠ 54) (e : h.get? a = some o) : h'.get? a = some o :=
  x a o h1 h2 (by rw [Heap.hide_ne _ n]; exact e)

/-- an own object that was lent and came back changed -/
theorem Sh.lend {g b h h' : Heap} {L d : Addr} {m : Loc} {l₁ l₂ imm : Led} {o o' : Obj} (S : Sh g b L h m (l₁ ++ (d, o) :: l₂) imm) (x : Ext (h.hide d) h') (e' : h'.get? d = some o') (ok : Ok g h') : Sh g b L h' m (l₁ ++ (d, o') :: l₂) imm := by
  have A := S.mine (d, o) (by simp)
  have al : Fr0 b d := A.2.2
  have nd := S.nd
  rw [List.map_append, List.map_cons, List.nodup_append] at nd
  obtain ⟨_, nd2, nd3⟩ := nd
  rw [List.nodup_cons] at nd2
  have nl := gtne (Nat.le_refl _) S.le S.big
  refine ⟨?_, fun y oy h1 h2 e => x.get (al.ne e) h1 h2 (S.ext y oy h1 h2 e), fun p hp => ?_, by have := S.nd; simpa using this, S.le, S.big, S.gle, ok, S.bk, fun p hp => ?_⟩
  · obtain ⟨ol, es, ep, e, r⟩ := S.ns
    exact ⟨ol, es, ep, x.get (Ne.symm A.2.1) nl.1 nl.2 e, r⟩
  · rcases List.mem_append.mp hp with q | q
    · have P := S.mine p (List.mem_append_left _ q)
      exact ⟨x.get (nd3 _ (List.mem_map_of_mem q) _ (List.mem_cons_self)) P.2.2.2.1 P.2.2.2.2 P.1, P.2⟩
    · rcases List.mem_cons.mp q with rfl | q
      · exact ⟨e', A.2⟩
      · have P := S.mine p (List.mem_append_right _ (.tail _ q))
        refine ⟨x.get (fun z => nd2.1 ?_) P.2.2.2.1 P.2.2.2.2 P.1, P.2⟩
        rw [← z]; exact List.mem_map.mpr ⟨p, q, rfl⟩
  · have P := S.im p hp
    refine ⟨x.get (fun z => P.2.2.2 ?_) P.2.2.1.2.1 P.2.2.1.2.2 P.1, P.2.1, P.2.2.1, by have := P.2.2.2; simpa using this⟩
    rw [z]; simp
theorem St.lend {g : Heap} {b s s' : Shared} {L d : Addr} {m : Loc} {l₁ l₂ imm : Led} {o o' : Obj} (S : St g b L s m (l₁ ++ (d, o) :: l₂) imm) (e : Same s s') (x : Ext (s.heap.hide d) s'.heap) (e' : s'.heap.get? d = some o') (ok : Ok g s'.heap) : St g b L s' m (l₁ ++ (d, o') :: l₂) imm :=
  ⟨S.1.lend x e' ok, S.2.trans e⟩
theorem St.gnone {g : Heap} {b s : Shared} {L d : Addr} {m : Loc} {own imm : Led} {o : Obj} (S : St g b L s m own imm) (hm : (d, o) ∈ own) : g.get? d = none := by
  cases e : g.get? d with
  | none => rfl
  | some o' => have := (S.sh.bk _ _ e).2.2; rw [(S.geO hm).1] at this; cases this

/-- little digits first, base 2^n -/
noncomputable def i2d (n : Nat) : Nat → Nat → List Int
  | _, 0 => []
  | x, k + 1 => ((x % 2 ^ n : Nat) : Int) :: i2d n (x / 2 ^ n) k
theorem i2d_len (n x k : Nat) : (i2d n x k).length = k := by
  induction k generalizing x with
  | zero => rfl
  | succ k ih => simp [i2d, ih]
theorem i2d_split (n x j k : Nat) : i2d n x (j + k) = i2d n (x % 2 ^ (n * j)) j ++ i2d n (x / 2 ^ (n * j)) k := by
  induction j generalizing x with
  | zero => simp [i2d]
  | succ j ih =>
    rw [show j + 1 + k = (j + k) + 1 by lia]
    simp only [i2d, List.cons_append]
    have e : 2 ^ (n * (j + 1)) = 2 ^ n * 2 ^ (n * j) := by rw [Nat.mul_add, Nat.mul_one, Nat.add_comm, Nat.pow_add]
    rw [ih, e]
    congr 1
    · rw [Nat.mod_mul_right_mod]
    · rw [Nat.div_div_eq_div_mul, Nat.mod_mul_right_div_self]
theorem and_hi (x sh : Nat) : x &&& (x / 2 ^ sh * 2 ^ sh) = x / 2 ^ sh * 2 ^ sh := by
  apply Nat.eq_of_testBit_eq
  intro i
  rw [Nat.testBit_and, ← Nat.shiftRight_eq_div_pow, ← Nat.shiftLeft_eq, Nat.testBit_shiftLeft, Nat.testBit_shiftRight]
  by_cases h : sh ≤ i
  · have : sh + (i - sh) = i := by lia
    simp [h, this]
  · simp [h]
theorem xor_lo (x sh : Nat) : Builtin.bitXor (x : Int) ((x / 2 ^ sh * 2 ^ sh : Nat) : Int) = ((x % 2 ^ sh : Nat) : Int) := by
  rw [bitXor_and]
  have : Builtin.bitAnd (x : Int) ((x / 2 ^ sh * 2 ^ sh : Nat) : Int) = ((x / 2 ^ sh * 2 ^ sh : Nat) : Int) := by
    unfold Builtin.bitAnd
    have h1 : decide ((0 : Int) ≤ (x : Int)) = true := decide_eq_true (by lia)
    have h2 : decide ((0 : Int) ≤ ((x / 2 ^ sh * 2 ^ sh : Nat) : Int)) = true := decide_eq_true (by lia)
    rw [h1, h2]
    show ((((x : Int)).toNat &&& (((x / 2 ^ sh * 2 ^ sh : Nat) : Int)).toNat : Nat) : Int) = _
    rw [Int.toNat_natCast, Int.toNat_natCast, and_hi]
  rw [this]
  have := Nat.div_add_mod x (2 ^ sh)
  rw [Nat.mul_comm] at this
  lia

theorem repl_flat (v : Value) (k : Nat) : ∀ acc : Array Value, List.foldl (fun x1 x2 => x1 ++ x2) acc (List.replicate k #[v]) = acc ++ (List.replicate k v).toArray := by
  induction k with
  | zero => intro acc; simp
  | succ k ih =>
    intro acc
    rw [List.replicate_succ, List.foldl_cons, ih]
    apply Array.ext'
    simp [List.replicate_succ]

section
variable {w : World} {g : Heap} {b : Shared} {L : Addr} {m : Loc} {own imm : Led} {A : Around} {E : Value → Shared → Prop} {s : Shared} {v : Value}
/-- [v] * k -/
theorem a_rep {l : Addr} {n : Nat} {x : Int} {u : Tok} {k : Nat} {Q : Value → Shared → Prop} (S : St g b L s m own imm) (hm : (l, lst [v] n) ∈ own) (hk : x = k) (hb : k ≤ 100000)
    (h : ∀ r s', St g b L s' m ((r, lst (List.replicate k v) 0) :: own) imm → Q (.ref r) s') :
    wpAny (model P0 w) A (binaryOp .Mult (.ref l) (.int x u)) Q E s := by
  have hl : s.heap.get? l = some { cls := .type "list", data := .seq [v].toArray n } := S.get hm
  have hx : -(2 ^ 63 : Int) ≤ x ∧ x < 2 ^ 63 ∧ x.toNat ≤ 100000 := by lia
  obtain ⟨h1, h2, h3⟩ := hx
  have e : List.foldl (fun x1 x2 => x1 ++ x2) #[] (List.replicate (if ([v].toArray).isEmpty = true then 0 else x.toNat) [v].toArray) = (List.replicate k v).toArray := by
    rw [if_neg (by simp), hk, Int.toNat_natCast]
    have := repl_flat v k #[]
    simpa using this
  have hq : Q (.ref s.heap.objs.size) { s with heap := s.heap.push { cls := .type "list", data := .seq (List.foldl (fun x1 x2 => x1 ++ x2) #[] (List.replicate (if ([v].toArray).isEmpty = true then 0 else x.toNat) [v].toArray)) } } := by
    rw [e]
    exact h _ _ (S.of (S.sh.push (lst (List.replicate k v) 0)))
  clear e hk h
  have hs1 : ([v].toArray).size = 1 := rfl
  generalize [v].toArray = items at hq hl hs1
  refine wpAny_binaryOp_repeat_ref (T := "list") (U := "int") (by decide) ⟨_, hl, rfl⟩ (fun s' => typeIs_int s' _ u) noFill_list_mul F.fills_int_mul F.slot_int_rmul repeat_list F.slot_int_index.lookup
    (call_meets F.slot_int_rmul (typeIs_int s _ u) F.entry_int_rmul (F.args_int_rmul_2 _ _) (int___rmul___int_list x u l items n)
      ⟨hl, rfl, ⟨_, hl, rfl⟩, call_meets F.slot_list_mul ⟨_, hl, rfl⟩ F.entry_list_mul (F.args_list_mul_2 _ _)
        (AutoListH.list___mul___list_int_3 l items n x u (by simp [Builtin.List.listFitsIndex]; lia) (by rw [hs1]; lia) (by simp [Builtin.List.listTooLong, sizeLine, hs1]; lia))
        ⟨hl, hq⟩⟩)
/-- l[i] = v -/
theorem a_setAt {l : Addr} {vs : List Value} {n i : Nat} {t : Tok} {l₁ l₂ : Led} {Q : Unit → Shared → Prop} (S : St g b L s m (l₁ ++ (l, lst vs n) :: l₂) imm) (hi : i < vs.length) (hb : vs.length ≤ 1000000)
    (h : ∀ s', St g b L s' m (l₁ ++ (l, lst (vs.set i v) n) :: l₂) imm → Q () s') :
    wpAny (model P0 w) A (setItem (.ref l) (.int i t) v) Q E s := by
  have hl := S.get (a := l) (o := lst vs n) (by first | exact m0 | exact m1 | exact m2 | exact m3 | exact m4 | exact m5 | exact m6 | simp)
  refine ki_setAt (n := n) (items := vs.toArray) hl (by lia) (by lia) (by simp; lia) (h _ (S.of (S.sh.upd (Heap.SameBut.update ..).extBut ?_ (lst_nc _ _))))
  have q := PySem.IsL.update (n := n) (items := vs.toArray) (l := l) hl (·.setIfInBounds (i : Int).toNat v)
  rw [if_pos (by simp)] at q
  rw [q]
  simp [lst]
end

theorem gn_i2d (w : World) : nsIn (KH w) mainGlobals (Str.ofString "_int2digits") = some (some (.ref 52)) := by kernel_rfl
theorem kp_i2d (w : World) : keepIn (KH w) (.ref 52) = true := by kernel_rfl
theorem intsAre_set {vs : List Value} {ds : List Int} (h : IntsAre vs ds) (i : Nat) (x : Int) (t : Tok) : IntsAre (vs.set i (.int x t)) (ds.set i x) := by
  induction h generalizing i with
  | nil => exact .nil
  | cons n t' h ih => cases i with
    | zero => exact .cons x t h
    | succ i => exact .cons n t' (ih i)
theorem intsAre_rep (x : Int) (t : Tok) (k : Nat) : IntsAre (List.replicate k (.int x t)) (List.replicate k x) := by
  induction k with
  | zero => exact .nil
  | succ k ih => exact .cons x t ih
theorem set_mid (ds : List Int) (l : Nat) (x : Int) (h : l < ds.length) : ds.set l x = ds.take l ++ [x] ++ ds.drop (l + 1) := by
  rw [List.set_eq_take_append_cons_drop, if_pos h]; simp
theorem two_mid (ds xs ys : List Int) {l k r : Nat} (h1 : l ≤ k) (h2 : k ≤ r) (h3 : r ≤ ds.length) (hx : xs.length = k - l) :
    (ds.take l ++ xs ++ ds.drop k).take k ++ ys ++ (ds.take l ++ xs ++ ds.drop k).drop r = ds.take l ++ (xs ++ ys) ++ ds.drop r := by
  have e1 : (ds.take l ++ xs).length = k := by rw [List.length_append, List.length_take, hx]; lia
  rw [List.take_append_of_le_length (by lia), List.take_of_length_le (by lia), List.drop_append, List.drop_of_length_le (by lia), List.drop_drop, e1]
  have : k + (r - k) = r := by lia
  rw [this]; simp
section
variable {w : World} {g : Heap}
set_option maxHeartbeats 1000000
theorem c_i2d (G : Gl w g) (x nn k : Nat) (t t' : Tok) (hn : 1 ≤ nn) (hn2 : nn ≤ 10) (hk : ((Builtin.Int.intBits (x : Int) : Int) + nn - 1).fdiv nn = k) (hk2 : k ≤ 20) (hx : x < 2 ^ (nn * k)) (hx2 : x < 2 ^ 60) (hx0 : x ≠ 0 → 0 < k) :
    Con w g 52 [.int x t, .int nn t'] 25 300 (fun _ => True) (fun h v h' => ∃ r vs n, v = .ref r ∧ h'.get? r = some (lst vs n) ∧ Fr0 h r ∧ IntsAre vs (if x = 0 then List.replicate k 0 else i2d nn x k)) := by
  intro A s Q E P O sz _ hQ
  refine enterC (d := 24) (u := 297) (binds := [(Str.ofString "a", .int x t), (Str.ofString "n", .int nn t')]) G (by rfl) (by rfl) (by kernel_rfl) (by rfl) (by rfl) P O sz fun L s₁ A eL P S hcell => ?_
  obtain ⟨oN, eN, dN⟩ := hcell (Str.ofString "n") (L + 1) rfl
  obtain ⟨oD, eD, dD⟩ := hcell (Str.ofString "a_digits") (L + 2) rfl
  obtain ⟨oI, eI, dI⟩ := hcell (Str.ofString "inner") (L + 3) rfl
  have dN : oN.data = .cell (some (.int nn t')) := dN
  have S : St g s L s₁ _ [(L + 1, oN)] [] := ⟨S.sh.addOwn eN (Nat.ne_of_gt (by lia)) (Fr0.of (Nat.le_trans S.sh.le (by lia)) S.sh.big) (by simp) (by simp), S.same⟩
  have S : St g s L s₁ _ [(L + 2, oD), (L + 1, oN)] [] := ⟨S.sh.addOwn eD (Nat.ne_of_gt (by lia)) (Fr0.of (Nat.le_trans S.sh.le (by lia)) S.sh.big) (by simp) (by simp), S.same⟩
  have S : St g s L s₁ _ [(L + 3, oI), (L + 2, oD), (L + 1, oN)] [] := ⟨S.sh.addOwn eI (Nat.ne_of_gt (by lia)) (Fr0.of (Nat.le_trans S.sh.le (by lia)) S.sh.big) (by simp) (by simp), S.same⟩
  clear hcell eD eN eI
  refine wpAny_execs_cons (wpAny_Assign_Name (wpAny_BinOp (List_ (spliced_more (wpAny_Constant_int (spliced_none (n_list S fun l0 s₂ S => ?_)))))))
  refine wpAny_BinOp (wpAny_BinOp (wpAny_BinOp (MethodCall_ (e_loc S (by rfl) (getMethod_int_bit_length (callWith_method0 (call_int_bit_length ?_)))))))
  refine norm (S.of (tk := s₂.toks + 1) S.sh) fun s₂ S => ?_
  refine e_cell S (c := L + 1) (o := oN) (by first | exact m0 | exact m1 | exact m2 | exact m3 | exact m4 | exact m5 | exact m6 | simp) dN (add_int (wpAny_Constant_int (sub_int ?_)))
  refine e_cell (S.of S.sh) (c := L + 1) (o := oN) (by first | exact m0 | exact m1 | exact m2 | exact m3 | exact m4 | exact m5 | exact m6 | simp) dN (floordiv_int (by lia) ?_ (Or.inl (PyProof.noPylong_small (by lia))))
  rw [hk]
  refine a_rep (k := k) (S.of S.sh) (.head _) rfl (by lia) fun dl s₃ S => ?_
  refine st_cell (l₁ := [_, _, _]) S dD fun oD s₃ dD S => ?_
  refine wpAny_execs_cons (nestDef_K rfl rfl rfl ?_)
  refine x_make (q := q1) (P := 47) G S (by rfl) rfl G.c1 (.inl rfl) (fun h O => O.t1) (fun h h' O k T => okBut1 G h h' O k T) fun fa doc pm cv ctv s₂ S C => ?_
  refine st_cellR (l₁ := [_, _]) S dI fun oI s₂ dI hC S => ?_
  have C := hC _ _ C
  clear hC
  generalize hvs : List.replicate k (Value.int 0 s₁.toks) = vs0 at S
  have I0 : IntsAre vs0 (List.replicate k 0) := hvs ▸ intsAre_rep 0 _ k
  have S : St g s L s₂ _ ([] ++ (dl, lst vs0 0) :: [(L + 3, oI), (L + 2, oD), (L + 1, oN)]) _ := S.drop (((List.Sublist.refl _).cons _).cons_cons _)
  have eF := S.geti (.head _)
  have nF := S.neI (.head _)
  have eN := S.get (a := L + 1) (o := oN) (by first | exact m0 | exact m1 | exact m2 | exact m3 | exact m4 | exact m5 | exact m6 | simp)
  have eD := S.get (a := L + 2) (o := oD) (by first | exact m0 | exact m1 | exact m2 | exact m3 | exact m4 | exact m5 | exact m6 | simp)
  have eI := S.get (a := L + 3) (o := oI) (by first | exact m0 | exact m1 | exact m2 | exact m3 | exact m4 | exact m5 | exact m6 | simp)
  have nN := S.neO (a := L + 1) (o := oN) (by first | exact m0 | exact m1 | exact m2 | exact m3 | exact m4 | exact m5 | exact m6 | simp)
  have nD := S.neO (a := L + 2) (o := oD) (by first | exact m0 | exact m1 | exact m2 | exact m3 | exact m4 | exact m5 | exact m6 | simp)
  have nI := S.neO (a := L + 3) (o := oI) (by first | exact m0 | exact m1 | exact m2 | exact m3 | exact m4 | exact m5 | exact m6 | simp)
  have nl := S.neO (a := dl) (o := lst vs0 0) (by first | exact m0 | exact m1 | exact m2 | exact m3 | exact m4 | exact m5 | exact m6 | simp)
  have gd : g.get? dl = none := S.gnone (o := lst vs0 0) (by first | exact m0 | exact m1 | exact m2 | exact m3 | exact m4 | exact m5 | exact m6 | simp)
  have hnd := S.sh.nd
  have dF : fa ≠ dl := fun e => (S.sh.im _ (.head _)).2.2.2 (by rw [e]; simp)
  have dNl : L + 1 ≠ dl := fun e => by rw [← e] at hnd; simp at hnd
  have dDl : L + 2 ≠ dl := fun e => by rw [← e] at hnd; simp at hnd
  have dIl : L + 3 ≠ dl := fun e => by rw [← e] at hnd; simp at hnd
  have O2 := S.ok
  have C2 : (s₂.heap.hide dl).CodeRec cv q1 := by
    obtain ⟨c, o, vs, t, e, ho, hd, hv⟩ := C
    refine ⟨c, o, vs, t, e, ?_, hd, hv⟩
    rw [Heap.hide_ne]
    · exact ho
    · rintro rfl
      have := S.get (a := c) (o := lst vs0 0) (by first | exact m0 | exact m1 | exact m2 | exact m3 | exact m4 | exact m5 | exact m6 | simp)
      rw [ho] at this; cases this; cases hd
  have O3 : Ok g (s₂.heap.hide dl) := by
    have k1 : ∀ a o, a ≠ dl → s₂.heap.get? a = some o → (s₂.heap.hide dl).get? a = some o := fun a o n e => by rw [Heap.hide_ne _ n]; exact e
    refine ⟨fun a o e => k1 a o (by rintro rfl; rw [gd] at e; cases e) (O2.keep a o e), O2.t1.but (a := dl) (fun a o n e => k1 a o n e) (S.get (.head _)) (Ne.symm nl.1) (lst_nc _ _), O2.t2.but (a := dl) (fun a o n e => k1 a o n e) (S.get (.head _)) (Ne.symm nl.2) (lst_nc _ _)⟩
  have inner : ∀ n, ∀ (l r x : Nat) (t0 t1 t2 : Tok) (A' : Around) (s' : Shared) (Q' E' : Value → Shared → Prop) (vs : List Value) (ds : List Int), r - l = n → l < r → r ≤ ds.length → ds.length ≤ 20 → x < 2 ^ (nn * n) → x < 2 ^ 60 → IntsAre vs ds → Pre A' (n + 1) (4 * n + 50) → Ext (s₂.heap.hide dl) s'.heap → s'.heap.get? dl = some (lst vs 0) → Ok g s'.heap → g.objs.size ≤ s'.heap.objs.size →
      (∀ s'' vs', Same s' s'' → Ok g s''.heap → Ext (s'.heap.hide dl) s''.heap → s''.heap.get? dl = some (lst vs' 0) → IntsAre vs' (ds.take l ++ i2d nn x n ++ ds.drop r) → Q' .none s'') → wpAny (model P0 w) A' (call (.ref fa) [.int x t0, .int l t1, .int r t2]) Q' E' s' := by
    intro n
    induction n using Nat.strongRecOn with
    | ind n ih =>
      intro l r x t0 t1 t2 A' s' Q' E' vs ds hlr h1 h2 h20 hx hx6 Iv P' X ed O' sz' hQ'
      have hvl : vs.length = ds.length := Iv.length
      refine enterFL (d := n) (u := 4 * n + 47) (binds := [(Str.ofString "x", .int x t0), (Str.ofString "L", .int l t1), (Str.ofString "R", .int r t2)]) G (X.get dF nF.1 nF.2 eF) rfl (codeRec_ext O3 C2 X) (by rfl) (by rfl) P' O' sz' ed nl.1 nl.2 gd fun L' s₃ A'' P'' S => ?_
      have gF : ∀ {b' : Shared} {L' m' imm'} {own'}, St g { s' with heap := s'.heap.hide dl } L' b' m' own' imm' → Ext (s₂.heap.hide dl) b'.heap := fun S => X.hideTrans S.ext
      refine wpAny_execs_cons (wpAny_If (wpAny_isTrue_Compare1 (wpAny_BinOp (e_loc S (by rfl) (wpAny_Constant_int (add_int (e_loc S (by rfl) (eq_int (wpAny_truthy_bool ?_)))))))))
      by_cases hone : l + 1 = r
      · rw [if_pos (by rw [beq_iff_eq]; lia)]
        subst hone
        refine wpAny_execs_cons (wpAny_Assign_Subscript (e_loc S (by rfl) (e_freeI ((gF S).get dDl nD.1 nD.2 eD) dD (e_loc S (by rfl) ?_))))
        refine a_setAt (l₁ := []) (l₂ := []) (S.of S.sh) (by lia) (by lia) fun s₄ S => ?_
        refine wpAny_execs_cons (wpAny_Return_none ?_)
        have hn1 : n = 1 := by lia
        subst hn1
        refine hQ' _ _ S.same S.ok S.ext (S.get (.head _)) ?_
        have e1 : i2d nn x 1 = [(x : Int)] := by
          simp only [i2d]
          rw [Nat.mod_eq_of_lt (by simpa using hx)]
        rw [e1, ← set_mid ds l x (by lia)]
        exact intsAre_set Iv l x t0
      · rw [if_neg (by rw [beq_iff_eq]; lia)]
        refine wpAny_execs_nil ?_
        refine wpAny_execs_cons (wpAny_Assign_Name (wpAny_BinOp (wpAny_BinOp (e_loc S (by rfl) (e_loc S (by rfl) (add_int (wpAny_Constant_int (rshift_int (by lia) (st_loc S fun s₄ S => ?_)))))))))
        have ek : ((l : Int) + (r : Int)).fdiv (2 ^ (1 : Int).toNat) = (((l + r) / 2 : Nat) : Int) := by
          rw [show (2 : Int) ^ (1 : Int).toNat = ((2 : Nat) : Int) from rfl, ← Int.natCast_add, Int.fdiv_eq_ediv_of_nonneg _ (by lia)]; rfl
        rw [ek] at S
        generalize hk1 : (l + r) / 2 = k at S
        refine wpAny_execs_cons (wpAny_Assign_Name (wpAny_BinOp (wpAny_BinOp (e_loc S put_eq (e_loc S (by rfl) (sub_int (e_freeI ((gF S).get dNl nN.1 nN.2 eN) dN ?_)))))))
        refine mul_int (st_loc S fun s₅ S => ?_) (mulOk (by lia) (by lia))
        have e3 : ((k : Int) - l) * nn = ((nn * (k - l) : Nat) : Int) := by
          rw [Int.natCast_mul, Int.natCast_sub (by lia), Int.mul_comm]
        rw [e3] at S
        have h3 : nn * (k - l) ≤ 10 * 20 := Nat.mul_le_mul hn2 (by lia)
        generalize hsh : nn * (k - l) = sh at S h3
        refine wpAny_execs_cons (wpAny_Assign_Name (wpAny_BinOp (e_loc S (by rfl) (e_loc S put_eq (rshift_int (by lia) (st_loc S fun s₆ S => ?_))))))
        have e4 : ((x : Int)).fdiv (2 ^ ((sh : Nat) : Int).toNat) = ((x / 2 ^ sh : Nat) : Int) := by
          rw [Int.toNat_natCast, Int.fdiv_eq_ediv_of_nonneg _ (Int.le_of_lt (Int.pow_pos (by decide)))]
          simp
        rw [e4] at S
        refine wpAny_execs_cons (wpAny_Assign_Name (wpAny_BinOp (e_loc S (by rfl) (wpAny_BinOp (e_loc S put_eq (e_loc S (put_ne put_eq (by decide)) ?_))))))
        have hxd : x / 2 ^ sh ≤ x := Nat.div_le_self _ _
        refine lshift_int_small (by lia) (by lia) (by rw [Int.natAbs_natCast]; exact Nat.lt_trans (Nat.lt_of_le_of_lt hxd hx6) (by decide)) ?_
        have e5 : ((x / 2 ^ sh : Nat) : Int) * 2 ^ ((sh : Nat) : Int).toNat = ((x / 2 ^ sh * 2 ^ sh : Nat) : Int) := by
          rw [Int.toNat_natCast]; simp
        rw [e5]
        refine xor_int ?_
        rw [xor_lo]
        refine st_loc (S.of S.sh) fun s₇ S => ?_
        have hp1 : 2 ^ (nn * n) = 2 ^ sh * 2 ^ (nn * (r - k)) := by
          rw [← Nat.pow_add, ← hsh, ← Nat.mul_add]; congr 2; lia
        refine wpAny_execs_cons (wpAny_Expr (Call_Name rfl (e_freeI ((gF S).get dIl nI.1 nI.2 eI) dI (callWith_F ⟨_, _, _, _, (gF S).get dF nF.1 nF.2 eF⟩ ?_))))
        refine spliced_more (e_loc S put_eq (spliced_more (e_loc S (by rfl) (spliced_more (e_loc S (put_ne (put_ne (put_ne put_eq (by decide)) (by decide)) (by decide)) (spliced_none ⟨⟨_, _, _, _, (gF S).get dF nF.1 nF.2 eF⟩, ?_⟩))))))
        refine ih (k - l) (by lia) l k (x % 2 ^ sh) _ _ _ _ _ _ _ vs ds rfl (by lia) (by lia) h20 (by rw [hsh]; exact Nat.mod_lt _ (Nat.pow_pos (by decide))) (Nat.lt_of_le_of_lt (Nat.mod_le _ _) hx6) Iv (P''.le (by lia) (by lia)) (gF S) (S.get (.head _)) S.ok S.gsz ?_
        intro s₈ vs1 e₈ O₈ X₈ g₈ I₈
        have S := St.lend (l₁ := []) S e₈ X₈ g₈ O₈
        refine wpAny_execs_cons (wpAny_Expr (Call_Name rfl (e_freeI ((gF S).get dIl nI.1 nI.2 eI) dI (callWith_F ⟨_, _, _, _, (gF S).get dF nF.1 nF.2 eF⟩ ?_))))
        refine spliced_more (e_loc S (put_ne put_eq (by decide)) (spliced_more (e_loc S (put_ne (put_ne (put_ne put_eq (by decide)) (by decide)) (by decide)) (spliced_more (e_loc S (by rfl) (spliced_none ⟨⟨_, _, _, _, (gF S).get dF nF.1 nF.2 eF⟩, ?_⟩))))))
        have hl1 : (ds.take l ++ i2d nn (x % 2 ^ sh) (k - l) ++ ds.drop k).length = ds.length := by
          simp only [List.length_append, List.length_take, List.length_drop, i2d_len]; lia
        refine ih (r - k) (by lia) k r (x / 2 ^ sh) _ _ _ _ _ _ _ vs1 _ rfl (by lia) (by lia) (by lia) (Nat.div_lt_of_lt_mul (by rw [← hp1]; exact hx)) (Nat.lt_of_le_of_lt hxd hx6) I₈ (P''.le (by lia) (by lia)) (gF S) (S.get (.head _)) S.ok S.gsz ?_
        intro s₉ vs2 e₉ O₉ X₉ g₉ I₉
        have S := St.lend (l₁ := []) S e₉ X₉ g₉ O₉
        refine wpAny_execs_nil (hQ' _ _ S.same S.ok S.ext (S.get (.head _)) ?_)
        rw [two_mid ds _ _ (by lia) (by lia) h2 (i2d_len _ _ _)] at I₉
        have e6 : i2d nn x n = i2d nn (x % 2 ^ sh) (k - l) ++ i2d nn (x / 2 ^ sh) (r - k) := by
          rw [← hsh, ← i2d_split]; congr 1; lia
        rw [e6]; exact I₉
  have hv0 : vs0.length = k := by rw [← hvs, List.length_replicate]
  refine wpAny_execs_cons (wpAny_If (isTrue_plain (e_loc S (by rfl) (truthy_int ?_))))
  by_cases hz : x = 0
  · rw [if_neg (by simp [hz])]
    refine wpAny_execs_nil (wpAny_execs_cons (wpAny_Return_some (e_cell S (c := L + 2) (o := oD) (by first | exact m0 | exact m1 | exact m2 | exact m3 | exact m4 | exact m5 | exact m6 | simp) dD ?_)))
    refine hQ _ _ S.same S.ok S.ext ⟨dl, vs0, 0, rfl, S.get (.head _), S.geO (o := lst vs0 0) (by first | exact m0 | exact m1 | exact m2 | exact m3 | exact m4 | exact m5 | exact m6 | simp), ?_⟩
    rw [if_pos hz]; exact I0
  · rw [if_pos (by simp [hz])]
    refine wpAny_execs_cons (wpAny_Expr (Call_Name rfl (e_cell S (c := L + 3) (o := oI) (by first | exact m0 | exact m1 | exact m2 | exact m3 | exact m4 | exact m5 | exact m6 | simp) dI (callWith_F ⟨_, _, _, _, eF⟩ (spliced_more (e_loc S (by rfl) (spliced_more (wpAny_Constant_int (spliced_more (Call_Name rfl (e_bi G S (gn_len w) boot_len (callWith_method1 (spliced_more (e_cell S (c := L + 2) (o := oD) (by first | exact m0 | exact m1 | exact m2 | exact m3 | exact m4 | exact m5 | exact m6 | simp) dD (spliced_none ?_)))))))))))))))
    refine len_list (isList_lst (S.get (a := dl) (o := lst vs0 0) (by first | exact m0 | exact m1 | exact m2 | exact m3 | exact m4 | exact m5 | exact m6 | simp))) (by rw [List.size_toArray]; lia) (spliced_none ⟨⟨_, _, _, _, eF⟩, ?_⟩)
    rw [List.size_toArray, hv0]
    refine inner k 0 k x _ _ _ _ _ _ _ vs0 (List.replicate k 0) rfl (hx0 hz) (by simp) (by simpa using hk2) hx hx2 I0 (P.le (by lia) (by lia)) (fun a o _ _ e => Heap.of_hide e) (S.get (.head _)) S.ok S.gsz ?_
    intro s₆ vs1 e₆ O₆ X₆ g₆ I₆
    have S := St.lend (l₁ := []) S e₆ X₆ g₆ O₆
    refine wpAny_execs_nil (wpAny_execs_cons (wpAny_Return_some (e_cell S (c := L + 2) (o := oD) (by first | exact m0 | exact m1 | exact m2 | exact m3 | exact m4 | exact m5 | exact m6 | simp) dD ?_)))
    refine hQ _ _ S.same S.ok S.ext ⟨dl, vs1, 0, rfl, S.get (.head _), S.geO (o := lst vs1 0) (by first | exact m0 | exact m1 | exact m2 | exact m3 | exact m4 | exact m5 | exact m6 | simp), ?_⟩
    rw [if_neg hz]
    simpa using I₆
end
end Mine
end

section
set_option compiler.extract_closed false
namespace Mine
open PySem PySem.W PyProof.Rows PySem.Calls

theorem revIter (w : World) (it l : Addr) (items : List Value) (k : Nat) :
    Iter w it items.length (fun i o => o.cls = .type "list_reverseiterator" ∧ o.data = .fields #[.ref l, rawInt ((items.length : Int) - 1 - i)]) (fun i v => items.reverse[i]? = some v) (fun h => h.get? l = some (lst items k)) where
  nc := fun i o e vs q t h => by rw [e.2] at h; cases h; simp [rawInt]
  next := fun {A E s i o Q} hi e eo hs h => by
    have e1 : ((items.length : Int) - 1 - i) = ((items.length - 1 - i : Nat) : Int) := by lia
    rw [e1] at eo
    have hlt : items.length - 1 - i < items.length := by lia
    refine wpAny_pyNext_rev_item (i := items.length - 1 - i) (x := items[items.length - 1 - i]) ⟨o, e, eo⟩ (isList_lst hs) (by simp [hlt]) fun h' ⟨o', e', eo'⟩ hs => h _ o' _ ?_ ⟨rfl, rfl, rfl⟩ e' ?_ hs
    · rw [List.getElem?_reverse hi]; simp [hlt]
    · rw [show ((items.length : Int) - 1 - ((i + 1 : Nat) : Int)) = ((items.length - 1 - i : Nat) : Int) - 1 by lia]; exact eo'
  again := fun {A E s o Q} e eo h => wpAny_pyIter_revIter (l := l) ⟨o, e, eo⟩ h
  stop := fun {A E s o Q} hh e eo hs h => wpAny_pyNext_rev_end (l := l) hh ⟨o, e, eo.1, by
    rw [eo.2, show ((items.length : Int) - 1 - (items.length : Int)) = -1 by lia]⟩ fun h' x => h _ ⟨rfl, rfl, rfl⟩ x

section
variable {w : World} {g : Heap} {b : Shared} {L : Addr} {m : Loc} {own imm : Led} {A : Around} {E : Value → Shared → Prop} {s : Shared} {env : Env}
theorem x_unpack2 {x y : PySem.Str} {px py pos : Pos} {k} {t : Addr} {v1 v2 : Value} {Q : Unit → Shared → Prop} (hh : A.handled = none) (S : St g b L s m own imm) (ht : s.heap.get? t = some (tup [v1, v2]))
    (h : ∀ s', St g b L s' (put (put m x v1) y v2) own imm → Q () s')
    (hL : env.locals = L := by rfl) (hl : env.kindOf x = some .local := by rfl) (hl2 : env.kindOf y = some .local := by rfl) (hp : (env.scope.kind == .class || (env.scope.kind == .module && env.locals != env.globals)) = false := by rfl) :
    wpAny (model P0 w) A (assign (.Tuple [.Name x px, .Name y py] k pos) env (.ref t)) Q E s := by
  refine assign_Tuple_tuple hh (isTup_tup ht) (by rfl) (by rfl) fun h' he => ?_
  have S := S.of (tk := s.toks) (S.sh.keeps (fun a o e => he a o (Nat.ne_of_lt (Heap.lt_size e)) e))
  refine assignInOrder_cons (PyProof.Rows.assign_Name (st_loc S (fun s₁ S => ?_) hL hl hp))
  refine assignInOrder_cons (PyProof.Rows.assign_Name (st_loc S (fun s₁ S => ?_) hL hl2 hp))
  exact assignInOrder_nil (h _ S)
theorem a_reverse {l : Addr} {vs : List Value} {n : Nat} {l₁ l₂ : Led} {Q : Value → Shared → Prop} (S : St g b L s m (l₁ ++ (l, lst vs n) :: l₂) imm)
    (h : ∀ s', St g b L s' m (l₁ ++ (l, lst vs.reverse n) :: l₂) imm → Q .none s') (hsz : vs.length ≤ 1000000) :
    wpAny (model P0 w) A (call (.builtin "list.reverse") [.ref l]) Q E s := by
  have ho : s.heap.get? l = some (lst vs n) := S.get (by first | exact m0 | exact m1 | exact m2 | exact m3 | exact m4 | exact m5 | exact m6 | simp)
  refine call_meets PySem.F.slot_list_reverse ⟨_, ho, rfl⟩ PySem.F.entry_list_reverse (PySem.F.args_list_reverse_1 _) (AutoSeq1.list_reverse_list_0 l vs.toArray n (by rw [List.size_toArray, sizeLine_eq]; lia)) ⟨ho, ?_⟩
  refine h _ (S.of (S.sh.upd (Heap.SameBut.update ..).extBut ?_ (lst_nc _ _)))
  rw [Heap.get?_update_self _ ho (by rw [mapSeq_reverse]; rfl), mapSeq_reverse]
end

theorem gn_div2 (w : World) : nsIn (KH w) mainGlobals (Str.ofString "_div2n1n") = some (some (.ref 38)) := by kernel_rfl
theorem kp_div2 (w : World) : keepIn (KH w) (.ref 38) = true := by kernel_rfl
theorem gn_dmp (w : World) : nsIn (KH w) mainGlobals (Str.ofString "_divmod_pos") = some (some (.ref 66)) := by kernel_rfl
theorem kp_dmp (w : World) : keepIn (KH w) (.ref 66) = true := by kernel_rfl
theorem gn_idm (w : World) : nsIn (KH w) mainGlobals (Str.ofString "int_divmod") = some (some (.ref 73)) := by kernel_rfl
theorem kp_idm (w : World) : keepIn (KH w) (.ref 73) = true := by kernel_rfl
theorem gn_divmod (w : World) : nsIn (KH w) mainGlobals (Str.ofString "divmod") = some none := by kernel_rfl
theorem gn_reversed (w : World) : nsIn (KH w) mainGlobals (Str.ofString "reversed") = some none := by kernel_rfl
section
variable {w : World} {g : Heap}
set_option maxHeartbeats 1000000
theorem c_div2 (G : Gl w g) (a b n : Int) (t1 t2 t3 : Tok) (ha0 : 0 ≤ a) (ha : a < 2 ^ 60) (hb : 0 < b) (hb2 : b < 1000000) (hn : 0 ≤ n) :
    Con w g 38 [.int a t1, .int b t2, .int n t3] 2 20 (fun _ => True) (fun h v h' => ∃ r q1 q2, v = .ref r ∧ h'.get? r = some (tup [.int (a.fdiv b) q1, .int (a.fmod b) q2]) ∧ Fr0 h r) := by
  intro A s Q E P O sz _ hQ
  refine enter (d := 1) (u := 17) (binds := [(Str.ofString "a", .int a t1), (Str.ofString "b", .int b t2), (Str.ofString "n", .int n t3)]) G (by rfl) (by rfl) (by kernel_rfl) (by rfl) (by rfl) P O sz fun L s₁ A P S => ?_
  refine wpAny_execs_cons (wpAny_If (wpAny_isTrue_Compare1 (wpAny_BinOp (MethodCall_ (e_loc S (by rfl) (getMethod_int_bit_length (callWith_method0 (call_int_bit_length ?_))))))))
  refine norm (S.of (tk := s₁.toks + 1) S.sh) fun s₂ S => ?_
  refine e_loc S (by rfl) (sub_int ?_)
  refine norm (S.of (tk := s₂.toks + 1) S.sh) fun s₂ S => ?_
  refine e_glob G S (by rfl) (le_int (wpAny_truthy_bool ?_))
  have hbits : Builtin.Int.intBits a ≤ 64 := intBits_le_64 (by lia) (by lia)
  refine ifpos (by rw [decide_eq_true_eq]; lia) ?_
  refine wpAny_execs_cons (wpAny_Return_some (Call_Name rfl (e_bi G S (gn_divmod w) boot_divmod (callWith_method1 (spliced_more (e_loc S (by rfl) (spliced_more (e_loc S (by rfl) (spliced_none ?_)))))))))
  refine divmod_int (by lia) ?_ (Or.inl (PyProof.noPylong_small (by lia)))
  have S := S.of (tk := s₂.toks + 1 + 1) (S.sh.pushI (tup [.int (a.fdiv b) s₂.toks, .int (a.fmod b) (s₂.toks + 1)]))
  exact hQ _ _ S.same S.ok S.ext ⟨_, _, _, rfl, S.geti (.head _), (S.geI _ (.head _)).2⟩

noncomputable def dstep (n b : Int) (p : List Int × Int) (d : Int) : List Int × Int := (p.1 ++ [(p.2 * 2 ^ n.toNat + d).fdiv b], (p.2 * 2 ^ n.toNat + d).fmod b)
noncomputable def nd (n a : Nat) : Nat := (((Builtin.Int.intBits (a : Int) : Int) + n - 1).fdiv n).toNat
noncomputable def dfold (n b : Int) (ds : List Int) : List Int × Int := ds.foldl (dstep n b) ([], 0)
noncomputable def dmp (n b a : Nat) : Int × Int := let p := dfold n b (i2d n a (nd n a)).reverse; (d2i n p.1.reverse, p.2)

noncomputable def digB (n a : Nat) : Bool := n == 0 || (((Builtin.Int.intBits (a : Int) : Int) + n - 1).fdiv n == ((nd n a : Nat) : Int) && decide (n * nd n a ≤ 25) && decide (nd n a ≤ 20) && decide (a < 2 ^ (n * nd n a)) && (a == 0 || decide (0 < nd n a)) && (a != 0 || nd n a == 0))
theorem dig_all : ∀ n : Nat, n < 6 → ∀ a : Nat, a < 128 → digB n a = true := by decide +kernel
theorem dig_ok (n : Nat) (h : n < 6) (a : Nat) (h2 : a < 128) (h3 : 1 ≤ n) : ((Builtin.Int.intBits (a : Int) : Int) + n - 1).fdiv n = nd n a ∧ nd n a ≤ 20 ∧ a < 2 ^ (n * nd n a) ∧ (a ≠ 0 → 0 < nd n a) ∧ (a = 0 → nd n a = 0) ∧ n * nd n a ≤ 25 := by
  have := dig_all n h a h2
  unfold digB at this
  simp only [Bool.or_eq_true, Bool.and_eq_true, beq_iff_eq, decide_eq_true_eq, bne_iff_ne] at this
  rcases this with h0 | ⟨⟨⟨⟨⟨k1, k6⟩, k2⟩, k3⟩, k4⟩, k5⟩
  · lia
  · exact ⟨k1, k2, k3, fun h => k4.resolve_left h, fun h => k5.resolve_left (fun n => n h), k6⟩
theorem i2d_bd (n x k : Nat) : ∀ d ∈ i2d n x k, 0 ≤ d ∧ d < 2 ^ n := by
  induction k generalizing x with
  | zero => intro d hd; cases hd
  | succ k ih =>
    intro d hd
    rcases List.mem_cons.mp hd with rfl | hd
    · have := Nat.mod_lt x (show 0 < 2 ^ n from Nat.pow_pos (by decide))
      refine ⟨by lia, ?_⟩
      exact_mod_cast this
    · exact ih _ d hd
theorem d2i_bd (n M : Nat) (hn : 1 ≤ n) (ds : List Int) (h : ∀ d ∈ ds, d.natAbs ≤ M) : (d2i n ds).natAbs + M ≤ M * 2 ^ (n * ds.length) := by
  induction ds with
  | nil => simp [d2i]
  | cons d r ih =>
    have h1 := h d (.head _)
    have h2 := ih fun x hx => h x (.tail _ hx)
    have h3 : 2 ≤ 2 ^ n := Nat.pow_le_pow_right (n := 2) (by decide) hn
    simp only [d2i, List.length_cons]
    have e : M * 2 ^ (n * (r.length + 1)) = 2 ^ n * (M * 2 ^ (n * r.length)) := by
      rw [Nat.mul_add, Nat.mul_one, Nat.pow_add, Nat.mul_comm (2 ^ (n * r.length)), ← Nat.mul_assoc, Nat.mul_comm M, Nat.mul_assoc]
    have h4 : (d + 2 ^ n * d2i n r).natAbs ≤ d.natAbs + 2 ^ n * (d2i n r).natAbs := by
      refine Nat.le_trans (Int.natAbs_add_le _ _) ?_
      rw [Int.natAbs_mul, Int.natAbs_pow]
      exact Nat.le_refl _
    have h5 := Nat.mul_le_mul_left (2 ^ n) h2
    rw [Nat.mul_add] at h5
    have h6 : 2 * M ≤ 2 ^ n * M := Nat.mul_le_mul_right M h3
    rw [e]
    lia
theorem d2i_sl (n M : Nat) (hn : 1 ≤ n) (hM : M ≤ 2 ^ 30) (ds : List Int) (h : ∀ d ∈ ds, d.natAbs ≤ M) (hl : n * ds.length ≤ 25) (l r : Nat) : (d2i n (sl ds l r)).natAbs < 2 ^ 60 := by
  have h1 := d2i_bd n M hn (sl ds l r) (fun d hd => h d (List.mem_of_mem_drop (List.mem_of_mem_take hd)))
  have h2 : (sl ds l r).length ≤ ds.length := by unfold sl; rw [List.length_take, List.length_drop]; lia
  have h3 : n * (sl ds l r).length ≤ 25 := Nat.le_trans (Nat.mul_le_mul_left n h2) hl
  have h4 : M * 2 ^ (n * (sl ds l r).length) ≤ 2 ^ 30 * 2 ^ 25 := Nat.mul_le_mul hM (Nat.pow_le_pow_right (by decide) h3)
  have : (2:Nat) ^ 30 * 2 ^ 25 < 2 ^ 60 := by decide
  lia

theorem dstep_bd {n b : Int} {p : List Int × Int} {d : Int} (hb : 0 < b) (h1 : 0 ≤ p.2) (h2 : p.2 < b) (h3 : 0 ≤ d) (h4 : d < 2 ^ n.toNat) :
    0 ≤ (p.2 * 2 ^ n.toNat + d) ∧ (p.2 * 2 ^ n.toNat + d) < b * 2 ^ n.toNat ∧ 0 ≤ (p.2 * 2 ^ n.toNat + d).fdiv b ∧ (p.2 * 2 ^ n.toNat + d).fdiv b < 2 ^ n.toNat ∧ 0 ≤ (dstep n b p d).2 ∧ (dstep n b p d).2 < b := by
  have hp : (0 : Int) < 2 ^ n.toNat := Int.pow_pos (by decide)
  have e1 : 0 ≤ p.2 * 2 ^ n.toNat := Int.mul_nonneg h1 (Int.le_of_lt hp)
  have e2 : (p.2 + 1) * 2 ^ n.toNat ≤ b * 2 ^ n.toNat := Int.mul_le_mul_of_nonneg_right (by lia) (Int.le_of_lt hp)
  rw [Int.add_mul, Int.one_mul] at e2
  have e3 : p.2 * 2 ^ n.toNat + d < b * 2 ^ n.toNat := by lia
  refine ⟨by lia, e3, ?_, ?_, ?_, ?_⟩
  · rw [Int.fdiv_eq_ediv_of_nonneg _ (Int.le_of_lt hb)]; exact Int.ediv_nonneg (by lia) (Int.le_of_lt hb)
  · rw [Int.fdiv_eq_ediv_of_nonneg _ (Int.le_of_lt hb)]; exact Int.ediv_lt_of_lt_mul hb (by rw [Int.mul_comm (2 ^ n.toNat) b]; exact e3)
  · show 0 ≤ (p.2 * 2 ^ n.toNat + d).fmod b
    rw [Int.fmod_eq_emod_of_nonneg _ (Int.le_of_lt hb)]; exact Int.emod_nonneg _ (by lia)
  · show (p.2 * 2 ^ n.toNat + d).fmod b < b
    rw [Int.fmod_eq_emod_of_nonneg _ (Int.le_of_lt hb)]; exact Int.emod_lt_of_pos _ hb
theorem dfold_snoc (n b : Int) (xs : List Int) (d : Int) : dfold n b (xs ++ [d]) = dstep n b (dfold n b xs) d := by
  unfold dfold; rw [List.foldl_append]; rfl
structure DmM (m : Loc) (b n q : Value) : Prop where
  b : m (Str.ofString "b") = some b
  n : m (Str.ofString "n") = some n
  q : m (Str.ofString "q_digits") = some q
theorem DmM.put {m : Loc} {b n q v : Value} {x : PySem.Str} (M : DmM m b n q) (h1 : Str.ofString "b" ≠ x) (h2 : Str.ofString "n" ≠ x) (h3 : Str.ofString "q_digits" ≠ x) : DmM (put m x v) b n q := ⟨put_ne M.b h1, put_ne M.n h2, put_ne M.q h3⟩
theorem bits_b : ∀ wd : Nat, wd < 5 → Builtin.Int.intBits ((2 ^ wd : Nat) : Int) = wd + 1 := by decide +kernel
theorem intsAre_len {vs : List Value} {ds : List Int} (h : IntsAre vs ds) : vs.length = ds.length := h.length

theorem c_dmp (G : Gl w g) (wd a : Nat) (t1 t2 : Tok) (hw : wd < 5) (ha : a < 128) (hw2 : 2 ≤ wd) :
    Con w g 66 [.int a t1, .int ((2 ^ wd : Nat) : Int) t2] 30 330 (fun _ => True) (fun h v h' => ∃ r q1 q2, v = .ref r ∧ h'.get? r = some (tup [.int (dmp (wd + 1) (2 ^ wd) a).1 q1, .int (dmp (wd + 1) (2 ^ wd) a).2 q2]) ∧ Fr0 h r) := by
  intro A s Q E P O sz _ hQ
  have hnb : wd + 1 < 6 := by lia
  refine an6 (dig_ok (wd + 1) hnb a ha (by lia)) fun k1 k2 k3 k4 k5 k6 => ?_
  refine enter (d := 29) (u := 327) (binds := [(Str.ofString "a", .int a t1), (Str.ofString "b", .int ((2 ^ wd : Nat) : Int) t2)]) G (by rfl) (by rfl) (by kernel_rfl) (by rfl) (by rfl) P O sz fun L s₁ A P S => ?_
  refine wpAny_execs_cons (wpAny_Assign_Name (MethodCall_ (e_loc S (by rfl) (getMethod_int_bit_length (callWith_method0 (call_int_bit_length (st_loc S fun s₂ S => ?_)))))))
  rw [bits_b wd hw] at S
  refine wpAny_execs_cons (wpAny_Assign_Name (Call_Name rfl (e_glob G S (gn_i2d w) (callWith_K G.K (kp_i2d w) ?_))))
  refine spliced_more (e_loc S (by rfl) (spliced_more (e_loc S put_eq (spliced_none ⟨fun a o e => S.gk (G.K _ _ e), ?_⟩))))
  refine c_i2d G a (wd + 1) (nd (wd + 1) a) _ _ (by lia) (by lia) k1 k2 k3 (by lia) k4 _ _ _ _ (P.le (by lia) (by lia)) S.ok S.gsz trivial ?_
  refine fun _ s₃ e₃ O₃ X₃ h1 => ex3 h1 fun dl vs n0 h2 => an4 h2 fun e ed fd Iv => ?_
  clear h1 h2
  subst e
  have Iv : IntsAre vs (i2d (wd + 1) a (nd (wd + 1) a)) := by
    by_cases hz : a = 0
    · rw [if_pos hz, k5 hz] at Iv; rw [k5 hz]; exact Iv
    · rw [if_neg hz] at Iv; exact Iv
  have S := S.adopt (nw := [(dl, lst vs n0)]) e₃ X₃ O₃ (fun p hp => by rcases List.mem_cons.mp hp with rfl | hp; exact ⟨ed, fd⟩; cases hp)
  refine st_loc S fun s₄ S => ?_
  refine wpAny_execs_cons (wpAny_Assign_Name (wpAny_Constant_int (st_loc S fun s₅ S => ?_)))
  refine wpAny_execs_cons (wpAny_Assign_Name (List_ (spliced_none (n_list S fun qa s₆ S => st_loc S fun s₇ S => ?_))))
  revert Iv
  refine letterE (i2d (wd + 1) a (nd (wd + 1) a)) ?_
  intro ds hds Iv
  have hbd : ∀ d ∈ ds, 0 ≤ d ∧ d < 2 ^ (wd + 1) := by rw [← hds]; exact i2d_bd _ _ _
  have hlen : ds.length ≤ 20 := by rw [← hds, i2d_len]; exact k2
  have hlv : vs.length = ds.length := Iv.length
  have hpw : (2 : Int) ^ (wd + 1) ≤ 2 ^ 5 := by
    have : (2:Nat) ^ (wd + 1) ≤ 2 ^ 5 := Nat.pow_le_pow_right (by decide) (by lia)
    exact_mod_cast this
  have hB0 : (0 : Int) < ((2 ^ wd : Nat) : Int) := by
    have : 0 < 2 ^ wd := Nat.pow_pos (by decide)
    lia
  have hB1 : ((2 ^ wd : Nat) : Int) ≤ 16 := by
    have : (2:Nat) ^ wd ≤ 2 ^ 4 := Nat.pow_le_pow_right (by decide) (by lia)
    lia
  revert S hB0 hB1
  refine letterE (((2 ^ wd : Nat) : Int)) ?_
  intro bb hbb S hB0 hB1
  refine wpAny_execs_cons (wpAny_For (Call_Name rfl (e_bi G S (gn_reversed w) boot_reversed (Pv.callWith_type1 (spliced_more (e_loc S (put_ne (put_ne put_eq (by decide)) (by decide)) (spliced_none ?_)))))))
  refine call_reversed_list (isList_lst (S.geti (.head _))) ?_
  have S := S.of (tk := s₇.toks) (S.sh.push (revObj dl ((vs.toArray.size : Int) - 1)))
  revert S
  refine letter (s₇.heap.objs.size) ?_
  intro it S
  refine wpAny_pyIter_revIter (l := dl) ⟨_, S.get (.head _), rfl, rfl⟩ ?_
  refine l_for (own := [(qa, lst [] 0)]) (fr := []) (revIter w it dl vs n0) P.hh S ⟨rfl, by simp [revObj]⟩ (fun s' m' own' imm' S' hsub => S'.geti (hsub _ (.head _)))
    (fun i m own imm => DmM m (.int bb t2) (.int ((wd + 1 : Nat) : Int) s₁.toks) (.ref qa) ∧ ∃ qvs kk tr, own = [(qa, lst qvs kk)] ∧ m (Str.ofString "r") = some (.int (dfold ((wd + 1 : Nat) : Int) bb (ds.reverse.take i)).2 tr) ∧ IntsAre qvs (dfold ((wd + 1 : Nat) : Int) bb (ds.reverse.take i)).1 ∧ (∀ q ∈ (dfold ((wd + 1 : Nat) : Int) bb (ds.reverse.take i)).1, 0 ≤ q ∧ q < 2 ^ (wd + 1)) ∧ 0 ≤ (dfold ((wd + 1 : Nat) : Int) bb (ds.reverse.take i)).2 ∧ (dfold ((wd + 1 : Nat) : Int) bb (ds.reverse.take i)).2 < bb ∧ qvs.length = i) ?_ ?_ ?_
  · refine ⟨⟨by rfl, by rfl, put_eq⟩, [], 0, _, rfl, put_ne put_eq (by decide), ?_, ?_, ?_, hB0, rfl⟩
    · exact .nil
    · intro q hq; cases hq
    · exact Int.le_refl _
  · intro i m own imm s₈ v o hi hsub hJ hv S
    refine cut fun QQ hQ1 => ?_
    refine an2 hJ fun M h1 => ex3 h1 fun qvs kk tr h2 => an7 h2 fun e mr Iq hq hr0 hr1 hql => ?_
    clear hJ h1 h2
    subst e
    obtain ⟨td, hget⟩ := intsAre_get Iv.reverse i (by rw [List.length_reverse]; lia)
    rw [hv] at hget
    cases hget
    have hmem : ds.reverse.getD i 0 ∈ ds := by
      have hlt : i < ds.reverse.length := by rw [List.length_reverse]; lia
      have e : ds.reverse.getD i 0 = ds.reverse[i] := by rw [List.getD_eq_getElem?_getD, List.getElem?_eq_getElem hlt]; rfl
      rw [e]; exact List.mem_reverse.mp (List.getElem_mem hlt)
    have htk : ds.reverse.take (i + 1) = ds.reverse.take i ++ [ds.reverse.getD i 0] := by
      have hlt : i < ds.reverse.length := by rw [List.length_reverse]; lia
      rw [List.take_add_one]
      congr 1
      rw [List.getD_eq_getElem?_getD, List.getElem?_eq_getElem hlt]; rfl
    revert S hmem htk
    refine letter (ds.reverse.getD i 0) ?_
    intro d S hmem htk
    revert mr Iq hq hr0 hr1
    refine letterE (dfold ((wd + 1 : Nat) : Int) bb (ds.reverse.take i)) ?_
    intro p hp mr Iq hq hr0 hr1
    refine an6 (dstep_bd (n := ((wd + 1 : Nat) : Int)) (p := p) (d := d) hB0 hr0 hr1 (hbd d hmem).1 (by rw [Int.toNat_natCast]; exact (hbd d hmem).2)) fun b1 b2 b3 b4 b5 b6 => ?_
    have hpow : bb * (2 : Int) ^ ((wd + 1 : Nat) : Int).toNat ≤ 16 * 2 ^ 5 := by
      rw [Int.toNat_natCast]
      exact Int.mul_le_mul hB1 hpw (Int.le_of_lt (Int.pow_pos (by decide))) (by decide)
    refine wpAny_execs_cons (Assign_Tuple (Call_Name rfl (e_glob G S (gn_div2 w) (callWith_K G.K (kp_div2 w) ?_))))
    refine spliced_more (wpAny_BinOp (wpAny_BinOp (e_loc S (put_ne mr (by decide)) (e_loc S (put_ne M.n (by decide)) ?_))))
    refine lshift_int_small (by lia) (by lia) (by lia) (e_loc (S.of S.sh) put_eq (add_int ?_))
    refine norm (S.of S.sh) fun s₉ S => ?_
    refine spliced_more (e_loc S (put_ne M.b (by decide)) (spliced_more (e_loc S (put_ne M.n (by decide)) (spliced_none ⟨fun a o e => S.gk (G.K _ _ e), ?_⟩))))
    refine c_div2 G _ bb _ _ _ _ b1 (by lia) hB0 (by lia) (by lia) _ _ _ _ (P.le (by lia) (by lia)) S.ok S.gsz trivial ?_
    refine fun _ sa ea Oa Xa h1 => ex3 h1 fun ra u1 u2 h2 => an3 h2 fun e era fra => ?_
    clear h1 h2
    subst e
    have S := S.adopt (nw := [(ra, _)]) ea Xa Oa (fun p hp => by rcases List.mem_cons.mp hp with rfl | hp; exact ⟨era, fra⟩; cases hp)
    refine x_unpack2 P.hh S (S.geti (.head _)) fun sb S => ?_
    refine wpAny_execs_cons (wpAny_Expr (MethodCall_ (e_loc S (put_ne (put_ne (put_ne M.q (by decide)) (by decide)) (by decide)) (getMethod_list_append (S.get (a := qa) (o := lst qvs kk) (by first | exact m0 | exact m1 | exact m2 | exact m3 | exact m4 | exact m5 | exact m6 | simp)) rfl rfl (callWith_method1 (spliced_more (e_loc S (put_ne put_eq (by decide)) (spliced_none ?_))))))))
    refine a_append (l₁ := []) S (fun sc S => ?_) (by lia)
    refine wpAny_execs_nil (hQ1 _ _ ⟨_, _, _, S, fun p q => .tail _ (hsub _ q), ((M.put (by decide) (by decide) (by decide)).put (by decide) (by decide) (by decide)).put (by decide) (by decide) (by decide), _, _, u2, rfl, ?_⟩)
    rw [htk, dfold_snoc, hp]
    refine ⟨put_eq, Iq.append (.cons _ _ .nil), fun q hq' => ?_, b5, b6, by simp [hql]⟩
    rcases List.mem_append.mp hq' with h' | h'
    · exact hq q h'
    · rcases List.mem_cons.mp h' with rfl | h'
      · rw [Int.toNat_natCast] at b3 b4; exact ⟨b3, b4⟩
      · cases h'
  · refine fun s' m' own' imm' S hsub h0 => an2 h0 fun M h1 => ex3 h1 fun qvs kk tr h2 => an7 h2 fun e mr Iq hq hr0 hr1 hql => ?_
    clear h0 h1 h2
    subst e
    rw [List.take_of_length_le (by rw [List.length_reverse]; lia)] at mr Iq hq hr0 hr1
    refine wpAny_execs_cons (wpAny_Expr (MethodCall_ (e_loc S M.q (getMethod_list_of PySem.F.slot_list_reverse PySem.F.type_list_reverse (isList_lst (S.get (a := qa) (o := lst qvs kk) (by first | exact m0 | exact m1 | exact m2 | exact m3 | exact m4 | exact m5 | exact m6 | simp))) ?_ (callWith_method0 (a_reverse (l₁ := []) S (fun s₈ S => ?_) (by lia)))))))
    · exact ⟨_, S.get (a := qa) (o := lst qvs kk) (by first | exact m0 | exact m1 | exact m2 | exact m3 | exact m4 | exact m5 | exact m6 | simp), rfl⟩
    refine wpAny_execs_cons (wpAny_Assign_Name (Call_Name rfl (e_glob G S (gn_d2i w) (callWith_K G.K (kp_d2i w) ?_))))
    refine spliced_more (e_loc S M.q (spliced_more (e_loc S M.n (spliced_none ⟨fun a o e => S.gk (G.K _ _ e), ?_⟩))))
    have nq := S.neO (a := qa) (o := lst qvs.reverse kk) (by first | exact m0 | exact m1 | exact m2 | exact m3 | exact m4 | exact m5 | exact m6 | simp)
    have hl1 : (dfold ((wd + 1 : Nat) : Int) bb ds.reverse).1.length = vs.length := by rw [← Iq.length, hql]
    have hk3 : (wd + 1) * vs.length ≤ 25 := by
      rw [hlv, ← hds, i2d_len]; exact k6
    refine c_d2i G qa kk (wd + 1) _ _ _ Iq.reverse (by rw [List.length_reverse, hl1]; lia) (by lia) (d2i_sl (wd + 1) 32 (by lia) (by decide) _ (fun q h' => ?_) (by rw [List.length_reverse, hl1]; exact hk3)) _ _ _ _ (P.le (by lia) (by lia)) S.ok S.gsz ⟨nq.1, nq.2, S.get (by first | exact m0 | exact m1 | exact m2 | exact m3 | exact m4 | exact m5 | exact m6 | simp)⟩ ?_
    · have := hq q (List.mem_reverse.mp h'); lia
    rintro _ sa ea Oa Xa ⟨ta, rfl⟩
    have S := S.grow ea Xa Oa
    refine st_loc S fun sb S => ?_
    refine wpAny_execs_cons (wpAny_Return_some (Tuple_ (spliced_more (e_loc S put_eq (spliced_more (e_loc S (put_ne mr (by decide)) (spliced_none (n_tup S fun ra sc S => ?_))))))))
    refine hQ _ _ S.same S.ok S.ext ?_
    have e : dmp (wd + 1) (2 ^ wd) a = (d2i (wd + 1) (dfold ((wd + 1 : Nat) : Int) bb ds.reverse).1.reverse, (dfold ((wd + 1 : Nat) : Int) bb ds.reverse).2) := by
      unfold dmp; rw [hds, hbb]
    rw [e]
    exact ⟨ra, _, _, rfl, S.geti (.head _), (S.geI _ (.head _)).2⟩

noncomputable def idm (wd : Nat) (a : Int) : Int × Int := if a < 0 then (Builtin.bitNot (dmp (wd + 1) (2 ^ wd) (Builtin.bitNot a).toNat).1, ((2 ^ wd : Nat) : Int) + Builtin.bitNot (dmp (wd + 1) (2 ^ wd) (Builtin.bitNot a).toNat).2) else dmp (wd + 1) (2 ^ wd) a.toNat

theorem c_idm0 (G : Gl w g) (wd a : Nat) (t1 t2 : Tok) (hw : wd < 5) (ha : a < 128) (hw2 : 2 ≤ wd) :
    Con w g 73 [.int a t1, .int ((2 ^ wd : Nat) : Int) t2] 31 340 (fun _ => True) (fun h v h' => ∃ r q1 q2, v = .ref r ∧ h'.get? r = some (tup [.int (dmp (wd + 1) (2 ^ wd) a).1 q1, .int (dmp (wd + 1) (2 ^ wd) a).2 q2]) ∧ Fr0 h r) := by
  intro A s Q E P O sz _ hQ
  have hB0 : (0 : Int) < ((2 ^ wd : Nat) : Int) := by
    have : 0 < 2 ^ wd := Nat.pow_pos (by decide)
    lia
  refine enter (d := 30) (u := 337) (binds := [(Str.ofString "a", .int a t1), (Str.ofString "b", .int ((2 ^ wd : Nat) : Int) t2)]) G (by rfl) (by rfl) (by kernel_rfl) (by rfl) (by rfl) P O sz fun L s₁ A P S => ?_
  refine wpAny_execs_cons (wpAny_If (wpAny_isTrue_Compare1 (e_loc S (by rfl) (wpAny_Constant_int (eq_int (wpAny_truthy_bool ?_))))))
  refine ifneg (by rw [beq_iff_eq]; lia) ?_
  refine wpAny_execs_cons (wpAny_If (wpAny_isTrue_Compare1 (e_loc (S.of S.sh) (by rfl) (wpAny_Constant_int (lt_int (wpAny_truthy_bool ?_))))))
  refine ifneg (by rw [decide_eq_true_eq]; lia) ?_
  refine wpAny_execs_cons (wpAny_If (wpAny_isTrue_Compare1 (e_loc (S.of S.sh) (by rfl) (wpAny_Constant_int (lt_int (wpAny_truthy_bool ?_))))))
  refine ifneg (by rw [decide_eq_true_eq]; lia) ?_
  refine norm (S.of S.sh) fun s₂ S => ?_
  refine wpAny_execs_cons (wpAny_Return_some (Call_Name rfl (e_glob G S (gn_dmp w) (callWith_K G.K (kp_dmp w) ?_))))
  refine spliced_more (e_loc S (by rfl) (spliced_more (e_loc S (by rfl) (spliced_none ⟨fun a o e => S.gk (G.K _ _ e), ?_⟩))))
  refine c_dmp G wd a _ _ hw ha hw2 _ _ _ _ (P.le (by lia) (by lia)) S.ok S.gsz trivial ?_
  refine fun _ s₃ e₃ O₃ X₃ h1 => ex3 h1 fun r q1 q2 h2 => an3 h2 fun e er fr => ?_
  clear h1 h2
  subst e
  have S' := S.grow e₃ X₃ O₃
  exact hQ _ _ S'.same S'.ok S'.ext ⟨r, q1, q2, rfl, er, S.sh.fr0 fr⟩

theorem c_idm (G : Gl w g) (wd : Nat) (a : Int) (t1 t2 : Tok) (hw : wd < 5) (ha1 : -128 ≤ a) (ha2 : a < 128) (hw2 : 2 ≤ wd) :
    Con w g 73 [.int a t1, .int ((2 ^ wd : Nat) : Int) t2] 32 350 (fun _ => True) (fun h v h' => ∃ r q1 q2, v = .ref r ∧ h'.get? r = some (tup [.int (idm wd a).1 q1, .int (idm wd a).2 q2]) ∧ Fr0 h r) := by
  by_cases hneg : a < 0
  · intro A s Q E P O sz _ hQ
    have hB0 : (0 : Int) < ((2 ^ wd : Nat) : Int) := by
      have : 0 < 2 ^ wd := Nat.pow_pos (by decide)
      lia
    refine enter (d := 31) (u := 347) (binds := [(Str.ofString "a", .int a t1), (Str.ofString "b", .int ((2 ^ wd : Nat) : Int) t2)]) G (by rfl) (by rfl) (by kernel_rfl) (by rfl) (by rfl) P O sz fun L s₁ A P S => ?_
    refine wpAny_execs_cons (wpAny_If (wpAny_isTrue_Compare1 (e_loc S (by rfl) (wpAny_Constant_int (eq_int (wpAny_truthy_bool ?_))))))
    refine ifneg (by rw [beq_iff_eq]; lia) ?_
    refine wpAny_execs_cons (wpAny_If (wpAny_isTrue_Compare1 (e_loc (S.of S.sh) (by rfl) (wpAny_Constant_int (lt_int (wpAny_truthy_bool ?_))))))
    refine ifneg (by rw [decide_eq_true_eq]; lia) ?_
    refine wpAny_execs_cons (wpAny_If (wpAny_isTrue_Compare1 (e_loc (S.of S.sh) (by rfl) (wpAny_Constant_int (lt_int (wpAny_truthy_bool ?_))))))
    refine ifpos (by rw [decide_eq_true_eq]; lia) ?_
    refine norm (S.of S.sh) fun s₂ S => ?_
    refine wpAny_execs_cons (Assign_Tuple (Call_Name rfl (e_glob G S (gn_idm w) (callWith_K G.K (kp_idm w) ?_))))
    refine spliced_more (wpAny_UnaryOp (e_loc S (by rfl) (invert_int ?_)))
    refine norm (S.of S.sh) fun s₃ S => ?_
    refine spliced_more (e_loc S (by rfl) (spliced_none ⟨fun a o e => S.gk (G.K _ _ e), ?_⟩))
    have hbn : Builtin.bitNot a = ((Builtin.bitNot a).toNat : Int) := by unfold Builtin.bitNot; lia
    have hbl : (Builtin.bitNot a).toNat < 128 := by unfold Builtin.bitNot; lia
    rw [hbn]
    refine c_idm0 G wd _ _ _ hw hbl hw2 _ _ _ _ (P.le (by lia) (by lia)) S.ok S.gsz trivial ?_
    refine fun _ s₄ e₄ O₄ X₄ h1 => ex3 h1 fun r q1 q2 h2 => an3 h2 fun e er fr => ?_
    clear h1 h2
    subst e
    have S := S.adopt (nw := [(r, _)]) e₄ X₄ O₄ (fun p hp => by rcases List.mem_cons.mp hp with rfl | hp; exact ⟨er, fr⟩; cases hp)
    refine x_unpack2 P.hh S (S.geti (.head _)) fun s₅ S => ?_
    refine wpAny_execs_cons (wpAny_Return_some (Tuple_ (spliced_more (wpAny_UnaryOp (e_loc S (put_ne put_eq (by decide)) (invert_int ?_))))))
    refine norm (S.of S.sh) fun s₆ S => ?_
    refine spliced_more (wpAny_BinOp (e_loc S (by rfl) (wpAny_UnaryOp (e_loc S put_eq (invert_int (add_int ?_))))))
    refine norm (S.of S.sh) fun s₇ S => ?_
    refine spliced_none (n_tup S fun ra s₈ S => ?_)
    refine hQ _ _ S.same S.ok S.ext ?_
    have e : idm wd a = (Builtin.bitNot (dmp (wd + 1) (2 ^ wd) (Builtin.bitNot a).toNat).1, ((2 ^ wd : Nat) : Int) + Builtin.bitNot (dmp (wd + 1) (2 ^ wd) (Builtin.bitNot a).toNat).2) := if_pos hneg
    rw [e]
    exact ⟨ra, _, _, rfl, S.geti (.head _), (S.geI _ (.head _)).2⟩
  · have e : idm wd a = dmp (wd + 1) (2 ^ wd) a.toNat := if_neg hneg
    rw [e]
    obtain ⟨k, rfl⟩ := Int.eq_ofNat_of_zero_le (Int.not_lt.mp hneg)
    intro A s Q E P O sz _ hQ
    exact c_idm0 G wd k t1 t2 hw (by lia) hw2 A s Q E (P.le (by lia) (by lia)) O sz trivial hQ
end
end Mine
end

section
set_option compiler.extract_closed false
namespace Mine
open PySem PySem.W PyProof.Rows PySem.Calls

section
variable {w : World} {g : Heap} {b : Shared} {L : Addr} {m : Loc} {own imm : Led} {A : Around} {E : Value → Shared → Prop} {s : Shared} {env : Env} {value slice : Expr} {x : PySem.Str} {t : Tok} {Q : Value → Shared → Prop} {ops : List Value}
theorem a_slNS {j : Int} {u : Tok} (S : St g b L s m own imm) (h : ∀ t' s', St g b L s' m own imm → Q (.str (Txt.slice x none (some j)) t') s') (hsz : x.length ≤ 100000)
    (hs : subscripted slice false (.str x t) (.ref s.heap.objs.size) = operate ops (getItem (.str x t) (.ref s.heap.objs.size)) := by with_unfolding_all rfl)
    (ht : ∀ r, letTemporaryGo value (.str x t) r = pure () := by intro _; with_unfolding_all rfl) :
    wpAny (model P0 w) A (subscriptTail value slice (.str x t) (.ref s.heap.objs.size)) Q E { s with heap := s.heap.push { cls := .type "slice", data := .fields #[.none, .int j u, .none] } } :=
  tail_of_ItemOn (SBH.sliceItem_ns keptSt S.sh (fun h' t' k S' => h t' _ (S.of S')) (by rw [sizeLine_eq]; lia)) hs ht
theorem a_slSN {i : Int} {u : Tok} (S : St g b L s m own imm) (h : ∀ t' s', St g b L s' m own imm → Q (.str (Txt.slice x (some i) none) t') s') (hsz : x.length ≤ 100000)
    (hs : subscripted slice false (.str x t) (.ref s.heap.objs.size) = operate ops (getItem (.str x t) (.ref s.heap.objs.size)) := by with_unfolding_all rfl)
    (ht : ∀ r, letTemporaryGo value (.str x t) r = pure () := by intro _; with_unfolding_all rfl) :
    wpAny (model P0 w) A (subscriptTail value slice (.str x t) (.ref s.heap.objs.size)) Q E { s with heap := s.heap.push { cls := .type "slice", data := .fields #[.int i u, .none, .none] } } :=
  tail_of_ItemOn (SBH.sliceItem_sn keptSt S.sh (fun h' t' k S' => h t' _ (S.of S')) (by rw [sizeLine_eq]; lia)) hs ht
theorem a_lsl {l : Addr} {vs : List Value} {n : Nat} {vl vu vk : Value} {lo hi st : Option Int} (S : St g b L s m own imm) (hl : s.heap.get? l = some (lst vs n)) (pl : IsPart vl lo) (pu : IsPart vu hi) (pk : IsPart vk st) (h0 : st ≠ some 0) (hsz : vs.length ≤ 100000)
    (h : ∀ r s', St g b L s' m ((r, lst (slicePick vs.toArray lo hi st).toList 0) :: own) imm → Q (.ref r) s')
    (hs : subscripted slice false (.ref l) (.ref s.heap.objs.size) = operate ops (getItem (.ref l) (.ref s.heap.objs.size)) := by with_unfolding_all rfl) :
    wpAny (model P0 w) A (subscriptTail value slice (.ref l) (.ref s.heap.objs.size)) Q E { s with heap := s.heap.push { cls := .type "slice", data := .fields #[vl, vu, vk] } } := by
  have hl' := isList_lst hl
  refine tail_any (Heap.IsList.typeIs (s := { s with heap := s.heap.push { cls := .type "slice", data := .fields #[vl, vu, vk] } }) (hl'.push _)) list_getitem_lookup
    (wpAny_getItem_list_slice (hl'.push _) (Heap.IsSliceOf.new ..) pl pu pk h0 ?_ (by rw [List.size_toArray, sizeLine_eq]; lia)) hs
  have e : (slicePick vs.toArray lo hi st) = (slicePick vs.toArray lo hi st).toList.toArray := by simp
  rw [e]
  exact h _ _ (S.of ((S.sh.push0 _).push (lst (slicePick vs.toArray lo hi st).toList 0)))
theorem a_addList {l c : Addr} {vs ws : List Value} {n k : Nat} (S : St g b L s m own imm) (hl : s.heap.get? l = some (lst vs n)) (hc : s.heap.get? c = some (lst ws k)) (hsz : vs.length + ws.length ≤ 1000000)
    (h : ∀ r s', St g b L s' m ((r, lst (vs ++ ws) 0) :: own) imm → Q (.ref r) s') :
    wpAny (model P0 w) A (binaryOp .Add (.ref l) (.ref c)) Q E s := by
  refine PySem.P.add_list (n := n) (n2 := k) (items := vs.toArray) (items2 := ws.toArray) hl hc ?_ (by rw [List.size_toArray, List.size_toArray, sizeLine_eq]; lia)
  have e : vs.toArray ++ ws.toArray = (vs ++ ws).toArray := by simp
  rw [e]
  exact h _ _ (S.of (S.sh.push (lst (vs ++ ws) 0)))
/-- [v] * x, whatever the number -/
theorem a_repI {v : Value} {l : Addr} {n : Nat} {y : Int} {u : Tok} (S : St g b L s m own imm) (hm : (l, lst [v] n) ∈ own) (h1 : -100000 ≤ y) (h2 : y ≤ 100000)
    (h : ∀ r s', St g b L s' m ((r, lst (List.replicate y.toNat v) 0) :: own) imm → Q (.ref r) s') :
    wpAny (model P0 w) A (binaryOp .Mult (.ref l) (.int y u)) Q E s := by
  have hl : s.heap.get? l = some { cls := .type "list", data := .seq [v].toArray n } := S.get hm
  have hx : -(2 ^ 63 : Int) ≤ y ∧ y < 2 ^ 63 ∧ y.toNat ≤ 100000 := by lia
  obtain ⟨h3, h4, h5⟩ := hx
  have e : List.foldl (fun x1 x2 => x1 ++ x2) #[] (List.replicate (if ([v].toArray).isEmpty = true then 0 else y.toNat) [v].toArray) = (List.replicate y.toNat v).toArray := by
    rw [if_neg (by simp)]
    have := repl_flat v y.toNat #[]
    simpa using this
  have hq : Q (.ref s.heap.objs.size) { s with heap := s.heap.push { cls := .type "list", data := .seq (List.foldl (fun x1 x2 => x1 ++ x2) #[] (List.replicate (if ([v].toArray).isEmpty = true then 0 else y.toNat) [v].toArray)) } } := by
    rw [e]
    exact h _ _ (S.of (S.sh.push (lst (List.replicate y.toNat v) 0)))
  clear e h
  have hs1 : ([v].toArray).size = 1 := rfl
  generalize [v].toArray = items at hq hl hs1
  refine wpAny_binaryOp_repeat_ref (T := "list") (U := "int") (by decide) ⟨_, hl, rfl⟩ (fun s' => typeIs_int s' _ u) noFill_list_mul F.fills_int_mul F.slot_int_rmul repeat_list F.slot_int_index.lookup
    (call_meets F.slot_int_rmul (typeIs_int s _ u) F.entry_int_rmul (F.args_int_rmul_2 _ _) (int___rmul___int_list y u l items n)
      ⟨hl, rfl, ⟨_, hl, rfl⟩, call_meets F.slot_list_mul ⟨_, hl, rfl⟩ F.entry_list_mul (F.args_list_mul_2 _ _)
        (AutoListH.list___mul___list_int_3 l items n y u (by simp [Builtin.List.listFitsIndex]; lia) (by rw [hs1]; lia) (by simp [Builtin.List.listTooLong, sizeLine, hs1]; lia))
        ⟨hl, hq⟩⟩)
end

/-- a text of the two signs -/
def Signs (x : PySem.Str) : Prop := ∀ c ∈ x.cps.toList, c = 60 ∨ c = 62
theorem Signs.slice {x : PySem.Str} (h : Signs x) (l u : Option Int) : Signs (Txt.slice x l u) := by
  unfold Txt.slice
  split
  · exact h
  · intro c hc
    simp only at hc
    obtain ⟨i, _, e⟩ := List.mem_filterMap.mp hc
    exact h c (by rw [Array.mem_toList_iff]; exact Array.mem_of_getElem? e)
theorem Signs.ascii {x : PySem.Str} (h : Signs x) : ∀ c ∈ x.cps.toList, c < 128 := fun c hc => by have := h c hc; lia
theorem pick_mem {ns : List Int} {lo hi st : Option Int} {d : Int} (h : d ∈ pickNums ns lo hi st) : d ∈ ns := by
  unfold pickNums at h
  obtain ⟨i, _, e⟩ := List.mem_filterMap.mp h
  exact List.mem_of_getElem? e
end Mine
end

section
set_option compiler.extract_closed false
namespace Mine
open PySem PySem.W PyProof.Rows PySem.Calls

noncomputable def runGo (x : PySem.Str) : Nat → Nat → Nat
  | 0, r => r
  | f + 1, r => if decide ((r : Int) < x.length) && (Txt.item x r == Txt.item x 0) then runGo x f (r + 1) else r
noncomputable def runOf (x : PySem.Str) : Nat := runGo x x.length 0
abbrev sLt : PySem.Str := Str.ofString "<"
noncomputable def wWhole0 (x : PySem.Str) : Int := if Txt.slice x none (some 1) == sLt then (runOf x : Int) else -(runOf x : Int)
noncomputable def wWhole (x : PySem.Str) : Int := if runOf x < x.length then (if wWhole0 x > 0 then wWhole0 x - 1 else wWhole0 x) else wWhole0 x
noncomputable def bitOf (c : Nat) : Int := if c = 60 then 1 else 0
noncomputable def wBits (x : PySem.Str) : List Int := if runOf x < x.length then ((Txt.slice x (some ((runOf x : Int) + 1)) none).cps.toList.map bitOf) ++ [1] else []
noncomputable def wPlaces (x : PySem.Str) (wd : Nat) : List Int := wBits x ++ List.replicate ((wd : Int) - (wBits x).length).toNat 0
noncomputable def worth (x : PySem.Str) (wd : Nat) : Int := d2i 1 (pickNums (wPlaces x wd) none none (some (-1)) ++ [wWhole x])

theorem runGo_le (x : PySem.Str) : ∀ f r : Nat, r ≤ x.length → runGo x f r ≤ x.length := by
  intro f
  induction f with
  | zero => intro r h; exact h
  | succ f ih =>
    intro r h
    unfold runGo
    split
    · rename_i hc
      simp only [Bool.and_eq_true, decide_eq_true_eq] at hc
      exact ih _ (by lia)
    · exact h
theorem runOf_le (x : PySem.Str) : runOf x ≤ x.length := runGo_le x _ 0 (Nat.zero_le _)

theorem gn_ett (w : World) : nsIn (KH w) mainGlobals (Str.ofString "EXACT_TOKEN_TYPES") = some (some (.ref 15)) := by kernel_rfl
theorem gn_worth (w : World) : nsIn (KH w) mainGlobals (Str.ofString "_law_worth") = some (some (.ref 90)) := by kernel_rfl
theorem kp_worth (w : World) : keepIn (KH w) (.ref 90) = true := by kernel_rfl
theorem ett_lt (w : World) : ∃ t, nsIn (KH w) 15 (Str.ofString "<") = some (some (.int 20 t)) := ⟨_, by rfl⟩
theorem ett_gt (w : World) : ∃ t, nsIn (KH w) 15 (Str.ofString ">") = some (some (.int 21 t)) := ⟨_, by rfl⟩

section
variable {w : World} {g : Heap} {b : Shared} {L : Addr} {m : Loc} {own imm : Led} {A : Around} {E : Value → Shared → Prop} {s : Shared} {env : Env}
theorem x_val {c : Sem Value} {Q : Value → Shared → Prop} (R : Value → Shared → Prop) (h : wpAny (model P0 w) A c R (fun _ _ => False) s) (k : ∀ v s', R v s' → Q v s') : wpAny (model P0 w) A c Q E s := wpAny_mono h k fun _ _ e => e.elim
theorem x_stm {c : Sem Flow} {Q : Flow → Shared → Prop} (R : Flow → Shared → Prop) (h : wpAny (model P0 w) A c R (fun _ _ => False) s) (k : ∀ v s', R v s' → Q v s') : wpAny (model P0 w) A c Q E s := wpAny_mono h k fun _ _ e => e.elim
theorem part_some {e : Expr} {Q : Value → Shared → Prop} (h : wpAny (model P0 w) A (eval e env) Q E s) : wpAny (model P0 w) A (evalPart (some e) env) Q E s := h
theorem part_none {Q : Value → Shared → Prop} (h : Q .none s) : wpAny (model P0 w) A (evalPart none env) Q E s := wpAny_pure h
theorem x_while {test : Expr} {body : List Stmt} {pos : Pos} {Q : Flow → Shared → Prop} (J : Nat → Loc → Led → Led → Prop) (F : Loc → Led → Led → Prop) (n₀ : Nat) (S : St g b L s m own imm) (h0 : J n₀ m own imm)
    (step : ∀ n m own imm s, St g b L s m own imm → J n m own imm → wpAny (model P0 w) A (isTrue test env (eval test env)) (fun c s₂ =>
      if c = true then wpAny (model P0 w) A (execs body env) (fun f s₃ => f = .next ∧ ∃ k m' own' imm', k < n ∧ St g b L s₃ m' own' imm' ∧ J k m' own' imm') (fun _ _ => False) s₂
      else ∃ m' own' imm', St g b L s₂ m' own' imm' ∧ F m' own' imm') (fun _ _ => False) s)
    (fin : ∀ s' m' own' imm', St g b L s' m' own' imm' → F m' own' imm' → Q .next s') :
    wpAny (model P0 w) A (exec (.While test body [] pos) env) Q E s := by
  refine wpAny_While (codeAny_whileLoop (fun n s' => ∃ m' own' imm', St g b L s' m' own' imm' ∧ J n m' own' imm') ?_ n₀ ⟨m, own, imm, S, h0⟩)
  rintro n s₁ ⟨m₁, own₁, imm₁, S₁, h₁⟩
  refine wpAny_mono (step n m₁ own₁ imm₁ s₁ S₁ h₁) (fun c s₂ h₂ => ?_) fun _ _ e => e.elim
  cases c with
  | false =>
    rw [if_neg Bool.false_ne_true] at h₂ ⊢
    obtain ⟨m', own', imm', S', hF⟩ := h₂
    exact wpAny_execs_nil (fin _ _ _ _ S' hF)
  | true =>
    rw [if_pos rfl] at h₂ ⊢
    refine wpAny_mono h₂ (fun f s₃ h₃ => ?_) fun _ _ e => e.elim
    obtain ⟨rfl, k, m', own', imm', hk, S', hJ⟩ := h₃
    exact ⟨k, hk, m', own', imm', S', hJ⟩
end
theorem ett_tab (w : World) : ∃ es n, (KH w).lookup 15 = some ⟨.type "dict", none, .dict es n, #[]⟩ ∧ KeysLit w.params es.toList := ⟨_, _, by rfl, by k_keys⟩
structure WoM (m : Loc) (a b : Value) : Prop where
  st : m (Str.ofString "stalk") = some a
  wd : m (Str.ofString "width") = some b
theorem WoM.put {m : Loc} {a b v : Value} {x : PySem.Str} (M : WoM m a b) (h1 : Str.ofString "stalk" ≠ x) (h2 : Str.ofString "width" ≠ x) : WoM (put m x v) a b := ⟨put_ne M.st h1, put_ne M.wd h2⟩
section
variable {w : World} {g : Heap}
set_option maxHeartbeats 1000000
theorem c_worth (G : Gl w g) (x : PySem.Str) (t : Tok) (wd : Nat) (t' : Tok) (hx : Signs x) (hlen : x.length ≤ 10) (hw : wd ≤ 4) :
    Con w g 90 [.str x t, .int wd t'] 27 320 (fun _ => True) (fun _ v _ => ∃ t'', v = .int (worth x wd) t'') := by
  intro A s Q E P O sz _ hQ
  refine enter (d := 26) (u := 317) (binds := [(Str.ofString "stalk", .str x t), (Str.ofString "width", .int wd t')]) G (by rfl) (by rfl) (by kernel_rfl) (by rfl) (by rfl) P O sz fun L s₁ A P S => ?_
  refine xs fun _ hn => (wpAny_Assign_Name (wpAny_Constant_int (st_loc S fun s₂ S => hn _ ?_)))
  have M0 : WoM (put (fun x_1 => List.lookup x_1 [(Str.ofString "stalk", Value.str x t), (Str.ofString "width", Value.int (↑wd) t')].reverse) (Str.ofString "run") (.int 0 s₁.toks)) (.str x t) (.int wd t') := ⟨by rfl, by rfl⟩
  refine xs fun _ hn => (x_while (fun n m own imm => own = [] ∧ imm = [] ∧ WoM m (.str x t) (.int wd t') ∧ ∃ (r : Nat) (tr : Tok), m (Str.ofString "run") = some (.int r tr) ∧ runGo x n r = runOf x ∧ n + r = x.length)
    (fun m own imm => own = [] ∧ imm = [] ∧ WoM m (.str x t) (.int wd t') ∧ ∃ (tr : Tok), m (Str.ofString "run") = some (.int (runOf x) tr)) x.length S ⟨rfl, rfl, M0, 0, _, put_eq, rfl, rfl⟩ ?_ ?_)
  · intro n m own imm s₃ S hJ
    refine cut fun QQ hQ1 => ?_
    refine an4 hJ fun e1 e2 M h1 => ex2 h1 fun r tr h2 => an3 h2 fun mr hrun hnr => ?_
    clear hJ h1 h2
    subst e1 e2
    refine isTrue_and (wpAny_isTrue_Compare1 (e_loc S mr (Call_Name rfl (e_bi G S (gn_len w) boot_len (callWith_method1 (spliced_more (e_loc S M.st (spliced_none (len_str (by lia) ?_)))))))))
    refine norm (S.of S.sh) fun s₄ S => ?_
    refine lt_int (wpAny_truthy_bool ?_)
    by_cases h1 : (r : Int) < x.length
    · refine ifpos (by rw [decide_eq_true_eq]; exact h1) ?_
      refine isTrue_and (wpAny_isTrue_Compare1 (Subscript_ (e_loc S M.st (e_loc S mr (item_str (fitsI (by lia) (by lia)) (by lia) (by lia) fun _ => ?_)))))
      refine norm (S.of S.sh) fun s₅ S => ?_
      refine Subscript_ (e_loc S M.st (wpAny_Constant_int (item_str (fitsI (by lia) (by lia)) (by lia) (by lia) fun _ => ?_)))
      refine norm (S.of S.sh) fun s₆ S => ?_
      refine eq_str (wpAny_truthy_bool ?_)
      obtain ⟨n, rfl⟩ : ∃ n', n = n' + 1 := ⟨n - 1, by lia⟩
      unfold runGo at hrun
      by_cases h2 : (Txt.item x (r : Int) == Txt.item x 0) = true
      · refine ifpos h2 ?_
        refine isTrue_and_nil ?_
        refine hQ1 _ _ ?_
        refine ifpos rfl ?_
        refine wpAny_execs_cons (wpAny_AugAssign_Name (e_ldn S mr (wpAny_Constant_int (iadd_int (st_loc (S.of S.sh) fun s₇ S => wpAny_execs_nil ⟨rfl, n, _, _, _, by lia, S, rfl, rfl, M.put (by decide) (by decide), r + 1, _, put_eq, ?_, by lia⟩)))))
        rw [if_pos (by simp only [Bool.and_eq_true, decide_eq_true_eq]; exact ⟨h1, h2⟩)] at hrun
        exact hrun
      · refine ifneg h2 ?_
        refine hQ1 _ _ ?_
        refine ifneg (by simp) ?_
        rw [if_neg (by simp only [Bool.and_eq_true, not_and]; exact fun _ => h2)] at hrun
        exact ⟨_, _, _, S, rfl, rfl, M, tr, by rw [← hrun]; exact mr⟩
    · refine ifneg (by rw [decide_eq_true_eq]; exact h1) ?_
      refine hQ1 _ _ ?_
      refine ifneg (by simp) ?_
      have hn0 : n = 0 := by lia
      subst hn0
      exact ⟨_, _, _, S, rfl, rfl, M, tr, by rw [← hrun]; exact mr⟩
  refine fun s₃ m _ _ S h1 => an4 h1 fun e1 e2 M h2 => h2.elim fun tr mr => ?_
  clear h1 h2
  subst e1 e2
  refine hn _ ?_
  clear M0
  have hrl := runOf_le x
  refine xs fun _ hn => (wpAny_Assign_Name (x_val (fun v s' => ∃ tv, v = .int (wWhole0 x) tv ∧ St g s L s' m [] []) ?_ ?_))
  · refine IfExp_ (wpAny_isTrue_Compare1 (Subscript_ (e_loc S M.st (wpAny_Slice (part_none (part_some (wpAny_Constant_int (part_none ?_))))))))
    refine a_slNS S (fun t1 s₄ S => ?_) (by lia)
    refine Constant_str (eq_str (wpAny_truthy_bool ?_))
    by_cases h1 : (Txt.slice x none (some 1) == sLt) = true
    · refine ifpos h1 ?_
      exact e_loc S mr ⟨_, by unfold wWhole0; rw [if_pos h1], S⟩
    · refine ifneg h1 ?_
      exact wpAny_UnaryOp (e_loc S mr (neg_int ⟨_, by unfold wWhole0; rw [if_neg h1], S.of S.sh⟩))
  rintro _ s₄ ⟨tv, rfl, S⟩
  refine st_loc S fun s₅ S => hn _ ?_
  refine xs fun _ hn => (wpAny_Assign_Name (List_ (spliced_none (n_list S fun bl s₆ S => st_loc S fun s₇ S => hn _ ?_))))
  have M := (M.put (x := Str.ofString "whole") (v := .int (wWhole0 x) tv) (by decide) (by decide)).put (x := Str.ofString "bits") (v := .ref bl) (by decide) (by decide)
  have mr : put (put m (Str.ofString "whole") (.int (wWhole0 x) tv)) (Str.ofString "bits") (.ref bl) (Str.ofString "run") = _ := put_ne (put_ne mr (by decide)) (by decide)
  have mw : put (put m (Str.ofString "whole") (.int (wWhole0 x) tv)) (Str.ofString "bits") (.ref bl) (Str.ofString "whole") = _ := put_ne put_eq (by decide)
  have mb : put (put m (Str.ofString "whole") (.int (wWhole0 x) tv)) (Str.ofString "bits") (.ref bl) (Str.ofString "bits") = _ := put_eq
  revert S M mr mw mb
  refine letter (put (put m (Str.ofString "whole") (.int (wWhole0 x) tv)) (Str.ofString "bits") (.ref bl)) ?_
  intro m S M mr mw mb
  refine xs fun _ hn => (x_stm (fun f s' => f = .next ∧ ∃ m' bl bvs kb tv own, WoM m' (.str x t) (.int wd t') ∧ m' (Str.ofString "whole") = some (.int (wWhole x) tv) ∧ m' (Str.ofString "bits") = some (.ref bl) ∧ St g s L s' m' ((bl, lst bvs kb) :: own) [] ∧ IntsAre bvs (wBits x)) ?_ ?_)
  · refine cut fun QQ hQ2 => ?_
    refine wpAny_If (wpAny_isTrue_Compare1 (e_loc S mr (Call_Name rfl (e_bi G S (gn_len w) boot_len (callWith_method1 (spliced_more (e_loc S M.st (spliced_none (len_str (by lia) ?_)))))))))
    refine norm (S.of S.sh) fun s₈ S => ?_
    refine lt_int (wpAny_truthy_bool ?_)
    by_cases h1 : runOf x < x.length
    · refine ifpos (by rw [decide_eq_true_eq]; lia) ?_
      refine xs fun _ hn => (wpAny_Assign_Name (x_val (fun v s' => ∃ tv, v = .int (wWhole x) tv ∧ St g s L s' m [(bl, lst [] 0)] []) ?_ ?_))
      · refine IfExp_ (wpAny_isTrue_Compare1 (e_loc S mw (wpAny_Constant_int (gt_int (wpAny_truthy_bool ?_)))))
        by_cases h2 : wWhole0 x > 0
        · refine ifpos (by simpa using h2) ?_
          exact wpAny_BinOp (e_loc (S.of S.sh) mw (wpAny_Constant_int (sub_int ⟨_, by unfold wWhole; rw [if_pos h1, if_pos h2], S.of S.sh⟩)))
        · refine ifneg (by simpa using h2) ?_
          exact e_loc (S.of S.sh) mw ⟨_, by unfold wWhole; rw [if_pos h1, if_neg h2], S.of S.sh⟩
      rintro _ s₉ ⟨tw, rfl, S⟩
      refine st_loc S fun sa S => hn _ ?_
      have M := M.put (x := Str.ofString "whole") (v := .int (wWhole x) tw) (by decide) (by decide)
      have mr := put_ne (x := Str.ofString "whole") (v := .int (wWhole x) tw) mr (by decide)
      have mw : put m (Str.ofString "whole") (.int (wWhole x) tw) (Str.ofString "whole") = _ := put_eq
      revert S M mr mw
      refine letter (put m (Str.ofString "whole") (.int (wWhole x) tw)) ?_
      intro m S M mr mw
      refine xs fun _ hn => (wpAny_Assign_Name (wpAny_BinOp (ListComp_ (g := g) (b := s) (L := L) (by rfl) ?_ P.hh)))
      refine Subscript_ (e_loc S M.st (wpAny_Slice (part_some (wpAny_BinOp (e_loc S mr (wpAny_Constant_int (add_int (part_none (part_none ?_)))))))))
      refine a_slSN (S.of S.sh) (fun t1 sb S => ?_) (by lia)
      have hy := hx.slice (some ((runOf x : Int) + 1)) none
      have hyl := Txt.slice_le x (some ((runOf x : Int) + 1)) none
      revert hy hyl
      refine letterE (Txt.slice x (some ((runOf x : Int) + 1)) none) ?_
      intro y hyd hy hyl
      refine wpAny_pyIter_ascii (by rw [Array.all_eq_true']; intro c hc; exact decide_eq_true (hy.ascii c (by simpa using hc))) ?_
      have S := S.of (tk := sb.toks) (S.sh.push { cls := .type "str_ascii_iterator", data := .fields #[.str y t1, .int 0 0] })
      refine CompGo.mk (fun q its own₁ imm₁ => own₁ = [] ∧ IntsAre its ((y.cps.toList.take q).map bitOf)) (strIter w _ y t1) ⟨rfl, rfl⟩ S (fun _ _ _ _ _ _ _ => trivial) ⟨rfl, .nil⟩ ?_ ?_ ?_
      · rintro q its own₁ imm₁ ⟨_, I⟩
        have h3 : its.length ≤ y.cps.size := by
          rw [I.length, List.length_map, List.length_take, Array.length_toList]
          exact Nat.min_le_right _ _
        have h4 : y.cps.size ≤ x.length := hyl
        lia
      · intro q C acc its kk own₁ imm₁ mC sc v oI oL hq hsub hJ hv S
        refine wpAny_pure ?_
        refine ifpos rfl ?_
        refine cut fun QQ hQ1 => ?_
        obtain ⟨rfl, I⟩ := hJ
        obtain ⟨c, tc, hc, rfl⟩ := hv
        obtain ⟨es, n, hes, hkeys⟩ := ett_tab w
        have hcs : c = 60 ∨ c = 62 := hy c (by rw [Array.mem_toList_iff]; exact Array.mem_of_getElem? hc)
        have htk : (y.cps.toList.take (q + 1)).map bitOf = (y.cps.toList.take q).map bitOf ++ [bitOf c] := by
          rw [List.take_add_one, List.map_append]
          congr 1
          rw [Array.getElem?_toList, hc]; rfl
        have key : ∃ (k : Int) (tk : Tok), nsIn (KH w) 15 ⟨#[c]⟩ = some (some (.int k tk)) ∧ 21 - k = bitOf c := by
          rcases hcs with rfl | rfl
          · obtain ⟨tk, e⟩ := ett_lt w; exact ⟨20, tk, e, rfl⟩
          · obtain ⟨tk, e⟩ := ett_gt w; exact ⟨21, tk, e, rfl⟩
        obtain ⟨k, tk, ek, eb⟩ := key
        refine wpAny_BinOp (wpAny_Constant_int (Subscript_ (e_glob G (S.of S.sh) (gn_ett w) (e_loc (S.of S.sh) put_eq (topItem_K S.sh.fr G.K hes hkeys ek (sub_int ?_))))))
        rw [eb]
        refine hQ1 _ _ ⟨[], imm₁, _, S.of S.sh, hsub, rfl, ?_⟩
        rw [htk]
        exact I.append (.cons _ _ .nil)
      rintro acc its k own' imm' _ ⟨rfl, I⟩ sc S
      rw [List.take_of_length_le (by rw [Array.length_toList]; exact Nat.le_refl _)] at I
      have hil : its.length ≤ 100 := by
        rw [I.length, List.length_map, Array.length_toList]
        have h4 : y.cps.size ≤ x.length := hyl
        lia
      refine List_ (spliced_more (wpAny_Constant_int (spliced_none (n_list (S.of S.sh) fun l1 sd S => ?_))))
      refine a_addList S (S.get (a := acc) (o := lst its k) (by first | exact m0 | exact m1 | exact m2 | exact m3 | exact m4 | exact m5 | exact m6 | simp)) (S.get (.head _)) (by simp; lia) fun br se S => ?_
      refine st_loc S fun sf S => hn _ ?_
      have I1 : imm' = [] ∨ True := .inr trivial
      refine wpAny_execs_nil (hQ2 _ _ ⟨rfl, _, br, _, 0, tw, _, M.put (by decide) (by decide), put_ne mw (by decide), put_eq, S.dropI (fun p hp => nomatch hp), ?_⟩)
      unfold wBits; rw [if_pos h1, hyd]
      exact I.append (.cons _ _ .nil)
    · refine ifneg (by rw [decide_eq_true_eq]; lia) ?_
      refine wpAny_execs_nil (hQ2 _ _ ⟨rfl, _, bl, [], 0, tv, [], M, ?_, mb, S, ?_⟩)
      · rw [mw]
        unfold wWhole; rw [if_neg h1]
      · unfold wBits; rw [if_neg h1]; exact .nil
  rintro _ s₈ ⟨rfl, m, bl, bvs, kb, tv, own, M, mw, mb, S, Ib⟩
  refine hn _ ?_
  have hbl : (wBits x).length ≤ 11 := by
    unfold wBits
    split
    · rw [List.length_append, List.length_map, Array.length_toList]
      have h4 : (Txt.slice x (some ((runOf x : Int) + 1)) none).cps.size ≤ x.length := Txt.slice_le x (some ((runOf x : Int) + 1)) none
      simp only [List.length_singleton]
      lia
    · simp
  have hbl2 : bvs.length = (wBits x).length := Ib.length
  have hbb : ∀ d ∈ wBits x, d.natAbs ≤ 1 := by
    intro d hd
    unfold wBits at hd
    split at hd
    · rcases List.mem_append.mp hd with h' | h'
      · obtain ⟨c, _, rfl⟩ := List.mem_map.mp h'
        unfold bitOf; split <;> simp
      · rcases List.mem_cons.mp h' with rfl | h'
        · simp
        · cases h'
    · cases hd
  refine xs fun _ hn => (wpAny_Assign_Name (wpAny_BinOp (e_loc S mb (wpAny_BinOp (List_ (spliced_more (wpAny_Constant_int (spliced_none (n_list (S.of S.sh) fun l1 s₉ S => ?_)))))))))
  refine wpAny_BinOp (e_loc S M.wd (Call_Name rfl (e_bi G S (gn_len w) boot_len (callWith_method1 (spliced_more (e_loc S mb (spliced_none ?_)))))))
  refine len_list (isList_lst (S.get (a := bl) (o := lst bvs kb) (by first | exact m0 | exact m1 | exact m2 | exact m3 | exact m4 | exact m5 | exact m6 | simp))) (by rw [List.size_toArray]; lia) ?_
  rw [List.size_toArray, hbl2]
  refine sub_int (a_repI (S.of S.sh) (.head _) (by lia) (by lia) fun l2 sa S => ?_)
  refine a_addList S (S.get (a := bl) (o := lst bvs kb) (by first | exact m0 | exact m1 | exact m2 | exact m3 | exact m4 | exact m5 | exact m6 | simp)) (S.get (.head _)) (by simp; lia) fun pl sb S => ?_
  refine st_loc S fun sc S => hn _ ?_
  have Ip : IntsAre (bvs ++ List.replicate ((wd : Int) - (wBits x).length).toNat (Value.int 0 s₈.toks)) (wPlaces x wd) := Ib.append (intsAre_rep 0 _ _)
  have hpl : (wPlaces x wd).length ≤ 15 := by unfold wPlaces; rw [List.length_append, List.length_replicate]; lia
  have hpb : ∀ d ∈ wPlaces x wd, d.natAbs ≤ 1 := by
    intro d hd
    unfold wPlaces at hd
    rcases List.mem_append.mp hd with h' | h'
    · exact hbb d h'
    · rw [(List.mem_replicate.mp h').2]; simp
  revert S Ip
  refine letter (bvs ++ List.replicate ((wd : Int) - (wBits x).length).toNat (Value.int 0 s₈.toks)) ?_
  intro pvs S Ip
  have hpv : pvs.length ≤ 15 := by rw [Ip.length]; exact hpl
  refine wpAny_execs_cons (wpAny_Return_some (Call_Name rfl (e_glob G S (gn_d2i w) (callWith_K G.K (kp_d2i w) (spliced_more (wpAny_BinOp (Subscript_ (e_loc S put_eq (wpAny_Slice (part_none (part_none (part_some ?_))))))))))))
  refine wpAny_UnaryOp (wpAny_Constant_int (neg_int ?_))
  refine a_lsl (lo := none) (hi := none) (st := some (-1)) (S.of S.sh) (S.get (.head _)) .none .none (.int _ _) (by decide) (by lia) fun rl sd S => ?_
  have Ir := Ip.pick none none (some (-1))
  have hrl2 := length_pickNums_le Ip none none (some (-1))
  revert S Ir
  refine letter ((slicePick pvs.toArray none none (some (-1))).toList) ?_
  intro rvs S Ir
  have hrv : rvs.length ≤ 15 := by rw [Ir.length]; lia
  refine List_ (spliced_more (e_loc S (put_ne mw (by decide)) (spliced_none (n_list S fun l3 se S => ?_))))
  refine a_addList S (S.get (a := rl) (o := lst rvs 0) (by first | exact m0 | exact m1 | exact m2 | exact m3 | exact m4 | exact m5 | exact m6 | simp)) (S.get (.head _)) (by simp; lia) fun dl sf S => ?_
  have Id : IntsAre (rvs ++ [Value.int (wWhole x) tv]) (pickNums (wPlaces x wd) none none (some (-1)) ++ [wWhole x]) := Ir.append (.cons _ _ .nil)
  have nd := S.neO (.head _)
  refine spliced_more (wpAny_Constant_int (spliced_none ⟨fun a o e => S.gk (G.K _ _ e), ?_⟩))
  have hww : (wWhole x).natAbs ≤ 10 := by
    have : (wWhole0 x).natAbs ≤ 10 := by unfold wWhole0; split <;> lia
    unfold wWhole; split
    · split <;> lia
    · exact this
  have hdl : (pickNums (wPlaces x wd) none none (some (-1)) ++ [wWhole x]).length ≤ 16 := by rw [List.length_append, List.length_singleton]; lia
  refine c_d2i G dl 0 1 _ _ _ Id (by lia) (by lia) (d2i_sl 1 10 (by lia) (by decide) _ (fun d hd => ?_) (by lia)) _ _ _ _ (P.le (by lia) (by lia)) S.ok S.gsz ⟨nd.1, nd.2, S.get (.head _)⟩ ?_
  · rcases List.mem_append.mp hd with h' | h'
    · have := hpb d (pick_mem h'); lia
    · rcases List.mem_cons.mp h' with rfl | h'
      · exact hww
      · cases h'
  rintro _ sg eg Og Xg ⟨tg, rfl⟩
  have S := S.grow eg Xg Og
  exact hQ _ _ S.same S.ok S.ext ⟨tg, rfl⟩
end
end Mine
end

section
set_option compiler.extract_closed false
namespace Mine
open PySem PySem.W PyProof.Rows PySem.Calls

abbrev sGt : PySem.Str := Str.ofString ">"
abbrev sNo : PySem.Str := Str.ofString ""
noncomputable def stPl (wd : Nat) (n : Int) : List Int := i2d 1 ((idm wd n).2 + ((2 ^ wd : Nat) : Int)).toNat (nd 1 ((idm wd n).2 + ((2 ^ wd : Nat) : Int)).toNat)
noncomputable def signOf (b : Int) : PySem.Str := if b == 1 then sLt else sGt
noncomputable def stTail (wd : Nat) (n : Int) : List PySem.Str := (pickNums (pickNums (stPl wd n) (some (((stPl wd n).idxOf 1 : Nat) + 1)) (some wd) none) none none (some (-1))).map signOf
noncomputable def stFront (wd : Nat) (n : Int) : PySem.Str := if (idm wd n).1 ≥ 0 then Txt.mul sLt ((idm wd n).1 + 1) ++ sGt else Txt.mul sGt (-(idm wd n).1) ++ sLt
noncomputable def stalkOf (wd : Nat) (n : Int) : PySem.Str :=
  if (idm wd n).2 == 0 then Txt.mul sLt (idm wd n).1 ++ Txt.mul sGt (-(idm wd n).1)
  else stFront wd n ++ Txt.join sNo (stTail wd n)
noncomputable def stB (wd k : Nat) : Bool := let n : Int := (k : Int) - 100
  decide (wd < 2) || decide (0 ≤ (idm wd n).2) && decide ((idm wd n).2 < 2 ^ wd) && decide (-50 ≤ (idm wd n).1) && decide ((idm wd n).1 ≤ 50) && ((idm wd n).2 == 0 || (stPl wd n).contains 1)
theorem st_all : ∀ wd : Nat, wd < 5 → ∀ k : Nat, k < 201 → stB wd k = true := by decide +kernel
theorem st_ok {wd : Nat} {n : Int} (hw : wd < 5) (hw2 : 2 ≤ wd) (h1 : -100 ≤ n) (h2 : n ≤ 100) : 0 ≤ (idm wd n).2 ∧ (idm wd n).2 < 2 ^ wd ∧ -50 ≤ (idm wd n).1 ∧ (idm wd n).1 ≤ 50 ∧ ((idm wd n).2 ≠ 0 → 1 ∈ stPl wd n) := by
  have := st_all wd hw (n + 100).toNat (by lia)
  have e : (((n + 100).toNat : Nat) : Int) - 100 = n := by lia
  unfold stB at this
  simp only [e, Bool.and_eq_true, Bool.or_eq_true, decide_eq_true_eq, beq_iff_eq, List.contains_iff_mem] at this
  obtain ⟨⟨⟨⟨a, b⟩, c⟩, d⟩, e'⟩ := this.resolve_left (by lia)
  exact ⟨a, b, c, d, fun h => e'.resolve_left h⟩
theorem mul_len : ∀ k : Nat, k < 101 → (Txt.mul sLt (k : Int)).length ≤ 100 ∧ (Txt.mul sGt (k : Int)).length ≤ 100 := by decide +kernel
theorem mul_lenI {n : Int} (h : n ≤ 100) : (Txt.mul sLt n).length ≤ 100 ∧ (Txt.mul sGt n).length ≤ 100 := by
  by_cases h0 : n < 1
  · unfold Txt.mul; simp only [if_pos h0]; exact ⟨by decide, by decide⟩
  · have := mul_len n.toNat (by lia)
    rwa [Int.toNat_of_nonneg (by lia)] at this
theorem mulOkS {x : PySem.Str} {n : Int} (hx : x.length = 1) (h1 : -100 ≤ n) (h2 : n ≤ 100) : MulOk x n := by
  refine ⟨by simp; lia, fun h _ => ?_, fun _ _ => ?_⟩
  · rw [hx]
    have : (1 : Int) ≤ (2 ^ 63 - 1) / n := by
      rw [Int.le_ediv_iff_mul_le (by lia)]; lia
    lia
  · rw [hx]; unfold Builtin.Str.tooLong; simp [sizeLine_eq]; lia
theorem strsAre_len {vs : List Value} {ys : List PySem.Str} (h : StrsAre vs ys) : vs.length = ys.length := h.len_eq
section
variable {w : World} {g : Heap} {b : Shared} {L : Addr} {m : Loc} {own imm : Led} {A : Around} {E : Value → Shared → Prop} {s : Shared} {Q : Value → Shared → Prop}
theorem a_index {l : Addr} {vs : List Value} {n : Nat} {ns : List Int} {k : Int} {t : Tok} (hl : s.heap.get? l = some (lst vs n)) (hi : IntsAre vs ns) (hb : ns.length ≤ 100000) (hk : k ∈ ns)
    (h : Q (.int (ns.idxOf k : Nat) s.toks) { s with toks := s.toks + 1 }) :
    wpAny (model P0 w) A (call (.builtin "list.index") [.ref l, .int k t]) Q E s := by
  have hlen := hi.length
  have hj : ns.idxOf k < ns.length := List.idxOf_lt_length_iff.mpr hk
  refine call_meets PySem.F.slot_list_index ⟨_, hl, rfl⟩ PySem.F.entry_list_index (PySem.F.args_list_index_2 _ _)
    (PySem.SeqAt.list_indexAt l vs.toArray n none #[] (.int k t) (isInt k) (ns.idxOf k) (by simpa [hlen] using hj) (by lia) ?_ ?_) ⟨hl, fun y hy => (eq_isInt k t hi y (by simpa using hy)).at _ _, h⟩
  · show isInt k vs[ns.idxOf k] = true
    rw [isInt_at k hi _ (by lia) hj]
    simpa using List.getElem_idxOf hj
  · intro j hjs hlt
    show isInt k vs[j] = false
    rw [isInt_at k hi j (by simpa using hjs) (by lia)]
    exact ne_of_lt_idxOf hlt _
end

theorem gn_stalk (w : World) : nsIn (KH w) mainGlobals (Str.ofString "_law_stalk") = some (some (.ref 95)) := by kernel_rfl
theorem kp_stalk (w : World) : keepIn (KH w) (.ref 95) = true := by kernel_rfl
theorem signOf_len (b : Int) : (signOf b).length = 1 := by unfold signOf; split <;> rfl
theorem sum_signs (l : List Int) : ((l.map signOf).map (·.length)).sum = l.length := by
  induction l with
  | nil => rfl
  | cons a r ih => simp only [List.map_cons, List.sum_cons, ih, signOf_len, List.length_cons]; lia
section
variable {w : World} {g : Heap}
set_option maxHeartbeats 1000000
theorem c_stalk (G : Gl w g) (wd : Nat) (n : Int) (t t' : Tok) (hw : wd < 5) (hw2 : 2 ≤ wd) (h1 : -100 ≤ n) (h2 : n ≤ 100) :
    Con w g 95 [.int n t, .int wd t'] 34 380 (fun _ => True) (fun _ v _ => ∃ t'', v = .str (stalkOf wd n) t'') := by
  intro A s Q E P O sz _ hQ
  refine an5 (st_ok hw hw2 h1 h2) fun k1 k2 k3 k4 k5 => ?_
  have hpw : (2 : Int) ^ ((wd : Nat) : Int).toNat = ((2 ^ wd : Nat) : Int) := by rw [Int.toNat_natCast]; simp
  have hpw2 : ((2 ^ wd : Nat) : Int) = (2 : Int) ^ wd := by simp
  refine enter (d := 33) (u := 377) (binds := [(Str.ofString "number", .int n t), (Str.ofString "width", .int wd t')]) G (by rfl) (by rfl) (by kernel_rfl) (by rfl) (by rfl) P O sz fun L s₁ A P S => ?_
  refine wpAny_execs_cons (Assign_Tuple (Call_Name rfl (e_glob G S (gn_idm w) (callWith_K G.K (kp_idm w) (spliced_more (e_loc S (by rfl) (spliced_more (wpAny_BinOp (wpAny_Constant_int (e_loc (S.of S.sh) (by rfl) (pow_int_small (by lia) (by lia) (by decide) ?_)))))))))))
  rw [hpw]
  refine norm (S.of S.sh) fun s₂ S => ?_
  refine spliced_none ⟨fun a o e => S.gk (G.K _ _ e), ?_⟩
  refine c_idm G wd n _ _ hw (by lia) (by lia) hw2 _ _ _ _ (P.le (by lia) (by lia)) S.ok S.gsz trivial ?_
  refine fun _ s₃ e₃ O₃ X₃ g1 => ex3 g1 fun r q1 q2 g2 => an3 g2 fun e er fr => ?_
  clear g1 g2
  subst e
  have S := S.adopt (nw := [(r, _)]) e₃ X₃ O₃ (fun p hp => by rcases List.mem_cons.mp hp with rfl | hp; exact ⟨er, fr⟩; cases hp)
  refine x_unpack2 P.hh S (S.geti (.head _)) fun s₄ S => ?_
  have hst : stalkOf wd n = stalkOf wd n := rfl
  unfold stalkOf at hst
  refine wpAny_execs_cons (wpAny_If (wpAny_isTrue_Compare1 (e_loc S put_eq (wpAny_Constant_int (eq_int (wpAny_truthy_bool ?_))))))
  by_cases hz : ((idm wd n).2 == 0) = true
  · refine ifpos hz ?_
    refine norm (S.of S.sh) fun s₅ S => ?_
    refine wpAny_execs_cons (wpAny_Return_some (wpAny_BinOp (wpAny_BinOp (Constant_str (e_loc (S.of S.sh) (put_ne put_eq (by decide)) (SB.mul (mulOkS rfl (by lia) (by lia)) fun ta ka => ?_))))))
    refine wpAny_BinOp (Constant_str (wpAny_UnaryOp (e_loc (S.of S.sh) (put_ne put_eq (by decide)) (neg_int (SB.mul (mulOkS rfl (by lia) (by lia)) fun tb kb => ?_)))))
    have l1 := (mul_lenI (n := (idm wd n).1) (by lia)).1
    have l2 := (mul_lenI (n := -(idm wd n).1) (by lia)).2
    refine SB.add (fun tc kc => ?_) (by rw [sizeLine_eq]; exact Nat.le_trans (Nat.add_le_add l1 l2) (by decide))
    have S := S.of (tk := kc) S.sh
    refine hQ _ _ S.same S.ok S.ext ⟨tc, ?_⟩
    unfold stalkOf; rw [if_pos hz]
  · refine ifneg hz ?_
    have hz' : (idm wd n).2 ≠ 0 := by simpa using hz
    refine wpAny_execs_nil ?_
    refine norm (S.of S.sh) fun s₅ S => ?_
    refine wpAny_execs_cons (wpAny_Assign_Name (x_val (fun v s' => ∃ tv imm', v = .str (stFront wd n) tv ∧ St g s L s' (put (put (fun x => List.lookup x [(Str.ofString "number", Value.int n t), (Str.ofString "width", Value.int (↑wd) t')].reverse) (Str.ofString "whole") (.int (idm wd n).1 q1)) (Str.ofString "rest") (.int (idm wd n).2 q2)) [] imm') ?_ ?_))
    · refine IfExp_ (wpAny_isTrue_Compare1 (e_loc S (put_ne put_eq (by decide)) (wpAny_Constant_int (ge_int (wpAny_truthy_bool ?_)))))
      by_cases hq : (idm wd n).1 ≥ 0
      · refine ifpos (by simpa using hq) ?_
        refine wpAny_BinOp (wpAny_BinOp (Constant_str (wpAny_BinOp (e_loc (S.of S.sh) (put_ne put_eq (by decide)) (wpAny_Constant_int (add_int (SB.mul (mulOkS rfl (by lia) (by lia)) fun ta ka => ?_)))))))
        have l1 := (mul_lenI (n := (idm wd n).1 + 1) (by lia)).1
        refine Constant_str (SB.add (fun tc kc => ?_) (by rw [sizeLine_eq]; exact Nat.le_trans (Nat.add_le_add l1 (show _ ≤ 1 from Nat.le_refl 1)) (by decide)))
        exact ⟨tc, _, by unfold stFront; rw [if_pos hq], S.of S.sh⟩
      · refine ifneg (by simpa using hq) ?_
        refine wpAny_BinOp (wpAny_BinOp (Constant_str (wpAny_UnaryOp (e_loc (S.of S.sh) (put_ne put_eq (by decide)) (neg_int (SB.mul (mulOkS rfl (by lia) (by lia)) fun ta ka => ?_))))))
        have l1 := (mul_lenI (n := -(idm wd n).1) (by lia)).2
        refine Constant_str (SB.add (fun tc kc => ?_) (by rw [sizeLine_eq]; exact Nat.le_trans (Nat.add_le_add l1 (show _ ≤ 1 from Nat.le_refl 1)) (by decide)))
        exact ⟨tc, _, by unfold stFront; rw [if_neg hq], S.of S.sh⟩
    rintro _ s₆ ⟨tf, imm0, rfl, S⟩
    refine st_loc S fun s₇ S => ?_
    refine wpAny_execs_cons (wpAny_Assign_Name (Call_Name rfl (e_glob G S (gn_i2d w) (callWith_K G.K (kp_i2d w) (spliced_more (wpAny_BinOp (e_loc S (put_ne put_eq (by decide)) (wpAny_BinOp (wpAny_Constant_int (e_loc (S.of S.sh) (by rfl) (pow_int_small (by lia) (by lia) (by decide) (add_int ?_))))))))))))
    rw [hpw]
    have hk2 : (2 : Int) ^ wd ≤ 16 := by
      have : (2:Nat) ^ wd ≤ 2 ^ 4 := Nat.pow_le_pow_right (by decide) (by lia)
      rw [← hpw2]; lia
    have hxx : (idm wd n).2 + ((2 ^ wd : Nat) : Int) = ((((idm wd n).2 + ((2 ^ wd : Nat) : Int)).toNat : Nat) : Int) := by lia
    have hxl : ((idm wd n).2 + ((2 ^ wd : Nat) : Int)).toNat < 128 := by lia
    have hx0 : ((idm wd n).2 + ((2 ^ wd : Nat) : Int)).toNat ≠ 0 := by lia
    have hpl : stPl wd n = i2d 1 ((idm wd n).2 + ((2 ^ wd : Nat) : Int)).toNat (nd 1 ((idm wd n).2 + ((2 ^ wd : Nat) : Int)).toNat) := rfl
    have hone := k5 hz'
    rw [hxx]
    revert hxl hx0 hpl
    refine letter (((idm wd n).2 + ((2 ^ wd : Nat) : Int)).toNat) ?_
    intro xx hxl hx0 hpl
    refine an6 (dig_ok 1 (by decide) xx hxl (by decide)) fun d1 d2 d3 d4 d5 d6 => ?_
    refine norm (S.of S.sh) fun s₈ S => ?_
    refine spliced_more (wpAny_Constant_int (spliced_none ⟨fun a o e => S.gk (G.K _ _ e), ?_⟩))
    refine c_i2d G xx 1 (nd 1 xx) _ _ (by lia) (by lia) d1 d2 d3 (by lia) d4 _ _ _ _ (P.le (by lia) (by lia)) S.ok S.gsz trivial ?_
    refine fun _ s₉ e₉ O₉ X₉ g1 => ex3 g1 fun pa pvs pn g2 => an4 g2 fun e ep fp Ip => ?_
    clear g1 g2
    subst e
    rw [if_neg hx0, ← hpl] at Ip
    have S := S.adopt (nw := [(pa, lst pvs pn)]) e₉ X₉ O₉ (fun p hp => by rcases List.mem_cons.mp hp with rfl | hp; exact ⟨ep, fp⟩; cases hp)
    have hpn : (stPl wd n).length ≤ 20 := by rw [hpl, i2d_len]; exact d2
    refine st_loc S fun sa S => ?_
    refine wpAny_execs_cons (wpAny_Assign_Name (MethodCall_ (e_loc S put_eq (getMethod_list_of PySem.F.slot_list_index PySem.F.type_list_index (isList_lst (S.geti (.head _))) ⟨_, S.geti (.head _), rfl⟩ (callWith_method1 (spliced_more (wpAny_Constant_int (spliced_none (a_index (S.geti (.head _)) Ip (by lia) hone ?_)))))))))
    refine norm (S.of S.sh) fun sb S => ?_
    refine st_loc S fun sc S => ?_
    have hpv : pvs.length ≤ 20 := by rw [Ip.length]; exact hpn
    revert S
    refine letterE (List.idxOf 1 (stPl wd n)) ?_
    intro low hlow S
    refine wpAny_execs_cons (wpAny_Return_some (wpAny_BinOp (e_loc S (put_ne (put_ne put_eq (by decide)) (by decide)) (MethodCall_ (Constant_str (GM.join ?_))))))
    refine callWith_method1 (spliced_more (ListComp_ (g := g) (b := s) (L := L) (by rfl) ?_ P.hh))
    refine Subscript_ (Subscript_ (e_loc S (put_ne put_eq (by decide)) (wpAny_Slice (part_some (wpAny_BinOp (e_loc S put_eq (wpAny_Constant_int (add_int (part_some (e_loc (S.of S.sh) (by rfl) (part_none ?_)))))))))))
    refine a_lsl (lo := some ((low : Int) + 1)) (hi := some (wd : Int)) (st := none) (S.of S.sh) (S.geti (.head _)) (.int _ _) (.int _ _) .none (by simp) (by lia) fun r1 sd S => ?_
    have I1 := Ip.pick (some ((low : Int) + 1)) (some (wd : Int)) none
    have hl1 := length_pickNums_le Ip (some ((low : Int) + 1)) (some (wd : Int)) none
    revert S I1
    refine letter ((slicePick pvs.toArray (some ((low : Int) + 1)) (some (wd : Int)) none).toList) ?_
    intro v1 S I1
    have hv1 : v1.length ≤ 20 := by rw [I1.length]; lia
    refine wpAny_Slice (part_none (part_none (part_some (wpAny_UnaryOp (wpAny_Constant_int (neg_int ?_))))))
    refine a_lsl (lo := none) (hi := none) (st := some (-1)) (S.of S.sh) (S.get (.head _)) .none .none (.int _ _) (by decide) (by lia) fun r2 se S => ?_
    have I2 := I1.pick none none (some (-1))
    have hl2 := length_pickNums_le I1 none none (some (-1))
    revert S I2
    refine letter ((slicePick v1.toArray none none (some (-1))).toList) ?_
    intro v2 S I2
    have hv2 : v2.length ≤ 20 := by rw [I2.length]; lia
    have ht : stTail wd n = (pickNums (pickNums (stPl wd n) (some ((low : Int) + 1)) (some (wd : Int)) none) none none (some (-1))).map signOf := by
      unfold stTail; rw [hlow]
    revert I2 ht
    refine letter (pickNums (pickNums (stPl wd n) (some ((low : Int) + 1)) (some (wd : Int)) none) none none (some (-1))) ?_
    intro bs I2 ht
    have hbl : bs.length ≤ 20 := by rw [← I2.length]; exact hv2
    refine wpAny_pyIter_list (isList_lst (S.get (.head _))) ?_
    have S := S.of (tk := se.toks) ((St.freeze (l₁ := []) S).sh.push { cls := .type "list_iterator", data := .fields #[.ref r2, .int 0 0] })
    refine CompGo.mk (fun q its own₁ imm₁ => own₁ = [] ∧ StrsAre its ((bs.take q).map signOf)) (lstIter w _ r2 v2 0) ⟨rfl, rfl⟩ S ?_ ⟨rfl, .nil⟩ ?_ ?_ ?_
    · exact fun C s' m' own' imm' S' hsub => S'.geti (hsub _ (.head _))
    · rintro q its own₁ imm₁ ⟨_, I⟩
      have : its.length ≤ 20 := by rw [strsAre_len I, List.length_map, List.length_take]; lia
      lia
    · intro q C acc its kk own₁ imm₁ mC sf v oI oL hq hsub hJ hv S
      refine wpAny_pure ?_
      refine ifpos rfl ?_
      refine cut fun QQ hQ1 => ?_
      obtain ⟨rfl, I⟩ := hJ
      obtain ⟨tb, hget⟩ := intsAre_get I2 q (by rw [← I2.length]; exact hq)
      rw [hv] at hget
      cases hget
      have htk : (bs.take (q + 1)).map signOf = (bs.take q).map signOf ++ [signOf (bs.getD q 0)] := by
        have hlt : q < bs.length := by rw [← I2.length]; exact hq
        rw [List.take_add_one, List.map_append]
        congr 1
        rw [List.getD_eq_getElem?_getD, List.getElem?_eq_getElem hlt]; rfl
      refine IfExp_ (wpAny_isTrue_Compare1 (e_loc S put_eq (wpAny_Constant_int (eq_int (wpAny_truthy_bool ?_)))))
      by_cases hb : (bs.getD q 0 == 1) = true
      · refine ifpos hb ?_
        refine Constant_str (hQ1 _ _ ⟨[], imm₁, _, S.of S.sh, hsub, rfl, ?_⟩)
        rw [htk, show signOf (bs.getD q 0) = sLt from if_pos hb]
        exact StrsAre.append' I (.cons _ _ .nil)
      · refine ifneg hb ?_
        refine Constant_str (hQ1 _ _ ⟨[], imm₁, _, S.of S.sh, hsub, rfl, ?_⟩)
        rw [htk, show signOf (bs.getD q 0) = sGt from if_neg hb]
        exact StrsAre.append' I (.cons _ _ .nil)
    rintro acc its kk own' imm' hsub ⟨rfl, I⟩ sg S
    rw [List.take_of_length_le (by rw [I2.length]; exact Nat.le_refl _), ← ht] at I
    refine spliced_none ?_
    have hsum : ((stTail wd n).map (·.length)).sum + (stTail wd n).length ≤ 40 := by
      rw [ht, sum_signs, List.length_map]; lia
    refine join_listW (isList_lst (S.get (a := acc) (o := lst its kk) (by first | exact m0 | exact m1 | exact m2 | exact m3 | exact m4 | exact m5 | exact m6 | simp))) I (by decide) (by lia) fun tj kj => ?_
    refine SB.add (fun tc kc => ?_) ?_
    · have S := S.of (tk := kc) S.sh
      refine hQ _ _ S.same S.ok S.ext ⟨tc, ?_⟩
      unfold stalkOf; rw [if_neg hz]
    · have hj : (Txt.join sNo (stTail wd n)).length ≤ 40 := by
        show (Builtin.Str.glued sNo (stTail wd n)).length ≤ 40
        rw [size_glued]
        have : sNo.length = 0 := rfl
        rw [this]; lia
      have hf : (stFront wd n).length ≤ 101 := by
        unfold stFront
        split
        · exact Nat.le_trans (Nat.le_of_eq (Str.length_append _ _)) (Nat.add_le_add (mul_lenI (by lia)).1 (Nat.le_refl 1))
        · exact Nat.le_trans (Nat.le_of_eq (Str.length_append _ _)) (Nat.add_le_add (mul_lenI (by lia)).2 (Nat.le_refl 1))
      rw [sizeLine_eq]; exact Nat.le_trans (Nat.add_le_add hf hj) (by decide)
end
end Mine
end

section
set_option compiler.extract_closed false
namespace Mine
open PySem PySem.W PyProof.Rows PySem.Calls

/-- a dict object with text keys, read by f -/
structure SD (w : World) (o : Obj) (f : PySem.Str → Option Value) : Prop where
  ex : o.ExactDict
  da : ∃ es ep, o.data = .dict es ep ∧ KeysOf (strKind P0 w) es ∧ ∀ k, findBy (strKind P0 w).is es k = f k
theorem SD.map {w : World} {o : Obj} {f : PySem.Str → Option Value} (D : SD w o f) {h : Heap} {a : Addr} (e : h.get? a = some o) : h.MapOf (strKind P0 w) a f :=
  let ⟨es, ep, d, k, hf⟩ := D.da
  ⟨o, es, ep, e, D.ex, d, k, hf⟩
theorem SD.nc {w : World} {o : Obj} {f : PySem.Str → Option Value} (D : SD w o f) : NotCode o := fun vs q t e => by obtain ⟨es, ep, d, _⟩ := D.da; rw [d] at e; cases e

noncomputable def betOk (wf : PySem.Str → Int) (text stalk : PySem.Str) (c : Nat) : Bool :=
  !((wf text - wf (Txt.slice stalk none (some (c : Int)))) == 0 || ((decide (wf text - wf (Txt.slice stalk none (some (c : Int))) > 0)) != (Txt.item stalk (c : Int) == sLt)))
noncomputable def betTo (wf : PySem.Str → Int) (text stalk : PySem.Str) (i : Nat) : Bool := (List.range i).all (betOk wf text stalk)
theorem betTo_succ (wf : PySem.Str → Int) (text stalk : PySem.Str) (i : Nat) : betTo wf text stalk (i + 1) = (betTo wf text stalk i && betOk wf text stalk i) := by
  unfold betTo; rw [List.range_succ, List.all_append]; simp
theorem betTo_false (wf : PySem.Str → Int) (text stalk : PySem.Str) {i n : Nat} (h : i < n) (hb : betOk wf text stalk i = false) : betTo wf text stalk n = false := by
  unfold betTo
  rw [List.all_eq_false]
  exact ⟨i, List.mem_range.mpr h, by rw [hb]; simp⟩

theorem gn_betw (w : World) : nsIn (KH w) mainGlobals (Str.ofString "_law_between") = some (some (.ref 114)) := by kernel_rfl
theorem kp_betw (w : World) : keepIn (KH w) (.ref 114) = true := by kernel_rfl

structure BeM (m : Loc) (a b c : Value) : Prop where
  tx : m (Str.ofString "text") = some a
  st : m (Str.ofString "stalk") = some b
  wo : m (Str.ofString "worths") = some c
theorem BeM.put {m : Loc} {a b c v : Value} {x : PySem.Str} (M : BeM m a b c) (h1 : Str.ofString "text" ≠ x) (h2 : Str.ofString "stalk" ≠ x) (h3 : Str.ofString "worths" ≠ x) : BeM (put m x v) a b c := ⟨put_ne M.tx h1, put_ne M.st h2, put_ne M.wo h3⟩
section
variable {w : World} {g : Heap}
set_option maxHeartbeats 1000000
theorem c_betw (G : Gl w g) (text stalk : PySem.Str) (t t' : Tok) (wa : Addr) (o : Obj) (f : PySem.Str → Option Value) (wf : PySem.Str → Int) (D : SD w o f) (hlen : stalk.length ≤ 10)
    (h1 : ∃ u, f text = some (.int (wf text) u)) (h2 : ∀ c < stalk.length, ∃ u, f (Txt.slice stalk none (some (c : Int))) = some (.int (wf (Txt.slice stalk none (some (c : Int)))) u)) :
    Con w g 114 [.str text t, .str stalk t', .ref wa] 2 20 (fun h => wa ≠ 47 ∧ wa ≠ 54 ∧ h.get? wa = some o) (fun _ v _ => v = .bool (betTo wf text stalk stalk.length)) := by
  intro A s Q E P O sz ⟨n1, n2, ew⟩ hQ
  obtain ⟨u1, e1⟩ := h1
  refine enter (d := 1) (u := 17) (binds := [(Str.ofString "text", .str text t), (Str.ofString "stalk", .str stalk t'), (Str.ofString "worths", .ref wa)]) G (by rfl) (by rfl) (by kernel_rfl) (by rfl) (by rfl) P O sz fun L s₁ A P S => ?_
  refine wpAny_execs_cons (x_range G S ?_ (gn_range w) bb_range)
  refine Call_Name rfl (e_bi G S (gn_len w) boot_len (callWith_method1 (spliced_more (e_loc S (by rfl) (spliced_none (len_str (by lia) (rgo (n := stalk.length) (by lia) (S.of S.sh) fun it s₂ S => ?_)))))))
  refine l_range (own := []) (fr := []) P.hh S (fun i m own imm => own = [] ∧ BeM m (.str text t) (.str stalk t') (.ref wa) ∧ betTo wf text stalk i = true) ⟨rfl, ⟨by rfl, by rfl, by rfl⟩, rfl⟩ ?_ ?_
  · intro i m own imm s₃ ti oi hi hsub hJ S
    refine cut fun QQ hQ1 => ?_
    obtain ⟨rfl, M, hb⟩ := hJ
    obtain ⟨u2, e2⟩ := h2 i hi
    refine wpAny_execs_cons (wpAny_Assign_Name (wpAny_BinOp (Subscript_ (e_loc S (put_ne M.wo (by decide)) (e_loc S (put_ne M.tx (by decide)) ?_)))))
    have hm := D.map (S.old ew n1 n2)
    refine tail_any (ops := [.ref wa, .str text t]) hm.typeIs slot_dict_getitem.lookup (wpAny_getItem_of (strKind_is P0 w text t) hm e1 ?_) (by with_unfolding_all rfl)
    refine norm (S.of S.sh) fun s₄ S => ?_
    refine Subscript_ (e_loc S (put_ne M.wo (by decide)) (Subscript_ (e_loc S (put_ne M.st (by decide)) (wpAny_Slice (part_none (part_some (e_loc S put_eq (part_none ?_))))))))
    refine a_slNS S (fun t1 s₅ S => ?_) (by lia)
    have hm := D.map (S.old ew n1 n2)
    refine tail_any (ops := [.ref wa, .str _ t1]) hm.typeIs slot_dict_getitem.lookup (wpAny_getItem_of (strKind_is P0 w _ t1) hm e2 ?_) (by with_unfolding_all rfl)
    refine sub_int (st_loc (S.of S.sh) fun s₆ S => ?_)
    revert S
    refine letterE (wf text - wf (Txt.slice stalk none (some (i : Int)))) ?_
    intro gap hg S
    have hok : betOk wf text stalk i = !(gap == 0 || ((decide (gap > 0)) != (Txt.item stalk (i : Int) == sLt))) := by unfold betOk; rw [hg]
    refine wpAny_execs_cons (wpAny_If (isTrue_or (wpAny_isTrue_Compare1 (e_loc S put_eq (wpAny_Constant_int (eq_int (wpAny_truthy_bool ?_)))))))
    by_cases hz : (gap == 0) = true
    · rw [if_pos hz, if_pos rfl]
      refine wpAny_execs_cons (wpAny_Return_some (Constant_bool ?_))
      refine hQ1 _ _ (hQ _ _ (S.of S.sh).same S.ok S.ext ?_)
      rw [betTo_false wf text stalk hi (by rw [hok, hz]; rfl)]
    · refine ifneg hz ?_
      refine norm (S.of S.sh) fun s₇ S => ?_
      refine isTrue_or (wpAny_isTrue_Compare1 (wpAny_Compare1 (e_loc S put_eq (wpAny_Constant_int (gt_int ?_)))))
      refine norm (S.of S.sh) fun s₈ S => ?_
      refine wpAny_Compare1 (Subscript_ (e_loc S (put_ne (put_ne M.st (by decide)) (by decide)) (e_loc S (put_ne put_eq (by decide)) (item_str (fitsI (by lia) (by lia)) (by lia) (by lia) fun _ => ?_))))
      refine Constant_str (eq_str (ne_bool (wpAny_truthy_bool ?_)))
      by_cases hc : (decide (gap > 0) != (Txt.item stalk (i : Int) == sLt)) = true
      · rw [if_pos hc, if_pos rfl]
        refine wpAny_execs_cons (wpAny_Return_some (Constant_bool ?_))
        refine hQ1 _ _ (hQ _ _ (S.of S.sh).same S.ok S.ext ?_)
        rw [betTo_false wf text stalk hi (by rw [hok, hc]; simp)]
      · refine ifneg hc ?_
        refine isTrue_or_nil ?_
        refine ifneg (by simp) ?_
        refine wpAny_execs_nil (wpAny_execs_nil (hQ1 _ _ ⟨_, _, _, S.of S.sh, hsub, rfl, (M.put (by decide) (by decide) (by decide)).put (by decide) (by decide) (by decide), ?_⟩))
        rw [betTo_succ, hb, hok]
        simp only [Bool.not_eq_true] at hz hc
        rw [hz, hc]; rfl
  · rintro s' m' own' imm' S hsub ⟨rfl, M, hb⟩
    refine wpAny_execs_cons (wpAny_Return_some (Constant_bool ?_))
    refine hQ _ _ S.same S.ok S.ext ?_
    rw [hb]
end
end Mine
end

section
set_option compiler.extract_closed false
namespace Mine
open PySem PySem.W PyProof.Rows PySem.Calls
open Builtin Builtin.Str in
noncomputable def find4 (x y : PySem.Str) (i j : Int) : Int := match occurrences x y (fromIndex x.length i) (min (fromIndex x.length j) x.length) 1 with | k :: _ => (k : Int) | [] => -1
open Builtin Builtin.Str in
theorem gives_find4 (x y : PySem.Str) (i j : Int) (t u v v' : Tok) : Gives («str.find» ⟨[.str x t, .str y u, .int i v, .int j v'], []⟩) (.int (find4 x y i j)) := by
  unfold find4
  show Gives (match occurrences x y (fromIndex x.length i) (min (fromIndex x.length j) x.length) 1 with | k :: _ => retInt k | [] => (do rule "str.find.not-found"; retInt (-1))) _
  cases occurrences x y (fromIndex x.length i) (min (fromIndex x.length j) x.length) 1 with
  | nil => exact .rule (.of_eq rfl)
  | cons k _ => exact .of_eq rfl
theorem call_find4 {w : World} {A : Around} {E : Value → Shared → Prop} {s : Shared} {x y : PySem.Str} {t u v v' : Tok} {i j : Int} {Q : Value → Shared → Prop} (hq : Q (.int (find4 x y i j) s.toks) { s with toks := s.toks + 1 }) :
    wpAny (model P0 w) A (call (.builtin "str.find") [.str x t, .str y u, .int i v, .int j v']) Q E s :=
  call_gives F.slot_str_find (typeIs_str _ _ _) F.entry_str_find (F.args_str_find_4 _ _ _ _) (gives_find4 x y i j t u v v') hq

noncomputable def txts : List PySem.Str := ["", "<", ">", "<<", "<>", "><", ">>", "<<<", "<<>", "<><", "<>>", "><<", "><>", ">><", ">>>"].map Str.ofString
abbrev sDots : PySem.Str := Str.ofString "..."
theorem ell_split : ∀ f ∈ txts, Txt.contains (f ++ sDots) sDots = true ∧ Txt.split (f ++ sDots) sDots = [f, sNo] ∧ f.length ≤ 3 := by decide +kernel
theorem ell_find : ∀ f ∈ txts, ∀ x ∈ txts, (Txt.startswith x f = true → f.length ≤ x.length ∧ find4 x sNo f.length x.length = f.length) ∧ find4 x sNo 0 x.length = 0 ∧ x.length ≤ 3 ∧ Txt.startswith x sNo = true := by decide +kernel
open Builtin Builtin.Str in
theorem ell_parts : ∀ f ∈ txts, (decide ((f ++ sDots).length < sDots.length) || decide (Builtin.Str.strKind (f ++ sDots) < Builtin.Str.strKind sDots)) = false ∧ (occurrences (f ++ sDots) sDots 0 (f ++ sDots).length ((f ++ sDots).length + 1)).isEmpty = false ∧
    partsBetween (f ++ sDots) (occurrences (f ++ sDots) sDots 0 (f ++ sDots).length ((f ++ sDots).length + 1)) sDots.length = [f, sNo] ∧ (f ++ sDots).length ≤ 6 := by decide +kernel
theorem gn_mark (w : World) : ∃ t, nsIn (KH w) mainGlobals (Str.ofString "ELLIPSIS_MARKER") = some (some (.str sDots t)) := ⟨_, by rfl⟩
theorem gn_ell (w : World) : nsIn (KH w) mainGlobals (Str.ofString "_ellipsis_match") = some (some (.ref 80)) := by kernel_rfl
theorem kp_ell (w : World) : keepIn (KH w) (.ref 80) = true := by kernel_rfl
section
variable {w : World} {g : Heap} {b : Shared} {L : Addr} {m : Loc} {own imm : Led} {A : Around} {E : Value → Shared → Prop} {s : Shared} {Q : Value → Shared → Prop}
theorem a_split {f : PySem.Str} {t u : Tok} (hf : f ∈ txts) (S : St g b L s m own imm) (h : ∀ r t1 t2 s', St g b L s' m ((r, lst [.str f t1, .str sNo t2] 0) :: own) imm → Q (.ref r) s') :
    wpAny (model P0 w) A (call (.builtin "str.split") [.str (f ++ sDots) t, .str sDots u]) Q E s := by
  obtain ⟨h1, h2, h3, h4⟩ := ell_parts f hf
  refine call_meets F.slot_str_split (typeIs_str _ _ _) F.entry_str_split (F.args_str_split_2 _ _) (meets_str_split_sep (f ++ sDots) sDots t u h1 rfl h2 (by rw [sizeLine_eq]; lia) (by rw [h3, sizeLine_eq]; show 2 ≤ _; lia)) ?_
  rw [h3]
  exact h _ _ _ _ (S.of (S.sh.push (lst [.str f s.toks, .str sNo (s.toks + 1)] 0)))
theorem a_delAt {l : Addr} {vs : List Value} {n k : Nat} {i : Int} {t : Tok} {l₁ l₂ : Led} {Q : Unit → Shared → Prop} (S : St g b L s m (l₁ ++ (l, lst vs n) :: l₂) imm) (hfit : Builtin.List.listFitsIndex i = true) (hk : seqIndex? i vs.length = some k) (hkl : k < vs.length) (hb : vs.length ≤ 100000)
    (h : ∀ s', St g b L s' m (l₁ ++ (l, lst (vs.eraseIdx k) (n + 1)) :: l₂) imm → Q () s') :
    wpAny (model P0 w) A (delItem (.ref l) (.int i t)) Q E s := by
  have hl := S.get (a := l) (o := lst vs n) (by first | exact m0 | exact m1 | exact m2 | exact m3 | exact m4 | exact m5 | exact m6 | simp)
  refine PySem.P.delItem_list (n := n) (items := vs.toArray) (k := k) hl hfit (by rw [List.size_toArray]; exact hk) (h _ (S.of (S.sh.upd (Heap.SameBut.update ..).extBut ?_ (lst_nc _ _)))) (by rw [List.size_toArray, sizeLine_eq]; lia)
  have q := PySem.IsL.update (n := n) (items := vs.toArray) (l := l) hl (·.eraseIdxIfInBounds k)
  have e : vs.toArray.eraseIdxIfInBounds k = (vs.eraseIdx k).toArray := by simp
  rw [q]
  have e2 : ((vs.toArray.eraseIdxIfInBounds k).size == vs.toArray.size) = false := by
    rw [e, List.size_toArray, List.size_toArray, List.length_eraseIdx_of_lt hkl, beq_eq_false_iff_ne]; lia
  rw [if_neg (by rw [e2]; simp), e]
end

structure ElM (m : Loc) (a b : Value) (sp n : Int) : Prop where
  got : m (Str.ofString "got") = some a
  ws : m (Str.ofString "ws") = some b
  sp : ∃ t, m (Str.ofString "startpos") = some (.int sp t)
  ep : ∃ t, m (Str.ofString "endpos") = some (.int n t)
theorem ElM.put {m : Loc} {a b v : Value} {sp n : Int} {x : PySem.Str} (M : ElM m a b sp n) (h1 : Str.ofString "got" ≠ x) (h2 : Str.ofString "ws" ≠ x) (h3 : Str.ofString "startpos" ≠ x) (h4 : Str.ofString "endpos" ≠ x) : ElM (put m x v) a b sp n :=
  ⟨put_ne M.got h1, put_ne M.ws h2, M.sp.imp fun _ e => put_ne e h3, M.ep.imp fun _ e => put_ne e h4⟩
section
variable {w : World} {g : Heap}
set_option maxHeartbeats 1000000
theorem c_ell (G : Gl w g) (f x : PySem.Str) (t t' : Tok) (hf : f ∈ txts) (hx : x ∈ txts) :
    Con w g 80 [.str (f ++ sDots) t, .str x t'] 2 40 (fun _ => True) (fun _ v _ => v = .bool (Txt.startswith x f)) := by
  intro A s Q E P O sz _ hQ
  obtain ⟨f1, f2, f3⟩ := ell_split f hf
  obtain ⟨x1, x2, x3, x4⟩ := ell_find f hf x hx
  obtain ⟨tm, hm⟩ := gn_mark w
  refine enter (d := 1) (u := 37) (binds := [(Str.ofString "want", .str (f ++ sDots) t), (Str.ofString "got", .str x t')]) G (by rfl) (by rfl) (by kernel_rfl) (by rfl) (by rfl) P O sz fun L s₁ A P S => ?_
  refine wpAny_execs_cons (wpAny_If (wpAny_isTrue_Compare1 (e_glob G S hm (e_loc S (by rfl) (SB.notContains (wpAny_truthy_bool ?_))))))
  refine ifneg (by rw [f1]; simp) ?_
  refine wpAny_execs_nil ?_
  refine wpAny_execs_cons (wpAny_Assign_Name (MethodCall_ (e_loc S (by rfl) (GM.split (callWith_method1 (spliced_more (e_glob G S hm (spliced_none (a_split hf S fun D t1 t2 s₂ S => ?_)))))))))
  refine st_loc S fun s₃ S => ?_
  refine wpAny_execs_cons (wpAny_Assert_holds (wpAny_isTrue_Compare1 (Call_Name rfl (e_bi G S (gn_len w) boot_len (callWith_method1 (spliced_more (e_loc S put_eq (spliced_none (len_list (isList_lst (S.get (.head _))) (by show (2 : Int) < 2 ^ 63; decide) (wpAny_Constant_int (ge_int (wpAny_truthy_bool ⟨by show decide ((2 : Int) ≤ 2) = true; decide, ?_⟩))))))))))))
  refine norm (S.of S.sh) fun s₄ S => ?_
  refine wpAny_execs_cons (Assign_Tuple_swapped (Tuple_ (spliced_more (wpAny_Constant_int (spliced_more (Call_Name rfl (e_bi G (S.of S.sh) (gn_len w) boot_len (callWith_method1 (spliced_more (e_loc (S.of S.sh) (by rfl) (spliced_none (len_str (by lia) (spliced_none ?_)))))))))))))
  refine norm (S.of S.sh) fun s₅ S => ?_
  refine n_tup S fun tu s₆ S => ?_
  refine unpackItems_tuple (items := #[_, _]) P.hh (isTup_tup (S.geti (.head _))) fun h' he => ?_
  have S := S.of (tk := s₆.toks) (S.sh.keeps (fun a o e => he a o (Nat.ne_of_lt (Heap.lt_size e)) e))
  refine assignInOrder_cons (bindName_ (st_loc S fun s₇ S => ?_))
  refine assignInOrder_cons (bindName_ (st_loc S fun s₈ S => assignInOrder_nil ?_))
  have S := S.dropI (imm' := []) (fun p hp => nomatch hp)
  obtain ⟨m, S, M⟩ : ∃ m, St g s L s₈ m [(D, lst [.str f t1, .str sNo t2] 0)] [] ∧ ElM m (.str x t') (.ref D) 0 x.length := ⟨_, S, by rfl, by rfl, ⟨_, put_eq⟩, ⟨_, put_ne put_eq (by decide)⟩⟩
  refine wpAny_execs_cons (wpAny_Assign_Name (Subscript_ (e_loc S M.ws (wpAny_Constant_int (item_listL (l := [.str f t1, .str sNo t2]) (isList_lst (S.get (.head _))) (by decide) (by decide) (by rfl) ?_)))))
  refine st_loc (S.of S.sh) fun s₉ S => ?_
  have mw : put m (Str.ofString "w") (.str f t1) (Str.ofString "w") = _ := put_eq
  have M := M.put (x := Str.ofString "w") (v := .str f t1) (by decide) (by decide) (by decide) (by decide)
  generalize put m (Str.ofString "w") (.str f t1) = m at S M mw
  refine wpAny_execs_cons (x_stm (fun fl s' => (fl = .next ∧ Txt.startswith x f = true ∧ ∃ m vs kk tl, St g s L s' m [(D, lst vs kk)] [] ∧ ElM m (.str x t') (.ref D) f.length x.length ∧ (∀ v ∈ vs, ∃ u, v = .str sNo u) ∧ vs.length ≤ 2 ∧ vs[vs.length - 1]? = some (.str sNo tl) ∧ 1 ≤ vs.length) ∨ (fl = .ret (.bool false) ∧ Txt.startswith x f = false ∧ ∃ m own imm, St g s L s' m own imm)) ?_ ?_)
  · refine cut fun QQ hQ1 => ?_
    refine wpAny_If (isTrue_plain (e_loc S mw (PySem.P.truthy_str (by lia) ?_)))
    by_cases h0 : f.length = 0
    · refine ifneg (by simp [h0]) ?_
      have hfe : f = sNo := by
        obtain ⟨a⟩ := f
        have : a = #[] := Array.eq_empty_of_size_eq_zero h0
        rw [this]; rfl
      refine wpAny_execs_nil (hQ1 _ _ (.inl ⟨rfl, by rw [hfe]; exact x4, m, _, _, t2, S.of S.sh, ?_, ?_, by simp, by rfl, by simp⟩))
      · rw [h0]; exact M
      · intro v hv
        rcases List.mem_cons.mp hv with rfl | hv
        · exact ⟨t1, by rw [hfe]⟩
        · rcases List.mem_cons.mp hv with rfl | hv
          · exact ⟨t2, rfl⟩
          · cases hv
    · refine ifpos (by simp; lia) ?_
      refine norm (S.of S.sh) fun sa S => ?_
      refine wpAny_execs_cons (wpAny_If (isTrue_plain (MethodCall_ (e_loc S M.got (GM.startswith (callWith_method1 (spliced_more (e_loc S mw (spliced_none (SC.startswith (wpAny_truthy_bool ?_)))))))))))
      by_cases h1 : Txt.startswith x f = true
      · refine ifpos h1 ?_
        refine wpAny_execs_cons (wpAny_Assign_Name (Call_Name rfl (e_bi G S (gn_len w) boot_len (callWith_method1 (spliced_more (e_loc S mw (spliced_none (len_str (by lia) ?_))))))))
        refine st_loc (S.of S.sh) fun sb S => ?_
        refine wpAny_execs_cons (wpAny_Delete (wpAny_deleteEach_cons (wpAny_delete_Subscript (e_loc S (put_ne M.ws (by decide)) (wpAny_Constant_int ?_)))))
        refine a_delAt (l₁ := []) (l₂ := []) (k := 0) (S.of S.sh) (by decide) (by rfl) (by simp) (by simp) fun sc S => ?_
        refine wpAny_deleteEach_nil (wpAny_execs_nil (wpAny_execs_nil (hQ1 _ _ (.inl ⟨rfl, h1, _, [.str sNo t2], _, t2, S, ⟨put_ne M.got (by decide), put_ne M.ws (by decide), ⟨_, put_eq⟩, M.ep.imp fun _ e => put_ne e (by decide)⟩, ?_, by simp, by rfl, by simp⟩))))
        intro v hv
        rcases List.mem_cons.mp hv with rfl | hv
        · exact ⟨t2, rfl⟩
        · cases hv
      · refine ifneg h1 ?_
        refine wpAny_execs_cons (wpAny_Return_some (Constant_bool (hQ1 _ _ (.inr ⟨rfl, by simpa using h1, _, _, _, S⟩))))
  rintro fl sa (⟨rfl, hsw, m, vs, kk, tl, S, M, hvs, hvl, hlast, hv1⟩ | ⟨rfl, hsw, m, own, imm, S⟩)
  rotate_left
  · refine hQ _ _ S.same S.ok S.ext ?_
    rw [hsw]
  obtain ⟨y1, y2⟩ := x1 hsw
  refine wpAny_execs_cons (wpAny_Assign_Name (Subscript_ (e_loc S M.ws (wpAny_UnaryOp (wpAny_Constant_int (neg_int ?_))))))
  refine norm (S.of S.sh) fun sb S => ?_
  have hL := isList_lst (S.get (.head _))
  refine tail_any (ops := [.ref D, .int (-1) _]) hL.typeIs list_getitem_lookup (wpAny_getItem_list_neg hL (by decide) (by rw [List.size_toArray]; lia) (by decide) (x := .str sNo tl) ?_ ?_) (by with_unfolding_all rfl)
  · rw [List.size_toArray, List.getElem?_toArray, show ((-1 : Int) + (vs.length : Int)).toNat = vs.length - 1 by lia]; exact hlast
  refine st_loc S fun sc S => ?_
  have M := M.put (x := Str.ofString "w") (v := .str sNo tl) (by decide) (by decide) (by decide) (by decide)
  refine wpAny_execs_cons (wpAny_If (isTrue_plain (e_loc S put_eq (PySem.P.truthy_str (by decide) ?_))))
  refine ifneg (by decide) ?_
  refine wpAny_execs_nil ?_
  refine norm (S.of S.sh) fun sd S => ?_
  obtain ⟨ts, ms⟩ := M.sp
  obtain ⟨te, me⟩ := M.ep
  refine wpAny_execs_cons (wpAny_If (wpAny_isTrue_Compare1 (e_loc S ms (e_loc S me (gt_int (wpAny_truthy_bool ?_))))))
  refine ifneg (by rw [decide_eq_true_eq]; lia) ?_
  refine wpAny_execs_nil ?_
  refine wpAny_execs_cons (wpAny_For (e_loc S M.ws (wpAny_pyIter_list (isList_lst (S.get (.head _))) ?_)))
  have S := S.of (tk := sd.toks) ((St.freeze (l₁ := []) S).sh.push { cls := .type "list_iterator", data := .fields #[.ref D, .int 0 0] })
  refine l_for (own := []) (fr := []) (lstIter w _ D vs kk) P.hh S ⟨rfl, rfl⟩ (fun s' m' own' imm' S' hsub => S'.geti (hsub _ (.head _)))
    (fun i m own imm => own = [] ∧ ElM m (.str x t') (.ref D) f.length x.length) ⟨rfl, M⟩ ?_ ?_
  · intro i m own imm se v o hi hsub hJ hv S
    refine cut fun QQ hQ1 => ?_
    obtain ⟨rfl, M⟩ := hJ
    obtain ⟨u, rfl⟩ := hvs v (List.mem_of_getElem? hv)
    obtain ⟨ts, ms⟩ := M.sp
    obtain ⟨te, me⟩ := M.ep
    refine wpAny_execs_cons (wpAny_Assign_Name (MethodCall_ (e_loc S (put_ne M.got (by decide)) (GM.find (callWith_method1 (spliced_more (e_loc S put_eq (spliced_more (e_loc S (put_ne ms (by decide)) (spliced_more (e_loc S (put_ne me (by decide)) (spliced_none (call_find4 ?_)))))))))))))
    rw [y2]
    refine st_loc (S.of S.sh) fun sf S => ?_
    refine wpAny_execs_cons (wpAny_If (wpAny_isTrue_Compare1 (e_loc S put_eq (wpAny_Constant_int (lt_int (wpAny_truthy_bool ?_))))))
    refine ifneg (by rw [decide_eq_true_eq]; lia) ?_
    refine wpAny_execs_nil ?_
    refine norm (S.of S.sh) fun sg S => ?_
    refine wpAny_execs_cons (wpAny_AugAssign_Name (e_ldn S put_eq (Call_Name rfl (e_bi G S (gn_len w) boot_len (callWith_method1 (spliced_more (e_loc S (put_ne put_eq (by decide)) (spliced_none (len_str (by decide) (iadd_int ?_))))))))))
    rw [show ((f.length : Int) + ((sNo.length : Nat) : Int)) = f.length from Int.add_zero _]
    refine st_loc (S.of S.sh) fun sh S => ?_
    exact wpAny_execs_nil (hQ1 _ _ ⟨_, _, _, S, hsub, rfl, put_ne (put_ne (put_ne M.got (by decide)) (by decide)) (by decide), put_ne (put_ne (put_ne M.ws (by decide)) (by decide)) (by decide), ⟨_, put_eq⟩, ⟨_, put_ne (put_ne (put_ne me (by decide)) (by decide)) (by decide)⟩⟩)
  · rintro s' m' own' imm' S hsub ⟨rfl, M⟩
    refine wpAny_execs_cons (wpAny_Return_some (Constant_bool ?_))
    refine hQ _ _ S.same S.ok S.ext ?_
    rw [hsw]
end
end Mine
end

section
set_option compiler.extract_closed false
namespace Mine
open PySem PySem.W PyProof.Rows PySem.Calls

section
variable {prog : Program} {w : World} {A : Around} {E : Value → Shared → Prop} {R : Result → Shared → Prop} {s : Shared}
abbrev two (elt t1 i1 t2 i2 : Expr) (scope : Scope) (pos : Pos) : Expr := .ListComp elt [⟨t1, i1, [], 0⟩, ⟨t2, i2, [], 0⟩] scope pos
theorem turn_two0 (elt t1 i1 t2 i2 : Expr) (scope : Scope) (pos : Pos) (it acc : Value) (env : Env) :
    compTurn (two elt t1 i1 t2 i2 scope pos) 0 it acc env = (standAt i1.pos >>= fun _ => pyNext it >>= fun r => match r with
      | none => pure (.done .next)
      | some v => letOwnedTupleGo t1 it v >>= fun _ => assign t1 env v >>= fun _ => eval i2 env >>= fun x => standAt i2.pos >>= fun _ => foldedSetIterable i2 env x >>= fun x => holding [x] (pyIter x) >>= fun it2 =>
        runOwn (.compStart (two elt t1 i1 t2 i2 scope pos) 1 it2 acc env) env >>= fun _ => again (.compLoop (two elt t1 i1 t2 i2 scope pos) 0 it acc env)) := by rfl
theorem turn_two1 (elt t1 i1 t2 i2 : Expr) (scope : Scope) (pos : Pos) (it acc : Value) (env : Env) :
    compTurn (two elt t1 i1 t2 i2 scope pos) 1 it acc env = (standAt i2.pos >>= fun _ => pyNext it >>= fun r => match r with
      | none => pure (.done .next)
      | some v => letOwnedTupleGo t2 it v >>= fun _ => assign t2 env v >>= fun _ =>
        (eval elt env >>= fun x => call (.builtin "list.append") [acc, x] >>= fun _ => pure ()) >>= fun _ =>
          again (.compLoop (two elt t1 i1 t2 i2 scope pos) 1 it acc env)) := by rfl

theorem loop_two0 {elt t1 i1 t2 i2 : Expr} {scope : Scope} {pos : Pos} {it acc : Value} {env : Env} (I : Nat → Shared → Prop)
    (turn : ∀ n s, I n s → wpAny (model prog w) A (pyNext it) (fun r s₁ => match r with
      | none => R (.ok .next) s₁
      | some v => wpAny (model prog w) A (assign t1 env v) (fun _ s₂ => wpAny (model prog w) A (eval i2 env) (fun x s₃ => wpAny (model prog w) A (pyIter x) (fun it2 s₄ =>
          codeAny (model prog w) A (.compStart (two elt t1 i1 t2 i2 scope pos) 1 it2 acc env) (fun r s₅ => match r with | .ok _ => ∃ m, m < n ∧ I m s₅ | .error _ => False) s₄) (fun _ _ => False) s₃) (fun _ _ => False) s₂) (fun _ _ => False) s₁) (fun _ _ => False) s)
    (n : Nat) (h : I n s) (ht : ∀ v, letOwnedTupleGo t1 it v = pure () := by intro _; rfl) (hs : ∀ x, foldedSetIterable i2 env x = pure x := by intro _; rfl) :
    codeAny (model prog w) A (.compLoop (two elt t1 i1 t2 i2 scope pos) 0 it acc env) R s := by
  refine codeAny_loop rfl I (fun n s hI => ?_) n h
  show wpAny _ A ((compTurn (two elt t1 i1 t2 i2 scope pos) 0 it acc env).onRaise (fun x => do noteFrame x env; theTreesLotGoes x)) _ _ s
  refine wpAny_noted ?_
  rw [turn_two0]
  refine wpAny_bind (wpAny_standAt (wpAny_bind (wpAny_mono (turn n s hI) (fun r s₁ h₁ => ?_) fun _ _ h' => h'.elim)))
  cases r with
  | none => exact wpAny_pure h₁
  | some v =>
    refine wpAny_bind (wpAny_of_eq (ht v) ?_)
    refine wpAny_bind (wpAny_mono h₁ (fun _ s₂ h₂ => wpAny_bind (wpAny_mono h₂ (fun x s₃ h₃ => ?_) fun _ _ h' => h'.elim)) fun _ _ h' => h'.elim)
    refine wpAny_bind (wpAny_standAt (wpAny_bind (wpAny_of_eq (hs x) ?_)))
    refine wpAny_bind (wpAny_holding (wpAny_mono h₃ (fun it2 s₄ h₄ => ?_) fun _ _ h' => h'.elim))
    refine wpAny_bind (wpAny_runOwn (codeAny_mono h₄ fun r s₅ h₅ => ?_))
    cases r with
    | ok f => exact wpAny_pure ⟨rfl, h₅⟩
    | error e => exact h₅.elim
theorem loop_two1 {elt t1 i1 t2 i2 : Expr} {scope : Scope} {pos : Pos} {it acc : Value} {env : Env} (I : Nat → Shared → Prop)
    (turn : ∀ n s, I n s → wpAny (model prog w) A (pyNext it) (fun r s₁ => match r with
      | none => R (.ok .next) s₁
      | some v => wpAny (model prog w) A (assign t2 env v) (fun _ s₂ => wpAny (model prog w) A (eval elt env) (fun x s₃ =>
          wpAny (model prog w) A (call (.builtin "list.append") [acc, x]) (fun _ s₄ => ∃ m, m < n ∧ I m s₄) (fun _ _ => False) s₃) (fun _ _ => False) s₂) (fun _ _ => False) s₁) (fun _ _ => False) s)
    (n : Nat) (h : I n s) (ht : ∀ v, letOwnedTupleGo t2 it v = pure () := by intro _; rfl) :
    codeAny (model prog w) A (.compLoop (two elt t1 i1 t2 i2 scope pos) 1 it acc env) R s := by
  refine codeAny_loop rfl I (fun n s hI => ?_) n h
  show wpAny _ A ((compTurn (two elt t1 i1 t2 i2 scope pos) 1 it acc env).onRaise (fun x => do noteFrame x env; theTreesLotGoes x)) _ _ s
  refine wpAny_noted ?_
  rw [turn_two1]
  refine wpAny_bind (wpAny_standAt (wpAny_bind (wpAny_mono (turn n s hI) (fun r s₁ h₁ => ?_) fun _ _ h' => h'.elim)))
  cases r with
  | none => exact wpAny_pure h₁
  | some v =>
    refine wpAny_bind (wpAny_of_eq (ht v) ?_)
    refine wpAny_bind (wpAny_mono h₁ (fun _ s₂ h₂ => wpAny_bind (wpAny_bind (wpAny_mono h₂ (fun x s₃ h₃ => ?_) fun _ _ h' => h'.elim))) fun _ _ h' => h'.elim)
    exact wpAny_bind (wpAny_mono h₃ (fun _ s₄ h₄ => wpAny_pure (wpAny_pure ⟨rfl, h₄⟩)) fun _ _ h' => h'.elim)
theorem start_two1 {elt t1 i1 t2 i2 : Expr} {scope : Scope} {pos : Pos} {it acc : Value} {env : Env}
    (h0 : codeAny (model prog w) A (.compLoop (two elt t1 i1 t2 i2 scope pos) 1 it acc env) R s)
    (h : wpAny (model prog w) A (pyIter it) (fun it' s' => codeAny (model prog w) A (.compLoop (two elt t1 i1 t2 i2 scope pos) 1 it' acc env) R s') (fun _ _ => False) s) :
    codeAny (model prog w) A (.compStart (two elt t1 i1 t2 i2 scope pos) 1 it acc env) R s := by
  refine codeAny_of_tree ?_
  show wpAny _ _ ((compStart (two elt t1 i1 t2 i2 scope pos) 1 it acc env).onRaise (fun x => do noteFrame x env; standAt theWindowsPlace)) _ _ s
  refine wpAny_notedAt ?_
  unfold compStart
  show wpAny _ _ (ask >>= _) _ _ s
  refine wpAny_bind (wpAny_askSetting (wpAny_ite ?_))
  split
  · first
      | exact wpAny_bind (wpAny_pure (wpAny_pure (And.intro rfl h0)))
      | exact wpAny_pure (And.intro rfl h0)
  · first
      | exact wpAny_bind (wpAny_rule (wpAny_bind (wpAny_standAt (wpAny_bind (wpAny_mono h (fun it' s' h' => wpAny_pure (And.intro rfl h')) fun _ _ x => x.elim)))))
      | (refine wpAny_bind (wpAny_rule ?_); show wpAny _ _ (standAt i2.pos >>= _) _ _ s; exact wpAny_bind (wpAny_standAt (wpAny_bind (wpAny_mono h (fun it' s' h' => wpAny_pure (And.intro rfl h')) fun _ _ x => x.elim))))
end
end Mine
end

section
set_option compiler.extract_closed false
namespace Mine
open PySem PySem.W PyProof.Rows PySem.Calls

abbrev sBoth : PySem.Str := Str.ofString "<>"
noncomputable def tw (l : List PySem.Str) : List PySem.Str := l.flatMap fun y => [y ++ sLt, y ++ sGt]
section
variable {w : World} {g : Heap} {b : Shared} {L : Addr} {m : Loc} {own imm : Led} {A : Around} {s : Shared} {env : Env} {x1 x2 : PySem.Str}
set_option maxHeartbeats 1000000
/-- the outer loop's state, k turns before its end -/
def TwI (g : Heap) (b : Shared) (C it acc L r : Addr) (oL : Obj) (own imm : Led) (vs : List Value) (ys : List PySem.Str) (k : Nat) (s' : Shared) : Prop :=
  ∃ (mC : Loc) (items : List Value) (kk i : Nat) (o : Obj), St g b C s' mC ((it, o) :: (acc, lst items kk) :: (L, oL) :: own) imm ∧ (o.cls = .type "list_iterator" ∧ o.data = .fields #[.ref r, .int i 0]) ∧ StrsAre items (tw (ys.take i)) ∧ i ≤ vs.length ∧ k = vs.length - i
theorem TwI.mk {C it acc L r : Addr} {oL : Obj} {own imm : Led} {vs : List Value} {ys : List PySem.Str} {k : Nat} {s' : Shared} {mC : Loc} {items : List Value} {kk : Nat} (i : Nat) {o : Obj} (S : St g b C s' mC ((it, o) :: (acc, lst items kk) :: (L, oL) :: own) imm)
    (ho : o.cls = .type "list_iterator" ∧ o.data = .fields #[.ref r, .int i 0]) (hJ : StrsAre items (tw (ys.take i))) (hi : i ≤ vs.length) (e : k = vs.length - i) : TwI g b C it acc L r oL own imm vs ys k s' := ⟨mC, items, kk, i, o, S, ho, hJ, hi, e⟩
/-- the inner loop's -/
def TwJ (g : Heap) (b : Shared) (C it it2 acc L : Addr) (o' oL : Obj) (own imm : Led) (l : List PySem.Str) (x1 y : PySem.Str) (ty t2 : Nat) (k : Nat) (s' : Shared) : Prop :=
  ∃ (mC : Loc) (items : List Value) (kk j : Nat) (o2 : Obj), St g b C s' mC ((it2, o2) :: (it, o') :: (acc, lst items kk) :: (L, oL) :: own) imm ∧ mC x1 = some (.str y ty) ∧ (o2.cls = .type "str_ascii_iterator" ∧ o2.data = .fields #[.str sBoth t2, .int j 0]) ∧ StrsAre items (l ++ [y ++ sLt, y ++ sGt].take j) ∧ j ≤ 2 ∧ k = 2 - j
theorem TwJ.mk {C it it2 acc L : Addr} {o' oL : Obj} {own imm : Led} {l : List PySem.Str} {x1 y : PySem.Str} {ty t2 k : Nat} {s' : Shared} {mC : Loc} {items : List Value} {kk : Nat} (j : Nat) {o2 : Obj} (S : St g b C s' mC ((it2, o2) :: (it, o') :: (acc, lst items kk) :: (L, oL) :: own) imm)
    (hm : mC x1 = some (.str y ty)) (ho : o2.cls = .type "str_ascii_iterator" ∧ o2.data = .fields #[.str sBoth t2, .int j 0]) (hJ : StrsAre items (l ++ [y ++ sLt, y ++ sGt].take j)) (hj : j ≤ 2) (e : k = 2 - j) : TwJ g b C it it2 acc L o' oL own imm l x1 y ty t2 k s' := ⟨mC, items, kk, j, o2, S, hm, ho, hJ, hj, e⟩
theorem l_two {iter : Expr} {p1 p2 p3 p4 p5 p6 pos : Pos} {kc : Nat} {scope : Scope} {cl : List (PySem.Str × Addr)} {o₀ : Obj} {it r : Addr} {vs : List Value} {kr : Nat} {ys : List PySem.Str} {RR : Value → Addr → Result → Shared → Prop}
    (P : A.handled = none) (S : St g b L s m ((it, o₀) :: own) imm) (ho : o₀.cls = .type "list_iterator" ∧ o₀.data = .fields #[.ref r, .int 0 0]) (hr : (r, lst vs kr) ∈ imm) (hvs : StrsAre vs ys) (hy : ∀ y ∈ ys, y.length ≤ 100) (hyl : ys.length ≤ 1000)
    (fin : ∀ C oC mC acc items k s', NotCode oC → (∀ h'' : Heap, h''.get? C = some oC → h''.Ns C mC) → St g b L s' m ((C, oC) :: (acc, lst items k) :: own) imm → StrsAre items (tw ys) → RR (.ref acc) C (.ok .next) s')
    (hcell : ∀ y ∈ scope.names, y.2 ≠ .cell := by decide) (hkind : scope.kind = .function := by rfl) (hl1 : scope.names.lookup x1 = some .local := by rfl) (hl2 : scope.names.lookup x2 = some .local := by rfl) (hne : x1 ≠ x2 := by decide)
    (hd1 : (x1 == ("__debug__" : PySem.Str)) = false := by decide) (hd2 : (x2 == ("__debug__" : PySem.Str)) = false := by decide) :
    wpAny (model P0 w) A (newList []) (fun acc s₃ => wpAny (model P0 w) A (newFunctionEnv scope env.globals cl [] env.qual none .none (some env)) (fun cenv s₄ =>
      codeAny (model P0 w) A (.compStart (two (.BinOp (.Name x1 p3) .Add (.Name x2 p4) p5) (.Name x1 p1) iter (.Name x2 p2) (.Constant (.str sBoth) kc p6) scope pos) 0 (.ref it) acc { cenv with scope := relabel scope env }) (RR acc cenv.locals) s₄) (fun _ _ => False) s₃) (fun _ _ => False) s := by
  refine n_list S fun acc s₁ S => ?_
  refine wpAny_newFunctionEnv hcell (fun _ hx => nomatch hx) (fun h₂ hn hs => ?_) hkind
  obtain ⟨oL, SC, hback⟩ := S.sh.intoC hn hs
  revert SC
  refine letterE (s₁.heap.objs.size) ?_
  intro C hC SC
  show codeAny _ _ (.compStart _ 0 (.ref it) (.ref acc) (compEnvC scope cl C env)) (RR (.ref acc) C) _
  have kl1 : (compEnvC scope cl C env).kindOf x1 = some .local := lookup_relabel_local hl1
  have kl2 : (compEnvC scope cl C env).kindOf x2 = some .local := lookup_relabel_local hl2
  have kk : (compEnvC scope cl C env).scope.kind = .function := hkind
  have kp : ((compEnvC scope cl C env).scope.kind == .class || ((compEnvC scope cl C env).scope.kind == .module && (compEnvC scope cl C env).locals != (compEnvC scope cl C env).globals)) = false := by
    show (scope.kind == .class || (scope.kind == .module && _)) = false
    rw [hkind]; rfl
  have hle := S.sh.le
  have SC : St g b C { s₁ with heap := h₂, toks := s₁.toks + ([] : List (PySem.Str × Value)).length } (fun x => ([] : List (PySem.Str × Value)).reverse.lookup x) ((it, o₀) :: (acc, lst [] 0) :: (L, oL) :: own) imm :=
    ⟨SC.perm ((List.Perm.cons _ (List.Perm.swap ..)).trans ((List.Perm.swap ..).trans ((List.Perm.cons _ (List.Perm.refl _))))) |>.perm (List.Perm.swap ..), S.same⟩
  refine normC SC fun s₂ SC => ?_
  revert SC
  refine letter ((fun x => ([] : List (PySem.Str × Value)).reverse.lookup x)) ?_
  intro mC SC
  have I := lstIter w it r vs kr
  have loop : codeAny (model P0 w) A (.compLoop (two (.BinOp (.Name x1 p3) .Add (.Name x2 p4) p5) (.Name x1 p1) iter (.Name x2 p2) (.Constant (.str sBoth) kc p6) scope pos) 0 (.ref it) (.ref acc) (compEnvC scope cl C env)) (RR (.ref acc) C) s₂ := by
    refine loop_two0 (TwI g b C it acc L r oL own imm vs ys) ?_ vs.length (TwI.mk 0 SC ho .nil (Nat.zero_le _) rfl)
    intro k s' hI
    refine cut fun QQ hQ => ?_
    refine ex5 hI fun mC items kk' i o h1 => an5 h1 fun S' ho hJ hi ek => ?_
    clear hI h1
    subst ek
    have hlen : items.length ≤ 2000 := by
      rw [strsAre_len hJ]
      have h1 : (tw (ys.take i)).length = 2 * (ys.take i).length := by
        unfold tw
        refine letter (ys.take i) ?_
        intro l
        induction l with
        | nil => rfl
        | cons a l ih => rw [List.flatMap_cons, List.length_append, ih, List.length_cons]; simp only [List.length_cons, List.length_nil]; lia
      rw [h1, List.length_take]; lia
    by_cases hlt : i < vs.length
    · refine I.next (i := i) hlt (S'.get (.head _)) ho (S'.geti hr) fun v o' sa hv sm e' ho' hsb => hQ _ _ ?_
      have Sa : St g b C sa mC ([] ++ (it, o') :: (acc, lst items kk') :: (L, oL) :: own) imm := ⟨Sh.upd (l₁ := []) S'.sh hsb.extBut e' (I.nc _ _ ho), S'.same.trans sm⟩
      obtain ⟨y, ty, rfl, hyi⟩ := StrsAre.item hvs i v hv
      have hyb : y.length ≤ 100 := hy y (List.mem_of_getElem? hyi)
      have htk : tw (ys.take (i + 1)) = tw (ys.take i) ++ [y ++ sLt, y ++ sGt] := by
        unfold tw; rw [List.take_add_one, hyi]; simp
      refine wpAny_assign_Name (st_loc Sa (fun sb Sb => ?_) rfl kl1 kp)
      refine Constant_str (wpAny_pyIter_ascii (by decide +kernel) ?_)
      have Sc := Sb.of (tk := sb.toks + 1) (Sb.sh.push { cls := .type "str_ascii_iterator", data := .fields #[.str sBoth sb.toks, .int 0 0] })
      revert Sc
      refine letter (sb.heap.objs.size) ?_
      intro it2 Sc
      refine normC Sc fun sc Sc => ?_
      have I2 := strIter w it2 sBoth sb.toks
      have inner : codeAny (model P0 w) A (.compLoop (two (.BinOp (.Name x1 p3) .Add (.Name x2 p4) p5) (.Name x1 p1) iter (.Name x2 p2) (.Constant (.str sBoth) kc p6) scope pos) 1 (.ref it2) (.ref acc) (compEnvC scope cl C env)) (fun rr s₅ => match rr with | .ok _ => ∃ mm, mm < vs.length - i ∧ TwI g b C it acc L r oL own imm vs ys mm s₅ | .error _ => False) sc := by
        refine loop_two1 (TwJ g b C it it2 acc L o' oL own imm (tw (ys.take i)) x1 y ty sb.toks) ?_ 2 (TwJ.mk 0 Sc put_eq ⟨rfl, rfl⟩ (by simpa using hJ) (Nat.zero_le _) rfl)
        intro k sd hI2
        refine cut fun QQ2 hQ2 => ?_
        refine ex5 hI2 fun mC its k3 j o2 h1 => an6 h1 fun Sd mx ho2 hJ2 hj ek => ?_
        clear hI2 h1
        subst ek
        by_cases hj2 : j < 2
        · refine I2.next (i := j) hj2 (Sd.get (.head _)) ho2 trivial fun v o2' se hv sm e' ho2' hsb => hQ2 _ _ ?_
          obtain ⟨c, tc, hc, rfl⟩ := hv
          have Se : St g b C se mC ([] ++ (it2, o2') :: (it, o') :: (acc, lst its k3) :: (L, oL) :: own) imm := ⟨Sh.upd (l₁ := []) Sd.sh hsb.extBut e' (I2.nc _ _ ho2), Sd.same.trans sm⟩
          refine wpAny_assign_Name (st_loc Se (fun sf Sf => ?_) rfl kl2 kp)
          refine wpAny_BinOp (e_loc Sf (put_ne mx hne) (e_loc Sf put_eq (SB.add (fun ta ka => ?_) ?_) rfl kk kl2 hd2) rfl kk kl1 hd1)
          · refine a_append (l₁ := [_, _]) (Sf.of Sf.sh) (fun sg Sg => ?_) ?_
            · refine ⟨2 - (j + 1), by lia, TwJ.mk (j + 1) Sg (put_ne mx hne) ho2' ?_ (by lia) rfl⟩
              have e : [y ++ sLt, y ++ sGt].take (j + 1) = [y ++ sLt, y ++ sGt].take j ++ [y ++ ⟨#[c]⟩] := by
                have : j = 0 ∨ j = 1 := by lia
                rcases this with rfl | rfl
                · have : c = 60 := by simpa using (Option.some.inj (hc.symm.trans (by rfl : sBoth.cps[0]? = some 60)))
                  subst this; rfl
                · have : c = 62 := by simpa using (Option.some.inj (hc.symm.trans (by rfl : sBoth.cps[1]? = some 62)))
                  subst this; rfl
              rw [e, ← List.append_assoc]
              exact StrsAre.append' hJ2 (.cons _ _ .nil)
            · have := strsAre_len hJ2
              rw [List.length_append, List.length_take, ← strsAre_len hJ] at this
              lia
          · rw [sizeLine_eq]; show y.length + 1 ≤ _; lia
        · have hj3 : j = 2 := by lia
          subst hj3
          refine I2.stop P (Sd.get (.head _)) ho2 trivial fun se sm he => hQ2 _ _ ?_
          have Se : St g b C se mC ([] ++ (it, o') :: (acc, lst its k3) :: (L, oL) :: own) imm := ⟨Sh.forget (l₁ := []) Sd.sh he (I2.nc _ _ ho2), Sd.same.trans sm⟩
          refine ⟨vs.length - (i + 1), by lia, TwI.mk (i + 1) Se ho' ?_ hlt rfl⟩
          rw [htk]; exact hJ2
      exact start_two1 inner (I2.again (Sc.get (.head _)) ⟨rfl, rfl⟩ inner)
    · have hin : i = vs.length := by lia
      subst hin
      refine I.stop P (S'.get (.head _)) ho (S'.geti hr) fun sa sm he => hQ _ _ ?_
      have Sa := Sh.forget (l₁ := []) S'.sh he (I.nc _ _ ho)
      obtain ⟨oC, nc, hC', S3⟩ := Sh.outC (l₁ := [_]) Sa hback hle
      refine fin C oC mC acc items kk' sa nc hC' ⟨S3, S'.same.trans sm⟩ ?_
      rw [List.take_of_length_le (by rw [strsAre_len hvs]; exact Nat.le_refl _)] at hJ
      exact hJ
  exact codeAny_compStart_list loop (I.again (SC.get (by first | exact m0 | exact m1 | exact m2 | exact m3 | exact m4 | exact m5 | exact m6 | simp)) ho loop)
end
end Mine
end

section
set_option compiler.extract_closed false
namespace Mine
open PySem PySem.W PyProof.Rows PySem.Calls
section
variable {w : World} {g : Heap} {b : Shared} {L : Addr} {m : Loc} {own imm : Led} {A : Around} {s : Shared} {env : Env} {x1 x2 : PySem.Str}
theorem Assign_two {iter : Expr} {p1 p2 p3 p4 p5 p6 py pos spos : Pos} {kc : Nat} {yn : PySem.Str} {scope : Scope} {cl : List (PySem.Str × Addr)} {Q : Flow → Shared → Prop}
    (hsw : swapsWith (two (.BinOp (.Name x1 p3) .Add (.Name x2 p4) p5) (.Name x1 p1) iter (.Name x2 p2) (.Constant (.str sBoth) kc p6) scope pos) (some (.Name yn py)) spos.line env = pure true) (hclos : closureFor scope env = pure cl)
    (h : wpAny (model P0 w) A (eval iter env) (fun v s₁ => wpAny (model P0 w) A (pyIter v) (fun itv s₂ =>
      ∃ it o₀ r vs kr ys m own imm, itv = .ref it ∧ St g b L s₂ m ((it, o₀) :: own) imm ∧ (o₀.cls = .type "list_iterator" ∧ o₀.data = .fields #[.ref r, .int 0 0]) ∧ (r, lst vs kr) ∈ imm ∧ StrsAre vs ys ∧ (∀ y ∈ ys, y.length ≤ 100) ∧ ys.length ≤ 1000 ∧
        ∀ acc items k s', St g b L s' (put m yn (.ref acc)) ((acc, lst items k) :: own) imm → StrsAre items (tw ys) → Q .next s') (fun _ _ => False) s₁) (fun _ _ => False) s)
    (hP : A.handled = none) (hs : ∀ x, foldedSetIterable iter env x = pure x := by intro _; rfl) (hcell : ∀ y ∈ scope.names, y.2 ≠ .cell := by decide) (hkind : scope.kind = .function := by rfl) (hl1 : scope.names.lookup x1 = some .local := by rfl) (hl2 : scope.names.lookup x2 = some .local := by rfl)
    (hne : x1 ≠ x2 := by decide) (hd1 : (x1 == ("__debug__" : PySem.Str)) = false := by decide) (hd2 : (x2 == ("__debug__" : PySem.Str)) = false := by decide)
    (hnames : ∀ x ∈ scope.names, x.2 = .local → scope.names.lookup x.1 = some .local := by decide)
    (hL : env.locals = L := by rfl) (hy : env.kindOf yn = some .local := by rfl) (hp : (env.scope.kind == .class || (env.scope.kind == .module && env.locals != env.globals)) = false := by rfl) :
    wpAny (model P0 w) A (exec (.Assign [.Name yn py] (two (.BinOp (.Name x1 p3) .Add (.Name x2 p4) p5) (.Name x1 p1) iter (.Name x2 p2) (.Constant (.str sBoth) kc p6) scope pos) spos) env) Q (fun _ _ => False) s := by
  rw [exec_Assign_Name_used _ _ _ _ hsw]
  refine wpAny_bind (wpAny_standAt (wpAny_bind ?_))
  show wpAny _ A (do let _ ← comprehension (two (.BinOp (.Name x1 p3) .Add (.Name x2 p4) p5) (.Name x1 p1) iter (.Name x2 p2) (.Constant (.str sBoth) kc p6) scope pos) scope env _ (newList []) false (eval iter env) (some (assign (.Name yn py) env))) _ _ s
  refine wpAny_bind (wpAny_mono (wpAny_comprehension_free (use := some (assign (.Name yn py) env)) (Q := fun _ s' => Q .next s') rfl hs hclos hkind hnames
    (wpAny_mono h (fun xv s₁ h₁ => wpAny_mono h₁ (fun it s₂ h₂ => ?_) fun _ _ e => e) fun _ _ e => e)) (fun _ s' hq => wpAny_pure (wpAny_pure hq)) fun _ _ e => e)
  obtain ⟨it, o₀, r, vs, kr, ys, m, own, imm, rfl, S, ho, hr, hvs, hy1, hy2, fin⟩ := h₂
  refine l_two (RR := fun acc C => compPost (model P0 w) A (fun _ _ => False) (some (assign (.Name yn py) env)) (fun _ s' => Q .next s') acc C) hP S ho hr hvs hy1 hy2 (fun C oC mC acc items k s' nc hC S' hi => ?_) hcell hkind hl1 hl2 hne hd1 hd2
  show wpAny _ A (assign (.Name yn py) env (.ref acc)) _ _ _
  refine wpAny_assign_Name (st_loc S' (fun s₃ S₃ => ⟨mC, hC _ (S₃.get (by first | exact m0 | exact m1 | exact m2 | exact m3 | exact m4 | exact m5 | exact m6 | simp)), fun h₄ hs₄ => ?_⟩) hL hy hp)
  exact fin acc items k _ (S₃.of (Sh.forget (l₁ := []) S₃.sh hs₄.extBut nc)) hi
end

noncomputable def lastOf : Nat → List PySem.Str
  | 0 => [sNo]
  | i + 1 => tw (lastOf i)
noncomputable def textsOf : Nat → List PySem.Str
  | 0 => [sNo]
  | i + 1 => textsOf i ++ lastOf (i + 1)
theorem textsOf3 : textsOf 3 = txts := by decide +kernel
theorem last_ok : ∀ i : Nat, i < 4 → (∀ y ∈ lastOf i, y.length ≤ 100) ∧ (lastOf i).length ≤ 1000 ∧ (textsOf i).length ≤ 1000 := by decide +kernel
theorem gn_texts (w : World) : nsIn (KH w) mainGlobals (Str.ofString "_law_texts") = some (some (.ref 85)) := by kernel_rfl
theorem kp_texts (w : World) : keepIn (KH w) (.ref 85) = true := by kernel_rfl
section
variable {w : World} {g : Heap}
set_option maxHeartbeats 1000000
theorem c_texts (G : Gl w g) (t : Tok) :
    Con w g 85 [.int 3 t] 2 20 (fun _ => True) (fun h v h' => ∃ r vs n, v = .ref r ∧ h'.get? r = some (lst vs n) ∧ Fr0 h r ∧ StrsAre vs txts) := by
  intro A s Q E P O sz _ hQ
  refine enter (d := 1) (u := 17) (binds := [(Str.ofString "size", .int 3 t)]) G (by rfl) (by rfl) (by kernel_rfl) (by rfl) (by rfl) P O sz fun L s₁ A P S => ?_
  refine wpAny_execs_cons (wpAny_Assign_Name (List_ (spliced_more (Constant_str (spliced_none (n_list (S.of S.sh) fun tx s₂ S => st_loc S fun s₃ S => ?_))))))
  refine wpAny_execs_cons (wpAny_Assign_Name (List_ (spliced_more (Constant_str (spliced_none (n_list (S.of S.sh) fun la s₄ S => st_loc S fun s₅ S => ?_))))))
  refine wpAny_execs_cons (x_range G S ?_ (gn_range w) bb_range)
  refine e_loc S (by rfl) (rgo (n := 3) (by decide) S fun it s₆ S => ?_)
  refine l_range (own := [(la, _), (tx, _)]) (fr := []) P.hh S (fun i m own imm => ∃ la tx lvs tvs kl kt, own = [(la, lst lvs kl), (tx, lst tvs kt)] ∧ m (Str.ofString "last") = some (.ref la) ∧ m (Str.ofString "texts") = some (.ref tx) ∧ StrsAre lvs (lastOf i) ∧ StrsAre tvs (textsOf i)) ?_ ?_ ?_
  · exact ⟨la, tx, _, _, _, _, rfl, put_eq, put_ne put_eq (by decide), .cons _ _ .nil, .cons _ _ .nil⟩
  · intro i m own imm s₇ ti oi hi hsub hJ S
    refine cut fun QQ hQ1 => ?_
    obtain ⟨la, tx, lvs, tvs, kl, kt, rfl, ml, mt, Il, It⟩ := hJ
    obtain ⟨b1, b2, b3⟩ := last_ok i (by lia)
    obtain ⟨c1, c2, c3⟩ := last_ok (i + 1) (by lia)
    have S := St.freeze (l₁ := []) S
    refine wpAny_execs_cons (Assign_two (g := g) (b := s) (L := L) (by rfl) (by rfl) ?_ P.hh)
    refine e_loc S (put_ne ml (by decide)) (wpAny_pyIter_list (isList_lst (S.geti (.head _))) ?_)
    have S := S.of (tk := s₇.toks) (S.sh.push { cls := .type "list_iterator", data := .fields #[.ref la, .int 0 0] })
    refine ⟨_, _, la, lvs, kl, lastOf i, _, _, _, rfl, S, ⟨rfl, rfl⟩, .head _, Il, b1, b2, fun acc items k s₈ S I => ?_⟩
    refine wpAny_execs_cons (wpAny_Assign_Name (wpAny_BinOp (e_loc S (put_ne (put_ne mt (by decide)) (by decide)) (e_loc S put_eq ?_))))
    refine a_addList S (S.get (a := tx) (o := lst tvs kt) (by first | exact m0 | exact m1 | exact m2 | exact m3 | exact m4 | exact m5 | exact m6 | simp)) (S.get (.head _)) ?_ fun nt s₉ S => ?_
    · rw [strsAre_len It, strsAre_len I]; show _ + (lastOf (i + 1)).length ≤ _; lia
    refine st_loc S fun sa S => ?_
    have S := S.perm (own' := (acc, lst items k) :: (nt, lst (tvs ++ items) 0) :: _) (List.Perm.swap ..)
    have S := S.drop (own' := [(acc, lst items k), (nt, lst (tvs ++ items) 0)] ++ (it, oi) :: []) (((((List.Sublist.refl _).cons _).cons_cons _).cons_cons _))
    refine wpAny_execs_nil (hQ1 _ _ ⟨_, _, _, S, fun p hp => .tail _ (hsub _ hp), acc, nt, items, _, k, 0, rfl, put_ne put_eq (by decide), put_eq, I, StrsAre.append' It I⟩)
  · rintro s' m' own' imm' S hsub ⟨la, tx, lvs, tvs, kl, kt, rfl, ml, mt, Il, It⟩
    refine wpAny_execs_cons (wpAny_Return_some (e_loc S mt ?_))
    refine hQ _ _ S.same S.ok S.ext ⟨tx, tvs, kt, rfl, S.get (by first | exact m0 | exact m1 | exact m2 | exact m3 | exact m4 | exact m5 | exact m6 | simp), S.geO (o := lst tvs kt) (by first | exact m0 | exact m1 | exact m2 | exact m3 | exact m4 | exact m5 | exact m6 | simp), ?_⟩
    rw [← textsOf3]; exact It
end
end Mine
end

section
set_option compiler.extract_closed false
namespace Mine
open PySem PySem.W PyProof.Rows PySem.Calls

theorem gn_sum (w : World) : nsIn (KH w) mainGlobals (Str.ofString "sum") = some none := by kernel_rfl

section
variable {w : World} {g : Heap} {b : Shared} {L : Addr} {m : Loc} {own imm : Led} {A : Around} {E : Value → Shared → Prop} {s : Shared} {env : Env} {value slice : Expr} {Q : Value → Shared → Prop} {ops : List Value}
/-- a slice of a list, known as a list alone -/
theorem a_lslI {l : Addr} {vs : List Value} {vl vu vk : Value} {lo hi st : Option Int} (S : St g b L s m own imm) (hl' : s.heap.IsList l vs.toArray) (pl : IsPart vl lo) (pu : IsPart vu hi) (pk : IsPart vk st) (h0 : st ≠ some 0) (hsz : vs.length ≤ 100000)
    (h : ∀ r s', St g b L s' m ((r, lst (slicePick vs.toArray lo hi st).toList 0) :: own) imm → Q (.ref r) s')
    (hs : subscripted slice false (.ref l) (.ref s.heap.objs.size) = operate ops (getItem (.ref l) (.ref s.heap.objs.size)) := by with_unfolding_all rfl) :
    wpAny (model P0 w) A (subscriptTail value slice (.ref l) (.ref s.heap.objs.size)) Q E { s with heap := s.heap.push { cls := .type "slice", data := .fields #[vl, vu, vk] } } := by
  refine tail_any (Heap.IsList.typeIs (s := { s with heap := s.heap.push { cls := .type "slice", data := .fields #[vl, vu, vk] } }) (hl'.push _)) list_getitem_lookup
    (wpAny_getItem_list_slice (hl'.push _) (Heap.IsSliceOf.new ..) pl pu pk h0 ?_ (by rw [List.size_toArray, sizeLine_eq]; lia)) hs
  have e : (slicePick vs.toArray lo hi st) = (slicePick vs.toArray lo hi st).toList.toArray := by simp
  rw [e]
  exact h _ _ (S.of ((S.sh.push0 _).push (lst (slicePick vs.toArray lo hi st).toList 0)))

theorem a_sum {l : Addr} {vs : List Value} {n : Nat} {ns : List Int} (hh : A.handled = none) (S : St g b L s m own imm) (hl : s.heap.get? l = some (lst vs n)) (hi : IntsAre vs ns)
    (h : ∀ k t s', St g b L s' m own imm → Q (.int k t) s') : wpAny (model P0 w) A (call (.builtin "sum") [.ref l]) Q E s := by
  obtain ⟨xs, hx⟩ := hi.allInts.items
  have hl' : s.heap.IsList l (intItems xs) := hx ▸ isList_lst hl
  exact sum_intListG hh hl' fun h' tk t' hk => h _ _ _ (S.of (S.sh.keeps hk))

/-- sum([x % K for x in e]) where e gives a new list of ints -/
theorem e_sumMod {K : Int} {iter : Expr} {px p1 p2 p3 pos psum pc : Pos} {kc : Nat} {scope : Scope} (hK : K ≠ 0) (G : Gl w g) (hh : A.handled = none) (S : St g b L s m own imm)
    (hit : ∀ R : Value → Shared → Prop, (∀ r vs ns s', St g b L s' m ((r, lst vs 0) :: own) imm → IntsAre vs ns → vs.length ≤ 1000 → R (.ref r) s') → wpAny (model P0 w) A (eval iter env) R (fun _ _ => False) s)
    (h : ∀ k t s', St g b L s' m own imm → Q (.int k t) s')
    (hclos : closureFor scope env = pure [])
    (hl : scope.names.lookup (Str.ofString "x") = some .local) (hkind : scope.kind = .function) (hcell : ∀ y ∈ scope.names, y.2 ≠ .cell) (hnames : ∀ x ∈ scope.names, x.2 = .local → scope.names.lookup x.1 = some .local)
    (hs : ∀ x, foldedSetIterable iter env x = pure x)
    (hg : env.globals = mainGlobals := by rfl) (hb : env.builtins = builtinsNs := by rfl) (hk : env.scope.kind = .function := by rfl) (hx : env.kindOf (Str.ofString "sum") = some .globalImplicit := by rfl) :
    wpAny (model P0 w) A (eval (.Call (.Name (Str.ofString "sum") psum) [.ListComp (.BinOp (.Name (Str.ofString "x") p1) .Mod (.Constant (.int K) kc p2) p3) [⟨.Name (Str.ofString "x") px, iter, [], 0⟩] scope pos] [] pc) env) Q E s := by
  refine Call_Name rfl (e_bi G S (gn_sum w) boot_sum (callWith_method1 (spliced_more ?_)) (by decide) hg hb hk hx)
  refine x_val (fun v s' => ∃ r items k ns, v = .ref r ∧ St g b L s' m ((r, lst items k) :: own) imm ∧ IntsAre items ns) (ListComp_ (g := g) (b := b) (L := L) hclos ?_ hh hs hcell hkind hl hnames) ?_
  · refine hit _ fun r vs ns s' S hI hlen => ?_
    refine wpAny_pyIter_list (isList_lst (S.get (.head _))) ?_
    have S := St.freeze (l₁ := [_]) (S.of (tk := s'.toks) (S.sh.push { cls := .type "list_iterator", data := .fields #[.ref r, .int 0 0] }))
    refine CompGo.mk (fun q its own₁ imm₁ => own₁ = [] ∧ its.length ≤ q ∧ q ≤ vs.length ∧ ∃ ns, IntsAre its ns) (lstIter w _ r vs 0) ⟨rfl, rfl⟩ S ?_ ⟨rfl, Nat.le_refl _, Nat.zero_le _, _, .nil⟩ ?_ ?_ ?_
    · exact fun C s' m' own' imm' S' hsub => S'.geti (hsub _ (.head _))
    · rintro q its own₁ imm₁ ⟨_, h1, h2, I⟩
      lia
    · rintro q C acc its kk own₁ imm₁ mC sf v oI oL hq hsub ⟨rfl, hql, hqv, ns', I⟩ hv S
      obtain ⟨tb, hget⟩ := intsAre_get hI q (by rw [← hI.length]; exact hq)
      rw [hv] at hget
      cases hget
      refine wpAny_pure ?_
      refine ifpos rfl ?_
      refine wpAny_BinOp (e_loc S put_eq (wpAny_Constant_int (mod_int' hK ?_)) rfl hkind (lookup_relabel_local hl))
      exact ⟨[], imm₁, _, S.of S.sh, hsub, rfl, by rw [List.length_append, List.length_singleton]; lia, hq, _, I.append (.cons _ _ .nil)⟩
    rintro acc its k own' imm' hsub ⟨rfl, hql, hqv, ns', I⟩ sg S
    exact ⟨acc, its, k, ns', rfl, S.dropI (fun p hp => hsub _ (.tail _ hp)), I⟩
  · rintro _ s' ⟨r, items, k, ns, rfl, S, I⟩
    refine spliced_none (a_sum hh S (S.get (.head _)) I fun k t s₂ S => ?_)
    exact h k t s₂ (S.drop (List.sublist_cons_self _ _))
end
end Mine
end

section
set_option compiler.extract_closed false
namespace Mine
open PySem PySem.W PyProof.Rows PySem.Calls

theorem valueAt_append (kvs : List (PySem.Str × Value)) (k x : PySem.Str) (v : Value) : valueAt (kvs ++ [(k, v)]) x = match valueAt kvs x with | some u => some u | none => if x = k then some v else none := by
  unfold valueAt
  rw [List.find?_append]
  cases h : kvs.find? (fun kv => decide (kv.1 = x)) with
  | some u => simp
  | none =>
    by_cases e : x = k
    · subst e; simp
    · have : ¬ k = x := fun q => e q.symm
      simp [e, this]
theorem valueAt_put (kvs : List (PySem.Str × Value)) (k x : PySem.Str) (v : Value) : valueAt (stored kvs k v) x = if x = k then some v else valueAt kvs x := by
  unfold stored
  split
  · rename_i h
    induction kvs with
    | nil => simp at h
    | cons kv r ih =>
      unfold valueAt at ih ⊢
      simp only [List.map_cons, List.find?_cons]
      by_cases e : kv.1 = k
      · rw [if_pos e]
        by_cases ex : x = k
        · subst ex; simp [e]
        · have : ¬ k = x := fun q => ex q.symm
          simp only [e, this, decide_false, if_neg ex]
          by_cases hr : (r.any fun kv => decide (kv.1 = k)) = true
          · rw [ih hr, if_neg ex]
          · have : r.map (fun kv => if kv.1 = k then (kv.1, v) else kv) = r := by
              clear ih h
              induction r with
              | nil => rfl
              | cons a r ih =>
                simp only [List.any_cons, Bool.or_eq_true, decide_eq_true_eq, not_or] at hr
                rw [List.map_cons, if_neg hr.1, ih hr.2]
            rw [this]
      · rw [if_neg e]
        by_cases ex : kv.1 = x
        · subst ex
          simp [e]
        · simp only [ex, decide_false]
          have hr : (r.any fun kv => decide (kv.1 = k)) = true := by simpa [e] using h
          exact ih hr
  · rename_i h
    rw [valueAt_append]
    by_cases e : x = k
    · subst e
      rw [if_pos rfl]
      have : valueAt kvs x = none := by
        unfold valueAt
        rw [Option.map_eq_none_iff, List.find?_eq_none]
        intro a ha q
        exact h (List.any_eq_true.mpr ⟨a, ha, q⟩)
      rw [this, if_pos rfl]
    · rw [if_neg e]
      cases valueAt kvs x with
      | none => simp [e]
      | some u => simp [e]

theorem dictOf_nc {w : World} {o : Obj} {kvs : List (PySem.Str × Value)} (D : o.IsDictOf (strKind P0 w) kvs) : NotCode o := fun vs q t e => by
  obtain ⟨es, ep, _, d, _⟩ := D
  rw [d] at e; cases e

section
variable {w : World} {g : Heap} {b : Shared} {L : Addr} {m : Loc} {own imm : Led} {A : Around} {s : Shared} {env : Env} {x : PySem.Str}
/-- {x: vx for x in e}, e a list of texts, vx a number made of the text -/
theorem l_dict {vx iter : Expr} {px p3 pos : Pos} {scope : Scope} {cl : List (PySem.Str × Addr)} {it r : Addr} {o₀ : Obj} {vs : List Value} {kr : Nat} {ys : List PySem.Str} (F : PySem.Str → Int) {RR : Value → Addr → Result → Shared → Prop}
    (P : A.handled = none) (S : St g b L s m ((it, o₀) :: own) imm) (ho : o₀.cls = .type "list_iterator" ∧ o₀.data = .fields #[.ref r, .int 0 0]) (hr : (r, lst vs kr) ∈ imm) (hvs : StrsAre vs ys) (hyl : ys.length ≤ 1000)
    (hval : ∀ (i : Nat) C acc od mC s₁ o oL (y : PySem.Str) ty, ys[i]? = some y → St g b C s₁ (put mC x (.str y ty)) ((it, o) :: (acc, od) :: (L, oL) :: own) imm →
      wpAny (model P0 w) A (eval vx (compEnvC scope cl C env)) (fun v s₂ => (∃ u, v = .int (F y) u) ∧ ∃ mC', St g b C s₂ mC' ((it, o) :: (acc, od) :: (L, oL) :: own) imm) (fun _ _ => False) s₁)
    (fin : ∀ C oC mC acc od kvs s', NotCode oC → (∀ h'' : Heap, h''.get? C = some oC → h''.Ns C mC) → St g b L s' m ((C, oC) :: (acc, od) :: own) imm → od.IsDictOf (strKind P0 w) kvs → (∀ y ∈ ys, ∃ u, valueAt kvs y = some (.int (F y) u)) →
      RR (.ref acc) C (.ok .next) s')
    (hcell : ∀ y ∈ scope.names, y.2 ≠ .cell) (hkind : scope.kind = .function) (hl : scope.names.lookup x = some .local) (hd : (x == ("__debug__" : PySem.Str)) = false) :
    wpAny (model P0 w) A newDict (fun acc s₃ => wpAny (model P0 w) A (newFunctionEnv scope env.globals cl [] env.qual none .none (some env)) (fun cenv s₄ =>
      codeAny (model P0 w) A (.compStart (.DictComp (.Name x p3) vx [⟨.Name x px, iter, [], 0⟩] scope pos) 0 (.ref it) acc { cenv with scope := relabel scope env }) (RR acc cenv.locals) s₄) (fun _ _ => False) s₃) (fun _ _ => False) s := by
  refine wpAny_newObj_type ?_
  have S := S.of (tk := s.toks) (S.sh.push { cls := .type "dict", data := .dict #[] })
  revert S
  refine letter (s.heap.objs.size) ?_
  intro acc S
  refine norm S fun s₁ S => ?_
  refine wpAny_newFunctionEnv hcell (fun _ hx => nomatch hx) (fun h₂ hn hs => ?_) hkind
  obtain ⟨oL, SC, hback⟩ := S.sh.intoC hn hs
  revert SC
  refine letterE (s₁.heap.objs.size) ?_
  intro C hC SC
  show codeAny _ _ (.compStart _ 0 (.ref it) (.ref acc) (compEnvC scope cl C env)) (RR (.ref acc) C) _
  have kl : (compEnvC scope cl C env).kindOf x = some .local := lookup_relabel_local hl
  have kk : (compEnvC scope cl C env).scope.kind = .function := hkind
  have kp : ((compEnvC scope cl C env).scope.kind == .class || ((compEnvC scope cl C env).scope.kind == .module && (compEnvC scope cl C env).locals != (compEnvC scope cl C env).globals)) = false := by
    show (scope.kind == .class || (scope.kind == .module && _)) = false
    rw [hkind]; rfl
  have hle := S.sh.le
  have SC : St g b C { s₁ with heap := h₂, toks := s₁.toks + ([] : List (PySem.Str × Value)).length } (fun x => ([] : List (PySem.Str × Value)).reverse.lookup x) ((it, o₀) :: (acc, { cls := .type "dict", data := .dict #[] }) :: (L, oL) :: own) imm :=
    ⟨SC.perm ((List.Perm.cons _ (List.Perm.swap ..)).trans ((List.Perm.swap ..).trans (List.Perm.cons _ (List.Perm.swap ..)))), S.same⟩
  refine normC SC fun s₂ SC => ?_
  revert SC
  refine letter ((fun x => ([] : List (PySem.Str × Value)).reverse.lookup x)) ?_
  intro mC SC
  have I := lstIter w it r vs kr
  have loop : codeAny (model P0 w) A (.compLoop (.DictComp (.Name x p3) vx [⟨.Name x px, iter, [], 0⟩] scope pos) 0 (.ref it) (.ref acc) (compEnvC scope cl C env)) (RR (.ref acc) C) s₂ := by
    refine codeAny_compLoop_testsD (fun k s' => ∃ (mC : Loc) (kvs : List (PySem.Str × Value)) (i : Nat) (o od : Obj), St g b C s' mC ((it, o) :: (acc, od) :: (L, oL) :: own) imm ∧ (o.cls = .type "list_iterator" ∧ o.data = .fields #[.ref r, .int i 0]) ∧
        od.IsDictOf (strKind P0 w) kvs ∧ kvs.length ≤ i ∧ (∀ y ∈ ys.take i, ∃ u, valueAt kvs y = some (.int (F y) u)) ∧ i ≤ vs.length ∧ k = vs.length - i) ?_ vs.length
      ⟨mC, [], 0, o₀, _, SC, ho, ⟨#[], 0, ⟨rfl, rfl, rfl⟩, rfl, fun _ he => by simp at he, Pairs.nil, List.nodup_nil⟩, Nat.le_refl _, by simp, Nat.zero_le _, rfl⟩
    intro k s' hI
    refine cut fun QQ hQ => ?_
    obtain ⟨mC, kvs, i, o, od, S', ho, hD, hkl, hJ, hi, rfl⟩ := hI
    have hylen : vs.length = ys.length := strsAre_len hvs
    by_cases hlt : i < vs.length
    · refine I.next (i := i) hlt (S'.get (.head _)) ho (S'.geti hr) fun v o' sa hv sm e' ho' hsb => hQ _ _ ?_
      have Sa : St g b C sa mC ([] ++ (it, o') :: (acc, od) :: (L, oL) :: own) imm := ⟨Sh.upd (l₁ := []) S'.sh hsb.extBut e' (I.nc _ _ ho), S'.same.trans sm⟩
      obtain ⟨y, ty, rfl, hyi⟩ := StrsAre.item hvs i v hv
      refine wpAny_assign_Name (st_loc Sa (fun sb Sb => ?_) rfl kl kp)
      refine wpAny_pure ?_
      rw [if_pos rfl]
      refine e_loc Sb put_eq ?_ rfl kk kl hd
      refine wpAny_mono (hval i C acc od mC sb o' oL y ty hyi Sb) (fun v sc h₃ => ?_) fun _ _ e => e.elim
      obtain ⟨⟨u, rfl⟩, mC', Sc⟩ := h₃
      have hDO : sc.heap.DictOf (strKind P0 w) acc kvs := Heap.dictOf_iff.mpr ⟨od, Sc.get (a := acc) (o := od) (by first | exact m0 | exact m1 | exact m2 | exact m3 | exact m4 | exact m5 | exact m6 | simp), hD⟩
      refine wpAny_dictSet_pairs (strKind_is P0 w y ty) hDO (fun h' hD' hs' => ?_) (by rw [sizeLine_eq]; lia)
      obtain ⟨od', eo', hD'⟩ := Heap.dictOf_iff.mp hD'
      have Sd := Sc.of (tk := sc.toks + 1) (Sh.upd (l₁ := [(it, o')]) Sc.sh hs'.extBut eo' (dictOf_nc hD))
      refine ⟨vs.length - (i + 1), by lia, mC', _, i + 1, o', od', Sd, ho', hD', ?_, ?_, hlt, rfl⟩
      · have := stored_length_le kvs y (Value.int (F y) u); lia
      · intro z hz
        rw [valueAt_put]
        by_cases hzy : z = y
        · subst hzy; exact ⟨u, if_pos rfl⟩
        · rw [if_neg hzy]
          rw [List.take_add_one, hyi] at hz
          rcases List.mem_append.mp hz with hz | hz
          · exact hJ z hz
          · simp at hz; exact absurd hz hzy
    · have hin : i = vs.length := by lia
      subst hin
      refine I.stop P (S'.get (.head _)) ho (S'.geti hr) fun sa sm he => hQ _ _ ?_
      have Sa := Sh.forget (l₁ := []) S'.sh he (I.nc _ _ ho)
      obtain ⟨oC, nc, hC', S3⟩ := Sh.outC (l₁ := [_]) Sa hback hle
      refine fin C oC mC acc od kvs sa nc hC' ⟨S3, S'.same.trans sm⟩ hD ?_
      rw [List.take_of_length_le (by rw [hylen]; exact Nat.le_refl _)] at hJ
      exact hJ
  exact codeAny_compStart_dict loop (I.again (SC.get (by first | exact m0 | exact m1 | exact m2 | exact m3 | exact m4 | exact m5 | exact m6 | simp)) ho loop)

theorem Assign_dict {vx iter : Expr} {px p3 py pos spos : Pos} {yn : PySem.Str} {scope : Scope} {cl : List (PySem.Str × Addr)} (F : PySem.Str → Int) {Q : Flow → Shared → Prop}
    (hsw : swapsWith (.DictComp (.Name x p3) vx [⟨.Name x px, iter, [], 0⟩] scope pos) (some (.Name yn py)) spos.line env = pure true) (hclos : closureFor scope env = pure cl)
    (h : wpAny (model P0 w) A (eval iter env) (fun v s₁ => wpAny (model P0 w) A (pyIter v) (fun itv s₂ =>
      ∃ it o₀ r vs kr ys m own imm, itv = .ref it ∧ St g b L s₂ m ((it, o₀) :: own) imm ∧ (o₀.cls = .type "list_iterator" ∧ o₀.data = .fields #[.ref r, .int 0 0]) ∧ (r, lst vs kr) ∈ imm ∧ StrsAre vs ys ∧ ys.length ≤ 1000 ∧
        (∀ (i : Nat) C acc od mC s₁ o oL (y : PySem.Str) ty, ys[i]? = some y → St g b C s₁ (put mC x (.str y ty)) ((it, o) :: (acc, od) :: (L, oL) :: own) imm →
          wpAny (model P0 w) A (eval vx (compEnvC scope cl C env)) (fun v s₂ => (∃ u, v = .int (F y) u) ∧ ∃ mC', St g b C s₂ mC' ((it, o) :: (acc, od) :: (L, oL) :: own) imm) (fun _ _ => False) s₁) ∧
        ∀ acc od kvs s', St g b L s' (put m yn (.ref acc)) ((acc, od) :: own) imm → od.IsDictOf (strKind P0 w) kvs → (∀ y ∈ ys, ∃ u, valueAt kvs y = some (.int (F y) u)) → Q .next s') (fun _ _ => False) s₁) (fun _ _ => False) s)
    (hP : A.handled = none) (hs : ∀ x, foldedSetIterable iter env x = pure x) (hcell : ∀ y ∈ scope.names, y.2 ≠ .cell) (hkind : scope.kind = .function) (hl : scope.names.lookup x = some .local)
    (hd : (x == ("__debug__" : PySem.Str)) = false)
    (hnames : ∀ x ∈ scope.names, x.2 = .local → scope.names.lookup x.1 = some .local)
    (hL : env.locals = L) (hy : env.kindOf yn = some .local) (hp : (env.scope.kind == .class || (env.scope.kind == .module && env.locals != env.globals)) = false) :
    wpAny (model P0 w) A (exec (.Assign [.Name yn py] (.DictComp (.Name x p3) vx [⟨.Name x px, iter, [], 0⟩] scope pos) spos) env) Q (fun _ _ => False) s := by
  rw [exec_Assign_Name_used _ _ _ _ hsw]
  refine wpAny_bind (wpAny_standAt (wpAny_bind ?_))
  show wpAny _ A (do let _ ← comprehension (.DictComp (.Name x p3) vx [⟨.Name x px, iter, [], 0⟩] scope pos) scope env _ newDict false (eval iter env) (some (assign (.Name yn py) env))) _ _ s
  refine wpAny_bind (wpAny_mono (wpAny_comprehension_free (use := some (assign (.Name yn py) env)) (Q := fun _ s' => Q .next s') rfl hs hclos hkind hnames
    (wpAny_mono h (fun xv s₁ h₁ => wpAny_mono h₁ (fun it s₂ h₂ => ?_) fun _ _ e => e) fun _ _ e => e)) (fun _ s' hq => wpAny_pure (wpAny_pure hq)) fun _ _ e => e)
  obtain ⟨it, o₀, r, vs, kr, ys, m, own, imm, rfl, S, ho, hr, hvs, hyl, hval, fin⟩ := h₂
  refine l_dict F (RR := fun acc C => compPost (model P0 w) A (fun _ _ => False) (some (assign (.Name yn py) env)) (fun _ s' => Q .next s') acc C) hP S ho hr hvs hyl hval (fun C oC mC acc od kvs s' nc hC S' hD hi => ?_) hcell hkind hl hd
  show wpAny _ A (assign (.Name yn py) env (.ref acc)) _ _ _
  refine wpAny_assign_Name (st_loc S' (fun s₃ S₃ => ⟨mC, hC _ (S₃.get (by first | exact m0 | exact m1 | exact m2 | exact m3 | exact m4 | exact m5 | exact m6 | simp)), fun h₄ hs₄ => ?_⟩) hL hy hp)
  exact fin acc od kvs _ (S₃.of (Sh.forget (l₁ := []) S₃.sh hs₄.extBut nc)) hD hi
end
end Mine
end

section
set_option compiler.extract_closed false
namespace Mine
open PySem PySem.W PyProof.Rows PySem.Calls

noncomputable def pre (y : PySem.Str) (c : Int) : PySem.Str := Txt.slice y none (some c)
noncomputable def flipC (c : Nat) : PySem.Str := if ((⟨#[c]⟩ : PySem.Str) == sGt) then sLt else sGt
noncomputable def flipS (x : PySem.Str) : PySem.Str := Txt.join sNo (x.cps.toList.map flipC)
noncomputable def told (l : Int) : Bool × Bool := (decide (256 - l < 256), decide (256 + l < 256))

/-- one prefix of a stalk: its options, W the prefixes' worths -/
noncomputable def prefW (wd : Nat) (y : PySem.Str) (W : Nat → Int) (i : Nat) : Bool :=
  ((List.range i).all fun c => (!(Txt.item y (c : Int) == cLt) || decide (W c < W i)) && (!(Txt.item y (c : Int) == cGt) || decide (W i < W c))) &&
  (List.range (wd + 1)).any fun e => W i % ((2 ^ e : Nat) : Int) == 0 &&
    (((List.range i).any fun c => Txt.item y (c : Int) == cLt && W c == W i - ((2 ^ e : Nat) : Int)) || (e == wd && decide (W i ≤ 0))) &&
    (((List.range i).any fun c => Txt.item y (c : Int) == cGt && W c == W i + ((2 ^ e : Nat) : Int)) || (e == wd && decide (0 ≤ W i)))
noncomputable def stalkW (wd : Nat) (y : PySem.Str) (W : Nat → Int) : Bool := (List.range (y.length + 1)).all (prefW wd y W)
noncomputable def stalkB (wd : Nat) (y : PySem.Str) : Bool := stalkW wd y fun c => worth (pre y (c : Int)) wd
structure StOk (wd : Nat) (y : PySem.Str) : Prop where
  lt : ∀ i : Nat, i ≤ y.length → ∀ c : Nat, c < i → (Txt.item y (c : Int) == cLt) = true → worth (pre y c) wd < worth (pre y i) wd
  gt : ∀ i : Nat, i ≤ y.length → ∀ c : Nat, c < i → (Txt.item y (c : Int) == cGt) = true → worth (pre y i) wd < worth (pre y c) wd
  op : ∀ i : Nat, i ≤ y.length → ∃ e : Nat, e ≤ wd ∧ worth (pre y i) wd % ((2 ^ e : Nat) : Int) = 0 ∧
    ((∃ c : Nat, c < i ∧ (Txt.item y (c : Int) == cLt) = true ∧ worth (pre y c) wd = worth (pre y i) wd - ((2 ^ e : Nat) : Int)) ∨ (e = wd ∧ worth (pre y i) wd ≤ 0)) ∧
    ((∃ c : Nat, c < i ∧ (Txt.item y (c : Int) == cGt) = true ∧ worth (pre y c) wd = worth (pre y i) wd + ((2 ^ e : Nat) : Int)) ∨ (e = wd ∧ 0 ≤ worth (pre y i) wd))
theorem stOkW {wd : Nat} {y : PySem.Str} {W : Nat → Int} (hW : ∀ c : Nat, c ≤ y.length → worth (pre y c) wd = W c) (h : stalkW wd y W = true) : StOk wd y := by
  have H : ∀ i : Nat, i ≤ y.length → prefW wd y W i = true := fun i hi => List.all_eq_true.mp h i (List.mem_range.mpr (by lia))
  refine ⟨fun i hi c hc e => ?_, fun i hi c hc e => ?_, fun i hi => ?_⟩
  · have := H i hi
    unfold prefW at this
    rw [Bool.and_eq_true] at this
    have := List.all_eq_true.mp this.1 c (List.mem_range.mpr hc)
    rw [e] at this
    simp only [Bool.not_true, Bool.false_or, Bool.and_eq_true, decide_eq_true_eq] at this
    rw [hW i hi, hW c (by lia)]
    exact this.1
  · have := H i hi
    unfold prefW at this
    rw [Bool.and_eq_true] at this
    have := List.all_eq_true.mp this.1 c (List.mem_range.mpr hc)
    rw [e] at this
    simp only [Bool.not_true, Bool.false_or, Bool.and_eq_true, decide_eq_true_eq] at this
    rw [hW i hi, hW c (by lia)]
    exact this.2
  · have := H i hi
    unfold prefW at this
    rw [Bool.and_eq_true] at this
    obtain ⟨e, he, h2⟩ := List.any_eq_true.mp this.2
    simp only [Bool.and_eq_true, Bool.or_eq_true, List.any_eq_true, List.mem_range, decide_eq_true_eq, beq_iff_eq] at h2
    rw [hW i hi]
    refine ⟨e, by have := List.mem_range.mp he; lia, h2.1.1, ?_, ?_⟩
    · rcases h2.1.2 with ⟨c, a, b1, b2⟩ | q
      · exact .inl ⟨c, a, by rw [beq_iff_eq]; exact b1, by rw [hW c (by lia)]; exact b2⟩
      · exact .inr q
    · rcases h2.2 with ⟨c, a, b1, b2⟩ | q
      · exact .inl ⟨c, a, by rw [beq_iff_eq]; exact b1, by rw [hW c (by lia)]; exact b2⟩
      · exact .inr q
theorem stOk {wd : Nat} {y : PySem.Str} (h : stalkB wd y = true) : StOk wd y := stOkW (fun _ _ => rfl) h
theorem txts_ok : ∀ wd : Nat, wd < 5 → 2 ≤ wd → ∀ y ∈ txts, stalkB wd y = true := by decide +kernel

noncomputable def firsts : List PySem.Str := txts
noncomputable def seconds : List PySem.Str := txts.take 7
noncomputable def sumOf (wd : Nat) (f s : PySem.Str) : Int := worth f wd + worth s wd
noncomputable def ansOf (wd : Nat) (f s : PySem.Str) : PySem.Str := stalkOf wd (sumOf wd f s)
noncomputable def thirdOf (wd : Nat) (f s : PySem.Str) : PySem.Str := flipS (ansOf wd f s)
/-- the sums that can come up (by quarters), each with its third stalk and the worths of that stalk's prefixes -/
noncomputable def sumsT : List (Int × String × List Int) :=
[(0, "", [0]),
 (4, ">", [0, -4]),
 (-4, "<", [0, 4]),
 (8, ">>", [0, -4, -8]),
 (2, "><", [0, -4, -2]),
 (-2, "<>", [0, 4, 2]),
 (-8, "<<", [0, 4, 8]),
 (12, ">>>", [0, -4, -8, -12]),
 (6, ">><", [0, -4, -8, -6]),
 (-6, "<<>", [0, 4, 8, 6]),
 (-12, "<<<", [0, 4, 8, 12]),
 (16, ">>>>", [0, -4, -8, -12, -16]),
 (10, ">>><", [0, -4, -8, -12, -10]),
 (-10, "<<<>", [0, 4, 8, 12, 10]),
 (-16, "<<<<", [0, 4, 8, 12, 16]),
 (20, ">>>>>", [0, -4, -8, -12, -16, -20]),
 (14, ">>>><", [0, -4, -8, -12, -16, -14]),
 (3, "><>", [0, -4, -2, -3]),
 (7, ">><>", [0, -4, -8, -6, -7]),
 (-1, "<>>", [0, 4, 2, 1]),
 (11, ">>><>", [0, -4, -8, -12, -10, -11]),
 (5, ">><<", [0, -4, -8, -6, -5]),
 (1, "><<", [0, -4, -2, -1]),
 (-5, "<<>>", [0, 4, 8, 6, 5]),
 (-3, "<><", [0, 4, 2, 3]),
 (9, ">>><<", [0, -4, -8, -12, -10, -9]),
 (-7, "<<><", [0, 4, 8, 6, 7]),
 (-9, "<<<>>", [0, 4, 8, 12, 10, 9]),
 (-11, "<<<><", [0, 4, 8, 12, 10, 11]),
 (-14, "<<<<>", [0, 4, 8, 12, 16, 14]),
 (-20, "<<<<<", [0, 4, 8, 12, 16, 20])]
noncomputable def sc (wd : Nat) : Int := ((2 ^ (wd - 2) : Nat) : Int)
noncomputable def rowB (wd : Nat) (e : Int × String × List Int) : Bool :=
  decide (-100 ≤ e.1 * sc wd) && decide (e.1 * sc wd ≤ 100) && (stalkOf wd (e.1 * sc wd)).cps.toList.all (fun c => c == 60 || c == 62) && decide ((stalkOf wd (e.1 * sc wd)).length ≤ 10) &&
  (worth (stalkOf wd (e.1 * sc wd)) wd == e.1 * sc wd) && (flipS (stalkOf wd (e.1 * sc wd)) == Str.ofString e.2.1) &&
  decide ((Str.ofString e.2.1).length ≤ 10) && (Str.ofString e.2.1).cps.toList.all (fun c => c == 60 || c == 62) &&
  (List.range ((Str.ofString e.2.1).length + 1)).all (fun c => worth (pre (Str.ofString e.2.1) (c : Int)) wd == e.2.2.getD c 0 * sc wd) &&
  stalkW wd (Str.ofString e.2.1) (fun c => e.2.2.getD c 0 * sc wd) && (e.2.2.getD (Str.ofString e.2.1).length 0 * sc wd == -(e.1 * sc wd))
theorem rows_ok : ∀ wd : Nat, wd < 5 → 2 ≤ wd → ∀ e ∈ sumsT, rowB wd e = true := by decide +kernel
theorem sums_in : ∀ wd : Nat, wd < 5 → 2 ≤ wd → ∀ f ∈ txts, ∀ z ∈ seconds, (sumsT.any fun e => sumOf wd f z == e.1 * sc wd) = true := by decide +kernel
theorem betw_ok : ∀ wd : Nat, wd < 5 → 2 ≤ wd → ∀ f ∈ txts, ∀ x ∈ txts, (Txt.startswith x f == betTo (fun y => worth y wd) x f f.length) = true := by decide +kernel
theorem txts_pre : ∀ wd : Nat, wd < 5 → 2 ≤ wd → ∀ y ∈ txts, (worth (pre y y.length) wd == worth y wd) = true := by decide +kernel
theorem pre_mem : ∀ f ∈ txts, ∀ i : Nat, i < f.length + 1 → pre f i ∈ txts := by decide +kernel
end Mine
end

section
set_option compiler.extract_closed false
namespace Mine
open PySem PySem.W PyProof.Rows PySem.Calls

noncomputable def lawFD : Stmt := (P0.main.body.getLast?).getD (.Pass ⟨0,0,0,0⟩)
noncomputable def lawBody : List Stmt := match lawFD with | .FunctionDef _ _ body _ _ _ _ _ _ _ => body | _ => []
noncomputable def lawScope : Scope := match lawFD with | .FunctionDef _ _ _ _ _ _ scope _ _ _ => scope | _ => default
noncomputable def lawEnv (L fa : Addr) (cd : Value) : Env := envOfC (Str.ofString "law") lawScope L fa cd
noncomputable def lawSt (n : Nat) : Stmt := lawBody.getD n (.Pass ⟨0,0,0,0⟩)

/-- what the locals are known to hold -/
def Has (m : Loc) (bs : List (PySem.Str × Value)) : Prop := ∀ p ∈ bs, m p.1 = some p.2
theorem Has.put {m : Loc} {bs : List (PySem.Str × Value)} (H : Has m bs) (x : PySem.Str) (v : Value) (hx : (bs.map (·.1)).all (fun y => decide (y ≠ x)) = true := by rfl) : Has (put m x v) ((x, v) :: bs) := fun p hp => by
  rcases List.mem_cons.mp hp with rfl | hp
  · exact put_eq
  · exact put_ne (H p hp) (by simpa using List.all_eq_true.mp hx p.1 (List.mem_map_of_mem hp))
theorem Has.keep {m : Loc} {bs : List (PySem.Str × Value)} (H : Has m bs) (x : PySem.Str) (v : Value) (hx : (bs.map (·.1)).all (fun y => decide (y ≠ x)) = true := by rfl) : Has (Mine.put m x v) bs := fun p hp => H.put x v hx p (.tail _ hp)
theorem Has.left {m : Loc} {l r : List (PySem.Str × Value)} (H : Has m (l ++ r)) : Has m l := fun p hp => H p (List.mem_append_left _ hp)
theorem IsList.gk {g : Heap} {b s : Shared} {L : Addr} {m : Loc} {own imm : Led} (S : St g b L s m own imm) {a : Addr} {vs : Array Value} (x : g.IsList a vs) : s.heap.IsList a vs := let ⟨o, e, r⟩ := x; ⟨o, S.gk e, r⟩

theorem sec_mem : ∀ i : Nat, i < 7 → txts.getD i default ∈ seconds := by decide +kernel
section
variable {w : World} {g : Heap} {b : Shared} {L fa : Addr} {cd : Value} {m : Loc} {own imm : Led} {A : Around} {s : Shared} {Q : Flow → Shared → Prop} {sa : Addr} {vs : List Value} {ns : List Int} {oW oT : Obj}
theorem law_s0 (G : Gl w g) (P : Pre A 40 450) (S : St g b L s m [(L + 1, oW), (L + 2, oT)] []) (H : Has m [(Str.ofString "script", .ref sa)]) (hl : g.IsList sa vs.toArray) (hI : IntsAre vs ns) (hlen : vs.length ≤ 63) (dW : oW.data = .cell none)
    (h : ∀ (wd : Nat) t oW s', 2 ≤ wd → wd ≤ 4 → oW.data = .cell (some (.int wd t)) → St g b L s' m [(L + 1, oW), (L + 2, oT)] [] → Q .next s') :
    wpAny (model P0 w) A (exec (lawSt 0) (lawEnv L fa cd)) Q (fun _ _ => False) s := by
  refine wpAny_Assign_Name (wpAny_BinOp (wpAny_Constant_int (wpAny_BinOp ?_)))
  refine e_sumMod (m := m) (own := [(L + 1, oW), (L + 2, oT)]) (imm := []) (by decide) G P.hh (S.of S.sh) (fun R hR => ?_) (fun k t s₁ S => ?_) (by rfl) (by rfl) (by rfl) (by decide) (by decide) (by intro _; rfl)
  · refine Subscript_ (e_loc (S.of S.sh) (H _ (.head _)) (wpAny_Slice (part_none (part_some (wpAny_Constant_int (part_none ?_))))))
    refine a_lslI (lo := none) (hi := some 20) (st := none) (S.of S.sh) (IsList.gk S hl) .none (.int _ _) .none (by decide) (by lia) fun r s₂ S => ?_
    exact hR r _ _ s₂ S (hI.pick none (some 20) none) (by have := length_pickNums_le hI none (some 20) none; have := (hI.pick none (some 20) none).length; have := hI.length; lia)
  · refine wpAny_Constant_int (mod_int' (by decide) (add_int ?_))
    obtain ⟨wd, hwd, h1, h2⟩ : ∃ wd : Nat, 2 + k.fmod 3 = (wd : Int) ∧ 2 ≤ wd ∧ wd ≤ 4 := by
      have h1 := Int.fmod_nonneg_of_pos k (b := 3) (by decide)
      have h2 := Int.fmod_lt_of_pos k (b := 3) (by decide)
      exact ⟨(2 + k.fmod 3).toNat, by lia, by lia, by lia⟩
    rw [hwd]
    refine st_cell (l₁ := []) (S.of S.sh) dW fun oW s₂ dW S => ?_
    exact h wd _ oW s₂ h1 h2 dW S
theorem law_s1 (G : Gl w g) (P : Pre A 40 450) (S : St g b L s m own []) (H : Has m [(Str.ofString "script", .ref sa)])
    (h : ∀ ta tvs n m s', StrsAre tvs txts → St g b L s' m own [(ta, lst tvs n)] → Has m [(Str.ofString "texts", .ref ta), (Str.ofString "script", .ref sa)] → Q .next s') :
    wpAny (model P0 w) A (exec (lawSt 1) (lawEnv L fa cd)) Q (fun _ _ => False) s := by
  refine wpAny_Assign_Name (Call_Name rfl (e_glob G S (gn_texts w) (callWith_K G.K (kp_texts w) (spliced_more (wpAny_Constant_int (spliced_none ⟨fun a o e => S.gk (G.K _ _ e), ?_⟩))))))
  refine norm (S.of S.sh) fun s₁ S => ?_
  refine c_texts G _ _ _ _ _ (P.le (by lia) (by lia)) S.ok S.gsz trivial ?_
  rintro _ s₂ e₂ O₂ X₂ ⟨r, tvs, n, rfl, er, fr, I⟩
  have S := S.adopt (nw := [(r, lst tvs n)]) e₂ X₂ O₂ (fun p hp => by rcases List.mem_cons.mp hp with rfl | hp; exact ⟨er, fr⟩; cases hp)
  refine st_loc S fun s₃ S => ?_
  exact h r tvs n _ s₃ I S (H.put _ _)

theorem law_s2 {ta : Addr} {tvs : List Value} {n : Nat} (G : Gl w g) (P : Pre A 40 450) (S : St g b L s m own [(ta, lst tvs n)]) (H : Has m [(Str.ofString "texts", .ref ta), (Str.ofString "script", .ref sa)]) (hl : g.IsList sa vs.toArray) (hI : IntsAre vs ns) (hlen : vs.length ≤ 63) (hT : StrsAre tvs txts)
    (h : ∀ f t m s', f ∈ txts → St g b L s' m own [(ta, lst tvs n)] → Has m [(Str.ofString "first", .str f t), (Str.ofString "texts", .ref ta), (Str.ofString "script", .ref sa)] → Q .next s') :
    wpAny (model P0 w) A (exec (lawSt 2) (lawEnv L fa cd)) Q (fun _ _ => False) s := by
  refine wpAny_Assign_Name (Subscript_ (e_loc S (H _ (.head _)) (wpAny_BinOp (wpAny_BinOp (wpAny_Constant_int ?_)))))
  refine e_sumMod (m := m) (own := own) (imm := [(ta, lst tvs n)]) (by decide) G P.hh (S.of S.sh) (fun R hR => ?_) (fun k t s₁ S => ?_) (by rfl) (by rfl) (by rfl) (by decide) (by decide) (by intro _; rfl)
  · refine Subscript_ (e_loc (S.of S.sh) (H _ (.tail _ (.head _))) (wpAny_Slice (part_none (part_some (wpAny_Constant_int (part_some (wpAny_Constant_int ?_)))))))
    refine a_lslI (lo := none) (hi := some 20) (st := some 2) (S.of S.sh) (IsList.gk S hl) .none (.int _ _) (.int _ _) (by decide) (by lia) fun r s₂ S => ?_
    exact hR r _ _ s₂ S (hI.pick none (some 20) (some 2)) (by have := length_pickNums_le hI none (some 20) (some 2); have := (hI.pick none (some 20) (some 2)).length; have := hI.length; lia)
  · refine add_int (wpAny_Constant_int (mod_int' (by decide) ?_))
    have h1 := Int.fmod_nonneg_of_pos (10 + k) (b := 15) (by decide)
    have h2 := Int.fmod_lt_of_pos (10 + k) (b := 15) (by decide)
    generalize (10 + k).fmod 15 = x at h1 h2
    have hx : x.toNat < txts.length := by show x.toNat < 15; lia
    obtain ⟨tf, hget⟩ := strsAre_get hT x.toNat hx
    have hmem : txts.getD x.toNat default ∈ txts := by rw [List.getD_eq_getElem?_getD, List.getElem?_eq_getElem hx]; exact List.getElem_mem hx
    refine item_listL (l := tvs) (isList_lst (S.geti (.head _))) (by lia) (by lia) hget ?_
    refine st_loc (S.of S.sh) fun s₃ S => ?_
    exact h _ _ _ s₃ hmem S (H.put _ _)

theorem law_s3 {ta : Addr} {tvs : List Value} {n : Nat} {f : PySem.Str} {tf : Tok} (G : Gl w g) (P : Pre A 40 450) (S : St g b L s m own [(ta, lst tvs n)]) (H : Has m [(Str.ofString "first", .str f tf), (Str.ofString "texts", .ref ta), (Str.ofString "script", .ref sa)]) (hl : g.IsList sa vs.toArray) (hI : IntsAre vs ns) (hlen : vs.length ≤ 63) (hT : StrsAre tvs txts)
    (h : ∀ z t m s', z ∈ seconds → St g b L s' m own [(ta, lst tvs n)] → Has m [(Str.ofString "second", .str z t), (Str.ofString "first", .str f tf), (Str.ofString "texts", .ref ta)] → Q .next s') :
    wpAny (model P0 w) A (exec (lawSt 3) (lawEnv L fa cd)) Q (fun _ _ => False) s := by
  refine wpAny_Assign_Name (Subscript_ (e_loc S (H _ (.tail _ (.head _))) (wpAny_BinOp (wpAny_BinOp (wpAny_Constant_int ?_)))))
  refine e_sumMod (m := m) (own := own) (imm := [(ta, lst tvs n)]) (by decide) G P.hh (S.of S.sh) (fun R hR => ?_) (fun k t s₁ S => ?_) (by rfl) (by rfl) (by rfl) (by decide) (by decide) (by intro _; rfl)
  · refine Subscript_ (e_loc (S.of S.sh) (H _ (.tail _ (.tail _ (.head _)))) (wpAny_Slice (part_some (wpAny_Constant_int (part_some (wpAny_Constant_int (part_some (wpAny_Constant_int ?_))))))))
    refine a_lslI (lo := some 1) (hi := some 20) (st := some 2) (S.of S.sh) (IsList.gk S hl) (.int _ _) (.int _ _) (.int _ _) (by decide) (by lia) fun r s₂ S => ?_
    exact hR r _ _ s₂ S (hI.pick (some 1) (some 20) (some 2)) (by have := length_pickNums_le hI (some 1) (some 20) (some 2); have := (hI.pick (some 1) (some 20) (some 2)).length; have := hI.length; lia)
  · refine add_int (wpAny_Constant_int (mod_int' (by decide) ?_))
    have h1 := Int.fmod_nonneg_of_pos (2 + k) (b := 7) (by decide)
    have h2 := Int.fmod_lt_of_pos (2 + k) (b := 7) (by decide)
    generalize (2 + k).fmod 7 = x at h1 h2
    have hx : x.toNat < txts.length := by show x.toNat < 15; lia
    obtain ⟨tz, hget⟩ := strsAre_get hT x.toNat hx
    have hmem := sec_mem x.toNat (by lia)
    refine item_listL (l := tvs) (isList_lst (S.geti (.head _))) (by lia) (by lia) hget ?_
    refine st_loc (S.of S.sh) fun s₃ S => ?_
    exact h _ tz _ s₃ hmem S (Has.left (l := [_, _, _]) (r := [_]) (H.put _ _))
end
end Mine
end

section
set_option compiler.extract_closed false
namespace Mine
open PySem PySem.W PyProof.Rows PySem.Calls

theorem sd_of {w : World} {o : Obj} {kvs : List (PySem.Str × Value)} (D : o.IsDictOf (strKind P0 w) kvs) : SD w o (valueAt kvs) := by
  obtain ⟨es, ep, hc, hd, hk, hp, _⟩ := D
  refine ⟨hc, es, ep, hd, hk, fun k => ?_⟩
  rw [← hp.find k]
  obtain ⟨l⟩ := es
  simp [findBy]
theorem txts_signs : ∀ y ∈ txts, (∀ c ∈ y.cps.toList, c = 60 ∨ c = 62) ∧ y.length ≤ 3 := by decide +kernel
theorem sec_txts : ∀ y ∈ seconds, y ∈ txts := fun y h => List.mem_of_mem_take h
/-- the worths' dict -/
structure WSD (w : World) (wd : Nat) (o : Obj) : Prop where
  f : ∃ f, SD w o f ∧ ∀ y ∈ txts, ∃ u, f y = some (.int (worth y wd) u)

section
variable {w : World} {g : Heap} {b : Shared} {L fa : Addr} {cd : Value} {m : Loc} {own imm : Led} {A : Around} {E : Value → Shared → Prop} {s : Shared} {Q : Flow → Shared → Prop} {sa : Addr} {vs : List Value} {ns : List Int} {oW oT : Obj}
theorem law_s4 {ta : Addr} {tvs : List Value} {n : Nat} {z f : PySem.Str} {tz tf tw : Tok} {wd : Nat} (hw : wd ≤ 4) (dW : oW.data = .cell (some (.int wd tw))) (G : Gl w g) (P : Pre A 40 450) (S : St g b L s m [(L + 1, oW), (L + 2, oT)] [(ta, lst tvs n)])
    (H : Has m [(Str.ofString "second", .str z tz), (Str.ofString "first", .str f tf), (Str.ofString "texts", .ref ta)]) (hT : StrsAre tvs txts)
    (h : ∀ wa od m s', WSD w wd od → St g b L s' m [(L + 1, oW), (L + 2, oT)] [(wa, od), (ta, lst tvs n)] → Has m [(Str.ofString "worths", .ref wa), (Str.ofString "second", .str z tz), (Str.ofString "first", .str f tf), (Str.ofString "texts", .ref ta)] → Q .next s') :
    wpAny (model P0 w) A (exec (lawSt 4) (lawEnv L fa cd)) Q (fun _ _ => False) s := by
  refine Assign_dict (g := g) (b := b) (L := L) (fun y => worth y wd) (by rfl) (by rfl) ?_ P.hh (by intro _; rfl) (by decide) (by rfl) (by rfl) (by decide) (by decide) (by rfl) (by rfl) (by rfl)
  refine e_loc S (H _ (.tail _ (.tail _ (.head _)))) (wpAny_pyIter_list (isList_lst (S.geti (.head _))) ?_)
  have S := S.of (tk := s.toks) (S.sh.push { cls := .type "list_iterator", data := .fields #[.ref ta, .int 0 0] })
  refine ⟨_, _, ta, tvs, n, txts, m, _, _, rfl, S, ⟨rfl, rfl⟩, .head _, hT, by decide, ?_, ?_⟩
  · intro i C acc od mC s₁ o oL y ty hy S
    obtain ⟨y1, y2⟩ := txts_signs y (List.mem_of_getElem? hy)
    refine Call_Name rfl (e_glob G S (gn_worth w) (callWith_K G.K (kp_worth w) (spliced_more (e_loc S put_eq (spliced_more (e_cell S (c := L + 1) (o := oW) (by simp) dW (spliced_none ⟨fun a o e => S.gk (G.K _ _ e), ?_⟩)))))))
    refine c_worth G y _ wd _ y1 (by lia) hw _ _ _ _ (P.le (by lia) (by lia)) S.ok S.gsz trivial ?_
    rintro _ s₂ e₂ O₂ X₂ ⟨u, rfl⟩
    exact ⟨⟨u, rfl⟩, _, S.grow e₂ X₂ O₂⟩
  · intro acc od kvs s' S hD hv
    exact h acc od _ s' ⟨_, sd_of hD, hv⟩ (St.freeze (l₁ := []) S) (H.put _ _)

theorem a_sd {value slice : Expr} {wa : Addr} {o : Obj} {wd : Nat} {y : PySem.Str} {t : Tok} {Q : Value → Shared → Prop} (D : WSD w wd o) (S : St g b L s m own imm) (hm : (wa, o) ∈ imm) (hy : y ∈ txts)
    (h : ∀ u s', St g b L s' m own imm → Q (.int (worth y wd) u) s')
    (hs : subscripted slice false (.ref wa) (.str y t) = operate [.ref wa, .str y t] (getItem (.ref wa) (.str y t)) := by with_unfolding_all rfl) :
    wpAny (model P0 w) A (subscriptTail value slice (.ref wa) (.str y t)) Q E s := by
  obtain ⟨f, D, hf⟩ := D.f
  obtain ⟨u, e⟩ := hf y hy
  have hm := D.map (S.geti hm)
  exact tail_any (ops := [.ref wa, .str y t]) hm.typeIs slot_dict_getitem.lookup (wpAny_getItem_of (strKind_is P0 w y t) hm e (h u _ (S.of S.sh))) hs

structure PairOk (wd : Nat) (f z : PySem.Str) : Prop where
  lo : -100 ≤ sumOf wd f z
  hi : sumOf wd f z ≤ 100
  signs : Signs (ansOf wd f z)
  len : (ansOf wd f z).length ≤ 10
  eq : worth (ansOf wd f z) wd = sumOf wd f z
  st : StOk wd (thirdOf wd f z)
  len3 : (thirdOf wd f z).length ≤ 10
  neg : worth (pre (thirdOf wd f z) (thirdOf wd f z).length) wd = - sumOf wd f z
  signs3 : Signs (thirdOf wd f z)
theorem pairOk {wd : Nat} (hw : wd ≤ 4) (h2 : 2 ≤ wd) {f z : PySem.Str} (hf : f ∈ txts) (hz : z ∈ seconds) : PairOk wd f z := by
  obtain ⟨e, he, hs⟩ := List.any_eq_true.mp (sums_in wd (by lia) h2 f hf z hz)
  have hs := eq_of_beq hs
  have := rows_ok wd (by lia) h2 e he
  unfold rowB at this
  rw [← hs] at this
  simp only [Bool.and_eq_true, decide_eq_true_eq, beq_iff_eq, List.all_eq_true, Bool.or_eq_true, List.mem_range] at this
  obtain ⟨⟨⟨⟨⟨⟨⟨⟨⟨⟨k1, k2⟩, k3⟩, k4⟩, k5⟩, k6⟩, k7⟩, k8⟩, k9⟩, k10⟩, k11⟩ := this
  have h3 : thirdOf wd f z = Str.ofString e.2.1 := k6
  have hW : ∀ c : Nat, c ≤ (Str.ofString e.2.1).length → worth (pre (Str.ofString e.2.1) (c : Int)) wd = e.2.2.getD c 0 * sc wd := fun c hc => k9 c (by lia)
  refine ⟨k1, k2, k3, k4, k5, ?_, ?_, ?_, ?_⟩
  · rw [h3]; exact stOkW hW k10
  · rw [h3]; exact k7
  · rw [h3, hW _ (Nat.le_refl _)]; exact k11
  · rw [h3]; exact k8

theorem law_s5 {ta wa : Addr} {tvs : List Value} {n : Nat} {z f : PySem.Str} {tz tf tw : Tok} {wd : Nat} {od : Obj} (hw : wd ≤ 4) (h2 : 2 ≤ wd) (hf : f ∈ txts) (hz : z ∈ seconds) (dW : oW.data = .cell (some (.int wd tw))) (G : Gl w g) (P : Pre A 40 450) (S : St g b L s m [(L + 1, oW), (L + 2, oT)] [(wa, od), (ta, lst tvs n)])
    (H : Has m [(Str.ofString "worths", .ref wa), (Str.ofString "second", .str z tz), (Str.ofString "first", .str f tf), (Str.ofString "texts", .ref ta)]) (D : WSD w wd od)
    (h : ∀ t m s', St g b L s' m [(L + 1, oW), (L + 2, oT)] [(wa, od), (ta, lst tvs n)] → Has m [(Str.ofString "answer", .str (ansOf wd f z) t), (Str.ofString "worths", .ref wa), (Str.ofString "second", .str z tz), (Str.ofString "first", .str f tf), (Str.ofString "texts", .ref ta)] → Q .next s') :
    wpAny (model P0 w) A (exec (lawSt 5) (lawEnv L fa cd)) Q (fun _ _ => False) s := by
  have K := pairOk hw h2 hf hz
  refine wpAny_Assign_Name (Call_Name rfl (e_glob G S (gn_stalk w) (callWith_K G.K (kp_stalk w) (spliced_more (wpAny_BinOp (Subscript_ (e_loc S (H _ (.head _)) (e_loc S (H _ (.tail _ (.tail _ (.head _)))) (a_sd D S (.head _) hf fun u1 s₁ S => ?_)))))))))
  refine Subscript_ (e_loc S (H _ (.head _)) (e_loc S (H _ (.tail _ (.head _))) (a_sd D S (.head _) (sec_txts z hz) fun u2 s₂ S => add_int ?_)))
  refine norm (S.of S.sh) fun s₃ S => ?_
  refine spliced_more (e_cell S (c := L + 1) (o := oW) (by simp) dW (spliced_none ⟨fun a o e => S.gk (G.K _ _ e), ?_⟩))
  refine c_stalk G wd (sumOf wd f z) _ _ (by lia) h2 K.lo K.hi _ _ _ _ (P.le (by lia) (by lia)) S.ok S.gsz trivial ?_
  rintro _ s₄ e₄ O₄ X₄ ⟨t, rfl⟩
  have S := S.grow e₄ X₄ O₄
  refine st_loc S fun s₅ S => ?_
  exact h t _ s₅ S (H.put _ _)

theorem law_s6 {ta wa : Addr} {tvs : List Value} {n : Nat} {z f : PySem.Str} {tz tf tw t : Tok} {wd : Nat} {od : Obj} (hw : wd ≤ 4) (h2 : 2 ≤ wd) (hf : f ∈ txts) (hz : z ∈ seconds) (dW : oW.data = .cell (some (.int wd tw))) (G : Gl w g) (P : Pre A 40 450) (S : St g b L s m [(L + 1, oW), (L + 2, oT)] [(wa, od), (ta, lst tvs n)])
    (H : Has m [(Str.ofString "answer", .str (ansOf wd f z) t), (Str.ofString "worths", .ref wa), (Str.ofString "second", .str z tz), (Str.ofString "first", .str f tf), (Str.ofString "texts", .ref ta)]) (D : WSD w wd od)
    (h : ∀ s', St g b L s' m [(L + 1, oW), (L + 2, oT)] [(wa, od), (ta, lst tvs n)] → Q .next s') :
    wpAny (model P0 w) A (exec (lawSt 6) (lawEnv L fa cd)) Q (fun _ _ => False) s := by
  have K := pairOk hw h2 hf hz
  refine wpAny_If (wpAny_isTrue_Compare1 (Call_Name rfl (e_glob G S (gn_worth w) (callWith_K G.K (kp_worth w) (spliced_more (e_loc S (H _ (.head _)) (spliced_more (e_cell S (c := L + 1) (o := oW) (by simp) dW (spliced_none ⟨fun a o e => S.gk (G.K _ _ e), ?_⟩)))))))))
  refine c_worth G _ _ wd _ K.signs K.len hw _ _ _ _ (P.le (by lia) (by lia)) S.ok S.gsz trivial ?_
  rintro _ s₁ e₁ O₁ X₁ ⟨u, rfl⟩
  have S := S.grow e₁ X₁ O₁
  refine wpAny_BinOp (Subscript_ (e_loc S (H _ (.tail _ (.head _))) (e_loc S (H _ (.tail _ (.tail _ (.tail _ (.head _))))) (a_sd D S (.head _) hf fun u1 s₁ S => ?_))))
  refine Subscript_ (e_loc S (H _ (.tail _ (.head _))) (e_loc S (H _ (.tail _ (.tail _ (.head _)))) (a_sd D S (.head _) (sec_txts z hz) fun u2 s₂ S => add_int ?_)))
  refine ne_int (wpAny_truthy_bool ?_)
  rw [if_neg (by rw [K.eq]; show ¬ ((sumOf wd f z != sumOf wd f z) = true); simp)]
  exact wpAny_execs_nil (h _ (S.of S.sh))
end
end Mine
end

section
set_option compiler.extract_closed false
namespace Mine
open PySem PySem.W PyProof.Rows PySem.Calls

theorem sum_flip (l : List Nat) : ((l.map flipC).map (·.length)).sum = l.length := by
  induction l with
  | nil => rfl
  | cons a r ih =>
    have : (flipC a).length = 1 := by unfold flipC; split <;> rfl
    simp only [List.map_cons, List.sum_cons, ih, this, List.length_cons]; lia

section
variable {w : World} {g : Heap} {b : Shared} {L fa : Addr} {cd : Value} {m : Loc} {own imm : Led} {A : Around} {E : Value → Shared → Prop} {s : Shared} {Q : Flow → Shared → Prop} {sa : Addr} {vs : List Value} {ns : List Int} {oW oT : Obj} {env : Env}
theorem law_s7 {ta wa : Addr} {tvs : List Value} {n : Nat} {z f : PySem.Str} {tz tf t : Tok} {wd : Nat} {od : Obj} (hw : wd ≤ 4) (h2 : 2 ≤ wd) (hf : f ∈ txts) (hz : z ∈ seconds) (dT : oT.data = .cell none) (G : Gl w g) (P : Pre A 40 450) (S : St g b L s m [(L + 1, oW), (L + 2, oT)] [(wa, od), (ta, lst tvs n)])
    (H : Has m [(Str.ofString "answer", .str (ansOf wd f z) t), (Str.ofString "worths", .ref wa), (Str.ofString "second", .str z tz), (Str.ofString "first", .str f tf), (Str.ofString "texts", .ref ta)])
    (h : ∀ oT tt s', oT.data = .cell (some (.str (thirdOf wd f z) tt)) → St g b L s' m [(L + 1, oW), (L + 2, oT)] [(wa, od), (ta, lst tvs n)] → Q .next s') :
    wpAny (model P0 w) A (exec (lawSt 7) (lawEnv L fa cd)) Q (fun _ _ => False) s := by
  have K := pairOk hw h2 hf hz
  have hal := K.len
  have hay := K.signs
  have e3 : thirdOf wd f z = Txt.join sNo ((ansOf wd f z).cps.toList.map flipC) := rfl
  rw [e3] at h
  clear e3 K
  generalize ansOf wd f z = y at H hal hay h
  refine wpAny_Assign_Name (MethodCall_ (Constant_str (GM.join ?_)))
  refine callWith_method1 (spliced_more (ListComp_ (g := g) (b := b) (L := L) (by rfl) ?_ P.hh))
  refine e_loc (S.of S.sh) (H _ (.head _)) ?_
  refine wpAny_pyIter_ascii (by rw [Array.all_eq_true']; intro c hc; exact decide_eq_true (hay.ascii c (by simpa using hc))) ?_
  have S := S.of (tk := s.toks + 1) (S.sh.push { cls := .type "str_ascii_iterator", data := .fields #[.str y t, .int 0 0] })
  refine CompGo.mk (fun q its own₁ imm₁ => own₁ = [] ∧ StrsAre its ((y.cps.toList.take q).map flipC)) (strIter w _ y t) ⟨rfl, rfl⟩ S (fun _ _ _ _ _ _ _ => trivial) ⟨rfl, .nil⟩ ?_ ?_ ?_
  · rintro q its own₁ imm₁ ⟨_, I⟩
    have h3 : its.length ≤ y.cps.size := by
      rw [strsAre_len I, List.length_map, List.length_take, Array.length_toList]
      exact Nat.min_le_right _ _
    have h4 : y.cps.size ≤ 10 := hal
    lia
  · intro q C acc its kk own₁ imm₁ mC sc v oI oL hq hsub hJ hv S
    refine wpAny_pure ?_
    refine ifpos rfl ?_
    refine cut fun QQ hQ1 => ?_
    obtain ⟨rfl, I⟩ := hJ
    obtain ⟨c, tc, hc, rfl⟩ := hv
    have htk : (y.cps.toList.take (q + 1)).map flipC = (y.cps.toList.take q).map flipC ++ [flipC c] := by
      rw [List.take_add_one, List.map_append]
      congr 1
      rw [Array.getElem?_toList, hc]; rfl
    refine IfExp_ (wpAny_isTrue_Compare1 (e_loc S put_eq (Constant_str (eq_str (wpAny_truthy_bool ?_)))))
    by_cases hb : ((⟨#[c]⟩ : PySem.Str) == sGt) = true
    · refine ifpos hb ?_
      refine Constant_str (hQ1 _ _ ⟨[], imm₁, _, S.of S.sh, hsub, rfl, ?_⟩)
      rw [htk, show flipC c = sLt from if_pos hb]
      exact StrsAre.append' I (.cons _ _ .nil)
    · refine ifneg hb ?_
      refine Constant_str (hQ1 _ _ ⟨[], imm₁, _, S.of S.sh, hsub, rfl, ?_⟩)
      rw [htk, show flipC c = sGt from if_neg hb]
      exact StrsAre.append' I (.cons _ _ .nil)
  rintro acc its k own' imm' hsub ⟨rfl, I⟩ sg S
  rw [List.take_of_length_le (by rw [Array.length_toList]; exact Nat.le_refl _)] at I
  refine spliced_none ?_
  have hsum : (((y.cps.toList.map flipC)).map (·.length)).sum + (y.cps.toList.map flipC).length ≤ 40 := by
    have h4 : y.cps.size ≤ 10 := hal
    rw [sum_flip, List.length_map, Array.length_toList]; lia
  refine join_listW (isList_lst (S.get (a := acc) (o := lst its k) (by first | exact m0 | exact m1 | exact m2 | exact m3 | exact m4 | exact m5 | exact m6 | simp))) I (by decide) (by lia) fun tj kj => ?_
  have S := S.drop (own' := [(L + 1, oW), (L + 2, oT)]) (List.sublist_cons_self _ _)
  refine st_cell (l₁ := [_]) (l₂ := []) (S.of S.sh) dT fun oT s₂ dT S => ?_
  exact h oT _ s₂ dT (S.dropI hsub)

/-- the iterator of range(e) -/
theorem x_rangeIt {p1 p2 : Pos} {e : Expr} (G : Gl w g) (S : St g b L s m own imm) {R : Value → Shared → Prop}
    (h : wpAny (model P0 w) A (eval e env) (fun v s₁ => ∃ (n : Nat) (t : Tok) (m₁ : Loc) (own₁ imm₁ : Led), v = .int n t ∧ n < 1000000 ∧ St g b L s₁ m₁ own₁ imm₁ ∧ ∀ it s₂, St g b L s₂ m₁ ((it, rngIt 0 n) :: own₁) imm₁ → R (.ref it) s₂) (fun _ _ => False) s)
    (he : starEach [e] env = [(false, eval e env)] := by rfl)
    (hg : env.globals = mainGlobals := by rfl) (hb : env.builtins = builtinsNs := by rfl) (hk : env.scope.kind = .function := by rfl) (hx : env.kindOf (Str.ofString "range") = some .globalImplicit := by rfl) :
    wpAny (model P0 w) A (eval (.Call (.Name (Str.ofString "range") p1) [e] [] p2) env) (fun v s₁ => wpAny (model P0 w) A (pyIter v) R (fun _ _ => False) s₁) (fun _ _ => False) s := by
  refine Call_Name rfl (e_bi G S (gn_range w) bb_range (Pv.callWith_type1 (spliced_more (wpAny_mono h (fun v s₁ h₁ => spliced_none ?_) fun _ _ e => e) he) he) (by decide) hg hb hk hx)
  obtain ⟨n, t, m₁, own₁, imm₁, rfl, hn1, S₁, k⟩ := h₁
  refine call_range_1 ?_
  have S₂ := S₁.sh.pushI { cls := .type "range", data := .fields #[.int 0 s₁.toks, .int n t, .int 1 (s₁.toks + 1)] }
  refine wpAny_pyIter_range (a := 0) (b := n) (c := 1) (Heap.get?_push_size _ rfl) ?_ ?_
  · exact rsmall hn1
  · have S₃ := (S₂.push { cls := .type "range_iterator", data := .fields #[rawInt 0, rawInt (Builtin.Range.rangeSize 0 n 1), rawInt 1] }).dropI (imm' := imm₁) fun p hp => .tail _ hp
    rw [rsz] at S₃ ⊢
    exact k _ _ (S₁.of S₃)
end
end Mine
end

section
set_option compiler.extract_closed false
namespace Mine
open PySem PySem.W PyProof.Rows PySem.Calls

abbrev kit (d : Addr) (i n ep : Nat) : Data := .fields #[.ref d, .int i 0, .int n 0, .int ep 0]
structure KIt (o : Obj) (d : Addr) (i n ep : Nat) : Prop where
  cl : o.cls = .type "dict_keyiterator"
  da : o.data = kit d i n ep
section
variable {w : World} {A : Around} {E : Value → Shared → Prop} {s : Shared} {it d : Addr} {o od : Obj} {es : Array DictEntry} {i ep : Nat}
theorem noOwn : Builtin.Dict_items.ownsTuple "dict_keyiterator" = false := by decide

/-- a dict's keys, whatever they are: the iterator -/
theorem key_start {Q : Value → Shared → Prop} (hd : (d == sysModules) = false) (ho : s.heap.get? d = some od) (hx : od.ExactDict) (hda : od.data = .dict es ep)
    (h : Q (.ref s.heap.objs.size) { s with heap := s.heap.push { cls := .type "dict_keyiterator", data := kit d 0 es.size ep } }) : wpAny (model P0 w) A (pyIter (.ref d)) Q E s := by
  have T : s.TypeIs (.ref d) "dict" := ⟨od, ho, hx.1⟩
  refine wpAny_pyIter_slot T PySem.F.slot_dict_iter (wpAny_call_entry PySem.F.slot_dict_iter T PySem.F.entry_dict_iter ?_ (PySem.F.args_dict_iter_1 _))
  unfold Builtin.«dict.__iter__» Builtin.Dict.dictSlotNone
  refine wpAny_bind (wpAny_bind (wpAny_notOrdered_dict T ?_))
  show wpAny _ _ (pure (Value.ref d)) _ _ s
  refine wpAny_pure ?_
  show wpAny _ _ (Builtin.Dict.showsAll d >>= _) _ _ s
  unfold Builtin.Dict.showsAll
  rw [if_neg (by rw [hd]; decide)]
  refine wpAny_bind (wpAny_pure (wpAny_bind (wpAny_dictEntries ho hda (wpAny_bind (wpAny_dictEpoch ho hda ?_)))))
  exact wpAny_bind (wpAny_newObj_type (wpAny_pure ⟨_, rfl, "dict_keyiterator", _, ⟨_, Heap.get?_push_size _ rfl, rfl⟩, PySem.F.slot_dict_keyiterator_next.lookup, h⟩))

theorem key_next {Q : Option Value → Shared → Prop} (hit : s.heap.get? it = some o) (K : KIt o d i es.size ep) (ho : s.heap.get? d = some od) (hda : od.data = .dict es ep) (hi : i < es.size)
    (h : ∀ o' h', h'.get? it = some o' → KIt o' d (i + 1) es.size ep → Heap.SameBut it s.heap h' → Q (some es[i].key) { s with heap := h' }) : wpAny (model P0 w) A (pyNext (.ref it)) Q E s := by
  have T : s.TypeIs (.ref it) "dict_keyiterator" := ⟨o, hit, K.cl⟩
  unfold pyNext
  refine wpAny_bind (wpAny_attempt (wpAny_callSpecial?_slot (name := Str.ofString "__next__") T PySem.F.slot_dict_keyiterator_next (wpAny_call_entry PySem.F.slot_dict_keyiterator_next T PySem.F.entry_dict_keyiterator_next ?_ (PySem.F.args_dict_keyiterator_next_1 _))))
  refine wpAny_bind (wpAny_pure (wpAny_bind (wpAny_bind ?_)))
  refine wpAny_bind (wpAny_typeNameOfWhole_keyiter T (wpAny_pure ?_))
  refine wpAny_bind (wpAny_fieldsOf hit K.da ?_)
  simp only [noOwn, Bool.false_eq_true, if_false]
  show wpAny _ _ (if (Value.ref d == Value.none) = true then _ else _) _ _ s
  rw [if_neg (show ¬ ((Value.ref d == Value.none) = true) from Bool.false_ne_true)]
  refine wpAny_bind (wpAny_pure (wpAny_bind (wpAny_dictEntries ho hda ?_)))
  rw [if_neg (by simp)]
  refine wpAny_bind (wpAny_pure (wpAny_bind (wpAny_dictEpoch ho hda ?_)))
  rw [if_neg (by simp)]
  refine wpAny_pure ?_
  simp only [show ¬ ((i : Int) < 0) from by lia, if_false, Int.toNat_natCast, Array.getElem?_eq_getElem hi]
  refine wpAny_bind (wpAny_bind (wpAny_typeNameOfWhole_keyiter T (wpAny_pure ?_)))
  refine wpAny_bind (wpAny_isOneOf_keyiter T ?_)
  show wpAny _ _ (setField (.ref it) 1 (rawInt ((i : Int) + 1)) >>= _) _ _ s
  refine wpAny_bind (wpAny_setField hit K.da (by simp) ?_)
  have e' := Heap.get?_update_self (a := it) (Obj.mapFields (·.setIfInBounds 1 (rawInt ((i : Int) + 1)))) hit (Obj.isFreed_of_fields (Obj.data_mapFields K.da _))
  have K' : KIt (o.mapFields (·.setIfInBounds 1 (rawInt ((i : Int) + 1)))) d (i + 1) es.size ep := ⟨(Obj.cls_mapFields ..).trans K.cl, by rw [Obj.data_mapFields K.da]; simp [rawInt]⟩
  refine wpAny_bind (wpAny_holding (wpAny_bind (wpAny_isOneOf_keyiter (s := { s with heap := s.heap.update it (Obj.mapFields (·.setIfInBounds 1 (rawInt ((i : Int) + 1)))) }) ⟨_, e', K'.cl⟩ ?_)))
  show wpAny _ _ (pure es[i].key) _ _ _
  exact wpAny_pure (wpAny_pure ⟨_, rfl, wpAny_pure (h _ _ e' K' (Heap.SameBut.update ..))⟩)

theorem key_stop {Q : Option Value → Shared → Prop} (hh : A.handled = none) (hit : s.heap.get? it = some o) (K : KIt o d es.size es.size ep) (ho : s.heap.get? d = some od) (hda : od.data = .dict es ep)
    (h : ∀ h', Heap.ExtBut it s.heap h' → Q none { s with heap := h' }) : wpAny (model P0 w) A (pyNext (.ref it)) Q E s := by
  have T : s.TypeIs (.ref it) "dict_keyiterator" := ⟨o, hit, K.cl⟩
  unfold pyNext
  refine wpAny_bind (wpAny_attempt (wpAny_callSpecial?_slot (name := Str.ofString "__next__") T PySem.F.slot_dict_keyiterator_next (wpAny_call_entry PySem.F.slot_dict_keyiterator_next T PySem.F.entry_dict_keyiterator_next ?_ (PySem.F.args_dict_keyiterator_next_1 _))))
  refine wpAny_bind (wpAny_pure (wpAny_bind (wpAny_bind ?_)))
  refine wpAny_bind (wpAny_typeNameOfWhole_keyiter T (wpAny_pure ?_))
  refine wpAny_bind (wpAny_fieldsOf hit K.da ?_)
  simp only [noOwn, Bool.false_eq_true, if_false]
  show wpAny _ _ (if (Value.ref d == Value.none) = true then _ else _) _ _ s
  rw [if_neg (show ¬ ((Value.ref d == Value.none) = true) from Bool.false_ne_true)]
  refine wpAny_bind (wpAny_pure (wpAny_bind (wpAny_dictEntries ho hda ?_)))
  rw [if_neg (by simp)]
  refine wpAny_bind (wpAny_pure (wpAny_bind (wpAny_dictEpoch ho hda ?_)))
  rw [if_neg (by simp)]
  refine wpAny_pure ?_
  simp only [show ¬ ((es.size : Int) < 0) from by lia, if_false, Int.toNat_natCast, Array.getElem?_eq_none (Nat.le_refl es.size)]
  refine wpAny_bind (wpAny_bind (wpAny_typeNameOfWhole_keyiter T (wpAny_pure ?_)))
  show wpAny _ _ (setField (.ref it) 0 .none >>= _) _ _ s
  refine wpAny_bind (wpAny_setField hit K.da (by simp) ?_)
  show wpAny _ _ (newExc (.type "StopIteration") [] >>= _) _ _ _
  simp only [newExc, newTuple]
  refine wpAny_bind (wpAny_bind (wpAny_newObj_type ?_ (by size_fits)))
  refine wpAny_bind (m := firstArgMember _ _) (wpAny_of_eq (a := Value.none) (by first | rfl | (simp only [firstArgMember]; rfl)) ?_)
  refine wpAny_newObj_type ?_ (by size_fits)
  simp only [raiseNew]
  refine wpAny_bind (wpAny_handled ?_)
  rw [show A.in1.handled = none from hh]
  refine wpAny_bind (wpAny_pure (wpAny_throw ?_))
  refine wpAny_bind (wpAny_isInstance (T := "StopIteration") (b := true) ⟨_, Heap.get?_push_size _ rfl, rfl⟩ isSubtype_stop ?_)
  exact wpAny_pure (h _ (((Heap.SameBut.update ..).extBut.push _).push _))

theorem key_own {Q : Unit → Shared → Prop} {target : Expr} {v : Value} {n : Nat} (hit : s.heap.get? it = some o) (K : KIt o d i n ep) (h : Q () s) : wpAny (model P0 w) A (letOwnedTupleGo target (.ref it) v) Q E s :=
  letGo_keyiter (d := d) (i := i) (n := n) (ep := ep) ⟨o, hit, K.cl, K.da⟩ h
end
end Mine
end

section
set_option compiler.extract_closed false
namespace Mine
open PySem PySem.W PyProof.Rows PySem.Calls

theorem lowest {wd e1 e2 e3 : Nat} {v1 v2 v3 : Int} {O1 O2 O3 : Prop} (b1 : e1 ≤ wd) (b2 : e2 ≤ wd) (b3 : e3 ≤ wd)
    (d1 : v1 % ((2 ^ e1 : Nat) : Int) = 0) (d2 : v2 % ((2 ^ e2 : Nat) : Int) = 0) (d3 : v3 % ((2 ^ e3 : Nat) : Int) = 0)
    (h1 : O1 ∨ (e1 = wd ∧ v1 ≤ 0)) (h2 : O2 ∨ (e2 = wd ∧ v2 ≤ 0)) (h3 : O3 ∨ (e3 = wd ∧ v3 ≤ 0)) (hp : 0 < v1 + v2 + v3) :
    (O1 ∧ ((2 ^ e1 : Nat) : Int) ≤ v1 + v2 + v3) ∨ (O2 ∧ ((2 ^ e2 : Nat) : Int) ≤ v1 + v2 + v3) ∨ (O3 ∧ ((2 ^ e3 : Nat) : Int) ≤ v1 + v2 + v3) := by
  have dv : ∀ {e e' : Nat} {v : Int}, e ≤ e' → v % ((2 ^ e' : Nat) : Int) = 0 → ((2 ^ e : Nat) : Int) ∣ v := fun h d =>
    Int.dvd_trans (Int.natCast_dvd_natCast.mpr (Nat.pow_dvd_pow 2 h)) (Int.dvd_of_emod_eq_zero d)
  have key : ∀ e : Nat, e ≤ e1 → e ≤ e2 → e ≤ e3 → ((2 ^ e : Nat) : Int) ≤ v1 + v2 + v3 := fun e x y z =>
    Int.le_of_dvd hp (Int.dvd_add (Int.dvd_add (dv x d1) (dv y d2)) (dv z d3))
  have all : wd ≤ e1 → wd ≤ e2 → wd ≤ e3 → (O1 ∧ ((2 ^ e1 : Nat) : Int) ≤ v1 + v2 + v3) ∨ (O2 ∧ ((2 ^ e2 : Nat) : Int) ≤ v1 + v2 + v3) ∨ (O3 ∧ ((2 ^ e3 : Nat) : Int) ≤ v1 + v2 + v3) := fun x y z => by
    rcases h1 with o | ⟨_, q1⟩
    · exact .inl ⟨o, key e1 (Nat.le_refl _) (by lia) (by lia)⟩
    · rcases h2 with o | ⟨_, q2⟩
      · exact .inr (.inl ⟨o, key e2 (by lia) (Nat.le_refl _) (by lia)⟩)
      · rcases h3 with o | ⟨_, q3⟩
        · exact .inr (.inr ⟨o, key e3 (by lia) (by lia) (Nat.le_refl _)⟩)
        · lia
  by_cases a : e1 ≤ e2 ∧ e1 ≤ e3
  · rcases id h1 with o | ⟨q, _⟩
    · exact .inl ⟨o, key e1 (Nat.le_refl _) a.1 a.2⟩
    · exact all (by lia) (by lia) (by lia)
  · by_cases c : e2 ≤ e1 ∧ e2 ≤ e3
    · rcases id h2 with o | ⟨q, _⟩
      · exact .inr (.inl ⟨o, key e2 c.1 (Nat.le_refl _) c.2⟩)
      · exact all (by lia) (by lia) (by lia)
    · rcases id h3 with o | ⟨q, _⟩
      · exact .inr (.inr ⟨o, key e3 (by lia) (by lia) (Nat.le_refl _)⟩)
      · exact all (by lia) (by lia) (by lia)

noncomputable def lev (wd : Nat) (f z th : PySem.Str) (c : List Int) : Int := worth (pre f (c.getD 0 0)) wd + worth (pre z (c.getD 1 0)) wd + worth (pre th (c.getD 2 0)) wd
theorem told1 (l : Int) : (told l).1 = decide (0 < l) := by unfold told; simp only [decide_eq_decide]; lia
theorem told2 (l : Int) : (told l).2 = decide (l < 0) := by unfold told; simp only [decide_eq_decide]; lia

theorem mem_aftIn_iff {ss : List PySem.Str} {cs : List Int} {sg : PySem.Str} {p n : Nat} {c : List Int} : c ∈ aftIn ss cs sg p n ↔ ∃ low : Nat, low < n ∧ (Txt.item (ss.getD p default) (low : Int) == sg) = true ∧ c = cs.take p ++ [(low : Int)] ++ cs.drop (p + 1) := by
  unfold aftIn
  rw [List.mem_map]
  constructor
  · rintro ⟨low, hl, rfl⟩
    have := List.mem_filter.mp hl
    exact ⟨low, List.mem_range.mp this.1, this.2, rfl⟩
  · rintro ⟨low, h1, h2, rfl⟩
    exact ⟨low, List.mem_filter.mpr ⟨List.mem_range.mpr h1, h2⟩, rfl⟩
theorem mem_aft3 {f z th sg : PySem.Str} {i j k : Nat} {c : List Int} : c ∈ aftTo [f, z, th] [(i : Int), (j : Int), (k : Int)] sg 3 ↔
    (∃ low : Nat, low < i ∧ (Txt.item f (low : Int) == sg) = true ∧ c = [(low : Int), (j : Int), (k : Int)]) ∨
    (∃ low : Nat, low < j ∧ (Txt.item z (low : Int) == sg) = true ∧ c = [(i : Int), (low : Int), (k : Int)]) ∨
    (∃ low : Nat, low < k ∧ (Txt.item th (low : Int) == sg) = true ∧ c = [(i : Int), (j : Int), (low : Int)]) := by
  simp only [aftTo, List.nil_append, List.mem_append, mem_aftIn_iff]
  simp [or_assoc]

theorem loc_left {wd : Nat} {f z th : PySem.Str} (F : StOk wd f) (Z : StOk wd z) (T : StOk wd th) {i j k : Nat} (hi : i ≤ f.length) (hj : j ≤ z.length) (hk : k ≤ th.length) :
    decide ((aftTo [f, z, th] [(i : Int), (j : Int), (k : Int)] cLt 3).filter (fun c => !(told (lev wd f z th c)).2) ≠ []) = (told (lev wd f z th [(i : Int), (j : Int), (k : Int)])).1 := by
  rw [told1, decide_eq_decide]
  show _ ↔ 0 < worth (pre f i) wd + worth (pre z j) wd + worth (pre th k) wd
  rw [ne_eq, List.filter_eq_nil_iff]
  constructor
  · intro h
    apply Classical.byContradiction
    intro hn
    refine h fun c hc => ?_
    rw [told2]
    simp only [Bool.not_eq_true', decide_eq_false_iff_not, Classical.not_not]
    rcases mem_aft3.mp hc with ⟨low, h1, h2, rfl⟩ | ⟨low, h1, h2, rfl⟩ | ⟨low, h1, h2, rfl⟩
    · have := F.lt i hi low h1 h2
      show worth (pre f low) wd + worth (pre z j) wd + worth (pre th k) wd < 0
      lia
    · have := Z.lt j hj low h1 h2
      show worth (pre f i) wd + worth (pre z low) wd + worth (pre th k) wd < 0
      lia
    · have := T.lt k hk low h1 h2
      show worth (pre f i) wd + worth (pre z j) wd + worth (pre th low) wd < 0
      lia
  · intro hp h
    obtain ⟨e1, b1, d1, l1, _⟩ := F.op i hi
    obtain ⟨e2, b2, d2, l2, _⟩ := Z.op j hj
    obtain ⟨e3, b3, d3, l3, _⟩ := T.op k hk
    rcases lowest b1 b2 b3 d1 d2 d3 l1 l2 l3 hp with ⟨⟨c, h1, h2, h3⟩, hl⟩ | ⟨⟨c, h1, h2, h3⟩, hl⟩ | ⟨⟨c, h1, h2, h3⟩, hl⟩
    · refine h [(c : Int), j, k] (mem_aft3.mpr (.inl ⟨c, h1, h2, rfl⟩)) ?_
      rw [told2]
      simp only [Bool.not_eq_true', decide_eq_false_iff_not]
      show ¬ worth (pre f c) wd + worth (pre z j) wd + worth (pre th k) wd < 0
      lia
    · refine h [(i : Int), c, k] (mem_aft3.mpr (.inr (.inl ⟨c, h1, h2, rfl⟩))) ?_
      rw [told2]
      simp only [Bool.not_eq_true', decide_eq_false_iff_not]
      show ¬ worth (pre f i) wd + worth (pre z c) wd + worth (pre th k) wd < 0
      lia
    · refine h [(i : Int), j, c] (mem_aft3.mpr (.inr (.inr ⟨c, h1, h2, rfl⟩))) ?_
      rw [told2]
      simp only [Bool.not_eq_true', decide_eq_false_iff_not]
      show ¬ worth (pre f i) wd + worth (pre z j) wd + worth (pre th c) wd < 0
      lia

theorem loc_right {wd : Nat} {f z th : PySem.Str} (F : StOk wd f) (Z : StOk wd z) (T : StOk wd th) {i j k : Nat} (hi : i ≤ f.length) (hj : j ≤ z.length) (hk : k ≤ th.length) :
    decide ((aftTo [f, z, th] [(i : Int), (j : Int), (k : Int)] cGt 3).filter (fun c => !(told (lev wd f z th c)).1) ≠ []) = (told (lev wd f z th [(i : Int), (j : Int), (k : Int)])).2 := by
  rw [told2, decide_eq_decide]
  show _ ↔ worth (pre f i) wd + worth (pre z j) wd + worth (pre th k) wd < 0
  rw [ne_eq, List.filter_eq_nil_iff]
  constructor
  · intro h
    apply Classical.byContradiction
    intro hn
    refine h fun c hc => ?_
    rw [told1]
    simp only [Bool.not_eq_true', decide_eq_false_iff_not, Classical.not_not]
    rcases mem_aft3.mp hc with ⟨low, h1, h2, rfl⟩ | ⟨low, h1, h2, rfl⟩ | ⟨low, h1, h2, rfl⟩
    · have := F.gt i hi low h1 h2
      show 0 < worth (pre f low) wd + worth (pre z j) wd + worth (pre th k) wd
      lia
    · have := Z.gt j hj low h1 h2
      show 0 < worth (pre f i) wd + worth (pre z low) wd + worth (pre th k) wd
      lia
    · have := T.gt k hk low h1 h2
      show 0 < worth (pre f i) wd + worth (pre z j) wd + worth (pre th low) wd
      lia
  · intro hp h
    obtain ⟨e1, b1, d1, _, l1⟩ := F.op i hi
    obtain ⟨e2, b2, d2, _, l2⟩ := Z.op j hj
    obtain ⟨e3, b3, d3, _, l3⟩ := T.op k hk
    have ng : ∀ {v : Int} {e : Nat}, v % ((2 ^ e : Nat) : Int) = 0 → (-v) % ((2 ^ e : Nat) : Int) = 0 := fun d => Int.emod_eq_zero_of_dvd (Int.dvd_neg.mpr (Int.dvd_of_emod_eq_zero d))
    rcases lowest (v1 := - worth (pre f i) wd) (v2 := - worth (pre z j) wd) (v3 := - worth (pre th k) wd) b1 b2 b3 (ng d1) (ng d2) (ng d3) (l1.imp id fun q => ⟨q.1, by lia⟩) (l2.imp id fun q => ⟨q.1, by lia⟩) (l3.imp id fun q => ⟨q.1, by lia⟩) (by lia)
      with ⟨⟨c, h1, h2, h3⟩, hl⟩ | ⟨⟨c, h1, h2, h3⟩, hl⟩ | ⟨⟨c, h1, h2, h3⟩, hl⟩
    · refine h [(c : Int), j, k] (mem_aft3.mpr (.inl ⟨c, h1, h2, rfl⟩)) ?_
      rw [told1]
      simp only [Bool.not_eq_true', decide_eq_false_iff_not]
      show ¬ 0 < worth (pre f c) wd + worth (pre z j) wd + worth (pre th k) wd
      lia
    · refine h [(i : Int), c, k] (mem_aft3.mpr (.inr (.inl ⟨c, h1, h2, rfl⟩))) ?_
      rw [told1]
      simp only [Bool.not_eq_true', decide_eq_false_iff_not]
      show ¬ 0 < worth (pre f i) wd + worth (pre z c) wd + worth (pre th k) wd
      lia
    · refine h [(i : Int), j, c] (mem_aft3.mpr (.inr (.inr ⟨c, h1, h2, rfl⟩))) ?_
      rw [told1]
      simp only [Bool.not_eq_true', decide_eq_false_iff_not]
      show ¬ 0 < worth (pre f i) wd + worth (pre z j) wd + worth (pre th c) wd
      lia

/-- the table tells who wins as the level does -/
def Inv (wd : Nat) (f z th : PySem.Str) (t : Tab) : Prop := ∀ e ∈ t, ∃ a b c : Nat, e.1 = [(a : Int), (b : Int), (c : Int)] ∧ a ≤ f.length ∧ b ≤ z.length ∧ c ≤ th.length ∧ e.2 = told (lev wd f z th e.1)
theorem getW_mem {t : Tab} {c : List Int} {q : Bool × Bool} (h : getW t c = some q) : (c, q) ∈ t := by
  unfold getW at h
  obtain ⟨e, he, rfl⟩ := Option.map_eq_some_iff.mp h
  have h1 := List.mem_of_find?_eq_some he
  have h2 := List.find?_some he
  have h2 : e.1 = c := of_decide_eq_true h2
  subst h2; exact h1
section
variable {wd : Nat} {f z th : PySem.Str}
theorem Inv.get {t : Tab} (I : Inv wd f z th t) {c : List Int} {q : Bool × Bool} (h : getW t c = some q) : q = told (lev wd f z th c) := by
  obtain ⟨_, _, _, _, _, _, _, e⟩ := I _ (getW_mem h)
  exact e
theorem Inv.step (F : StOk wd f) (Z : StOk wd z) (T : StOk wd th) {t : Tab} (I : Inv wd f z th t) {i j k : Nat} (X : TI (z.length + 1) (th.length + 1) i j k t) (hi : i ≤ f.length) (hj : j < z.length + 1) (hk : k < th.length + 1) :
    Inv wd f z th (stepW [f, z, th] t [(i : Int), (j : Int), (k : Int)]) := by
  intro e he
  unfold stepW at he
  rcases List.mem_append.mp he with he | he
  · exact I e he
  · rw [List.mem_singleton] at he
    subst he
    refine ⟨i, j, k, rfl, hi, by lia, by lia, ?_⟩
    have h1 : (aftTo [f, z, th] [(i : Int), (j : Int), (k : Int)] cLt 3).filter (okL t) = (aftTo [f, z, th] [(i : Int), (j : Int), (k : Int)] cLt 3).filter (fun c => !(told (lev wd f z th c)).2) := by
      refine List.filter_congr fun c hc => ?_
      obtain ⟨q, hq⟩ := X.known hj hk hc
      unfold okL
      rw [hq, I.get hq]; rfl
    have h2 : (aftTo [f, z, th] [(i : Int), (j : Int), (k : Int)] cGt 3).filter (okR t) = (aftTo [f, z, th] [(i : Int), (j : Int), (k : Int)] cGt 3).filter (fun c => !(told (lev wd f z th c)).1) := by
      refine List.filter_congr fun c hc => ?_
      obtain ⟨q, hq⟩ := X.known hj hk hc
      unfold okR
      rw [hq, I.get hq]; rfl
    rw [h1, h2, loc_left F Z T hi (by lia) (by lia), loc_right F Z T hi (by lia) (by lia)]
theorem Inv.K (F : StOk wd f) (Z : StOk wd z) (T : StOk wd th) {t : Tab} {i j : Nat} (hi : i ≤ f.length) (hj : j < z.length + 1) (I : Inv wd f z th t) (X : TI (z.length + 1) (th.length + 1) i j 0 t) :
    ∀ k : Nat, k ≤ th.length + 1 → Inv wd f z th (winK [f, z, th] i j t k) ∧ TI (z.length + 1) (th.length + 1) i j k (winK [f, z, th] i j t k) := by
  intro k
  induction k with
  | zero => intro _; exact ⟨I, X⟩
  | succ k ih =>
    intro hk
    obtain ⟨I', X'⟩ := ih (by lia)
    exact ⟨I'.step F Z T X' hi hj (by lia), X'.step hj (by lia) _⟩
theorem Inv.J (F : StOk wd f) (Z : StOk wd z) (T : StOk wd th) {t : Tab} {i : Nat} (hi : i ≤ f.length) (I : Inv wd f z th t) (X : TI (z.length + 1) (th.length + 1) i 0 0 t) :
    ∀ j : Nat, j ≤ z.length + 1 → Inv wd f z th (winJ [f, z, th] (th.length + 1) i t j) ∧ TI (z.length + 1) (th.length + 1) i j 0 (winJ [f, z, th] (th.length + 1) i t j) := by
  intro j
  induction j with
  | zero => intro _; exact ⟨I, X⟩
  | succ j ih =>
    intro hj
    obtain ⟨I', X'⟩ := ih (by lia)
    obtain ⟨I'', X''⟩ := Inv.K F Z T hi (by lia) I' X' (th.length + 1) (Nat.le_refl _)
    exact ⟨I'', X''.nextJ⟩
theorem Inv.I (F : StOk wd f) (Z : StOk wd z) (T : StOk wd th) :
    ∀ i : Nat, i ≤ f.length + 1 → Inv wd f z th (winI [f, z, th] (z.length + 1) (th.length + 1) i) ∧ TI (z.length + 1) (th.length + 1) i 0 0 (winI [f, z, th] (z.length + 1) (th.length + 1) i) := by
  intro i
  induction i with
  | zero => intro _; exact ⟨(fun e he => nomatch he), TI.start _ _⟩
  | succ i ih =>
    intro hi
    obtain ⟨I', X'⟩ := ih (by lia)
    obtain ⟨I'', X''⟩ := Inv.J F Z T (by lia) I' X' (z.length + 1) (Nat.le_refl _)
    exact ⟨I'', X''.nextI⟩
end
noncomputable abbrev tabOf (f z th : PySem.Str) : Tab := winI [f, z, th] (z.length + 1) (th.length + 1) (f.length + 1)
structure TabFacts (wd : Nat) (f z th : PySem.Str) (t : Tab) : Prop where
  inv : Inv wd f z th t
  get : ∀ e ∈ t, getW t e.1 = some e.2
  last : getW t [(f.length : Int), (z.length : Int), (th.length : Int)] = some (false, false)
theorem tabFacts {wd : Nat} (hw : wd ≤ 4) (h2 : 2 ≤ wd) {f z : PySem.Str} (hf : f ∈ txts) (hz : z ∈ seconds) : TabFacts wd f z (thirdOf wd f z) (tabOf f z (thirdOf wd f z)) := by
  have K := pairOk hw h2 hf hz
  have hz' := List.mem_of_mem_take (show z ∈ txts.take 7 from hz)
  obtain ⟨I, X⟩ := Inv.I (stOk (txts_ok wd (by lia) h2 f hf)) (stOk (txts_ok wd (by lia) h2 z hz')) K.st (f.length + 1) (Nat.le_refl _)
  refine ⟨I, fun e he => ?_, ?_⟩
  · obtain ⟨a, b, c, e1, h1, h3, h4, e2⟩ := I e he
    obtain ⟨q, hq⟩ := Option.isSome_iff_exists.mp ((X e.1).mpr ⟨a, b, c, e1, by lia, by lia, .inl (by lia)⟩)
    rw [hq, I.get hq, ← e2]
  · obtain ⟨q, hq⟩ := Option.isSome_iff_exists.mp ((X [(f.length : Int), (z.length : Int), ((thirdOf wd f z).length : Int)]).mpr ⟨_, _, _, rfl, by lia, by lia, .inl (by lia)⟩)
    rw [hq, I.get hq]
    have e1 : worth (pre f f.length) wd = worth f wd := by simpa using txts_pre wd (by lia) h2 f hf
    have e2 : worth (pre z z.length) wd = worth z wd := by simpa using txts_pre wd (by lia) h2 z hz'
    have e3 := K.neg
    have e : lev wd f z (thirdOf wd f z) [(f.length : Int), (z.length : Int), ((thirdOf wd f z).length : Int)] = 0 := by
      show worth (pre f f.length) wd + worth (pre z z.length) wd + worth (pre (thirdOf wd f z) (thirdOf wd f z).length) wd = 0
      rw [e1, e2, e3]; unfold sumOf; lia
    rw [e]; rfl
end Mine
end

section
set_option compiler.extract_closed false
namespace Mine
open PySem PySem.W PyProof.Rows PySem.Calls

theorem gn_winners (w : World) : nsIn (KH w) mainGlobals (Str.ofString "_law_winners") = some (some (.ref 107)) := by kernel_rfl
theorem kp_winners (w : World) : keepIn (KH w) (.ref 107) = true := by kernel_rfl

section
variable {w : World} {g : Heap} {b : Shared} {L fa : Addr} {cd : Value} {m : Loc} {own imm : Led} {A : Around} {E : Value → Shared → Prop} {s : Shared} {Q : Flow → Shared → Prop} {sa : Addr} {vs : List Value} {ns : List Int} {oW oT : Obj} {env : Env}
/-- the third stalk's worths -/
noncomputable def thirdsOf (wd : Nat) (th : PySem.Str) (n : Nat) : List Int := (List.range n).map fun c : Nat => worth (pre th (c : Int)) wd
theorem law_s8 {th f z : PySem.Str} {tz tf tw tt : Tok} {wd : Nat} {ta wa : Addr} (hw : wd ≤ 4) (h3 : Signs th) (hl3 : th.length ≤ 10) (dW : oW.data = .cell (some (.int wd tw))) (dT : oT.data = .cell (some (.str th tt))) (G : Gl w g) (P : Pre A 40 450) (S : St g b L s m [(L + 1, oW), (L + 2, oT)] imm)
    (H : Has m [(Str.ofString "worths", .ref wa), (Str.ofString "second", .str z tz), (Str.ofString "first", .str f tf), (Str.ofString "texts", .ref ta)])
    (h : ∀ ha its k m s', IntsAre its (thirdsOf wd th (th.length + 1)) → St g b L s' m [(L + 1, oW), (L + 2, oT)] ((ha, lst its k) :: imm) → Has m [(Str.ofString "thirds", .ref ha), (Str.ofString "worths", .ref wa), (Str.ofString "second", .str z tz), (Str.ofString "first", .str f tf), (Str.ofString "texts", .ref ta)] → Q .next s') :
    wpAny (model P0 w) A (exec (lawSt 8) (lawEnv L fa cd)) Q (fun _ _ => False) s := by
  refine Assign_ListComp_ (g := g) (b := b) (L := L) (by rfl) (by rfl) ?_ P.hh
  refine x_rangeIt (m := m) (own := [(L + 1, oW), (L + 2, oT)]) (imm := imm) G S ?_
  refine wpAny_BinOp (Call_Name rfl (e_bi G S (gn_len w) boot_len (callWith_method1 (spliced_more (e_cell S (c := L + 2) (o := oT) (by first | exact m0 | exact m1 | exact m2 | exact m3 | exact m4 | exact m5 | exact m6 | simp) dT (spliced_none (len_str (by lia) ?_)))))))
  refine wpAny_Constant_int (add_int ⟨th.length + 1, _, m, _, _, rfl, by lia, S.of S.sh, fun it s₂ S => ?_⟩)
  refine CompGo.mk (fun q its own₁ imm₁ => own₁ = [] ∧ IntsAre its (thirdsOf wd th q) ∧ q ≤ 11) (rngIter w it 0 (th.length + 1)) (by simp) S (fun _ _ _ _ _ _ _ => trivial) ⟨rfl, .nil, by lia⟩ ?_ ?_ ?_
  · rintro q its own₁ imm₁ ⟨_, I, hq⟩
    rw [I.length]; unfold thirdsOf; rw [List.length_map, List.length_range]; lia
  · intro q C acc its kk own₁ imm₁ mC sc v oI oL hq hsub hJ hv S
    refine wpAny_pure ?_
    refine ifpos rfl ?_
    refine cut fun QQ hQ1 => ?_
    obtain ⟨rfl, I, hq2⟩ := hJ
    obtain ⟨tc, rfl⟩ := hv
    rw [Int.zero_add] at S
    refine Call_Name rfl (e_glob G S (gn_worth w) (callWith_K G.K (kp_worth w) (spliced_more (Subscript_ (e_cell S (c := L + 2) (o := oT) (by first | exact m0 | exact m1 | exact m2 | exact m3 | exact m4 | exact m5 | exact m6 | simp) dT (wpAny_Slice (part_none (part_some (e_loc S put_eq (part_none ?_))))))))))
    refine a_slNS S (fun t1 s₅ S => ?_) (by lia)
    refine spliced_more (e_cell S (c := L + 1) (o := oW) (by first | exact m0 | exact m1 | exact m2 | exact m3 | exact m4 | exact m5 | exact m6 | simp) dW (spliced_none ⟨fun a o e => S.gk (G.K _ _ e), ?_⟩))
    have h4 : (Txt.slice th none (some (q : Int))).length ≤ th.length := Txt.slice_le th none (some (q : Int))
    refine c_worth G _ _ wd _ (h3.slice none (some (q : Int))) (by lia) hw _ _ _ _ (P.le (by lia) (by lia)) S.ok S.gsz trivial ?_
    rintro _ s₆ e₆ O₆ X₆ ⟨u, rfl⟩
    refine hQ1 _ _ ⟨[], imm₁, _, S.grow e₆ X₆ O₆, hsub, rfl, ?_, by lia⟩
    unfold thirdsOf
    rw [List.range_succ, List.map_append]
    exact I.append (.cons _ _ .nil)
  rintro acc its k own' imm' hsub ⟨rfl, I, _⟩ s₇ S
  exact h acc its k _ s₇ I ((St.freeze (l₁ := []) S).dropI fun p hp => by rcases List.mem_cons.mp hp with rfl | hp; exact .head _; exact .tail _ (hsub _ hp)) (H.put _ _)

theorem law_s9 {th f z : PySem.Str} {tz tf tt : Tok} {ta wa ha : Addr} (lf : f.length ≤ 3) (lz : z.length ≤ 3) (hl3 : th.length ≤ 10) (dT : oT.data = .cell (some (.str th tt))) (G : Gl w g) (P : Pre A 40 450) (S : St g b L s m [(L + 1, oW), (L + 2, oT)] imm)
    (H : Has m [(Str.ofString "thirds", .ref ha), (Str.ofString "worths", .ref wa), (Str.ofString "second", .str z tz), (Str.ofString "first", .str f tf), (Str.ofString "texts", .ref ta)])
    (h : ∀ d o xs imm' m s', d ≠ 1 → WD w o xs → WRel imm' xs (tabOf f z th) → (d, o) ∈ imm' → (∀ p ∈ imm, p ∈ imm') → St g b L s' m [(L + 1, oW), (L + 2, oT)] imm' →
      Has m [(Str.ofString "wins", .ref d), (Str.ofString "thirds", .ref ha), (Str.ofString "worths", .ref wa), (Str.ofString "second", .str z tz), (Str.ofString "first", .str f tf), (Str.ofString "texts", .ref ta)] → Q .next s') :
    wpAny (model P0 w) A (exec (lawSt 9) (lawEnv L fa cd)) Q (fun _ _ => False) s := by
  refine wpAny_Assign_Name (Call_Name rfl (e_glob G S (gn_winners w) (callWith_K G.K (kp_winners w) (spliced_more (List_ (spliced_more (e_loc S (H _ (.tail _ (.tail _ (.tail _ (.head _))))) (spliced_more (e_loc S (H _ (.tail _ (.tail _ (.head _)))) (spliced_more (e_cell S (c := L + 2) (o := oT) (by first | exact m0 | exact m1 | exact m2 | exact m3 | exact m4 | exact m5 | exact m6 | simp) dT (spliced_none (n_list S fun st s₁ S => ?_)))))))))))))
  refine spliced_none ⟨fun a o e => S.gk (G.K _ _ e), ?_⟩
  have hss : StrsAre [Value.str f tf, .str z tz, .str th tt] [f, z, th] := .cons _ _ (.cons _ _ (.cons _ _ .nil))
  refine c_winners G st 0 _ _ hss rfl ?_ _ _ _ _ (P.le (by lia) (by lia)) S.ok S.gsz ⟨(S.neO (.head _)).1, (S.neO (.head _)).2, S.get (.head _)⟩ ?_
  · intro p hp
    match p, hp with
    | 0, _ => show f.length ≤ 50; lia
    | 1, _ => show z.length ≤ 50; lia
    | 2, _ => show th.length ≤ 50; lia
  rintro _ s₂ e₂ O₂ X₂ ⟨d, o, xs, immW, rfl, d1, ed, fd, hW, W, R⟩
  have S := S.adopt (nw := (d, o) :: immW) e₂ X₂ O₂ (fun p hp => by rcases List.mem_cons.mp hp with rfl | hp; exact ⟨ed, fd⟩; exact hW p hp)
  have S := S.drop (List.sublist_cons_self _ _)
  refine st_loc S fun s₃ S => ?_
  exact h d o xs _ _ s₃ d1 W (R.mono fun p hp => .tail _ (List.mem_append_left _ hp)) (.head _) (fun p hp => .tail _ (List.mem_append_right _ hp)) S (H.put _ _)
end
end Mine
end

section
set_option compiler.extract_closed false
namespace Mine
open PySem PySem.W PyProof.Rows PySem.Calls

theorem WRel.at {imm : Led} {xs : List (List Int × Addr × Value)} {t : Tab} (R : WRel imm xs t) {i : Nat} {x : List Int × Addr × Value} (h : xs[i]? = some x) :
    ∃ kvs va p q, (x.2.1, tup kvs) ∈ imm ∧ IntsAre kvs x.1 ∧ x.2.2 = .ref va ∧ (va, tup [.bool p, .bool q]) ∈ imm ∧ t[i]? = some (x.1, p, q) := by
  induction R generalizing i with
  | nil => simp at h
  | @cons key ka va kvs p q xs t a b c _ ih =>
    cases i with
    | zero => simp at h; subst h; exact ⟨kvs, va, p, q, a, b, rfl, c, rfl⟩
    | succ i => simpa using ih (by simpa using h)
theorem ints3 {kvs : List Value} {a b c : Int} (h : IntsAre kvs [a, b, c]) : ∃ t1 t2 t3, kvs = [.int a t1, .int b t2, .int c t3] := by
  obtain ⟨t1, r1, e1, h1⟩ := h.cons_inv
  obtain ⟨t2, r2, e2, h2⟩ := h1.cons_inv
  obtain ⟨t3, r3, e3, h3⟩ := h2.cons_inv
  exact ⟨t1, t2, t3, by rw [e1, e2, e3, h3.nil_inv]⟩

section
variable {w : World} {g : Heap} {b : Shared} {L : Addr} {m : Loc} {own imm : Led} {A : Around} {E : Value → Shared → Prop} {s : Shared} {env : Env}
theorem x_unpack3 {x y z : PySem.Str} {px py pz pos : Pos} {k} {t : Addr} {v1 v2 v3 : Value} {Q : Unit → Shared → Prop} (hh : A.handled = none) (S : St g b L s m own imm) (ht : s.heap.get? t = some (tup [v1, v2, v3]))
    (h : ∀ s', St g b L s' (put (put (put m x v1) y v2) z v3) own imm → Q () s')
    (hL : env.locals = L) (hl : env.kindOf x = some .local) (hl2 : env.kindOf y = some .local) (hl3 : env.kindOf z = some .local) (hp : (env.scope.kind == .class || (env.scope.kind == .module && env.locals != env.globals)) = false) :
    wpAny (model P0 w) A (assign (.Tuple [.Name x px, .Name y py, .Name z pz] k pos) env (.ref t)) Q E s := by
  refine assign_Tuple_tuple hh (isTup_tup ht) (by rfl) (by rfl) fun h' he => ?_
  have S := S.of (tk := s.toks) (S.sh.keeps (fun a o e => he a o (Nat.ne_of_lt (Heap.lt_size e)) e))
  refine assignInOrder_cons (PyProof.Rows.assign_Name (st_loc S (fun s₁ S => ?_) hL hl hp))
  refine assignInOrder_cons (PyProof.Rows.assign_Name (st_loc S (fun s₁ S => ?_) hL hl2 hp))
  refine assignInOrder_cons (PyProof.Rows.assign_Name (st_loc S (fun s₁ S => ?_) hL hl3 hp))
  exact assignInOrder_nil (h _ S)

/-- for x, y, z in d: d a dict under triples of ints -/
theorem l_keys {x y z : PySem.Str} {px py pz pos : Pos} {kk} {body : List Stmt} {R : Result → Shared → Prop} {d it : Addr} {od o₀ : Obj} {es : Array DictEntry} {ep : Nat} {xs : List (List Int × Addr × Value)} {t : Tab}
    (P : A.handled = none) (S : St g b L s m ((it, o₀) :: own) imm) (K0 : KIt o₀ d 0 es.size ep) (hd : (d, od) ∈ imm) (hda : od.data = .dict es ep) (hes : es.toList = xs.map (entryOfKey (TK w))) (W : WRel imm xs t)
    (h3 : ∀ e ∈ t, ∃ a b c : Int, e.1 = [a, b, c])
    (J : Loc → Prop) (h0 : J m)
    (step : ∀ (c1 c2 c3 : Int) t1 t2 t3 p q m₁ imm₁ s₁ o, ([c1, c2, c3], p, q) ∈ t → (∀ p ∈ imm, p ∈ imm₁) → J m₁ →
      St g b L s₁ (put (put (put m₁ x (.int c1 t1)) y (.int c2 t2)) z (.int c3 t3)) ((it, o) :: own) imm₁ →
      wpAny (model P0 w) A (execs body env) (fun f s₂ => f = .next ∧ ∃ m₂ imm₂, St g b L s₂ m₂ ((it, o) :: own) imm₂ ∧ (∀ p ∈ imm, p ∈ imm₂) ∧ J m₂) (fun _ _ => False) s₁)
    (fin : ∀ s' m' imm', St g b L s' m' own imm' → (∀ p ∈ imm, p ∈ imm') → J m' → R (.ok .next) s')
    (hL : env.locals = L) (hl : env.kindOf x = some .local) (hl2 : env.kindOf y = some .local) (hl3 : env.kindOf z = some .local) (hp : (env.scope.kind == .class || (env.scope.kind == .module && env.locals != env.globals)) = false) :
    codeAny (model P0 w) A (.forLoop (.Tuple [.Name x px, .Name y py, .Name z pz] kk pos) (.ref it) body [] env) R s := by
  refine codeAny_forLoop_any (fun k s' => ∃ m' imm' i o, St g b L s' m' ((it, o) :: own) imm' ∧ KIt o d i es.size ep ∧ (∀ p ∈ imm, p ∈ imm') ∧ J m' ∧ i ≤ es.size ∧ k = es.size - i) ?_ es.size
    ⟨m, imm, 0, o₀, S, K0, fun _ h => h, h0, Nat.zero_le _, rfl⟩
  intro k s' hI
  refine cut fun QQ hQ => ?_
  obtain ⟨m', imm', i, o, S', K, hi', hJ, hi, rfl⟩ := hI
  have nc : NotCode o := fun vs q t e => by rw [K.da] at e; cases e; simp
  have hit : s'.heap.get? it = some o := S'.get (.head _)
  have hde : s'.heap.get? d = some od := S'.geti (hi' _ hd)
  by_cases hlt : i < es.size
  · refine key_next hit K hde hda hlt fun o' h' e' K' hs' => hQ _ _ ?_
    have S₁ := S'.of (tk := s'.toks) (Sh.upd (l₁ := []) S'.sh hs'.extBut e' nc)
    have hxi := entry_at hes i
    rw [Array.getElem?_eq_getElem hlt] at hxi
    obtain ⟨x0, hx0, hxe⟩ := Option.map_eq_some_iff.mp hxi.symm
    obtain ⟨kvs, va, p, q, k1, k2, k3, k4, k5⟩ := W.at hx0
    obtain ⟨a, bb, c, hkey⟩ := h3 _ (List.mem_of_getElem? k5)
    have hkey : x0.1 = [a, bb, c] := hkey
    rw [hkey] at k2 k5
    obtain ⟨t1, t2, t3, rfl⟩ := ints3 k2
    have hk : es[i].key = .ref x0.2.1 := by rw [← hxe]; rfl
    show wpAny _ _ (letOwnedTupleGo _ _ es[i].key) _ _ _
    rw [hk]
    refine key_own (S₁.get (.head _)) K' ?_
    refine x_unpack3 P S₁ (S₁.geti (hi' _ k1)) (fun s₂ S₂ => ?_) hL hl hl2 hl3 hp
    refine wpAny_mono (step a bb c t1 t2 t3 p q m' imm' s₂ o' (List.mem_of_getElem? k5) hi' hJ S₂) (fun f s₃ h₃ => ?_) fun _ _ e => e.elim
    obtain ⟨rfl, m₃, imm₃, S₃, k₃, hJ₃⟩ := h₃
    exact ⟨es.size - (i + 1), by lia, m₃, imm₃, i + 1, o', S₃, K', k₃, hJ₃, hlt, rfl⟩
  · have hin : i = es.size := by lia
    subst hin
    refine key_stop P hit K hde hda fun h' he => hQ _ _ (wpAny_execs_nil ?_)
    exact fin _ m' imm' (S'.of (tk := s'.toks) (Sh.forget (l₁ := []) S'.sh he nc)) hi' hJ
end
end Mine
end

section
set_option compiler.extract_closed false
namespace Mine
open PySem PySem.W PyProof.Rows PySem.Calls

theorem gn_isterm (w : World) : nsIn (KH w) mainGlobals (Str.ofString "ISTERMINAL") = some (some (.ref 24)) := by kernel_rfl
theorem kp_isterm (w : World) : keepIn (KH w) (.ref 24) = true := by kernel_rfl
theorem gn_iseof (w : World) : nsIn (KH w) mainGlobals (Str.ofString "ISEOF") = some (some (.ref 31)) := by kernel_rfl
theorem kp_iseof (w : World) : keepIn (KH w) (.ref 31) = true := by kernel_rfl
theorem Has.right {m : Loc} {l r : List (PySem.Str × Value)} (H : Has m (l ++ r)) : Has m r := fun p hp => H p (List.mem_append_right _ hp)
theorem eqvBB (p q p' q' : Bool) : PyData.eqv (.tuple [.bool p, .bool q]) (.tuple [.bool p', .bool q']) = decide ((p, q) = (p', q')) := by
  simp only [PyData.eqv, PyData.eqvAll, Bool.and_true]
  cases p <;> cases q <;> cases p' <;> cases q' <;> rfl
theorem readsBB (h : Heap) (p q : Bool) : ReadsAll h [.bool p, .bool q] [.bool p, .bool q] [] := readsAll_cons_val (.bool p) (readsAll_cons_val (.bool q) .nil)
theorem thirdsOf_get (wd : Nat) (th : PySem.Str) (n i : Nat) (h : i < n) : (thirdsOf wd th n).getD i 0 = worth (pre th (i : Int)) wd := by
  unfold thirdsOf
  rw [List.getD_eq_getElem?_getD, List.getElem?_map, List.getElem?_range h]; simp only [Option.map_some, Option.getD_some]

section
variable {w : World} {g : Heap} {b : Shared} {L fa : Addr} {cd : Value} {m : Loc} {own imm : Led} {A : Around} {E : Value → Shared → Prop} {s : Shared} {oW oT : Obj} {env : Env}
theorem n_tup2 {v1 v2 : Value} {Q : Value → Shared → Prop} (S : St g b L s m own imm) (h : ∀ a s', St g b L s' m own ((a, tup [v1, v2]) :: imm) → Q (.ref a) s') : wpAny (model P0 w) A (newTuple [v1, v2]) Q E s :=
  n_tup S h (by rw [sizeLine_eq]; show 2 ≤ _; lia)
theorem n_tup3 {v1 v2 v3 : Value} {Q : Value → Shared → Prop} (S : St g b L s m own imm) (h : ∀ a s', St g b L s' m own ((a, tup [v1, v2, v3]) :: imm) → Q (.ref a) s') : wpAny (model P0 w) A (newTuple [v1, v2, v3]) Q E s :=
  n_tup S h (by rw [sizeLine_eq]; show 3 ≤ _; lia)
theorem n_tup2L {v1 v2 : Value} {Q : Value → Shared → Prop} (S : St g b L s m own imm) (h : ∀ a s' imm', (∀ p ∈ imm, p ∈ imm') → (a, tup [v1, v2]) ∈ imm' → St g b L s' m own imm' → Q (.ref a) s') : wpAny (model P0 w) A (newTuple [v1, v2]) Q E s :=
  n_tup2 S fun a s' S => h a s' _ (fun _ hp => .tail _ hp) (.head _) S
theorem n_tup3L {v1 v2 v3 : Value} {Q : Value → Shared → Prop} (S : St g b L s m own imm) (h : ∀ a s' imm', (∀ p ∈ imm, p ∈ imm') → (a, tup [v1, v2, v3]) ∈ imm' → St g b L s' m own imm' → Q (.ref a) s') : wpAny (model P0 w) A (newTuple [v1, v2, v3]) Q E s :=
  n_tup3 S fun a s' S => h a s' _ (fun _ hp => .tail _ hp) (.head _) S
theorem a_neBB {Q : Value → Shared → Prop} {t1 t2 : Addr} {p q p' q' : Bool} (h1 : s.heap.get? t1 = some (tup [.bool p, .bool q])) (h2 : s.heap.get? t2 = some (tup [.bool p', .bool q'])) (hu : A.units + 64 < cLine)
    (h : Q (.bool (!decide ((p, q) = (p', q')))) s) : wpAny (model P0 w) A (compareOp .NotEq (.ref t1) (.ref t2)) Q E s := by
  refine ne_dataH (da := .tuple [.bool p, .bool q]) (db := .tuple [.bool p', .bool q']) (as := []) (bs := []) (reads_tuple_at h1 rfl rfl (by simpa using readsBB _ _ _)) (reads_tuple_at h2 rfl rfl (by simpa using readsBB _ _ _)) (by rfl) (by rfl) hu ?_
  rw [eqvBB]; exact h
theorem a_eqBB {Q : Value → Shared → Prop} {t1 t2 : Addr} {p q p' q' : Bool} (h1 : s.heap.get? t1 = some (tup [.bool p, .bool q])) (h2 : s.heap.get? t2 = some (tup [.bool p', .bool q'])) (hu : A.units + 64 < cLine)
    (h : Q (.bool (decide ((p, q) = (p', q')))) s) : wpAny (model P0 w) A (compareOp .Eq (.ref t1) (.ref t2)) Q E s := by
  refine eq_dataH (da := .tuple [.bool p, .bool q]) (db := .tuple [.bool p', .bool q']) (as := []) (bs := []) (reads_tuple_at h1 rfl rfl (by simpa using readsBB _ _ _)) (reads_tuple_at h2 rfl rfl (by simpa using readsBB _ _ _)) (by rfl) (by rfl) hu ?_
  rw [eqvBB]; exact h
theorem a_win {value slice : Expr} {Q : Value → Shared → Prop} {d ka : Addr} {o : Obj} {xs : List (List Int × Addr × Value)} {t : Tab} {key : List Int} {kvs : List Value} {p q : Bool} (S : St g b L s m own imm) (hd : (d, o) ∈ imm) (W : WD w o xs) (R : WRel imm xs t)
    (hk : (ka, tup kvs) ∈ imm) (hi : IntsAre kvs key) (hg : getW t key = some (p, q)) (hu : A.units + 64 < cLine)
    (h : ∀ va s', St g b L s' m own imm → (va, tup [.bool p, .bool q]) ∈ imm → Q (.ref va) s')
    (hs : subscripted slice false (.ref d) (.ref ka) = operate [.ref d, .ref ka] (getItem (.ref d) (.ref ka)) := by with_unfolding_all rfl) :
    wpAny (model P0 w) A (subscriptTail value slice (.ref d) (.ref ka)) Q E s := by
  obtain ⟨ka', va, hat, hva⟩ := R.get hg
  have DH := dictH (w := w) (S.geti hd) W R S.gets
  exact tail_any (ops := [.ref d, .ref ka]) DH.typeIs slot_dict_getitem.lookup (wpAny_getItem_heap (tupleKind_room_in1 (by lia)) (isKey (S.geti hk) hi) DH hat (h va _ (S.of S.sh) hva)) hs

set_option maxHeartbeats 1000000 in
theorem law_s10 {th f z : PySem.Str} {tz tf : Tok} {wd : Nat} {ta wa ha d : Addr} {od o : Obj} {its : List Value} {k0 : Nat} {xs : List (List Int × Addr × Value)} {Q : Flow → Shared → Prop} (d1 : d ≠ 1) (lf : f ∈ txts) (lz : z ∈ txts) (hl3 : th.length ≤ 10) (G : Gl w g) (P : Pre A 40 450) (S : St g b L s m [(L + 1, oW), (L + 2, oT)] imm)
    (H : Has m [(Str.ofString "wins", .ref d), (Str.ofString "thirds", .ref ha), (Str.ofString "worths", .ref wa), (Str.ofString "second", .str z tz), (Str.ofString "first", .str f tf), (Str.ofString "texts", .ref ta)])
    (D : WSD w wd od) (hwa : (wa, od) ∈ imm) (I : IntsAre its (thirdsOf wd th (th.length + 1))) (hha : (ha, lst its k0) ∈ imm) (W : WD w o xs) (R : WRel imm xs (tabOf f z th)) (hd : (d, o) ∈ imm) (T : TabFacts wd f z th (tabOf f z th))
    (h : ∀ m imm' s', (∀ p ∈ imm, p ∈ imm') → St g b L s' m [(L + 1, oW), (L + 2, oT)] imm' →
      Has m [(Str.ofString "wins", .ref d), (Str.ofString "thirds", .ref ha), (Str.ofString "worths", .ref wa), (Str.ofString "second", .str z tz), (Str.ofString "first", .str f tf), (Str.ofString "texts", .ref ta)] → Q .next s') :
    wpAny (model P0 w) A (exec (lawSt 10) (lawEnv L fa cd)) Q (fun _ _ => False) s := by
  obtain ⟨es, ep, hda, hes⟩ := W.da
  have lf3 := (txts_signs f lf).2
  have lz3 := (txts_signs z lz).2
  refine wpAny_For (e_loc S (H _ m0) (key_start (beq_eq_false_iff_ne.mpr d1) (S.geti hd) W.ex hda ?_))
  have S := S.of (tk := s.toks) (S.sh.push { cls := .type "dict_keyiterator", data := kit d 0 es.size ep })
  refine l_keys (own := [(L + 1, oW), (L + 2, oT)]) P.hh S ⟨rfl, rfl⟩ hd hda hes R ?_ (fun m => Has m [(Str.ofString "wins", .ref d), (Str.ofString "thirds", .ref ha), (Str.ofString "worths", .ref wa), (Str.ofString "second", .str z tz), (Str.ofString "first", .str f tf), (Str.ofString "texts", .ref ta)]) H ?_ ?_ (by rfl) (by rfl) (by rfl) (by rfl) (by rfl)
  · intro e he
    obtain ⟨a, b, c, e1, _⟩ := T.inv e he
    exact ⟨a, b, c, e1⟩
  · intro c1 c2 c3 t1 t2 t3 p q m₁ imm₁ s₁ oi he hsub H S
    refine cut fun QQ hQ1 => ?_
    obtain ⟨i, j, k, hkey, hi, hj, hk, htold⟩ := T.inv _ he
    have hget := T.get _ he
    simp only [List.cons.injEq, and_true] at hkey
    obtain ⟨rfl, rfl, rfl⟩ := hkey
    have H := ((H.put (Str.ofString "i") (.int i t1)).put (Str.ofString "j") (.int j t2)).put (Str.ofString "k") (.int k t3)
    revert S H
    refine letter (put (put (put m₁ (Str.ofString "i") (.int i t1)) (Str.ofString "j") (.int j t2)) (Str.ofString "k") (.int k t3)) ?_
    intro m S H
    refine wpAny_execs_cons (wpAny_Assign_Name (wpAny_BinOp (wpAny_BinOp (Subscript_ (e_loc S (H _ m5) (Subscript_ (e_loc S (H _ m7) (wpAny_Slice (part_none (part_some (e_loc S (H _ m2) (part_none ?_))))))))))))
    refine a_slNS S (fun t4 s₂ S => ?_) (by lia)
    refine a_sd (y := pre f i) D S (hsub _ hwa) (pre_mem f lf i (by lia)) fun u1 s₃ S => ?_
    refine Subscript_ (e_loc S (H _ m5) (Subscript_ (e_loc S (H _ m6) (wpAny_Slice (part_none (part_some (e_loc S (H _ m1) (part_none ?_))))))))
    refine a_slNS S (fun t5 s₄ S => ?_) (by lia)
    refine a_sd (y := pre z j) D S (hsub _ hwa) (pre_mem z lz j (by lia)) fun u2 s₅ S => add_int ?_
    refine norm (S.of S.sh) fun s₆ S => ?_
    obtain ⟨u3, hth⟩ := intsAre_get I k (by unfold thirdsOf; rw [List.length_map, List.length_range]; lia)
    rw [thirdsOf_get wd th _ k (by lia)] at hth
    refine Subscript_ (e_loc S (H _ m4) (e_loc S (H _ m0) (item_listL (l := its) (isList_lst (S.geti (hsub _ hha))) (by lia) (by lia) (by rw [Int.toNat_natCast]; exact hth) (add_int ?_))))
    have hlev : worth (pre f i) wd + worth (pre z j) wd + worth (pre th k) wd = lev wd f z th [(i : Int), (j : Int), (k : Int)] := rfl
    rw [hlev]
    revert htold
    refine letter (lev wd f z th [(i : Int), (j : Int), (k : Int)]) ?_
    intro l htold
    have htold : (p, q) = told l := htold
    refine st_loc (S.of S.sh) fun s₇ S => ?_
    have H := H.put (Str.ofString "level") (.int l s₆.toks)
    revert S H
    refine letter (put m (Str.ofString "level") (.int l s₆.toks)) ?_
    intro m S H
    refine wpAny_execs_cons (wpAny_Assign_Name (Tuple_ (spliced_more (Call_Name rfl (e_glob G S (gn_isterm w) (callWith_K G.K (kp_isterm w) (spliced_more (wpAny_BinOp (e_glob G S (by rfl) (e_loc S (H _ m0) (sub_int ?_)))))))))))
    refine norm (S.of S.sh) fun s₈ S => ?_
    refine spliced_none ⟨fun a o e => S.gk (G.K _ _ e), ?_⟩
    refine c_isterm G _ _ _ _ _ _ (P.le (by lia) (by lia)) S.ok S.gsz trivial ?_
    rintro _ s₉ e₉ O₉ X₉ rfl
    have S := S.grow e₉ X₉ O₉
    refine spliced_more (Call_Name rfl (e_glob G S (gn_isterm w) (callWith_K G.K (kp_isterm w) (spliced_more (wpAny_BinOp (e_glob G S (by rfl) (e_loc S (H _ m0) (add_int ?_))))))))
    refine norm (S.of S.sh) fun sa S => ?_
    refine spliced_none ⟨fun a o e => S.gk (G.K _ _ e), ?_⟩
    refine c_isterm G _ _ _ _ _ _ (P.le (by lia) (by lia)) S.ok S.gsz trivial ?_
    rintro _ sb eb Ob Xb rfl
    have S := S.grow eb Xb Ob
    refine spliced_none (n_tup2L S fun tt sc imm2 k2 htt S => ?_)
    refine st_loc S fun sd S => ?_
    have H := H.put (Str.ofString "told") (.ref tt)
    revert S H
    refine letter (put m (Str.ofString "told") (.ref tt)) ?_
    intro m S H
    have hp : decide (256 - l < 256) = p := (congrArg Prod.fst htold).symm
    have hq : decide (256 + l < 256) = q := (congrArg Prod.snd htold).symm
    rw [hp, hq] at htt
    have k2 : ∀ p ∈ imm, p ∈ imm2 := fun p hp => k2 _ (hsub _ hp)
    have R1 := R.mono k2
    have hd1 := k2 _ hd
    have hu := P.un
    refine wpAny_execs_cons (wpAny_If (wpAny_isTrue_Compare1 (e_loc S (H _ m0) (Subscript_ (e_loc S (H _ m5) (Tuple_ (spliced_more (e_loc S (H _ m4) (spliced_more (e_loc S (H _ m3) (spliced_more (e_loc S (H _ m2) (spliced_none (n_tup3L S fun ka se imm3 k3 hka S => ?_))))))))))))))
    have R2 := R1.mono k3
    refine a_win S (k3 _ hd1) W R2 hka (.cons _ _ (.cons _ _ (.cons _ _ .nil))) hget (by lia) fun va sf S hva => ?_
    refine a_neBB (S.geti (k3 _ htt)) (S.geti hva) (by lia) (wpAny_truthy_bool ?_)
    refine ifneg (by simp) ?_
    refine wpAny_execs_nil ?_
    refine wpAny_execs_cons (wpAny_If (wpAny_isTrue_Compare1 (Call_Name rfl (e_glob G S (gn_iseof w) (callWith_K G.K (kp_iseof w) (spliced_more (e_loc S (H _ m1) (spliced_none ⟨fun a o e => S.gk (G.K _ _ e), ?_⟩))))))))
    refine c_iseof G _ _ _ _ _ _ (P.le (by lia) (by lia)) S.ok S.gsz trivial ?_
    rintro _ sg eg Og Xg rfl
    have S := S.grow eg Xg Og
    refine wpAny_Compare1 (Subscript_ (e_loc S (H _ m5) (Tuple_ (spliced_more (e_loc S (H _ m4) (spliced_more (e_loc S (H _ m3) (spliced_more (e_loc S (H _ m2) (spliced_none (n_tup3L S fun kb sh imm4 k4 hkb S => ?_)))))))))))
    refine a_win S (k4 _ (k3 _ hd1)) W (R2.mono k4) hkb (.cons _ _ (.cons _ _ (.cons _ _ .nil))) hget (by lia) fun vb si S hvb => ?_
    refine Tuple_ (spliced_more (Constant_bool (spliced_more (Constant_bool (spliced_none (n_tup2L S fun ff sj imm5 k5 hff S => ?_))))))
    refine a_eqBB (S.geti (k5 _ hvb)) (S.geti hff) (by lia) ?_
    refine wpAny_isNot_plain (by rfl) (wpAny_truthy_bool ?_)
    have hz : (l == 0) = decide ((p, q) = (false, false)) := by
      rw [htold]
      have e1 := told1 l
      have e2 := told2 l
      have e3 : told l = ((told l).1, (told l).2) := rfl
      rw [e3, e1, e2]
      rcases Int.lt_trichotomy l 0 with hl | hl | hl
      · have h1 : (l == 0) = false := by rw [beq_eq_false_iff_ne]; lia
        have h2 : decide (l < 0) = true := by rw [decide_eq_true_eq]; exact hl
        rw [h1, h2]; simp
      · subst hl; rfl
      · have h1 : (l == 0) = false := by rw [beq_eq_false_iff_ne]; lia
        have h2 : decide (0 < l) = true := by rw [decide_eq_true_eq]; exact hl
        rw [h1, h2]; simp
    rw [hz, if_neg (by simp)]
    exact wpAny_execs_nil (wpAny_execs_nil (hQ1 _ _ ⟨rfl, m, _, S, fun p hp => k5 _ (k4 _ (k3 _ (k2 _ hp))), Has.right (l := [_, _, _, _, _]) H⟩))
  · intro s' m' imm' S hsub H
    exact h m' imm' s' hsub S H
end
end Mine
end

section
set_option compiler.extract_closed false
namespace Mine
open PySem PySem.W PyProof.Rows PySem.Calls

theorem betw_eq {wd : Nat} (hw : wd ≤ 4) (h2 : 2 ≤ wd) {f x : PySem.Str} (hf : f ∈ txts) (hx : x ∈ txts) : Txt.startswith x f = betTo (fun y => worth y wd) x f f.length := eq_of_beq (betw_ok wd (by lia) h2 f hf x hx)
section
variable {w : World} {g : Heap} {b : Shared} {L fa : Addr} {cd : Value} {m : Loc} {own imm : Led} {A : Around} {E : Value → Shared → Prop} {s : Shared} {oW oT : Obj} {env : Env}
abbrev lastBs (d ha wa ta : Addr) (z f : PySem.Str) (tz tf : Tok) : List (PySem.Str × Value) := [(Str.ofString "wins", .ref d), (Str.ofString "thirds", .ref ha), (Str.ofString "worths", .ref wa), (Str.ofString "second", .str z tz), (Str.ofString "first", .str f tf), (Str.ofString "texts", .ref ta)]
set_option maxHeartbeats 1000000 in
theorem law_s11 {th f z : PySem.Str} {tz tf tt : Tok} {wd : Nat} {ta wa ha d : Addr} {o : Obj} {xs : List (List Int × Addr × Value)} {Q : Flow → Shared → Prop} (lf : f.length ≤ 3) (lz : z.length ≤ 3) (hl3 : th.length ≤ 10) (G : Gl w g) (P : Pre A 40 450) (S : St g b L s m [(L + 1, oW), (L + 2, oT)] imm)
    (H : Has m (lastBs d ha wa ta z f tz tf)) (dT : oT.data = .cell (some (.str th tt))) (W : WD w o xs) (R : WRel imm xs (tabOf f z th)) (hd : (d, o) ∈ imm) (T : TabFacts wd f z th (tabOf f z th))
    (h : ∀ imm' s', (∀ p ∈ imm, p ∈ imm') → St g b L s' m [(L + 1, oW), (L + 2, oT)] imm' → Q .next s') :
    wpAny (model P0 w) A (exec (lawSt 11) (lawEnv L fa cd)) Q (fun _ _ => False) s := by
  have hu := P.un
  refine wpAny_If (wpAny_isTrue_Compare1 (Subscript_ (e_loc S (H _ m0) (Tuple_ (spliced_more (Call_Name rfl (e_bi G S (gn_len w) boot_len (callWith_method1 (spliced_more (e_loc S (H _ m4) (spliced_none (len_str (by lia) ?_))))))))))))
  refine norm (S.of S.sh) fun s₁ S => ?_
  refine spliced_more (Call_Name rfl (e_bi G S (gn_len w) boot_len (callWith_method1 (spliced_more (e_loc S (H _ m3) (spliced_none (len_str (by lia) ?_)))))))
  refine norm (S.of S.sh) fun s₂ S => ?_
  refine spliced_more (Call_Name rfl (e_bi G S (gn_len w) boot_len (callWith_method1 (spliced_more (e_cell S (c := L + 2) (o := oT) m1 dT (spliced_none (len_str (by lia) ?_)))))))
  refine norm (S.of S.sh) fun s₃ S => ?_
  refine spliced_none (n_tup3 S fun ka s₄ S => ?_)
  refine a_win S (.tail _ hd) W (R.mono fun p hp => .tail _ hp) (.head _) (.cons _ _ (.cons _ _ (.cons _ _ .nil))) T.last (by lia) fun va s₅ S hva => ?_
  refine Tuple_ (spliced_more (Constant_bool (spliced_more (Constant_bool (spliced_none (n_tup2 S fun ff s₆ S => ?_))))))
  refine a_neBB (S.geti (.tail _ hva)) (S.geti (.head _)) (by lia) (wpAny_truthy_bool ?_)
  refine ifneg (by simp) ?_
  exact wpAny_execs_nil (h _ _ (fun p hp => .tail _ (.tail _ hp)) S)

set_option maxHeartbeats 1000000 in
theorem law_s12 {f z : PySem.Str} {tz tf : Tok} {wd n : Nat} {ta wa ha d : Addr} {od : Obj} {tvs : List Value} {Q : Flow → Shared → Prop} (hw : wd ≤ 4) (h2 : 2 ≤ wd) (hf : f ∈ txts) (G : Gl w g) (P : Pre A 40 450) (S : St g b L s m [(L + 1, oW), (L + 2, oT)] imm)
    (H : Has m (lastBs d ha wa ta z f tz tf)) (hT : StrsAre tvs txts) (hta : (ta, lst tvs n) ∈ imm) (D : WSD w wd od) (hwa : (wa, od) ∈ imm)
    (h : ∀ m' own' imm' s', St g b L s' m' own' imm' → Q .next s') :
    wpAny (model P0 w) A (exec (lawSt 12) (lawEnv L fa cd)) Q (fun _ _ => False) s := by
  have lf3 := (txts_signs f hf).2
  refine wpAny_For (e_loc S (H _ m5) (wpAny_pyIter_list (isList_lst (S.geti hta)) ?_))
  have S := S.of (tk := s.toks) (S.sh.push { cls := .type "list_iterator", data := .fields #[.ref ta, .int 0 0] })
  refine l_for (own := [(L + 1, oW), (L + 2, oT)]) (fr := []) (lstIter w _ ta tvs n) P.hh S ⟨rfl, rfl⟩ (fun s' m' own' imm' S' hsub => S'.geti (hsub _ hta)) (fun i m own imm' => own = [(L + 1, oW), (L + 2, oT)] ∧ Has m (lastBs d ha wa ta z f tz tf)) ⟨rfl, H⟩ ?_ ?_
  · intro i m₁ own₁ imm₁ s₁ v oi hi hsub hJ hv S
    refine cut fun QQ hQ1 => ?_
    obtain ⟨rfl, H⟩ := hJ
    obtain ⟨x, tx, rfl, hxi⟩ := StrsAre.item hT i v hv
    have hx : x ∈ txts := List.mem_of_getElem? hxi
    have lx3 := (txts_signs x hx).2
    have H := H.put (Str.ofString "text") (.str x tx)
    revert S H
    refine letter (put m₁ (Str.ofString "text") (.str x tx)) ?_
    intro m S H
    refine wpAny_execs_cons (wpAny_If (wpAny_isTrue_Compare1 (Call_Name rfl (e_glob G S (gn_ell w) (callWith_K G.K (kp_ell w) (spliced_more (wpAny_BinOp (e_loc S (H _ m5) (Constant_str (SB.add (fun ta ka => ?_) ?_))))))))))
    · refine norm (S.of S.sh) fun s₂ S => ?_
      refine spliced_more (e_loc S (H _ m0) (spliced_none ⟨fun a o e => S.gk (G.K _ _ e), ?_⟩))
      refine c_ell G f x _ _ hf hx _ _ _ _ (P.le (by lia) (by lia)) S.ok S.gsz trivial ?_
      rintro _ s₃ e₃ O₃ X₃ rfl
      have S := S.grow e₃ X₃ O₃
      refine Call_Name rfl (e_glob G S (gn_betw w) (callWith_K G.K (kp_betw w) (spliced_more (e_loc S (H _ m0) (spliced_more (e_loc S (H _ m5) (spliced_more (e_loc S (H _ m3) (spliced_none ⟨fun a o e => S.gk (G.K _ _ e), ?_⟩)))))))))
      obtain ⟨ff, DD, hff⟩ := D.f
      have nw := S.neI (hsub _ hwa)
      refine c_betw G x f _ _ wa od ff (fun y => worth y wd) DD (by lia) (hff x hx) (fun c hc => hff _ (pre_mem f hf c (by lia))) _ _ _ _ (P.le (by lia) (by lia)) S.ok S.gsz ⟨nw.1, nw.2, S.geti (hsub _ hwa)⟩ ?_
      rintro _ s₄ e₄ O₄ X₄ rfl
      have S := S.grow e₄ X₄ O₄
      refine wpAny_isNot_plain (by rfl) (wpAny_truthy_bool ?_)
      rw [← betw_eq hw h2 hf hx, if_neg (by simp)]
      exact wpAny_execs_nil (wpAny_execs_nil (hQ1 _ _ ⟨m, _, imm₁, S, hsub, rfl, Has.right (l := [_]) H⟩))
    · rw [sizeLine_eq]; show f.length + 3 ≤ _; lia
  · rintro s' m' own' imm' S hsub ⟨rfl, H⟩
    exact h _ _ _ s' S
theorem law_s13 {Q : Flow → Shared → Prop} (h : Q (.ret (.bool true)) s) : wpAny (model P0 w) A (exec (lawSt 13) (lawEnv L fa cd)) Q E s := wpAny_Return_some (Constant_bool h)
end
end Mine
end

section
set_option compiler.extract_closed false
namespace Mine
open PySem PySem.W PyProof.Rows PySem.Calls

section
variable {w : World} {g : Heap} {b : Shared} {L fa : Addr} {cd : Value} {m : Loc} {A : Around} {s : Shared} {Q : Flow → Shared → Prop} {sa : Addr} {vs : List Value} {ns : List Int} {oW oT : Obj}
set_option maxHeartbeats 1000000 in
theorem law_main (G : Gl w g) (P : Pre A 40 450) (S : St g b L s m [(L + 1, oW), (L + 2, oT)] []) (H : Has m [(Str.ofString "script", .ref sa)]) (hl : g.IsList sa vs.toArray) (hI : IntsAre vs ns) (hlen : vs.length ≤ 63) (dW : oW.data = .cell none) (dT : oT.data = .cell none)
    (h : ∀ m' own' imm' s', St g b L s' m' own' imm' → Q (.ret (.bool true)) s') :
    wpAny (model P0 w) A (execs lawBody (lawEnv L fa cd)) Q (fun _ _ => False) s := by
  refine wpAny_execs_cons (law_s0 G P S H hl hI hlen dW fun wd tw oW s₁ h2 hw dW S => ?_)
  refine wpAny_execs_cons (law_s1 G P S H fun ta tvs n m s₂ hT S H => ?_)
  refine wpAny_execs_cons (law_s2 G P S H hl hI hlen hT fun f tf m s₃ hf S H => ?_)
  refine wpAny_execs_cons (law_s3 G P S H hl hI hlen hT fun z tz m s₄ hz S H => ?_)
  refine wpAny_execs_cons (law_s4 hw dW G P S H hT fun wa od m s₅ D S H => ?_)
  refine wpAny_execs_cons (law_s5 hw h2 hf hz dW G P S H D fun t m s₆ S H => ?_)
  refine wpAny_execs_cons (law_s6 hw h2 hf hz dW G P S H D fun s₇ S => ?_)
  refine wpAny_execs_cons (law_s7 hw h2 hf hz dT G P S H fun oT tt s₈ dT S => ?_)
  have K := pairOk hw h2 hf hz
  have T := tabFacts hw h2 hf hz
  have hzt := sec_txts z hz
  have lf := (txts_signs f hf).2
  have lz := (txts_signs z hzt).2
  refine wpAny_execs_cons (law_s8 hw K.signs3 K.len3 dW dT G P S (Has.right (l := [_]) H) fun ha its k m s₉ I S H => ?_)
  refine wpAny_execs_cons (law_s9 lf lz K.len3 dT G P S H fun d o xs imm m sa d1 W R hd hsub S H => ?_)
  refine wpAny_execs_cons (law_s10 d1 hf hzt K.len3 G P S H D (hsub _ m1) I (hsub _ m0) W R hd T fun m imm' sb hsub2 S H => ?_)
  refine wpAny_execs_cons (law_s11 lf lz K.len3 G P S H dT W (R.mono hsub2) (hsub2 _ hd) T fun imm'' sc hsub3 S => ?_)
  refine wpAny_execs_cons (law_s12 hw h2 hf G P S H hT (hsub3 _ (hsub2 _ (hsub _ m2))) D (hsub3 _ (hsub2 _ (hsub _ m1))) fun m own imm sd S => ?_)
  refine wpAny_execs_cons (law_s13 ?_)
  exact h m own imm sd S
end

section
variable {w : World} {s₁ : Shared} {h₁ : Heap} {tk : Nat} {A : Around} {sa fa : Addr} {cd : Value} {vs : List Value} {ns : List Int} {oW oT : Obj} {m : Loc} {p : Program} {loose : List PySem.Str} {mean : ExcName → Option Value} {mg mb : PySem.Str → Option Value}
abbrev tabsL : List (Addr × Addr) := [(51, 47), (58, 54)]
theorem law_final {Q : Flow → Shared → Prop} {E : Value → Shared → Prop} (X : (KH w).In (ghostOf s₁.heap tabsL)) (T : Top p loose mean mg mb (ghostOf s₁.heap tabsL)) (hl : (ghostOf s₁.heap tabsL).IsList sa vs.toArray) (hI : IntsAre vs ns) (hlen : ¬ ((63 : Nat) : Int) < ((ns.length : Nat) : Int))
    (c1 : CodeHd (ghostOf s₁.heap tabsL) 51 47) (c2 : CodeHd (ghostOf s₁.heap tabsL) 58 54) (F : Fr (ghostOf s₁.heap tabsL) s₁.heap.objs.size h₁ m)
    (N : News (ghostOf s₁.heap tabsL) s₁.heap.objs.size h₁ [(s₁.heap.objs.size + 1 + 1, oT), (s₁.heap.objs.size + 1, oW), (47, tabObj #[]), (54, tabObj #[])])
    (l0 : 47 < s₁.heap.objs.size ∧ 54 < s₁.heap.objs.size) (P : Pre A 40 450) (hm : m (Str.ofString "script") = some (.ref sa)) (dW : oW.data = .cell none) (dT : oT.data = .cell none)
    (fin : ∀ s', Same s₁ s' → Ok (ghostOf s₁.heap tabsL) s'.heap → (∃ L m', Fr (ghostOf s₁.heap tabsL) L s'.heap m') → Q (.ret (.bool true)) s') :
    wpAny (model P0 w) A (execs lawBody (lawEnv s₁.heap.objs.size fa cd)) Q E { heap := h₁, gens := s₁.gens, drawn := s₁.drawn, toks := tk, os := s₁.os } := by
  have n1 : (ghostOf s₁.heap tabsL).get? 47 = none := hideAll_none _ (by decide)
  have n2 : (ghostOf s₁.heap tabsL).get? 54 = none := hideAll_none _ (by decide)
  have hs : (ghostOf s₁.heap tabsL).objs.size = s₁.heap.objs.size := hideAll_size _ _
  have G : Gl w (ghostOf s₁.heap tabsL) := ⟨X, ⟨_, _, _, _, _, T⟩, c1, c2, n1, n2, by rw [hs]; exact l0.2⟩
  have tab : ∀ (P l c : Nat) (q : PySem.Str), h₁.get? P = some (tabObj #[]) → TabOk P l c q h₁ := fun P l c q e => ⟨#[], e, trivial, fun _ _ => .inl rfl⟩
  have O : Ok (ghostOf s₁.heap tabsL) h₁ := ⟨F.keep, tab 47 88 4 q1 (N (47, tabObj #[]) m2).1, tab 54 103 4 q2 (N (54, tabObj #[]) m3).1⟩
  have S : St (ghostOf s₁.heap tabsL) s₁ s₁.heap.objs.size { heap := h₁, gens := s₁.gens, drawn := s₁.drawn, toks := tk, os := s₁.os } m [(s₁.heap.objs.size + 1, oW), (s₁.heap.objs.size + 2, oT)] [] := by
    refine ⟨⟨F.ns, fun a o a1 a2 e => F.keep a o (ghost_ne e (by simp; exact ⟨a1, a2⟩)), fun p hp => ?_, by simp, Nat.le_refl _, l0.2, Nat.le_of_eq hs, O, fun a o e => ⟨?_, ?_, of_hideAll _ e⟩, fun p hp => nomatch hp⟩, rfl, rfl, rfl⟩
    · rcases List.mem_cons.mp hp with rfl | hp
      · exact ⟨(N (s₁.heap.objs.size + 1, oW) m1).1, Nat.succ_ne_self _, Fr0.of (Nat.le_succ _) l0.2⟩
      · rcases List.mem_cons.mp hp with rfl | hp
        · exact ⟨(N (s₁.heap.objs.size + 2, oT) (.head _)).1, by show s₁.heap.objs.size + 2 ≠ s₁.heap.objs.size; lia, Fr0.of (by show s₁.heap.objs.size ≤ s₁.heap.objs.size + 2; lia) l0.2⟩
        · cases hp
    · rintro rfl; rw [n1] at e; cases e
    · rintro rfl; rw [n2] at e; cases e
  have hlv : vs.length ≤ 63 := by have := hI.length; lia
  refine wpAny_mono (law_main G P S (fun p hp => by rcases List.mem_cons.mp hp with rfl | hp; exact hm; cases hp) hl hI hlv dW dT (Q := Q) fun m' own' imm' s' S => fin s' S.same S.ok ⟨_, _, S.sh.fr⟩) (fun _ _ q => q) fun _ _ e => e.elim
end
end Mine
end

section
set_option compiler.extract_closed false
open PySem PySem.W PyProof.Rows PySem.Calls
namespace Mine
theorem grown {g h : Heap} (O : Ok g h) : GrownAll [(51, 47), (58, 54)] h := by
  obtain ⟨p1, e1, _⟩ := O.t1
  obtain ⟨p2, e2, _⟩ := O.t2
  exact ⟨⟨p1, e1⟩, ⟨p2, e2⟩, trivial⟩
end Mine
set_option maxRecDepth 100000 in
set_option maxHeartbeats 8000000 in
theorem PySem.Challenge.cw_qu0055_01_holds : PySem.Challenge.rw_qu0055_01.Holds := by
  rw [← Mine.row2_eq]
  w_on; o_law
  o_head (kmHook Mine.KK Mine.kas (fun _ => by kernel_rfl) [47, 54])
  case hw => w_witness2
  w_strict (k_go0; (all_goals try k_fold); (all_goals (refine Mine.law_final (by assumption) (by assumption) (by assumption) (by assumption) (by assumption) (by assumption) (by assumption) (by assumption) (by assumption) (by assumption) ⟨by rfl, of_decide_eq_true (by rfl), of_decide_eq_true (by rfl)⟩ (by rfl) (by assumption) (by assumption) ?fin)); (case fin => (intro s' sm ok fr; obtain ⟨L, m', F⟩ := fr; refine ⟨goodW_bool (L := L) (m := m') F (sm.1.trans (by assumption)) (fun _ => rfl) ?_ sm.2.2, Mine.grown ok⟩; with_unfolding_all rfl)))
end
