import PyProof.Rows.All
import Wide.All
import OpenK.AllK
import Wide.FinOn
import Lean
import PySem.Challenge.RW_dm0050_07
set_option Elab.async false
section
open PySem PySem.W PyProof.Rows
set_option Elab.async false
set_option maxRecDepth 100000
namespace Mine
noncomputable def takeL {α : Type} : List α → Nat → List α
  | [], _ => []
  | a :: r, n => match n with
    | 0 => []
    | n + 1 => a :: takeL r n
theorem takeL_eq {α : Type} : ∀ (l : List α) (n : Nat), takeL l n = l.take n
  | [], n => by cases n <;> rfl
  | a :: r, 0 => rfl
  | a :: r, n + 1 => by rw [takeL]; simp [takeL_eq r n]
noncomputable def anyT {α : Type} (as : Array α) (p : α → Bool) (start : Nat := 0) (stop : Nat := as.size) : Bool := match start with
  | 0 => (takeL as.toList stop).any p
  | n + 1 => as.any p (n + 1) stop
theorem anyT_eq {α : Type} (as : Array α) (p : α → Bool) (start stop : Nat) : as.any p start stop = anyT as p start stop := by
  cases start with
  | succ n => rfl
  | zero =>
    show _ = (takeL as.toList stop).any p
    rw [takeL_eq, Bool.eq_iff_iff, Array.any_iff_exists, List.any_eq_true]
    constructor
    · rintro ⟨i, hi, _, h2, h3⟩
      refine ⟨as[i], ?_, h3⟩
      rw [List.mem_take_iff_getElem]
      exact ⟨i, by simp; omega, by simp⟩
    · rintro ⟨x, hx, hp⟩
      rw [List.mem_take_iff_getElem] at hx
      obtain ⟨i, hi, rfl⟩ := hx
      simp at hi
      exact ⟨i, by omega, Nat.zero_le _, by omega, by simpa using hp⟩
theorem any_eq : @Array.any.{0} = @anyT := by
  funext α as p start stop
  exact anyT_eq as p start stop
noncomputable def newL : Builtin := by
  refine (fun (f : Builtin) (_ : True) => f) ?f ((fun (_ : PySem.W.Fast.tw4202317264376624991 = ?f) => True.intro) ?h)
  case h =>
    delta PySem.W.Fast.tw4202317264376624991
    rw [any_eq]
theorem newL_tw : PySem.W.Fast.tw4202317264376624991 = newL := by
  delta PySem.W.Fast.tw4202317264376624991
  rw [any_eq]
  kernel_rfl
theorem newL_eq : PySem.Builtin.«type.__new__» = newL := PySem.W.Fast.te4202317264376624991.trans newL_tw
noncomputable def tableL (id : String) : Option Builtin := match Nat.beq (PySem.code id) (PySem.code "type.__new__") with
  | true => some newL
  | false => treeTable id
theorem table_new : entriesT.find (PySem.code "type.__new__") = some PySem.Builtin.«type.__new__» := by kernel_rfl
theorem table_eq : treeTable = tableL := by
  funext id
  unfold tableL
  cases h : Nat.beq (PySem.code id) (PySem.code "type.__new__") with
  | false => rfl
  | true =>
    have e := Nat.eq_of_beq_eq_true h
    show entriesT.find (PySem.code id) = some newL
    rw [e, table_new, newL_eq]
end Mine
end
section
open PySem PySem.W PyProof.Rows
set_option Elab.async false
set_option maxRecDepth 100000
set_option linter.unusedVariables false
namespace Mine
abbrev prog : Program := PySem.Challenge.pw_dm0050_07
def nth : List Stmt → Nat → Stmt
  | [], _ => .Pass ⟨0, 0, 0, 0⟩
  | s :: _, 0 => s
  | _ :: r, n + 1 => nth r n
def cBody : Stmt → List Stmt
  | .ClassDef _ _ _ b _ _ _ _ _ _ _ => b
  | _ => []
def fBody : Stmt → List Stmt
  | .FunctionDef _ _ b _ _ _ _ _ _ _ => b
  | _ => []
def fArgs : Stmt → Arguments
  | .FunctionDef _ a _ _ _ _ _ _ _ _ => a
  | _ => ⟨[], [], none, [], [], none, []⟩
def fScope : Stmt → Scope
  | .FunctionDef _ _ _ _ _ _ s _ _ _ => s
  | _ => ⟨.module, [], false, false, []⟩
def docOf : List Stmt → Str
  | .Expr (.Constant (.str s) _ _) _ :: _ => s
  | _ => ⟨#[]⟩
def st (i : Nat) : Stmt := nth PySem.Challenge.pw_dm0050_07.main.body i
def mt (i j : Nat) : Stmt := nth (cBody (st i)) j
def bootLife : Life := {}
noncomputable def o0x11 (P : Params) : Obj := ⟨(.type "tuple"), none, (.seq (List.toArray []) 0), List.toArray []⟩
noncomputable def o0x12 (P : Params) : Obj := ⟨.none, none, (.fields (List.toArray [])), List.toArray []⟩
noncomputable def o0x13 (P : Params) : Obj := ⟨(.type "code"), none, (.fields (List.toArray [(.str (Str.ofString "<module>") 182), (.str (Str.ofString "<module>") 183), (.str (Str.ofString "/claim/cut.py") 184), (.int (1) 0), (.int (0) 0), (.int (0) 0), (.int (0) 0), (.int (0) 0), (.ref 11), (.bool false), (.int (181) 0), (.ref 12), .none, .none, .none, .none, (.int (185) 0), (.int (1) 0), (.str (Str.ofString "/claim/cut.py") 186)])), List.toArray []⟩
noncomputable def o0x14 (P : Params) : Obj := ⟨(.type "frame"), none, .plain, List.toArray [(some (.ref 13)), (some (.ref 3)), (some (.ref 3)), none, (some (.str (Str.ofString "__main__") 164)), none, (some (.ref 0))]⟩
noncomputable def bt1 (P : Params) : BT := (.node (PySem.W.boot_o_7 P) .nil .nil)
noncomputable def bt2 (P : Params) : BT := (.node (o0x11 P) .nil .nil)
noncomputable def bt3 (P : Params) : BT := (.node (PySem.W.boot_o_9 P) .nil .nil)
noncomputable def bt4 (P : Params) : BT := (.node (o0x13 P) .nil .nil)
noncomputable def bt5 (P : Params) : BT := (.node (PySem.W.boot_o_8 P) .nil .nil)
noncomputable def bt6 (P : Params) : BT := (.node (o0x12 P) .nil .nil)
noncomputable def bt7 (P : Params) : BT := (.node (PySem.W.boot_o_10 P) .nil .nil)
noncomputable def bt8 (P : Params) : BT := (.node (o0x14 P) .nil .nil)
noncomputable def bt9 (P : Params) : BT := (.node (PySem.W.boot_o_0 P) (.node (PySem.W.boot_o_1 P) (.node (PySem.W.boot_o_3 P) (bt1 P) (bt2 P)) (.node (PySem.W.boot_o_5 P) (bt3 P) (bt4 P))) (.node (PySem.W.boot_o_2 P) (.node (PySem.W.boot_o_4 P) (bt5 P) (bt6 P)) (.node (PySem.W.boot_o_6 P) (bt7 P) (bt8 P))))
noncomputable def T0 (P : Params) : BT := bt9 P
noncomputable def S0 (w : World) (os : OsState) : SharedT := ⟨T0 w.params, 15, bootLife, #[], boot_drawn, 187, os⟩
noncomputable def o3x3 (P : Params) : Obj := ⟨(.type "dict"), none, (.dict (List.toArray [⟨PyData.keyHash P (Str.ofString "__name__"), (.str (Str.ofString "__name__") 165), (.str (Str.ofString "cpy313.difflib") 194)⟩, ⟨PyData.keyHash P (Str.ofString "__doc__"), (.str (Str.ofString "__doc__") 166), .none⟩, ⟨PyData.keyHash P (Str.ofString "__package__"), (.str (Str.ofString "__package__") 167), .none⟩, ⟨PyData.keyHash P (Str.ofString "__loader__"), (.str (Str.ofString "__loader__") 168), (.builtin "__main__.__loader__#opaque")⟩, ⟨PyData.keyHash P (Str.ofString "__spec__"), (.str (Str.ofString "__spec__") 169), .none⟩, ⟨PyData.keyHash P (Str.ofString "__annotations__"), (.str (Str.ofString "__annotations__") 170), (.ref 6)⟩, ⟨PyData.keyHash P (Str.ofString "__builtins__"), (.str (Str.ofString "__builtins__") 171), (.ref 4)⟩, ⟨PyData.keyHash P (Str.ofString "__file__"), (.str (Str.ofString "__file__") 173), (.str (Str.ofString "/claim/cut.py") 172)⟩, ⟨PyData.keyHash P (Str.ofString "__cached__"), (.str (Str.ofString "__cached__") 174), .none⟩, ⟨PyData.keyHash P (Str.ofString "_wall"), (.str (Str.ofString "_wall") 193), (.ref 21)⟩, ⟨PyData.keyHash P (Str.ofString "_tuplegetter"), (.str (Str.ofString "_tuplegetter") 252), (.ref 60)⟩]) 11), List.toArray []⟩
noncomputable def o3x12 (P : Params) : Obj := ⟨.none, none, (.fields (List.toArray [(.int (1) 0), (.int (0) 0), (.ref 20), (.int (5) 0), (.int (0) 0), (.ref 27)])), List.toArray []⟩
noncomputable def o3x15 (P : Params) : Obj := ⟨(.type "tuple"), none, (.seq (List.toArray []) 0), List.toArray []⟩
noncomputable def o3x16 (P : Params) : Obj := ⟨.none, none, (.fields (List.toArray [])), List.toArray []⟩
noncomputable def o3x17 (P : Params) : Obj := ⟨(.type "tuple"), none, (.seq (List.toArray [(.str (Str.ofString "k") 190)]) 0), List.toArray []⟩
noncomputable def o3x18 (P : Params) : Obj := ⟨(.type "tuple"), none, (.seq (List.toArray []) 0), List.toArray []⟩
noncomputable def o3x19 (P : Params) : Obj := ⟨.none, none, (.func ⟨(Str.ofString "_wall"), (Str.ofString "_wall"), fArgs (st 0), .stmts (fBody (st 0)), fScope (st 0), 0, [], .none, .none, .none, .none, none, .none, .none, 0⟩), List.toArray []⟩
noncomputable def o3x20 (P : Params) : Obj := ⟨(.type "code"), none, (.fields (List.toArray [(.str (Str.ofString "_wall") 187), (.str (Str.ofString "_wall") 188), (.str (Str.ofString "/claim/cut.py") 189), (.int (1) 0), (.int (1) 0), (.int (0) 0), (.int (0) 0), (.int (3) 0), (.ref 15), (.bool true), (.int (181) 0), (.ref 16), .none, (.ref 17), (.ref 18), (.ref 19), (.int (191) 0), (.int (1) 0), (.str (Str.ofString "/claim/cut.py") 192)])), List.toArray []⟩
noncomputable def o3x21 (P : Params) : Obj := ⟨(.type "function"), none, (.func ⟨(Str.ofString "_wall"), (Str.ofString "_wall"), fArgs (st 0), .stmts (fBody (st 0)), fScope (st 0), 3, [], .none, .none, .none, (.str (Str.ofString "__main__") 164), none, (.ref 20), .none, 0⟩), List.toArray []⟩
noncomputable def o3x22 (P : Params) : Obj := ⟨(.type "tuple"), none, (.seq (List.toArray []) 0), List.toArray []⟩
noncomputable def o3x23 (P : Params) : Obj := ⟨(.type "builtin_function_or_method"), none, (.fields (List.toArray [(.builtin "type.__prepare__"), (.type "type")])), List.toArray []⟩
noncomputable def o3x24 (P : Params) : Obj := ⟨(.type "dict"), none, (.dict (List.toArray [⟨PyData.keyHash P (Str.ofString "__module__"), (.str (Str.ofString "__module__") 203), (.str (Str.ofString "cpy313.difflib") 194)⟩, ⟨PyData.keyHash P (Str.ofString "__qualname__"), (.str (Str.ofString "__qualname__") 205), (.str (Str.ofString "_tuplegetter") 204)⟩, ⟨PyData.keyHash P (Str.ofString "__firstlineno__"), (.str (Str.ofString "__firstlineno__") 207), (.int (5) 206)⟩, ⟨PyData.keyHash P (Str.ofString "__init__"), (.str (Str.ofString "__init__") 216), (.ref 35)⟩, ⟨PyData.keyHash P (Str.ofString "__get__"), (.str (Str.ofString "__get__") 225), (.ref 43)⟩, ⟨PyData.keyHash P (Str.ofString "__set__"), (.str (Str.ofString "__set__") 234), (.ref 50)⟩, ⟨PyData.keyHash P (Str.ofString "__delete__"), (.str (Str.ofString "__delete__") 242), (.ref 57)⟩, ⟨PyData.keyHash P (Str.ofString "__static_attributes__"), (.str (Str.ofString "__static_attributes__") 245), (.ref 58)⟩]) 8), List.toArray []⟩
noncomputable def o3x25 (P : Params) : Obj := ⟨(.type "tuple"), none, (.seq (List.toArray []) 0), List.toArray []⟩
noncomputable def o3x26 (P : Params) : Obj := ⟨.none, none, (.fields (List.toArray [(.int (7) 0), (.int (4) 0), (.ref 34), (.int (11) 0), (.int (4) 0), (.ref 42), (.int (18) 0), (.int (4) 0), (.ref 49), (.int (21) 0), (.int (4) 0), (.ref 56)])), List.toArray []⟩
noncomputable def o3x27 (P : Params) : Obj := ⟨(.type "code"), none, (.fields (List.toArray [(.str (Str.ofString "_tuplegetter") 198), (.str (Str.ofString "_tuplegetter") 199), (.str (Str.ofString "/claim/cut.py") 200), (.int (5) 0), (.int (0) 0), (.int (0) 0), (.int (0) 0), (.int (0) 0), (.ref 25), (.bool false), (.int (181) 0), (.ref 26), .none, .none, .none, .none, (.int (201) 0), (.int (5) 0), (.str (Str.ofString "/claim/cut.py") 202)])), List.toArray []⟩
noncomputable def o3x28 (P : Params) : Obj := ⟨(.type "frame"), none, .plain, List.toArray [(some (.ref 27)), (some (.ref 3)), (some (.ref 24)), none, (some (.str (Str.ofString "cpy313.difflib") 194)), none, (some (.ref 0))]⟩
noncomputable def o3x29 (P : Params) : Obj := ⟨(.type "tuple"), none, (.seq (List.toArray []) 0), List.toArray []⟩
noncomputable def o3x30 (P : Params) : Obj := ⟨.none, none, (.fields (List.toArray [])), List.toArray []⟩
noncomputable def o3x31 (P : Params) : Obj := ⟨(.type "tuple"), none, (.seq (List.toArray [(.str (Str.ofString "self") 211), (.str (Str.ofString "index") 212), (.str (Str.ofString "doc") 213)]) 0), List.toArray []⟩
noncomputable def o3x32 (P : Params) : Obj := ⟨(.type "tuple"), none, (.seq (List.toArray []) 0), List.toArray []⟩
noncomputable def o3x33 (P : Params) : Obj := ⟨.none, none, (.func ⟨(Str.ofString "__init__"), (Str.ofString "_tuplegetter.__init__"), fArgs (mt 2 0), .stmts (fBody (mt 2 0)), fScope (mt 2 0), 0, [], .none, .none, .none, .none, none, .none, .none, 0⟩), List.toArray []⟩
noncomputable def o3x34 (P : Params) : Obj := ⟨(.type "code"), none, (.fields (List.toArray [(.str (Str.ofString "__init__") 208), (.str (Str.ofString "_tuplegetter.__init__") 209), (.str (Str.ofString "/claim/cut.py") 210), (.int (7) 0), (.int (3) 0), (.int (0) 0), (.int (0) 0), (.int (3) 0), (.ref 29), (.bool true), (.int (181) 0), (.ref 30), .none, (.ref 31), (.ref 32), (.ref 33), (.int (214) 0), (.int (7) 0), (.str (Str.ofString "/claim/cut.py") 215)])), List.toArray []⟩
noncomputable def o3x35 (P : Params) : Obj := ⟨(.type "function"), none, (.func ⟨(Str.ofString "__init__"), (Str.ofString "_tuplegetter.__init__"), fArgs (mt 2 0), .stmts (fBody (mt 2 0)), fScope (mt 2 0), 3, [], .none, .none, .none, (.str (Str.ofString "cpy313.difflib") 194), none, (.ref 34), .none, 0⟩), List.toArray []⟩
noncomputable def o3x36 (P : Params) : Obj := ⟨(.type "tuple"), none, (.seq (List.toArray [.none]) 0), List.toArray []⟩
noncomputable def o3x37 (P : Params) : Obj := ⟨(.type "tuple"), none, (.seq (List.toArray []) 0), List.toArray []⟩
noncomputable def o3x38 (P : Params) : Obj := ⟨.none, none, (.fields (List.toArray [])), List.toArray []⟩
noncomputable def o3x39 (P : Params) : Obj := ⟨(.type "tuple"), none, (.seq (List.toArray [(.str (Str.ofString "self") 220), (.str (Str.ofString "obj") 221), (.str (Str.ofString "objtype") 222)]) 0), List.toArray []⟩
noncomputable def o3x40 (P : Params) : Obj := ⟨(.type "tuple"), none, (.seq (List.toArray []) 0), List.toArray []⟩
noncomputable def o3x41 (P : Params) : Obj := ⟨.none, none, (.func ⟨(Str.ofString "__get__"), (Str.ofString "_tuplegetter.__get__"), fArgs (mt 2 1), .stmts (fBody (mt 2 1)), fScope (mt 2 1), 0, [], .none, .none, .none, .none, none, .none, .none, 0⟩), List.toArray []⟩
noncomputable def o3x42 (P : Params) : Obj := ⟨(.type "code"), none, (.fields (List.toArray [(.str (Str.ofString "__get__") 217), (.str (Str.ofString "_tuplegetter.__get__") 218), (.str (Str.ofString "/claim/cut.py") 219), (.int (11) 0), (.int (3) 0), (.int (0) 0), (.int (0) 0), (.int (3) 0), (.ref 37), (.bool true), (.int (181) 0), (.ref 38), .none, (.ref 39), (.ref 40), (.ref 41), (.int (223) 0), (.int (11) 0), (.str (Str.ofString "/claim/cut.py") 224)])), List.toArray []⟩
noncomputable def o3x43 (P : Params) : Obj := ⟨(.type "function"), none, (.func ⟨(Str.ofString "__get__"), (Str.ofString "_tuplegetter.__get__"), fArgs (mt 2 1), .stmts (fBody (mt 2 1)), fScope (mt 2 1), 3, [], (.ref 36), .none, .none, (.str (Str.ofString "cpy313.difflib") 194), none, (.ref 42), .none, 0⟩), List.toArray []⟩
noncomputable def o3x44 (P : Params) : Obj := ⟨(.type "tuple"), none, (.seq (List.toArray []) 0), List.toArray []⟩
noncomputable def o3x45 (P : Params) : Obj := ⟨.none, none, (.fields (List.toArray [])), List.toArray []⟩
noncomputable def o3x46 (P : Params) : Obj := ⟨(.type "tuple"), none, (.seq (List.toArray [(.str (Str.ofString "self") 229), (.str (Str.ofString "obj") 230), (.str (Str.ofString "value") 231)]) 0), List.toArray []⟩
noncomputable def o3x47 (P : Params) : Obj := ⟨(.type "tuple"), none, (.seq (List.toArray []) 0), List.toArray []⟩
noncomputable def o3x48 (P : Params) : Obj := ⟨.none, none, (.func ⟨(Str.ofString "__set__"), (Str.ofString "_tuplegetter.__set__"), fArgs (mt 2 2), .stmts (fBody (mt 2 2)), fScope (mt 2 2), 0, [], .none, .none, .none, .none, none, .none, .none, 0⟩), List.toArray []⟩
noncomputable def o3x49 (P : Params) : Obj := ⟨(.type "code"), none, (.fields (List.toArray [(.str (Str.ofString "__set__") 226), (.str (Str.ofString "_tuplegetter.__set__") 227), (.str (Str.ofString "/claim/cut.py") 228), (.int (18) 0), (.int (3) 0), (.int (0) 0), (.int (0) 0), (.int (3) 0), (.ref 44), (.bool true), (.int (181) 0), (.ref 45), .none, (.ref 46), (.ref 47), (.ref 48), (.int (232) 0), (.int (18) 0), (.str (Str.ofString "/claim/cut.py") 233)])), List.toArray []⟩
noncomputable def o3x50 (P : Params) : Obj := ⟨(.type "function"), none, (.func ⟨(Str.ofString "__set__"), (Str.ofString "_tuplegetter.__set__"), fArgs (mt 2 2), .stmts (fBody (mt 2 2)), fScope (mt 2 2), 3, [], .none, .none, .none, (.str (Str.ofString "cpy313.difflib") 194), none, (.ref 49), .none, 0⟩), List.toArray []⟩
noncomputable def o3x51 (P : Params) : Obj := ⟨(.type "tuple"), none, (.seq (List.toArray []) 0), List.toArray []⟩
noncomputable def o3x52 (P : Params) : Obj := ⟨.none, none, (.fields (List.toArray [])), List.toArray []⟩
noncomputable def o3x53 (P : Params) : Obj := ⟨(.type "tuple"), none, (.seq (List.toArray [(.str (Str.ofString "self") 238), (.str (Str.ofString "obj") 239)]) 0), List.toArray []⟩
noncomputable def o3x54 (P : Params) : Obj := ⟨(.type "tuple"), none, (.seq (List.toArray []) 0), List.toArray []⟩
noncomputable def o3x55 (P : Params) : Obj := ⟨.none, none, (.func ⟨(Str.ofString "__delete__"), (Str.ofString "_tuplegetter.__delete__"), fArgs (mt 2 3), .stmts (fBody (mt 2 3)), fScope (mt 2 3), 0, [], .none, .none, .none, .none, none, .none, .none, 0⟩), List.toArray []⟩
noncomputable def o3x56 (P : Params) : Obj := ⟨(.type "code"), none, (.fields (List.toArray [(.str (Str.ofString "__delete__") 235), (.str (Str.ofString "_tuplegetter.__delete__") 236), (.str (Str.ofString "/claim/cut.py") 237), (.int (21) 0), (.int (2) 0), (.int (0) 0), (.int (0) 0), (.int (3) 0), (.ref 51), (.bool true), (.int (181) 0), (.ref 52), .none, (.ref 53), (.ref 54), (.ref 55), (.int (240) 0), (.int (21) 0), (.str (Str.ofString "/claim/cut.py") 241)])), List.toArray []⟩
noncomputable def o3x57 (P : Params) : Obj := ⟨(.type "function"), none, (.func ⟨(Str.ofString "__delete__"), (Str.ofString "_tuplegetter.__delete__"), fArgs (mt 2 3), .stmts (fBody (mt 2 3)), fScope (mt 2 3), 3, [], .none, .none, .none, (.str (Str.ofString "cpy313.difflib") 194), none, (.ref 56), .none, 0⟩), List.toArray []⟩
noncomputable def o3x58 (P : Params) : Obj := ⟨(.type "tuple"), none, (.seq (List.toArray [(.str (Str.ofString "__doc__") 243), (.str (Str.ofString "index") 244)]) 0), List.toArray []⟩
noncomputable def o3x59 (P : Params) : Obj := ⟨(.type "dict"), none, (.dict (List.toArray [⟨PyData.keyHash P (Str.ofString "__module__"), (.str (Str.ofString "__module__") 203), (.str (Str.ofString "cpy313.difflib") 194)⟩, ⟨PyData.keyHash P (Str.ofString "__firstlineno__"), (.str (Str.ofString "__firstlineno__") 207), (.int (5) 206)⟩, ⟨PyData.keyHash P (Str.ofString "__init__"), (.str (Str.ofString "__init__") 216), (.ref 35)⟩, ⟨PyData.keyHash P (Str.ofString "__get__"), (.str (Str.ofString "__get__") 225), (.ref 43)⟩, ⟨PyData.keyHash P (Str.ofString "__set__"), (.str (Str.ofString "__set__") 234), (.ref 50)⟩, ⟨PyData.keyHash P (Str.ofString "__delete__"), (.str (Str.ofString "__delete__") 242), (.ref 57)⟩, ⟨PyData.keyHash P (Str.ofString "__static_attributes__"), (.str (Str.ofString "__static_attributes__") 245), (.ref 58)⟩, ⟨PyData.keyHash P (Str.ofString "__dict__"), (.str (Str.ofString "__dict__") 247), (.ref 61)⟩, ⟨PyData.keyHash P (Str.ofString "__weakref__"), (.str (Str.ofString "__weakref__") 249), (.ref 62)⟩, ⟨PyData.keyHash P (Str.ofString "__doc__"), (.str (Str.ofString "__doc__") 250), .none⟩]) 4), List.toArray []⟩
noncomputable def o3x60 (P : Params) : Obj := ⟨(.type "type"), none, (.cls ⟨(Str.ofString "_tuplegetter"), [(.type "object")], [(.ref 60), (.type "object")], 59, (Str.ofString "_tuplegetter"), true, [], [], false, none, false⟩), List.toArray [none, none, (some (.str (Str.ofString "_tuplegetter") 196)), (some (.str (Str.ofString "_tuplegetter") 204)), (some (.builtin "object.__new__")), (some (.bool true))]⟩
noncomputable def o3x61 (P : Params) : Obj := ⟨(.type "getset_descriptor"), none, (.fields (List.toArray [(.str (Str.ofString "__dict__") 246), (.ref 60), (.builtin "function.__dict__"), (.builtin "function.__dict__#set")])), List.toArray []⟩
noncomputable def o3x62 (P : Params) : Obj := ⟨(.type "getset_descriptor"), none, (.fields (List.toArray [(.str (Str.ofString "__weakref__") 248), (.ref 60), (.builtin "ExceptionGroup.__weakref__"), .none])), List.toArray []⟩
noncomputable def o3x63 (P : Params) : Obj := ⟨(.type "super"), none, (.fields (List.toArray [(.ref 60), (.ref 60), (.ref 60)])), List.toArray []⟩
noncomputable def o3x64 (P : Params) : Obj := ⟨(.type "builtin_function_or_method"), none, (.fields (List.toArray [(.builtin "object.__init_subclass__"), (.ref 60)])), List.toArray []⟩
noncomputable def bt10 (P : Params) : BT := (.node (o3x63 P) .nil .nil)
noncomputable def bt11 (P : Params) : BT := (.node (PySem.W.boot_o_7 P) (.node (o3x15 P) (.node (o3x31 P) (bt10 P) .nil) (.node (o3x47 P) .nil .nil)) (.node (o3x23 P) (.node (o3x39 P) .nil .nil) (.node (o3x55 P) .nil .nil)))
noncomputable def bt12 (P : Params) : BT := (.node (o0x11 P) (.node (o3x19 P) (.node (o3x35 P) .nil .nil) (.node (o3x51 P) .nil .nil)) (.node (o3x27 P) (.node (o3x43 P) .nil .nil) (.node (o3x59 P) .nil .nil)))
noncomputable def bt13 (P : Params) : BT := (.node (PySem.W.boot_o_9 P) (.node (o3x17 P) (.node (o3x33 P) .nil .nil) (.node (o3x49 P) .nil .nil)) (.node (o3x25 P) (.node (o3x41 P) .nil .nil) (.node (o3x57 P) .nil .nil)))
noncomputable def bt14 (P : Params) : BT := (.node (o0x13 P) (.node (o3x21 P) (.node (o3x37 P) .nil .nil) (.node (o3x53 P) .nil .nil)) (.node (o3x29 P) (.node (o3x45 P) .nil .nil) (.node (o3x61 P) .nil .nil)))
noncomputable def bt15 (P : Params) : BT := (.node (o3x64 P) .nil .nil)
noncomputable def bt16 (P : Params) : BT := (.node (PySem.W.boot_o_8 P) (.node (o3x16 P) (.node (o3x32 P) (bt15 P) .nil) (.node (o3x48 P) .nil .nil)) (.node (o3x24 P) (.node (o3x40 P) .nil .nil) (.node (o3x56 P) .nil .nil)))
noncomputable def bt17 (P : Params) : BT := (.node (o3x12 P) (.node (o3x20 P) (.node (o3x36 P) .nil .nil) (.node (o3x52 P) .nil .nil)) (.node (o3x28 P) (.node (o3x44 P) .nil .nil) (.node (o3x60 P) .nil .nil)))
noncomputable def bt18 (P : Params) : BT := (.node (PySem.W.boot_o_10 P) (.node (o3x18 P) (.node (o3x34 P) .nil .nil) (.node (o3x50 P) .nil .nil)) (.node (o3x26 P) (.node (o3x42 P) .nil .nil) (.node (o3x58 P) .nil .nil)))
noncomputable def bt19 (P : Params) : BT := (.node (o0x14 P) (.node (o3x22 P) (.node (o3x38 P) .nil .nil) (.node (o3x54 P) .nil .nil)) (.node (o3x30 P) (.node (o3x46 P) .nil .nil) (.node (o3x62 P) .nil .nil)))
noncomputable def bt20 (P : Params) : BT := (.node (PySem.W.boot_o_0 P) (.node (PySem.W.boot_o_1 P) (.node (o3x3 P) (bt11 P) (bt12 P)) (.node (PySem.W.boot_o_5 P) (bt13 P) (bt14 P))) (.node (PySem.W.boot_o_2 P) (.node (PySem.W.boot_o_4 P) (bt16 P) (bt17 P)) (.node (PySem.W.boot_o_6 P) (bt18 P) (bt19 P))))
noncomputable def T3 (P : Params) : BT := bt20 P
noncomputable def S3 (w : World) (os : OsState) : SharedT := ⟨T3 w.params, 65, bootLife, #[], boot_drawn, 253, os⟩
noncomputable def o4x3 (P : Params) : Obj := ⟨(.type "dict"), none, (.dict (List.toArray [⟨PyData.keyHash P (Str.ofString "__name__"), (.str (Str.ofString "__name__") 165), (.str (Str.ofString "cpy313.difflib") 194)⟩, ⟨PyData.keyHash P (Str.ofString "__doc__"), (.str (Str.ofString "__doc__") 166), .none⟩, ⟨PyData.keyHash P (Str.ofString "__package__"), (.str (Str.ofString "__package__") 167), .none⟩, ⟨PyData.keyHash P (Str.ofString "__loader__"), (.str (Str.ofString "__loader__") 168), (.builtin "__main__.__loader__#opaque")⟩, ⟨PyData.keyHash P (Str.ofString "__spec__"), (.str (Str.ofString "__spec__") 169), .none⟩, ⟨PyData.keyHash P (Str.ofString "__annotations__"), (.str (Str.ofString "__annotations__") 170), (.ref 6)⟩, ⟨PyData.keyHash P (Str.ofString "__builtins__"), (.str (Str.ofString "__builtins__") 171), (.ref 4)⟩, ⟨PyData.keyHash P (Str.ofString "__file__"), (.str (Str.ofString "__file__") 173), (.str (Str.ofString "/claim/cut.py") 172)⟩, ⟨PyData.keyHash P (Str.ofString "__cached__"), (.str (Str.ofString "__cached__") 174), .none⟩, ⟨PyData.keyHash P (Str.ofString "_wall"), (.str (Str.ofString "_wall") 193), (.ref 21)⟩, ⟨PyData.keyHash P (Str.ofString "_tuplegetter"), (.str (Str.ofString "_tuplegetter") 252), (.ref 60)⟩, ⟨PyData.keyHash P (Str.ofString "Match"), (.str (Str.ofString "Match") 380), (.ref 135)⟩]) 12), List.toArray []⟩
noncomputable def o4x12 (P : Params) : Obj := ⟨.none, none, (.fields (List.toArray [(.int (1) 0), (.int (0) 0), (.ref 20), (.int (5) 0), (.int (0) 0), (.ref 27), (.int (23) 0), (.int (0) 0), (.ref 71)])), List.toArray []⟩
noncomputable def o4x65 (P : Params) : Obj := ⟨(.type "tuple"), none, (.seq (List.toArray [(.type "tuple")]) 0), List.toArray []⟩
noncomputable def o4x66 (P : Params) : Obj := ⟨(.type "builtin_function_or_method"), none, (.fields (List.toArray [(.builtin "type.__prepare__"), (.type "type")])), List.toArray []⟩
noncomputable def o4x67 (P : Params) : Obj := ⟨(.type "dict"), none, (.dict (List.toArray [⟨PyData.keyHash P (Str.ofString "__module__"), (.str (Str.ofString "__module__") 260), (.str (Str.ofString "cpy313.difflib") 194)⟩, ⟨PyData.keyHash P (Str.ofString "__qualname__"), (.str (Str.ofString "__qualname__") 262), (.str (Str.ofString "Match") 261)⟩, ⟨PyData.keyHash P (Str.ofString "__firstlineno__"), (.str (Str.ofString "__firstlineno__") 264), (.int (23) 263)⟩, ⟨PyData.keyHash P (Str.ofString "__doc__"), (.str (Str.ofString "__doc__") 266), (.str (Str.ofString "Match(a, b, size)") 265)⟩, ⟨PyData.keyHash P (Str.ofString "__slots__"), (.str (Str.ofString "__slots__") 268), (.ref 73)⟩, ⟨PyData.keyHash P (Str.ofString "_fields"), (.str (Str.ofString "_fields") 272), (.ref 74)⟩, ⟨PyData.keyHash P (Str.ofString "_field_defaults"), (.str (Str.ofString "_field_defaults") 273), (.ref 75)⟩, ⟨PyData.keyHash P (Str.ofString "__new__"), (.str (Str.ofString "__new__") 284), (.ref 82)⟩, ⟨PyData.keyHash P (Str.ofString "_make"), (.str (Str.ofString "_make") 306), (.ref 91)⟩, ⟨PyData.keyHash P (Str.ofString "_replace"), (.str (Str.ofString "_replace") 317), (.ref 100)⟩, ⟨PyData.keyHash P (Str.ofString "__replace__"), (.str (Str.ofString "__replace__") 318), (.ref 100)⟩, ⟨PyData.keyHash P (Str.ofString "__repr__"), (.str (Str.ofString "__repr__") 326), (.ref 107)⟩, ⟨PyData.keyHash P (Str.ofString "_asdict"), (.str (Str.ofString "_asdict") 333), (.ref 114)⟩, ⟨PyData.keyHash P (Str.ofString "__getnewargs__"), (.str (Str.ofString "__getnewargs__") 341), (.ref 121)⟩, ⟨PyData.keyHash P (Str.ofString "__match_args__"), (.str (Str.ofString "__match_args__") 345), (.ref 122)⟩, ⟨PyData.keyHash P (Str.ofString "a"), (.str (Str.ofString "a") 355), (.ref 124)⟩, ⟨PyData.keyHash P (Str.ofString "b"), (.str (Str.ofString "b") 365), (.ref 127)⟩, ⟨PyData.keyHash P (Str.ofString "size"), (.str (Str.ofString "size") 375), (.ref 130)⟩, ⟨PyData.keyHash P (Str.ofString "__static_attributes__"), (.str (Str.ofString "__static_attributes__") 376), (.ref 132)⟩, ⟨PyData.keyHash P (Str.ofString "__classcell__"), (.str (Str.ofString "__classcell__") 377), (.ref 68)⟩]) 20), List.toArray []⟩
noncomputable def o4x68 (P : Params) : Obj := ⟨(.type "cell"), none, (.cell (some (.ref 135))), List.toArray []⟩
noncomputable def o4x69 (P : Params) : Obj := ⟨(.type "tuple"), none, (.seq (List.toArray []) 0), List.toArray []⟩
noncomputable def o4x70 (P : Params) : Obj := ⟨.none, none, (.fields (List.toArray [(.int (29) 0), (.int (4) 0), (.ref 81), (.int (34) 0), (.int (4) 0), (.ref 88), (.int (41) 0), (.int (4) 0), (.ref 99), (.int (52) 0), (.int (4) 0), (.ref 106), (.int (56) 0), (.int (4) 0), (.ref 113), (.int (59) 0), (.int (4) 0), (.ref 120)])), List.toArray []⟩
noncomputable def o4x71 (P : Params) : Obj := ⟨(.type "code"), none, (.fields (List.toArray [(.str (Str.ofString "Match") 255), (.str (Str.ofString "Match") 256), (.str (Str.ofString "/claim/cut.py") 257), (.int (23) 0), (.int (0) 0), (.int (0) 0), (.int (0) 0), (.int (0) 0), (.ref 69), (.bool false), (.int (181) 0), (.ref 70), .none, .none, .none, .none, (.int (258) 0), (.int (23) 0), (.str (Str.ofString "/claim/cut.py") 259)])), List.toArray []⟩
noncomputable def o4x72 (P : Params) : Obj := ⟨(.type "frame"), none, .plain, List.toArray [(some (.ref 71)), (some (.ref 3)), (some (.ref 67)), none, (some (.str (Str.ofString "cpy313.difflib") 194)), none, (some (.ref 0))]⟩
noncomputable def o4x73 (P : Params) : Obj := ⟨(.type "tuple"), none, (.seq (List.toArray []) 0), List.toArray []⟩
noncomputable def o4x74 (P : Params) : Obj := ⟨(.type "tuple"), none, (.seq (List.toArray [(.str (Str.ofString "a") 269), (.str (Str.ofString "b") 270), (.str (Str.ofString "size") 271)]) 0), List.toArray []⟩
noncomputable def o4x75 (P : Params) : Obj := ⟨(.type "dict"), none, (.dict (List.toArray []) 0), List.toArray []⟩
noncomputable def o4x76 (P : Params) : Obj := ⟨(.type "tuple"), none, (.seq (List.toArray []) 0), List.toArray []⟩
noncomputable def o4x77 (P : Params) : Obj := ⟨.none, none, (.fields (List.toArray [])), List.toArray []⟩
noncomputable def o4x78 (P : Params) : Obj := ⟨(.type "tuple"), none, (.seq (List.toArray [(.str (Str.ofString "_cls") 277), (.str (Str.ofString "a") 278), (.str (Str.ofString "b") 279), (.str (Str.ofString "size") 280)]) 0), List.toArray []⟩
noncomputable def o4x79 (P : Params) : Obj := ⟨(.type "tuple"), none, (.seq (List.toArray []) 0), List.toArray []⟩
noncomputable def o4x80 (P : Params) : Obj := ⟨.none, none, (.func ⟨(Str.ofString "__new__"), (Str.ofString "Match.__new__"), fArgs (mt 3 4), .stmts (fBody (mt 3 4)), fScope (mt 3 4), 0, [], .none, .none, .none, .none, none, .none, .none, 0⟩), List.toArray []⟩
noncomputable def o4x81 (P : Params) : Obj := ⟨(.type "code"), none, (.fields (List.toArray [(.str (Str.ofString "__new__") 274), (.str (Str.ofString "Match.__new__") 275), (.str (Str.ofString "/claim/cut.py") 276), (.int (29) 0), (.int (4) 0), (.int (0) 0), (.int (0) 0), (.int (3) 0), (.ref 76), (.bool true), (.int (181) 0), (.ref 77), .none, (.ref 78), (.ref 79), (.ref 80), (.int (281) 0), (.int (29) 0), (.str (Str.ofString "/claim/cut.py") 282)])), List.toArray []⟩
noncomputable def o4x82 (P : Params) : Obj := ⟨(.type "function"), none, (.func ⟨(Str.ofString "__new__"), (Str.ofString "Match.__new__"), fArgs (mt 3 4), .stmts (fBody (mt 3 4)), fScope (mt 3 4), 3, [], .none, .none, (.str (Str.ofString "Create new instance of Match(a, b, size)") 283), (.str (Str.ofString "cpy313.difflib") 194), none, (.ref 81), .none, 0⟩), List.toArray []⟩
noncomputable def o4x83 (P : Params) : Obj := ⟨(.type "tuple"), none, (.seq (List.toArray []) 0), List.toArray []⟩
noncomputable def o4x84 (P : Params) : Obj := ⟨.none, none, (.fields (List.toArray [])), List.toArray []⟩
noncomputable def o4x85 (P : Params) : Obj := ⟨(.type "tuple"), none, (.seq (List.toArray [(.str (Str.ofString "cls") 288), (.str (Str.ofString "iterable") 289), (.str (Str.ofString "result") 290)]) 0), List.toArray []⟩
noncomputable def o4x86 (P : Params) : Obj := ⟨(.type "tuple"), none, (.seq (List.toArray []) 0), List.toArray []⟩
noncomputable def o4x87 (P : Params) : Obj := ⟨.none, none, (.func ⟨(Str.ofString "_make"), (Str.ofString "Match._make"), fArgs (mt 3 5), .stmts (fBody (mt 3 5)), fScope (mt 3 5), 0, [], .none, .none, .none, .none, none, .none, .none, 0⟩), List.toArray []⟩
noncomputable def o4x88 (P : Params) : Obj := ⟨(.type "code"), none, (.fields (List.toArray [(.str (Str.ofString "_make") 285), (.str (Str.ofString "Match._make") 286), (.str (Str.ofString "/claim/cut.py") 287), (.int (33) 0), (.int (2) 0), (.int (0) 0), (.int (0) 0), (.int (3) 0), (.ref 83), (.bool true), (.int (181) 0), (.ref 84), .none, (.ref 85), (.ref 86), (.ref 87), (.int (291) 0), (.int (33) 0), (.str (Str.ofString "/claim/cut.py") 292)])), List.toArray []⟩
noncomputable def o4x89 (P : Params) : Obj := ⟨(.type "function"), none, (.func ⟨(Str.ofString "_make"), (Str.ofString "Match._make"), fArgs (mt 3 5), .stmts (fBody (mt 3 5)), fScope (mt 3 5), 3, [], .none, .none, (.str (Str.ofString "Make a new Match object from a sequence or iterable") 293), (.str (Str.ofString "cpy313.difflib") 194), (some 92), (.ref 88), .none, 0⟩), List.toArray []⟩
noncomputable def o4x90 (P : Params) : Obj := ⟨(.type "dict"), none, (.dict (List.toArray [⟨PyData.keyHash P (Str.ofString "__module__"), (.str (Str.ofString "__module__") 295), (.str (Str.ofString "cpy313.difflib") 194)⟩, ⟨PyData.keyHash P (Str.ofString "__name__"), (.str (Str.ofString "__name__") 298), (.str (Str.ofString "_make") 297)⟩, ⟨PyData.keyHash P (Str.ofString "__qualname__"), (.str (Str.ofString "__qualname__") 301), (.str (Str.ofString "Match._make") 300)⟩, ⟨PyData.keyHash P (Str.ofString "__doc__"), (.str (Str.ofString "__doc__") 303), (.str (Str.ofString "Make a new Match object from a sequence or iterable") 293)⟩, ⟨PyData.keyHash P (Str.ofString "__annotations__"), (.str (Str.ofString "__annotations__") 305), (.ref 92)⟩]) 5), List.toArray []⟩
noncomputable def o4x91 (P : Params) : Obj := ⟨(.type "classmethod"), (some 90), (.fields (List.toArray [(.ref 89), (.bool false)])), List.toArray []⟩
noncomputable def o4x92 (P : Params) : Obj := ⟨(.type "dict"), none, (.dict (List.toArray []) 0), List.toArray []⟩
noncomputable def o4x93 (P : Params) : Obj := ⟨(.type "tuple"), none, (.seq (List.toArray [(.ref 68)]) 0), List.toArray []⟩
noncomputable def o4x94 (P : Params) : Obj := ⟨(.type "tuple"), none, (.seq (List.toArray [(.str (Str.ofString "__class__") 310)]) 0), List.toArray []⟩
noncomputable def o4x95 (P : Params) : Obj := ⟨.none, none, (.fields (List.toArray [])), List.toArray []⟩
noncomputable def o4x96 (P : Params) : Obj := ⟨(.type "tuple"), none, (.seq (List.toArray [(.str (Str.ofString "self") 311), (.str (Str.ofString "kwds") 312), (.str (Str.ofString "result") 313)]) 0), List.toArray []⟩
noncomputable def o4x97 (P : Params) : Obj := ⟨(.type "tuple"), none, (.seq (List.toArray []) 0), List.toArray []⟩
noncomputable def o4x98 (P : Params) : Obj := ⟨.none, none, (.func ⟨(Str.ofString "_replace"), (Str.ofString "Match._replace"), fArgs (mt 3 6), .stmts (fBody (mt 3 6)), fScope (mt 3 6), 0, [], .none, .none, .none, .none, none, .none, .none, 0⟩), List.toArray []⟩
noncomputable def o4x99 (P : Params) : Obj := ⟨(.type "code"), none, (.fields (List.toArray [(.str (Str.ofString "_replace") 307), (.str (Str.ofString "Match._replace") 308), (.str (Str.ofString "/claim/cut.py") 309), (.int (41) 0), (.int (1) 0), (.int (1) 0), (.int (0) 0), (.int (11) 0), (.ref 94), (.bool true), (.int (181) 0), (.ref 95), .none, (.ref 96), (.ref 97), (.ref 98), (.int (314) 0), (.int (41) 0), (.str (Str.ofString "/claim/cut.py") 315)])), List.toArray []⟩
noncomputable def o4x100 (P : Params) : Obj := ⟨(.type "function"), none, (.func ⟨(Str.ofString "_replace"), (Str.ofString "Match._replace"), fArgs (mt 3 6), .stmts (fBody (mt 3 6)), fScope (mt 3 6), 3, [((Str.ofString "__class__"), 68)], .none, .none, (.str (docOf (fBody (mt 3 6))) 316), (.str (Str.ofString "cpy313.difflib") 194), none, (.ref 99), (.ref 93), 0⟩), List.toArray []⟩
noncomputable def o4x101 (P : Params) : Obj := ⟨(.type "tuple"), none, (.seq (List.toArray []) 0), List.toArray []⟩
noncomputable def o4x102 (P : Params) : Obj := ⟨.none, none, (.fields (List.toArray [])), List.toArray []⟩
noncomputable def o4x103 (P : Params) : Obj := ⟨(.type "tuple"), none, (.seq (List.toArray [(.str (Str.ofString "self") 322)]) 0), List.toArray []⟩
noncomputable def o4x104 (P : Params) : Obj := ⟨(.type "tuple"), none, (.seq (List.toArray []) 0), List.toArray []⟩
noncomputable def o4x105 (P : Params) : Obj := ⟨.none, none, (.func ⟨(Str.ofString "__repr__"), (Str.ofString "Match.__repr__"), fArgs (mt 3 8), .stmts (fBody (mt 3 8)), fScope (mt 3 8), 0, [], .none, .none, .none, .none, none, .none, .none, 0⟩), List.toArray []⟩
noncomputable def o4x106 (P : Params) : Obj := ⟨(.type "code"), none, (.fields (List.toArray [(.str (Str.ofString "__repr__") 319), (.str (Str.ofString "Match.__repr__") 320), (.str (Str.ofString "/claim/cut.py") 321), (.int (52) 0), (.int (1) 0), (.int (0) 0), (.int (0) 0), (.int (3) 0), (.ref 101), (.bool true), (.int (181) 0), (.ref 102), .none, (.ref 103), (.ref 104), (.ref 105), (.int (323) 0), (.int (52) 0), (.str (Str.ofString "/claim/cut.py") 324)])), List.toArray []⟩
noncomputable def o4x107 (P : Params) : Obj := ⟨(.type "function"), none, (.func ⟨(Str.ofString "__repr__"), (Str.ofString "Match.__repr__"), fArgs (mt 3 8), .stmts (fBody (mt 3 8)), fScope (mt 3 8), 3, [], .none, .none, (.str (Str.ofString "Return a nicely formatted representation string") 325), (.str (Str.ofString "cpy313.difflib") 194), none, (.ref 106), .none, 0⟩), List.toArray []⟩
noncomputable def o4x108 (P : Params) : Obj := ⟨(.type "tuple"), none, (.seq (List.toArray []) 0), List.toArray []⟩
noncomputable def o4x109 (P : Params) : Obj := ⟨.none, none, (.fields (List.toArray [])), List.toArray []⟩
noncomputable def o4x110 (P : Params) : Obj := ⟨(.type "tuple"), none, (.seq (List.toArray [(.str (Str.ofString "self") 330)]) 0), List.toArray []⟩
noncomputable def o4x111 (P : Params) : Obj := ⟨(.type "tuple"), none, (.seq (List.toArray []) 0), List.toArray []⟩
noncomputable def o4x112 (P : Params) : Obj := ⟨.none, none, (.func ⟨(Str.ofString "_asdict"), (Str.ofString "Match._asdict"), fArgs (mt 3 9), .stmts (fBody (mt 3 9)), fScope (mt 3 9), 0, [], .none, .none, .none, .none, none, .none, .none, 0⟩), List.toArray []⟩
noncomputable def o4x113 (P : Params) : Obj := ⟨(.type "code"), none, (.fields (List.toArray [(.str (Str.ofString "_asdict") 327), (.str (Str.ofString "Match._asdict") 328), (.str (Str.ofString "/claim/cut.py") 329), (.int (56) 0), (.int (1) 0), (.int (0) 0), (.int (0) 0), (.int (3) 0), (.ref 108), (.bool true), (.int (181) 0), (.ref 109), .none, (.ref 110), (.ref 111), (.ref 112), (.int (331) 0), (.int (56) 0), (.str (Str.ofString "/claim/cut.py") 332)])), List.toArray []⟩
noncomputable def o4x114 (P : Params) : Obj := ⟨(.type "function"), none, (.func ⟨(Str.ofString "_asdict"), (Str.ofString "Match._asdict"), fArgs (mt 3 9), .stmts (fBody (mt 3 9)), fScope (mt 3 9), 3, [], .none, .none, .none, (.str (Str.ofString "cpy313.difflib") 194), none, (.ref 113), .none, 0⟩), List.toArray []⟩
noncomputable def o4x115 (P : Params) : Obj := ⟨(.type "tuple"), none, (.seq (List.toArray []) 0), List.toArray []⟩
noncomputable def o4x116 (P : Params) : Obj := ⟨.none, none, (.fields (List.toArray [])), List.toArray []⟩
noncomputable def o4x117 (P : Params) : Obj := ⟨(.type "tuple"), none, (.seq (List.toArray [(.str (Str.ofString "self") 337)]) 0), List.toArray []⟩
noncomputable def o4x118 (P : Params) : Obj := ⟨(.type "tuple"), none, (.seq (List.toArray []) 0), List.toArray []⟩
noncomputable def o4x119 (P : Params) : Obj := ⟨.none, none, (.func ⟨(Str.ofString "__getnewargs__"), (Str.ofString "Match.__getnewargs__"), fArgs (mt 3 10), .stmts (fBody (mt 3 10)), fScope (mt 3 10), 0, [], .none, .none, .none, .none, none, .none, .none, 0⟩), List.toArray []⟩
noncomputable def o4x120 (P : Params) : Obj := ⟨(.type "code"), none, (.fields (List.toArray [(.str (Str.ofString "__getnewargs__") 334), (.str (Str.ofString "Match.__getnewargs__") 335), (.str (Str.ofString "/claim/cut.py") 336), (.int (59) 0), (.int (1) 0), (.int (0) 0), (.int (0) 0), (.int (3) 0), (.ref 115), (.bool true), (.int (181) 0), (.ref 116), .none, (.ref 117), (.ref 118), (.ref 119), (.int (338) 0), (.int (59) 0), (.str (Str.ofString "/claim/cut.py") 339)])), List.toArray []⟩
noncomputable def o4x121 (P : Params) : Obj := ⟨(.type "function"), none, (.func ⟨(Str.ofString "__getnewargs__"), (Str.ofString "Match.__getnewargs__"), fArgs (mt 3 10), .stmts (fBody (mt 3 10)), fScope (mt 3 10), 3, [], .none, .none, (.str (Str.ofString "Return self as a plain tuple.  Used by copy and pickle.") 340), (.str (Str.ofString "cpy313.difflib") 194), none, (.ref 120), .none, 0⟩), List.toArray []⟩
noncomputable def o4x122 (P : Params) : Obj := ⟨(.type "tuple"), none, (.seq (List.toArray [(.str (Str.ofString "a") 342), (.str (Str.ofString "b") 343), (.str (Str.ofString "size") 344)]) 0), List.toArray []⟩
noncomputable def o4x123 (P : Params) : Obj := ⟨(.type "dict"), none, (.dict (List.toArray [⟨PyData.keyHash P (Str.ofString "index"), (.str (Str.ofString "index") 352), (.int (0) 346)⟩, ⟨PyData.keyHash P (Str.ofString "__doc__"), (.str (Str.ofString "__doc__") 354), (.str (Str.ofString "Alias for field number 0") 347)⟩]) 2), List.toArray []⟩
noncomputable def o4x124 (P : Params) : Obj := ⟨(.ref 60), (some 123), .plain, List.toArray []⟩
noncomputable def o4x125 (P : Params) : Obj := ⟨(.type "frame"), none, (.dict (List.toArray [⟨PyData.keyHash P (Str.ofString "self"), (.str (Str.ofString "self") 348), (.ref 124)⟩, ⟨PyData.keyHash P (Str.ofString "index"), (.str (Str.ofString "index") 349), (.int (0) 346)⟩, ⟨PyData.keyHash P (Str.ofString "doc"), (.str (Str.ofString "doc") 350), (.str (Str.ofString "Alias for field number 0") 347)⟩]) 3), List.toArray []⟩
noncomputable def o4x126 (P : Params) : Obj := ⟨(.type "dict"), none, (.dict (List.toArray [⟨PyData.keyHash P (Str.ofString "index"), (.str (Str.ofString "index") 362), (.int (1) 356)⟩, ⟨PyData.keyHash P (Str.ofString "__doc__"), (.str (Str.ofString "__doc__") 364), (.str (Str.ofString "Alias for field number 1") 357)⟩]) 2), List.toArray []⟩
noncomputable def o4x127 (P : Params) : Obj := ⟨(.ref 60), (some 126), .plain, List.toArray []⟩
noncomputable def o4x128 (P : Params) : Obj := ⟨(.type "frame"), none, (.dict (List.toArray [⟨PyData.keyHash P (Str.ofString "self"), (.str (Str.ofString "self") 358), (.ref 127)⟩, ⟨PyData.keyHash P (Str.ofString "index"), (.str (Str.ofString "index") 359), (.int (1) 356)⟩, ⟨PyData.keyHash P (Str.ofString "doc"), (.str (Str.ofString "doc") 360), (.str (Str.ofString "Alias for field number 1") 357)⟩]) 3), List.toArray []⟩
noncomputable def o4x129 (P : Params) : Obj := ⟨(.type "dict"), none, (.dict (List.toArray [⟨PyData.keyHash P (Str.ofString "index"), (.str (Str.ofString "index") 372), (.int (2) 366)⟩, ⟨PyData.keyHash P (Str.ofString "__doc__"), (.str (Str.ofString "__doc__") 374), (.str (Str.ofString "Alias for field number 2") 367)⟩]) 2), List.toArray []⟩
noncomputable def o4x130 (P : Params) : Obj := ⟨(.ref 60), (some 129), .plain, List.toArray []⟩
noncomputable def o4x131 (P : Params) : Obj := ⟨(.type "frame"), none, (.dict (List.toArray [⟨PyData.keyHash P (Str.ofString "self"), (.str (Str.ofString "self") 368), (.ref 130)⟩, ⟨PyData.keyHash P (Str.ofString "index"), (.str (Str.ofString "index") 369), (.int (2) 366)⟩, ⟨PyData.keyHash P (Str.ofString "doc"), (.str (Str.ofString "doc") 370), (.str (Str.ofString "Alias for field number 2") 367)⟩]) 3), List.toArray []⟩
noncomputable def o4x132 (P : Params) : Obj := ⟨(.type "tuple"), none, (.seq (List.toArray []) 0), List.toArray []⟩
noncomputable def o4x133 (P : Params) : Obj := ⟨(.type "list"), none, (.seq (List.toArray []) 0), List.toArray []⟩
noncomputable def o4x134 (P : Params) : Obj := ⟨(.type "dict"), none, (.dict (List.toArray [⟨PyData.keyHash P (Str.ofString "__module__"), (.str (Str.ofString "__module__") 260), (.str (Str.ofString "cpy313.difflib") 194)⟩, ⟨PyData.keyHash P (Str.ofString "__firstlineno__"), (.str (Str.ofString "__firstlineno__") 264), (.int (23) 263)⟩, ⟨PyData.keyHash P (Str.ofString "__doc__"), (.str (Str.ofString "__doc__") 266), (.str (Str.ofString "Match(a, b, size)") 265)⟩, ⟨PyData.keyHash P (Str.ofString "__slots__"), (.str (Str.ofString "__slots__") 268), (.ref 73)⟩, ⟨PyData.keyHash P (Str.ofString "_fields"), (.str (Str.ofString "_fields") 272), (.ref 74)⟩, ⟨PyData.keyHash P (Str.ofString "_field_defaults"), (.str (Str.ofString "_field_defaults") 273), (.ref 75)⟩, ⟨PyData.keyHash P (Str.ofString "__new__"), (.str (Str.ofString "__new__") 284), (.ref 136)⟩, ⟨PyData.keyHash P (Str.ofString "_make"), (.str (Str.ofString "_make") 306), (.ref 91)⟩, ⟨PyData.keyHash P (Str.ofString "_replace"), (.str (Str.ofString "_replace") 317), (.ref 100)⟩, ⟨PyData.keyHash P (Str.ofString "__replace__"), (.str (Str.ofString "__replace__") 318), (.ref 100)⟩, ⟨PyData.keyHash P (Str.ofString "__repr__"), (.str (Str.ofString "__repr__") 326), (.ref 107)⟩, ⟨PyData.keyHash P (Str.ofString "_asdict"), (.str (Str.ofString "_asdict") 333), (.ref 114)⟩, ⟨PyData.keyHash P (Str.ofString "__getnewargs__"), (.str (Str.ofString "__getnewargs__") 341), (.ref 121)⟩, ⟨PyData.keyHash P (Str.ofString "__match_args__"), (.str (Str.ofString "__match_args__") 345), (.ref 122)⟩, ⟨PyData.keyHash P (Str.ofString "a"), (.str (Str.ofString "a") 355), (.ref 124)⟩, ⟨PyData.keyHash P (Str.ofString "b"), (.str (Str.ofString "b") 365), (.ref 127)⟩, ⟨PyData.keyHash P (Str.ofString "size"), (.str (Str.ofString "size") 375), (.ref 130)⟩, ⟨PyData.keyHash P (Str.ofString "__static_attributes__"), (.str (Str.ofString "__static_attributes__") 376), (.ref 132)⟩]) 2), List.toArray []⟩
noncomputable def o4x135 (P : Params) : Obj := ⟨(.type "type"), none, (.cls ⟨(Str.ofString "Match"), [(.type "tuple")], [(.ref 135), (.type "tuple"), (.type "object")], 134, (Str.ofString "Match"), false, [], [], false, none, false⟩), List.toArray [(some (.ref 65)), none, (some (.str (Str.ofString "Match") 253)), (some (.str (Str.ofString "Match") 261)), (some .none), (some (.bool false))]⟩
noncomputable def o4x136 (P : Params) : Obj := ⟨(.type "staticmethod"), none, (.fields (List.toArray [(.ref 82)])), List.toArray []⟩
noncomputable def o4x137 (P : Params) : Obj := ⟨(.type "super"), none, (.fields (List.toArray [(.ref 135), (.ref 135), (.ref 135)])), List.toArray []⟩
noncomputable def o4x138 (P : Params) : Obj := ⟨(.type "builtin_function_or_method"), none, (.fields (List.toArray [(.builtin "object.__init_subclass__"), (.ref 135)])), List.toArray []⟩
noncomputable def bt21 (P : Params) : BT := (.node (o3x63 P) (.node (o4x127 P) .nil .nil) .nil)
noncomputable def bt22 (P : Params) : BT := (.node (o4x95 P) .nil .nil)
noncomputable def bt23 (P : Params) : BT := (.node (o4x79 P) .nil .nil)
noncomputable def bt24 (P : Params) : BT := (.node (o4x111 P) .nil .nil)
noncomputable def bt25 (P : Params) : BT := (.node (o4x71 P) (.node (o4x135 P) .nil .nil) .nil)
noncomputable def bt26 (P : Params) : BT := (.node (o4x103 P) .nil .nil)
noncomputable def bt27 (P : Params) : BT := (.node (o4x87 P) .nil .nil)
noncomputable def bt28 (P : Params) : BT := (.node (o4x119 P) .nil .nil)
noncomputable def bt29 (P : Params) : BT := (.node (PySem.W.boot_o_7 P) (.node (o3x15 P) (.node (o3x31 P) (bt21 P) (bt22 P)) (.node (o3x47 P) (bt23 P) (bt24 P))) (.node (o3x23 P) (.node (o3x39 P) (bt25 P) (bt26 P)) (.node (o3x55 P) (bt27 P) (bt28 P))))
noncomputable def bt30 (P : Params) : BT := (.node (o4x67 P) (.node (o4x131 P) .nil .nil) .nil)
noncomputable def bt31 (P : Params) : BT := (.node (o4x99 P) .nil .nil)
noncomputable def bt32 (P : Params) : BT := (.node (o4x83 P) .nil .nil)
noncomputable def bt33 (P : Params) : BT := (.node (o4x115 P) .nil .nil)
noncomputable def bt34 (P : Params) : BT := (.node (o4x75 P) .nil .nil)
noncomputable def bt35 (P : Params) : BT := (.node (o4x107 P) .nil .nil)
noncomputable def bt36 (P : Params) : BT := (.node (o4x91 P) .nil .nil)
noncomputable def bt37 (P : Params) : BT := (.node (o4x123 P) .nil .nil)
noncomputable def bt38 (P : Params) : BT := (.node (o0x11 P) (.node (o3x19 P) (.node (o3x35 P) (bt30 P) (bt31 P)) (.node (o3x51 P) (bt32 P) (bt33 P))) (.node (o3x27 P) (.node (o3x43 P) (bt34 P) (bt35 P)) (.node (o3x59 P) (bt36 P) (bt37 P))))
noncomputable def bt39 (P : Params) : BT := (.node (o4x65 P) (.node (o4x129 P) .nil .nil) .nil)
noncomputable def bt40 (P : Params) : BT := (.node (o4x97 P) .nil .nil)
noncomputable def bt41 (P : Params) : BT := (.node (o4x81 P) .nil .nil)
noncomputable def bt42 (P : Params) : BT := (.node (o4x113 P) .nil .nil)
noncomputable def bt43 (P : Params) : BT := (.node (o4x73 P) (.node (o4x137 P) .nil .nil) .nil)
noncomputable def bt44 (P : Params) : BT := (.node (o4x105 P) .nil .nil)
noncomputable def bt45 (P : Params) : BT := (.node (o4x89 P) .nil .nil)
noncomputable def bt46 (P : Params) : BT := (.node (o4x121 P) .nil .nil)
noncomputable def bt47 (P : Params) : BT := (.node (PySem.W.boot_o_9 P) (.node (o3x17 P) (.node (o3x33 P) (bt39 P) (bt40 P)) (.node (o3x49 P) (bt41 P) (bt42 P))) (.node (o3x25 P) (.node (o3x41 P) (bt43 P) (bt44 P)) (.node (o3x57 P) (bt45 P) (bt46 P))))
noncomputable def bt48 (P : Params) : BT := (.node (o4x69 P) (.node (o4x133 P) .nil .nil) .nil)
noncomputable def bt49 (P : Params) : BT := (.node (o4x101 P) .nil .nil)
noncomputable def bt50 (P : Params) : BT := (.node (o4x85 P) .nil .nil)
noncomputable def bt51 (P : Params) : BT := (.node (o4x117 P) .nil .nil)
noncomputable def bt52 (P : Params) : BT := (.node (o4x77 P) .nil .nil)
noncomputable def bt53 (P : Params) : BT := (.node (o4x109 P) .nil .nil)
noncomputable def bt54 (P : Params) : BT := (.node (o4x93 P) .nil .nil)
noncomputable def bt55 (P : Params) : BT := (.node (o4x125 P) .nil .nil)
noncomputable def bt56 (P : Params) : BT := (.node (o0x13 P) (.node (o3x21 P) (.node (o3x37 P) (bt48 P) (bt49 P)) (.node (o3x53 P) (bt50 P) (bt51 P))) (.node (o3x29 P) (.node (o3x45 P) (bt52 P) (bt53 P)) (.node (o3x61 P) (bt54 P) (bt55 P))))
noncomputable def bt57 (P : Params) : BT := (.node (o3x64 P) (.node (o4x128 P) .nil .nil) .nil)
noncomputable def bt58 (P : Params) : BT := (.node (o4x96 P) .nil .nil)
noncomputable def bt59 (P : Params) : BT := (.node (o4x80 P) .nil .nil)
noncomputable def bt60 (P : Params) : BT := (.node (o4x112 P) .nil .nil)
noncomputable def bt61 (P : Params) : BT := (.node (o4x72 P) (.node (o4x136 P) .nil .nil) .nil)
noncomputable def bt62 (P : Params) : BT := (.node (o4x104 P) .nil .nil)
noncomputable def bt63 (P : Params) : BT := (.node (o4x88 P) .nil .nil)
noncomputable def bt64 (P : Params) : BT := (.node (o4x120 P) .nil .nil)
noncomputable def bt65 (P : Params) : BT := (.node (PySem.W.boot_o_8 P) (.node (o3x16 P) (.node (o3x32 P) (bt57 P) (bt58 P)) (.node (o3x48 P) (bt59 P) (bt60 P))) (.node (o3x24 P) (.node (o3x40 P) (bt61 P) (bt62 P)) (.node (o3x56 P) (bt63 P) (bt64 P))))
noncomputable def bt66 (P : Params) : BT := (.node (o4x68 P) (.node (o4x132 P) .nil .nil) .nil)
noncomputable def bt67 (P : Params) : BT := (.node (o4x100 P) .nil .nil)
noncomputable def bt68 (P : Params) : BT := (.node (o4x84 P) .nil .nil)
noncomputable def bt69 (P : Params) : BT := (.node (o4x116 P) .nil .nil)
noncomputable def bt70 (P : Params) : BT := (.node (o4x76 P) .nil .nil)
noncomputable def bt71 (P : Params) : BT := (.node (o4x108 P) .nil .nil)
noncomputable def bt72 (P : Params) : BT := (.node (o4x92 P) .nil .nil)
noncomputable def bt73 (P : Params) : BT := (.node (o4x124 P) .nil .nil)
noncomputable def bt74 (P : Params) : BT := (.node (o4x12 P) (.node (o3x20 P) (.node (o3x36 P) (bt66 P) (bt67 P)) (.node (o3x52 P) (bt68 P) (bt69 P))) (.node (o3x28 P) (.node (o3x44 P) (bt70 P) (bt71 P)) (.node (o3x60 P) (bt72 P) (bt73 P))))
noncomputable def bt75 (P : Params) : BT := (.node (o4x66 P) (.node (o4x130 P) .nil .nil) .nil)
noncomputable def bt76 (P : Params) : BT := (.node (o4x98 P) .nil .nil)
noncomputable def bt77 (P : Params) : BT := (.node (o4x82 P) .nil .nil)
noncomputable def bt78 (P : Params) : BT := (.node (o4x114 P) .nil .nil)
noncomputable def bt79 (P : Params) : BT := (.node (o4x74 P) (.node (o4x138 P) .nil .nil) .nil)
noncomputable def bt80 (P : Params) : BT := (.node (o4x106 P) .nil .nil)
noncomputable def bt81 (P : Params) : BT := (.node (o4x90 P) .nil .nil)
noncomputable def bt82 (P : Params) : BT := (.node (o4x122 P) .nil .nil)
noncomputable def bt83 (P : Params) : BT := (.node (PySem.W.boot_o_10 P) (.node (o3x18 P) (.node (o3x34 P) (bt75 P) (bt76 P)) (.node (o3x50 P) (bt77 P) (bt78 P))) (.node (o3x26 P) (.node (o3x42 P) (bt79 P) (bt80 P)) (.node (o3x58 P) (bt81 P) (bt82 P))))
noncomputable def bt84 (P : Params) : BT := (.node (o4x70 P) (.node (o4x134 P) .nil .nil) .nil)
noncomputable def bt85 (P : Params) : BT := (.node (o4x102 P) .nil .nil)
noncomputable def bt86 (P : Params) : BT := (.node (o4x86 P) .nil .nil)
noncomputable def bt87 (P : Params) : BT := (.node (o4x118 P) .nil .nil)
noncomputable def bt88 (P : Params) : BT := (.node (o4x78 P) .nil .nil)
noncomputable def bt89 (P : Params) : BT := (.node (o4x110 P) .nil .nil)
noncomputable def bt90 (P : Params) : BT := (.node (o4x94 P) .nil .nil)
noncomputable def bt91 (P : Params) : BT := (.node (o4x126 P) .nil .nil)
noncomputable def bt92 (P : Params) : BT := (.node (o0x14 P) (.node (o3x22 P) (.node (o3x38 P) (bt84 P) (bt85 P)) (.node (o3x54 P) (bt86 P) (bt87 P))) (.node (o3x30 P) (.node (o3x46 P) (bt88 P) (bt89 P)) (.node (o3x62 P) (bt90 P) (bt91 P))))
noncomputable def bt93 (P : Params) : BT := (.node (PySem.W.boot_o_0 P) (.node (PySem.W.boot_o_1 P) (.node (o4x3 P) (bt29 P) (bt38 P)) (.node (PySem.W.boot_o_5 P) (bt47 P) (bt56 P))) (.node (PySem.W.boot_o_2 P) (.node (PySem.W.boot_o_4 P) (bt65 P) (bt74 P)) (.node (PySem.W.boot_o_6 P) (bt83 P) (bt92 P))))
noncomputable def T4 (P : Params) : BT := bt93 P
noncomputable def S4 (w : World) (os : OsState) : SharedT := ⟨T4 w.params, 139, bootLife, #[], boot_drawn, 381, os⟩
noncomputable def o5x3 (P : Params) : Obj := ⟨(.type "dict"), none, (.dict (List.toArray [⟨PyData.keyHash P (Str.ofString "__name__"), (.str (Str.ofString "__name__") 165), (.str (Str.ofString "cpy313.difflib") 194)⟩, ⟨PyData.keyHash P (Str.ofString "__doc__"), (.str (Str.ofString "__doc__") 166), .none⟩, ⟨PyData.keyHash P (Str.ofString "__package__"), (.str (Str.ofString "__package__") 167), .none⟩, ⟨PyData.keyHash P (Str.ofString "__loader__"), (.str (Str.ofString "__loader__") 168), (.builtin "__main__.__loader__#opaque")⟩, ⟨PyData.keyHash P (Str.ofString "__spec__"), (.str (Str.ofString "__spec__") 169), .none⟩, ⟨PyData.keyHash P (Str.ofString "__annotations__"), (.str (Str.ofString "__annotations__") 170), (.ref 6)⟩, ⟨PyData.keyHash P (Str.ofString "__builtins__"), (.str (Str.ofString "__builtins__") 171), (.ref 4)⟩, ⟨PyData.keyHash P (Str.ofString "__file__"), (.str (Str.ofString "__file__") 173), (.str (Str.ofString "/claim/cut.py") 172)⟩, ⟨PyData.keyHash P (Str.ofString "__cached__"), (.str (Str.ofString "__cached__") 174), .none⟩, ⟨PyData.keyHash P (Str.ofString "_wall"), (.str (Str.ofString "_wall") 193), (.ref 21)⟩, ⟨PyData.keyHash P (Str.ofString "_tuplegetter"), (.str (Str.ofString "_tuplegetter") 252), (.ref 60)⟩, ⟨PyData.keyHash P (Str.ofString "Match"), (.str (Str.ofString "Match") 380), (.ref 135)⟩, ⟨PyData.keyHash P (Str.ofString "_calculate_ratio"), (.str (Str.ofString "_calculate_ratio") 388), (.ref 145)⟩]) 13), List.toArray []⟩
noncomputable def o5x12 (P : Params) : Obj := ⟨.none, none, (.fields (List.toArray [(.int (1) 0), (.int (0) 0), (.ref 20), (.int (5) 0), (.int (0) 0), (.ref 27), (.int (23) 0), (.int (0) 0), (.ref 71), (.int (66) 0), (.int (0) 0), (.ref 144)])), List.toArray []⟩
noncomputable def o5x139 (P : Params) : Obj := ⟨(.type "tuple"), none, (.seq (List.toArray []) 0), List.toArray []⟩
noncomputable def o5x140 (P : Params) : Obj := ⟨.none, none, (.fields (List.toArray [])), List.toArray []⟩
noncomputable def o5x141 (P : Params) : Obj := ⟨(.type "tuple"), none, (.seq (List.toArray [(.str (Str.ofString "matches") 384), (.str (Str.ofString "length") 385)]) 0), List.toArray []⟩
noncomputable def o5x142 (P : Params) : Obj := ⟨(.type "tuple"), none, (.seq (List.toArray []) 0), List.toArray []⟩
noncomputable def o5x143 (P : Params) : Obj := ⟨.none, none, (.func ⟨(Str.ofString "_calculate_ratio"), (Str.ofString "_calculate_ratio"), fArgs (st 4), .stmts (fBody (st 4)), fScope (st 4), 0, [], .none, .none, .none, .none, none, .none, .none, 0⟩), List.toArray []⟩
noncomputable def o5x144 (P : Params) : Obj := ⟨(.type "code"), none, (.fields (List.toArray [(.str (Str.ofString "_calculate_ratio") 381), (.str (Str.ofString "_calculate_ratio") 382), (.str (Str.ofString "/claim/cut.py") 383), (.int (66) 0), (.int (2) 0), (.int (0) 0), (.int (0) 0), (.int (3) 0), (.ref 139), (.bool true), (.int (181) 0), (.ref 140), .none, (.ref 141), (.ref 142), (.ref 143), (.int (386) 0), (.int (66) 0), (.str (Str.ofString "/claim/cut.py") 387)])), List.toArray []⟩
noncomputable def o5x145 (P : Params) : Obj := ⟨(.type "function"), none, (.func ⟨(Str.ofString "_calculate_ratio"), (Str.ofString "_calculate_ratio"), fArgs (st 4), .stmts (fBody (st 4)), fScope (st 4), 3, [], .none, .none, .none, (.str (Str.ofString "cpy313.difflib") 194), none, (.ref 144), .none, 0⟩), List.toArray []⟩
noncomputable def bt94 (P : Params) : BT := (.node (o4x79 P) (.node (o5x143 P) .nil .nil) .nil)
noncomputable def bt95 (P : Params) : BT := (.node (PySem.W.boot_o_7 P) (.node (o3x15 P) (.node (o3x31 P) (bt21 P) (bt22 P)) (.node (o3x47 P) (bt94 P) (bt24 P))) (.node (o3x23 P) (.node (o3x39 P) (bt25 P) (bt26 P)) (.node (o3x55 P) (bt27 P) (bt28 P))))
noncomputable def bt96 (P : Params) : BT := (.node (o4x75 P) (.node (o5x139 P) .nil .nil) .nil)
noncomputable def bt97 (P : Params) : BT := (.node (o0x11 P) (.node (o3x19 P) (.node (o3x35 P) (bt30 P) (bt31 P)) (.node (o3x51 P) (bt32 P) (bt33 P))) (.node (o3x27 P) (.node (o3x43 P) (bt96 P) (bt35 P)) (.node (o3x59 P) (bt36 P) (bt37 P))))
noncomputable def bt98 (P : Params) : BT := (.node (o4x81 P) (.node (o5x145 P) .nil .nil) .nil)
noncomputable def bt99 (P : Params) : BT := (.node (PySem.W.boot_o_9 P) (.node (o3x17 P) (.node (o3x33 P) (bt39 P) (bt40 P)) (.node (o3x49 P) (bt98 P) (bt42 P))) (.node (o3x25 P) (.node (o3x41 P) (bt43 P) (bt44 P)) (.node (o3x57 P) (bt45 P) (bt46 P))))
noncomputable def bt100 (P : Params) : BT := (.node (o4x77 P) (.node (o5x141 P) .nil .nil) .nil)
noncomputable def bt101 (P : Params) : BT := (.node (o0x13 P) (.node (o3x21 P) (.node (o3x37 P) (bt48 P) (bt49 P)) (.node (o3x53 P) (bt50 P) (bt51 P))) (.node (o3x29 P) (.node (o3x45 P) (bt100 P) (bt53 P)) (.node (o3x61 P) (bt54 P) (bt55 P))))
noncomputable def bt102 (P : Params) : BT := (.node (o4x80 P) (.node (o5x144 P) .nil .nil) .nil)
noncomputable def bt103 (P : Params) : BT := (.node (PySem.W.boot_o_8 P) (.node (o3x16 P) (.node (o3x32 P) (bt57 P) (bt58 P)) (.node (o3x48 P) (bt102 P) (bt60 P))) (.node (o3x24 P) (.node (o3x40 P) (bt61 P) (bt62 P)) (.node (o3x56 P) (bt63 P) (bt64 P))))
noncomputable def bt104 (P : Params) : BT := (.node (o4x76 P) (.node (o5x140 P) .nil .nil) .nil)
noncomputable def bt105 (P : Params) : BT := (.node (o5x12 P) (.node (o3x20 P) (.node (o3x36 P) (bt66 P) (bt67 P)) (.node (o3x52 P) (bt68 P) (bt69 P))) (.node (o3x28 P) (.node (o3x44 P) (bt104 P) (bt71 P)) (.node (o3x60 P) (bt72 P) (bt73 P))))
noncomputable def bt106 (P : Params) : BT := (.node (o4x78 P) (.node (o5x142 P) .nil .nil) .nil)
noncomputable def bt107 (P : Params) : BT := (.node (o0x14 P) (.node (o3x22 P) (.node (o3x38 P) (bt84 P) (bt85 P)) (.node (o3x54 P) (bt86 P) (bt87 P))) (.node (o3x30 P) (.node (o3x46 P) (bt106 P) (bt89 P)) (.node (o3x62 P) (bt90 P) (bt91 P))))
noncomputable def bt108 (P : Params) : BT := (.node (PySem.W.boot_o_0 P) (.node (PySem.W.boot_o_1 P) (.node (o5x3 P) (bt95 P) (bt97 P)) (.node (PySem.W.boot_o_5 P) (bt99 P) (bt101 P))) (.node (PySem.W.boot_o_2 P) (.node (PySem.W.boot_o_4 P) (bt103 P) (bt105 P)) (.node (PySem.W.boot_o_6 P) (bt83 P) (bt107 P))))
noncomputable def T5 (P : Params) : BT := bt108 P
noncomputable def S5 (w : World) (os : OsState) : SharedT := ⟨T5 w.params, 146, bootLife, #[], boot_drawn, 389, os⟩
noncomputable def o6x3 (P : Params) : Obj := ⟨(.type "dict"), none, (.dict (List.toArray [⟨PyData.keyHash P (Str.ofString "__name__"), (.str (Str.ofString "__name__") 165), (.str (Str.ofString "cpy313.difflib") 194)⟩, ⟨PyData.keyHash P (Str.ofString "__doc__"), (.str (Str.ofString "__doc__") 166), .none⟩, ⟨PyData.keyHash P (Str.ofString "__package__"), (.str (Str.ofString "__package__") 167), .none⟩, ⟨PyData.keyHash P (Str.ofString "__loader__"), (.str (Str.ofString "__loader__") 168), (.builtin "__main__.__loader__#opaque")⟩, ⟨PyData.keyHash P (Str.ofString "__spec__"), (.str (Str.ofString "__spec__") 169), .none⟩, ⟨PyData.keyHash P (Str.ofString "__annotations__"), (.str (Str.ofString "__annotations__") 170), (.ref 6)⟩, ⟨PyData.keyHash P (Str.ofString "__builtins__"), (.str (Str.ofString "__builtins__") 171), (.ref 4)⟩, ⟨PyData.keyHash P (Str.ofString "__file__"), (.str (Str.ofString "__file__") 173), (.str (Str.ofString "/claim/cut.py") 172)⟩, ⟨PyData.keyHash P (Str.ofString "__cached__"), (.str (Str.ofString "__cached__") 174), .none⟩, ⟨PyData.keyHash P (Str.ofString "_wall"), (.str (Str.ofString "_wall") 193), (.ref 21)⟩, ⟨PyData.keyHash P (Str.ofString "_tuplegetter"), (.str (Str.ofString "_tuplegetter") 252), (.ref 60)⟩, ⟨PyData.keyHash P (Str.ofString "Match"), (.str (Str.ofString "Match") 380), (.ref 135)⟩, ⟨PyData.keyHash P (Str.ofString "_calculate_ratio"), (.str (Str.ofString "_calculate_ratio") 388), (.ref 145)⟩, ⟨PyData.keyHash P (Str.ofString "SequenceMatcher"), (.str (Str.ofString "SequenceMatcher") 592), (.ref 242)⟩]) 14), List.toArray []⟩
noncomputable def o6x12 (P : Params) : Obj := ⟨.none, none, (.fields (List.toArray [(.int (1) 0), (.int (0) 0), (.ref 20), (.int (5) 0), (.int (0) 0), (.ref 27), (.int (23) 0), (.int (0) 0), (.ref 71), (.int (66) 0), (.int (0) 0), (.ref 144), (.int (70) 0), (.int (0) 0), (.ref 151)])), List.toArray []⟩
noncomputable def o6x146 (P : Params) : Obj := ⟨(.type "tuple"), none, (.seq (List.toArray []) 0), List.toArray []⟩
noncomputable def o6x147 (P : Params) : Obj := ⟨(.type "builtin_function_or_method"), none, (.fields (List.toArray [(.builtin "type.__prepare__"), (.type "type")])), List.toArray []⟩
noncomputable def o6x148 (P : Params) : Obj := ⟨(.type "dict"), none, (.dict (List.toArray [⟨PyData.keyHash P (Str.ofString "__module__"), (.str (Str.ofString "__module__") 396), (.str (Str.ofString "cpy313.difflib") 194)⟩, ⟨PyData.keyHash P (Str.ofString "__qualname__"), (.str (Str.ofString "__qualname__") 398), (.str (Str.ofString "SequenceMatcher") 397)⟩, ⟨PyData.keyHash P (Str.ofString "__firstlineno__"), (.str (Str.ofString "__firstlineno__") 400), (.int (70) 399)⟩, ⟨PyData.keyHash P (Str.ofString "__doc__"), (.str (Str.ofString "__doc__") 402), (.str (docOf (cBody (st 5))) 401)⟩, ⟨PyData.keyHash P (Str.ofString "__init__"), (.str (Str.ofString "__init__") 417), (.ref 160)⟩, ⟨PyData.keyHash P (Str.ofString "set_seqs"), (.str (Str.ofString "set_seqs") 427), (.ref 167)⟩, ⟨PyData.keyHash P (Str.ofString "set_seq1"), (.str (Str.ofString "set_seq1") 436), (.ref 174)⟩, ⟨PyData.keyHash P (Str.ofString "set_seq2"), (.str (Str.ofString "set_seq2") 445), (.ref 181)⟩, ⟨PyData.keyHash P (Str.ofString "_SequenceMatcher__chain_b"), (.str (Str.ofString "_SequenceMatcher__chain_b") 463), (.ref 188)⟩, ⟨PyData.keyHash P (Str.ofString "find_longest_match"), (.str (Str.ofString "find_longest_match") 491), (.ref 196)⟩, ⟨PyData.keyHash P (Str.ofString "get_matching_blocks"), (.str (Str.ofString "get_matching_blocks") 518), (.ref 203)⟩, ⟨PyData.keyHash P (Str.ofString "get_opcodes"), (.str (Str.ofString "get_opcodes") 533), (.ref 210)⟩, ⟨PyData.keyHash P (Str.ofString "get_grouped_opcodes"), (.str (Str.ofString "get_grouped_opcodes") 542), (.ref 218)⟩, ⟨PyData.keyHash P (Str.ofString "ratio"), (.str (Str.ofString "ratio") 551), (.ref 225)⟩, ⟨PyData.keyHash P (Str.ofString "quick_ratio"), (.str (Str.ofString "quick_ratio") 565), (.ref 232)⟩, ⟨PyData.keyHash P (Str.ofString "real_quick_ratio"), (.str (Str.ofString "real_quick_ratio") 575), (.ref 239)⟩, ⟨PyData.keyHash P (Str.ofString "__static_attributes__"), (.str (Str.ofString "__static_attributes__") 586), (.ref 240)⟩]) 17), List.toArray []⟩
noncomputable def o6x149 (P : Params) : Obj := ⟨(.type "tuple"), none, (.seq (List.toArray []) 0), List.toArray []⟩
noncomputable def o6x150 (P : Params) : Obj := ⟨.none, none, (.fields (List.toArray [(.int (145) 0), (.int (4) 0), (.ref 159), (.int (173) 0), (.int (4) 0), (.ref 166), (.int (184) 0), (.int (4) 0), (.ref 173), (.int (209) 0), (.int (4) 0), (.ref 180), (.int (236) 0), (.int (4) 0), (.ref 187), (.int (260) 0), (.int (4) 0), (.ref 195), (.int (335) 0), (.int (4) 0), (.ref 202), (.int (383) 0), (.int (4) 0), (.ref 209), (.int (430) 0), (.int (4) 0), (.ref 217), (.int (433) 0), (.int (4) 0), (.ref 224), (.int (457) 0), (.int (4) 0), (.ref 231), (.int (480) 0), (.int (4) 0), (.ref 238)])), List.toArray []⟩
noncomputable def o6x151 (P : Params) : Obj := ⟨(.type "code"), none, (.fields (List.toArray [(.str (Str.ofString "SequenceMatcher") 391), (.str (Str.ofString "SequenceMatcher") 392), (.str (Str.ofString "/claim/cut.py") 393), (.int (70) 0), (.int (0) 0), (.int (0) 0), (.int (0) 0), (.int (0) 0), (.ref 149), (.bool false), (.int (181) 0), (.ref 150), .none, .none, .none, .none, (.int (394) 0), (.int (70) 0), (.str (Str.ofString "/claim/cut.py") 395)])), List.toArray []⟩
noncomputable def o6x152 (P : Params) : Obj := ⟨(.type "frame"), none, .plain, List.toArray [(some (.ref 151)), (some (.ref 3)), (some (.ref 148)), none, (some (.str (Str.ofString "cpy313.difflib") 194)), none, (some (.ref 0))]⟩
noncomputable def o6x153 (P : Params) : Obj := ⟨(.type "tuple"), none, (.seq (List.toArray [.none, (.str (Str.ofString "") 404), (.str (Str.ofString "") 405), (.bool true)]) 0), List.toArray []⟩
noncomputable def o6x154 (P : Params) : Obj := ⟨(.type "tuple"), none, (.seq (List.toArray []) 0), List.toArray []⟩
noncomputable def o6x155 (P : Params) : Obj := ⟨.none, none, (.fields (List.toArray [])), List.toArray []⟩
noncomputable def o6x156 (P : Params) : Obj := ⟨(.type "tuple"), none, (.seq (List.toArray [(.str (Str.ofString "self") 409), (.str (Str.ofString "isjunk") 410), (.str (Str.ofString "a") 411), (.str (Str.ofString "b") 412), (.str (Str.ofString "autojunk") 413)]) 0), List.toArray []⟩
noncomputable def o6x157 (P : Params) : Obj := ⟨(.type "tuple"), none, (.seq (List.toArray []) 0), List.toArray []⟩
noncomputable def o6x158 (P : Params) : Obj := ⟨.none, none, (.func ⟨(Str.ofString "__init__"), (Str.ofString "SequenceMatcher.__init__"), fArgs (mt 5 1), .stmts (fBody (mt 5 1)), fScope (mt 5 1), 0, [], .none, .none, .none, .none, none, .none, .none, 0⟩), List.toArray []⟩
noncomputable def o6x159 (P : Params) : Obj := ⟨(.type "code"), none, (.fields (List.toArray [(.str (Str.ofString "__init__") 406), (.str (Str.ofString "SequenceMatcher.__init__") 407), (.str (Str.ofString "/claim/cut.py") 408), (.int (145) 0), (.int (5) 0), (.int (0) 0), (.int (0) 0), (.int (3) 0), (.ref 154), (.bool true), (.int (181) 0), (.ref 155), .none, (.ref 156), (.ref 157), (.ref 158), (.int (414) 0), (.int (145) 0), (.str (Str.ofString "/claim/cut.py") 415)])), List.toArray []⟩
noncomputable def o6x160 (P : Params) : Obj := ⟨(.type "function"), none, (.func ⟨(Str.ofString "__init__"), (Str.ofString "SequenceMatcher.__init__"), fArgs (mt 5 1), .stmts (fBody (mt 5 1)), fScope (mt 5 1), 3, [], (.ref 153), .none, (.str (docOf (fBody (mt 5 1))) 416), (.str (Str.ofString "cpy313.difflib") 194), none, (.ref 159), .none, 0⟩), List.toArray []⟩
noncomputable def o6x161 (P : Params) : Obj := ⟨(.type "tuple"), none, (.seq (List.toArray []) 0), List.toArray []⟩
noncomputable def o6x162 (P : Params) : Obj := ⟨.none, none, (.fields (List.toArray [])), List.toArray []⟩
noncomputable def o6x163 (P : Params) : Obj := ⟨(.type "tuple"), none, (.seq (List.toArray [(.str (Str.ofString "self") 421), (.str (Str.ofString "a") 422), (.str (Str.ofString "b") 423)]) 0), List.toArray []⟩
noncomputable def o6x164 (P : Params) : Obj := ⟨(.type "tuple"), none, (.seq (List.toArray []) 0), List.toArray []⟩
noncomputable def o6x165 (P : Params) : Obj := ⟨.none, none, (.func ⟨(Str.ofString "set_seqs"), (Str.ofString "SequenceMatcher.set_seqs"), fArgs (mt 5 2), .stmts (fBody (mt 5 2)), fScope (mt 5 2), 0, [], .none, .none, .none, .none, none, .none, .none, 0⟩), List.toArray []⟩
noncomputable def o6x166 (P : Params) : Obj := ⟨(.type "code"), none, (.fields (List.toArray [(.str (Str.ofString "set_seqs") 418), (.str (Str.ofString "SequenceMatcher.set_seqs") 419), (.str (Str.ofString "/claim/cut.py") 420), (.int (173) 0), (.int (3) 0), (.int (0) 0), (.int (0) 0), (.int (3) 0), (.ref 161), (.bool true), (.int (181) 0), (.ref 162), .none, (.ref 163), (.ref 164), (.ref 165), (.int (424) 0), (.int (173) 0), (.str (Str.ofString "/claim/cut.py") 425)])), List.toArray []⟩
noncomputable def o6x167 (P : Params) : Obj := ⟨(.type "function"), none, (.func ⟨(Str.ofString "set_seqs"), (Str.ofString "SequenceMatcher.set_seqs"), fArgs (mt 5 2), .stmts (fBody (mt 5 2)), fScope (mt 5 2), 3, [], .none, .none, (.str (docOf (fBody (mt 5 2))) 426), (.str (Str.ofString "cpy313.difflib") 194), none, (.ref 166), .none, 0⟩), List.toArray []⟩
noncomputable def o6x168 (P : Params) : Obj := ⟨(.type "tuple"), none, (.seq (List.toArray []) 0), List.toArray []⟩
noncomputable def o6x169 (P : Params) : Obj := ⟨.none, none, (.fields (List.toArray [])), List.toArray []⟩
noncomputable def o6x170 (P : Params) : Obj := ⟨(.type "tuple"), none, (.seq (List.toArray [(.str (Str.ofString "self") 431), (.str (Str.ofString "a") 432)]) 0), List.toArray []⟩
noncomputable def o6x171 (P : Params) : Obj := ⟨(.type "tuple"), none, (.seq (List.toArray []) 0), List.toArray []⟩
noncomputable def o6x172 (P : Params) : Obj := ⟨.none, none, (.func ⟨(Str.ofString "set_seq1"), (Str.ofString "SequenceMatcher.set_seq1"), fArgs (mt 5 3), .stmts (fBody (mt 5 3)), fScope (mt 5 3), 0, [], .none, .none, .none, .none, none, .none, .none, 0⟩), List.toArray []⟩
noncomputable def o6x173 (P : Params) : Obj := ⟨(.type "code"), none, (.fields (List.toArray [(.str (Str.ofString "set_seq1") 428), (.str (Str.ofString "SequenceMatcher.set_seq1") 429), (.str (Str.ofString "/claim/cut.py") 430), (.int (184) 0), (.int (2) 0), (.int (0) 0), (.int (0) 0), (.int (3) 0), (.ref 168), (.bool true), (.int (181) 0), (.ref 169), .none, (.ref 170), (.ref 171), (.ref 172), (.int (433) 0), (.int (184) 0), (.str (Str.ofString "/claim/cut.py") 434)])), List.toArray []⟩
noncomputable def o6x174 (P : Params) : Obj := ⟨(.type "function"), none, (.func ⟨(Str.ofString "set_seq1"), (Str.ofString "SequenceMatcher.set_seq1"), fArgs (mt 5 3), .stmts (fBody (mt 5 3)), fScope (mt 5 3), 3, [], .none, .none, (.str (docOf (fBody (mt 5 3))) 435), (.str (Str.ofString "cpy313.difflib") 194), none, (.ref 173), .none, 0⟩), List.toArray []⟩
noncomputable def o6x175 (P : Params) : Obj := ⟨(.type "tuple"), none, (.seq (List.toArray []) 0), List.toArray []⟩
noncomputable def o6x176 (P : Params) : Obj := ⟨.none, none, (.fields (List.toArray [])), List.toArray []⟩
noncomputable def o6x177 (P : Params) : Obj := ⟨(.type "tuple"), none, (.seq (List.toArray [(.str (Str.ofString "self") 440), (.str (Str.ofString "b") 441)]) 0), List.toArray []⟩
noncomputable def o6x178 (P : Params) : Obj := ⟨(.type "tuple"), none, (.seq (List.toArray []) 0), List.toArray []⟩
noncomputable def o6x179 (P : Params) : Obj := ⟨.none, none, (.func ⟨(Str.ofString "set_seq2"), (Str.ofString "SequenceMatcher.set_seq2"), fArgs (mt 5 4), .stmts (fBody (mt 5 4)), fScope (mt 5 4), 0, [], .none, .none, .none, .none, none, .none, .none, 0⟩), List.toArray []⟩
noncomputable def o6x180 (P : Params) : Obj := ⟨(.type "code"), none, (.fields (List.toArray [(.str (Str.ofString "set_seq2") 437), (.str (Str.ofString "SequenceMatcher.set_seq2") 438), (.str (Str.ofString "/claim/cut.py") 439), (.int (209) 0), (.int (2) 0), (.int (0) 0), (.int (0) 0), (.int (3) 0), (.ref 175), (.bool true), (.int (181) 0), (.ref 176), .none, (.ref 177), (.ref 178), (.ref 179), (.int (442) 0), (.int (209) 0), (.str (Str.ofString "/claim/cut.py") 443)])), List.toArray []⟩
noncomputable def o6x181 (P : Params) : Obj := ⟨(.type "function"), none, (.func ⟨(Str.ofString "set_seq2"), (Str.ofString "SequenceMatcher.set_seq2"), fArgs (mt 5 4), .stmts (fBody (mt 5 4)), fScope (mt 5 4), 3, [], .none, .none, (.str (docOf (fBody (mt 5 4))) 444), (.str (Str.ofString "cpy313.difflib") 194), none, (.ref 180), .none, 0⟩), List.toArray []⟩
noncomputable def o6x182 (P : Params) : Obj := ⟨(.type "tuple"), none, (.seq (List.toArray []) 0), List.toArray []⟩
noncomputable def o6x183 (P : Params) : Obj := ⟨.none, none, (.fields (List.toArray [])), List.toArray []⟩
noncomputable def o6x184 (P : Params) : Obj := ⟨(.type "tuple"), none, (.seq (List.toArray [(.str (Str.ofString "self") 449), (.str (Str.ofString "b") 450), (.str (Str.ofString "b2j") 451), (.str (Str.ofString "i") 452), (.str (Str.ofString "elt") 453), (.str (Str.ofString "indices") 454), (.str (Str.ofString "junk") 455), (.str (Str.ofString "isjunk") 456), (.str (Str.ofString "popular") 457), (.str (Str.ofString "n") 458), (.str (Str.ofString "ntest") 459), (.str (Str.ofString "idxs") 460)]) 0), List.toArray []⟩
noncomputable def o6x185 (P : Params) : Obj := ⟨(.type "tuple"), none, (.seq (List.toArray []) 0), List.toArray []⟩
noncomputable def o6x186 (P : Params) : Obj := ⟨.none, none, (.func ⟨(Str.ofString "__chain_b"), (Str.ofString "SequenceMatcher.__chain_b"), fArgs (mt 5 5), .stmts (fBody (mt 5 5)), fScope (mt 5 5), 0, [], .none, .none, .none, .none, none, .none, .none, 0⟩), List.toArray []⟩
noncomputable def o6x187 (P : Params) : Obj := ⟨(.type "code"), none, (.fields (List.toArray [(.str (Str.ofString "__chain_b") 446), (.str (Str.ofString "SequenceMatcher.__chain_b") 447), (.str (Str.ofString "/claim/cut.py") 448), (.int (236) 0), (.int (1) 0), (.int (0) 0), (.int (0) 0), (.int (3) 0), (.ref 182), (.bool true), (.int (181) 0), (.ref 183), .none, (.ref 184), (.ref 185), (.ref 186), (.int (461) 0), (.int (236) 0), (.str (Str.ofString "/claim/cut.py") 462)])), List.toArray []⟩
noncomputable def o6x188 (P : Params) : Obj := ⟨(.type "function"), none, (.func ⟨(Str.ofString "__chain_b"), (Str.ofString "SequenceMatcher.__chain_b"), fArgs (mt 5 5), .stmts (fBody (mt 5 5)), fScope (mt 5 5), 3, [], .none, .none, .none, (.str (Str.ofString "cpy313.difflib") 194), none, (.ref 187), .none, 0⟩), List.toArray []⟩
noncomputable def o6x189 (P : Params) : Obj := ⟨(.type "tuple"), none, (.seq (List.toArray [(.int (0) 464), .none, (.int (0) 465), .none]) 0), List.toArray []⟩
noncomputable def o6x190 (P : Params) : Obj := ⟨(.type "tuple"), none, (.seq (List.toArray []) 0), List.toArray []⟩
noncomputable def o6x191 (P : Params) : Obj := ⟨.none, none, (.fields (List.toArray [])), List.toArray []⟩
noncomputable def o6x192 (P : Params) : Obj := ⟨(.type "tuple"), none, (.seq (List.toArray [(.str (Str.ofString "self") 469), (.str (Str.ofString "alo") 470), (.str (Str.ofString "ahi") 471), (.str (Str.ofString "blo") 472), (.str (Str.ofString "bhi") 473), (.str (Str.ofString "a") 474), (.str (Str.ofString "b") 475), (.str (Str.ofString "b2j") 476), (.str (Str.ofString "isbjunk") 477), (.str (Str.ofString "besti") 478), (.str (Str.ofString "bestj") 479), (.str (Str.ofString "bestsize") 480), (.str (Str.ofString "j2len") 481), (.str (Str.ofString "nothing") 482), (.str (Str.ofString "i") 483), (.str (Str.ofString "j2lenget") 484), (.str (Str.ofString "newj2len") 485), (.str (Str.ofString "j") 486), (.str (Str.ofString "k") 487)]) 0), List.toArray []⟩
noncomputable def o6x193 (P : Params) : Obj := ⟨(.type "tuple"), none, (.seq (List.toArray []) 0), List.toArray []⟩
noncomputable def o6x194 (P : Params) : Obj := ⟨.none, none, (.func ⟨(Str.ofString "find_longest_match"), (Str.ofString "SequenceMatcher.find_longest_match"), fArgs (mt 5 6), .stmts (fBody (mt 5 6)), fScope (mt 5 6), 0, [], .none, .none, .none, .none, none, .none, .none, 0⟩), List.toArray []⟩
noncomputable def o6x195 (P : Params) : Obj := ⟨(.type "code"), none, (.fields (List.toArray [(.str (Str.ofString "find_longest_match") 466), (.str (Str.ofString "SequenceMatcher.find_longest_match") 467), (.str (Str.ofString "/claim/cut.py") 468), (.int (260) 0), (.int (5) 0), (.int (0) 0), (.int (0) 0), (.int (3) 0), (.ref 190), (.bool true), (.int (181) 0), (.ref 191), .none, (.ref 192), (.ref 193), (.ref 194), (.int (488) 0), (.int (260) 0), (.str (Str.ofString "/claim/cut.py") 489)])), List.toArray []⟩
noncomputable def o6x196 (P : Params) : Obj := ⟨(.type "function"), none, (.func ⟨(Str.ofString "find_longest_match"), (Str.ofString "SequenceMatcher.find_longest_match"), fArgs (mt 5 6), .stmts (fBody (mt 5 6)), fScope (mt 5 6), 3, [], (.ref 189), .none, (.str (docOf (fBody (mt 5 6))) 490), (.str (Str.ofString "cpy313.difflib") 194), none, (.ref 195), .none, 0⟩), List.toArray []⟩
noncomputable def o6x197 (P : Params) : Obj := ⟨(.type "tuple"), none, (.seq (List.toArray []) 0), List.toArray []⟩
noncomputable def o6x198 (P : Params) : Obj := ⟨.none, none, (.fields (List.toArray [])), List.toArray []⟩
noncomputable def o6x199 (P : Params) : Obj := ⟨(.type "tuple"), none, (.seq (List.toArray [(.str (Str.ofString "self") 495), (.str (Str.ofString "la") 496), (.str (Str.ofString "lb") 497), (.str (Str.ofString "queue") 498), (.str (Str.ofString "matching_blocks") 499), (.str (Str.ofString "alo") 500), (.str (Str.ofString "ahi") 501), (.str (Str.ofString "blo") 502), (.str (Str.ofString "bhi") 503), (.str (Str.ofString "i") 504), (.str (Str.ofString "j") 505), (.str (Str.ofString "k") 506), (.str (Str.ofString "x") 507), (.str (Str.ofString "i1") 508), (.str (Str.ofString "j1") 509), (.str (Str.ofString "k1") 510), (.str (Str.ofString "non_adjacent") 511), (.str (Str.ofString "i2") 512), (.str (Str.ofString "j2") 513), (.str (Str.ofString "k2") 514)]) 0), List.toArray []⟩
noncomputable def o6x200 (P : Params) : Obj := ⟨(.type "tuple"), none, (.seq (List.toArray []) 0), List.toArray []⟩
noncomputable def o6x201 (P : Params) : Obj := ⟨.none, none, (.func ⟨(Str.ofString "get_matching_blocks"), (Str.ofString "SequenceMatcher.get_matching_blocks"), fArgs (mt 5 7), .stmts (fBody (mt 5 7)), fScope (mt 5 7), 0, [], .none, .none, .none, .none, none, .none, .none, 0⟩), List.toArray []⟩
noncomputable def o6x202 (P : Params) : Obj := ⟨(.type "code"), none, (.fields (List.toArray [(.str (Str.ofString "get_matching_blocks") 492), (.str (Str.ofString "SequenceMatcher.get_matching_blocks") 493), (.str (Str.ofString "/claim/cut.py") 494), (.int (335) 0), (.int (1) 0), (.int (0) 0), (.int (0) 0), (.int (3) 0), (.ref 197), (.bool true), (.int (181) 0), (.ref 198), .none, (.ref 199), (.ref 200), (.ref 201), (.int (515) 0), (.int (335) 0), (.str (Str.ofString "/claim/cut.py") 516)])), List.toArray []⟩
noncomputable def o6x203 (P : Params) : Obj := ⟨(.type "function"), none, (.func ⟨(Str.ofString "get_matching_blocks"), (Str.ofString "SequenceMatcher.get_matching_blocks"), fArgs (mt 5 7), .stmts (fBody (mt 5 7)), fScope (mt 5 7), 3, [], .none, .none, (.str (docOf (fBody (mt 5 7))) 517), (.str (Str.ofString "cpy313.difflib") 194), none, (.ref 202), .none, 0⟩), List.toArray []⟩
noncomputable def o6x204 (P : Params) : Obj := ⟨(.type "tuple"), none, (.seq (List.toArray []) 0), List.toArray []⟩
noncomputable def o6x205 (P : Params) : Obj := ⟨.none, none, (.fields (List.toArray [])), List.toArray []⟩
noncomputable def o6x206 (P : Params) : Obj := ⟨(.type "tuple"), none, (.seq (List.toArray [(.str (Str.ofString "self") 522), (.str (Str.ofString "i") 523), (.str (Str.ofString "j") 524), (.str (Str.ofString "answer") 525), (.str (Str.ofString "ai") 526), (.str (Str.ofString "bj") 527), (.str (Str.ofString "size") 528), (.str (Str.ofString "tag") 529)]) 0), List.toArray []⟩
noncomputable def o6x207 (P : Params) : Obj := ⟨(.type "tuple"), none, (.seq (List.toArray []) 0), List.toArray []⟩
noncomputable def o6x208 (P : Params) : Obj := ⟨.none, none, (.func ⟨(Str.ofString "get_opcodes"), (Str.ofString "SequenceMatcher.get_opcodes"), fArgs (mt 5 8), .stmts (fBody (mt 5 8)), fScope (mt 5 8), 0, [], .none, .none, .none, .none, none, .none, .none, 0⟩), List.toArray []⟩
noncomputable def o6x209 (P : Params) : Obj := ⟨(.type "code"), none, (.fields (List.toArray [(.str (Str.ofString "get_opcodes") 519), (.str (Str.ofString "SequenceMatcher.get_opcodes") 520), (.str (Str.ofString "/claim/cut.py") 521), (.int (383) 0), (.int (1) 0), (.int (0) 0), (.int (0) 0), (.int (3) 0), (.ref 204), (.bool true), (.int (181) 0), (.ref 205), .none, (.ref 206), (.ref 207), (.ref 208), (.int (530) 0), (.int (383) 0), (.str (Str.ofString "/claim/cut.py") 531)])), List.toArray []⟩
noncomputable def o6x210 (P : Params) : Obj := ⟨(.type "function"), none, (.func ⟨(Str.ofString "get_opcodes"), (Str.ofString "SequenceMatcher.get_opcodes"), fArgs (mt 5 8), .stmts (fBody (mt 5 8)), fScope (mt 5 8), 3, [], .none, .none, (.str (docOf (fBody (mt 5 8))) 532), (.str (Str.ofString "cpy313.difflib") 194), none, (.ref 209), .none, 0⟩), List.toArray []⟩
noncomputable def o6x211 (P : Params) : Obj := ⟨(.type "tuple"), none, (.seq (List.toArray [(.int (3) 534)]) 0), List.toArray []⟩
noncomputable def o6x212 (P : Params) : Obj := ⟨(.type "tuple"), none, (.seq (List.toArray []) 0), List.toArray []⟩
noncomputable def o6x213 (P : Params) : Obj := ⟨.none, none, (.fields (List.toArray [])), List.toArray []⟩
noncomputable def o6x214 (P : Params) : Obj := ⟨(.type "tuple"), none, (.seq (List.toArray [(.str (Str.ofString "self") 538), (.str (Str.ofString "n") 539)]) 0), List.toArray []⟩
noncomputable def o6x215 (P : Params) : Obj := ⟨(.type "tuple"), none, (.seq (List.toArray []) 0), List.toArray []⟩
noncomputable def o6x216 (P : Params) : Obj := ⟨.none, none, (.func ⟨(Str.ofString "get_grouped_opcodes"), (Str.ofString "SequenceMatcher.get_grouped_opcodes"), fArgs (mt 5 9), .stmts (fBody (mt 5 9)), fScope (mt 5 9), 0, [], .none, .none, .none, .none, none, .none, .none, 0⟩), List.toArray []⟩
noncomputable def o6x217 (P : Params) : Obj := ⟨(.type "code"), none, (.fields (List.toArray [(.str (Str.ofString "get_grouped_opcodes") 535), (.str (Str.ofString "SequenceMatcher.get_grouped_opcodes") 536), (.str (Str.ofString "/claim/cut.py") 537), (.int (430) 0), (.int (2) 0), (.int (0) 0), (.int (0) 0), (.int (3) 0), (.ref 212), (.bool true), (.int (181) 0), (.ref 213), .none, (.ref 214), (.ref 215), (.ref 216), (.int (540) 0), (.int (430) 0), (.str (Str.ofString "/claim/cut.py") 541)])), List.toArray []⟩
noncomputable def o6x218 (P : Params) : Obj := ⟨(.type "function"), none, (.func ⟨(Str.ofString "get_grouped_opcodes"), (Str.ofString "SequenceMatcher.get_grouped_opcodes"), fArgs (mt 5 9), .stmts (fBody (mt 5 9)), fScope (mt 5 9), 3, [], (.ref 211), .none, .none, (.str (Str.ofString "cpy313.difflib") 194), none, (.ref 217), .none, 0⟩), List.toArray []⟩
noncomputable def o6x219 (P : Params) : Obj := ⟨(.type "tuple"), none, (.seq (List.toArray []) 0), List.toArray []⟩
noncomputable def o6x220 (P : Params) : Obj := ⟨.none, none, (.fields (List.toArray [])), List.toArray []⟩
noncomputable def o6x221 (P : Params) : Obj := ⟨(.type "tuple"), none, (.seq (List.toArray [(.str (Str.ofString "self") 546), (.str (Str.ofString "matches") 547)]) 0), List.toArray []⟩
noncomputable def o6x222 (P : Params) : Obj := ⟨(.type "tuple"), none, (.seq (List.toArray []) 0), List.toArray []⟩
noncomputable def o6x223 (P : Params) : Obj := ⟨.none, none, (.func ⟨(Str.ofString "ratio"), (Str.ofString "SequenceMatcher.ratio"), fArgs (mt 5 10), .stmts (fBody (mt 5 10)), fScope (mt 5 10), 0, [], .none, .none, .none, .none, none, .none, .none, 0⟩), List.toArray []⟩
noncomputable def o6x224 (P : Params) : Obj := ⟨(.type "code"), none, (.fields (List.toArray [(.str (Str.ofString "ratio") 543), (.str (Str.ofString "SequenceMatcher.ratio") 544), (.str (Str.ofString "/claim/cut.py") 545), (.int (433) 0), (.int (1) 0), (.int (0) 0), (.int (0) 0), (.int (3) 0), (.ref 219), (.bool true), (.int (181) 0), (.ref 220), .none, (.ref 221), (.ref 222), (.ref 223), (.int (548) 0), (.int (433) 0), (.str (Str.ofString "/claim/cut.py") 549)])), List.toArray []⟩
noncomputable def o6x225 (P : Params) : Obj := ⟨(.type "function"), none, (.func ⟨(Str.ofString "ratio"), (Str.ofString "SequenceMatcher.ratio"), fArgs (mt 5 10), .stmts (fBody (mt 5 10)), fScope (mt 5 10), 3, [], .none, .none, (.str (docOf (fBody (mt 5 10))) 550), (.str (Str.ofString "cpy313.difflib") 194), none, (.ref 224), .none, 0⟩), List.toArray []⟩
noncomputable def o6x226 (P : Params) : Obj := ⟨(.type "tuple"), none, (.seq (List.toArray []) 0), List.toArray []⟩
noncomputable def o6x227 (P : Params) : Obj := ⟨.none, none, (.fields (List.toArray [])), List.toArray []⟩
noncomputable def o6x228 (P : Params) : Obj := ⟨(.type "tuple"), none, (.seq (List.toArray [(.str (Str.ofString "self") 555), (.str (Str.ofString "fullbcount") 556), (.str (Str.ofString "elt") 557), (.str (Str.ofString "avail") 558), (.str (Str.ofString "availhas") 559), (.str (Str.ofString "matches") 560), (.str (Str.ofString "numb") 561)]) 0), List.toArray []⟩
noncomputable def o6x229 (P : Params) : Obj := ⟨(.type "tuple"), none, (.seq (List.toArray []) 0), List.toArray []⟩
noncomputable def o6x230 (P : Params) : Obj := ⟨.none, none, (.func ⟨(Str.ofString "quick_ratio"), (Str.ofString "SequenceMatcher.quick_ratio"), fArgs (mt 5 11), .stmts (fBody (mt 5 11)), fScope (mt 5 11), 0, [], .none, .none, .none, .none, none, .none, .none, 0⟩), List.toArray []⟩
noncomputable def o6x231 (P : Params) : Obj := ⟨(.type "code"), none, (.fields (List.toArray [(.str (Str.ofString "quick_ratio") 552), (.str (Str.ofString "SequenceMatcher.quick_ratio") 553), (.str (Str.ofString "/claim/cut.py") 554), (.int (457) 0), (.int (1) 0), (.int (0) 0), (.int (0) 0), (.int (3) 0), (.ref 226), (.bool true), (.int (181) 0), (.ref 227), .none, (.ref 228), (.ref 229), (.ref 230), (.int (562) 0), (.int (457) 0), (.str (Str.ofString "/claim/cut.py") 563)])), List.toArray []⟩
noncomputable def o6x232 (P : Params) : Obj := ⟨(.type "function"), none, (.func ⟨(Str.ofString "quick_ratio"), (Str.ofString "SequenceMatcher.quick_ratio"), fArgs (mt 5 11), .stmts (fBody (mt 5 11)), fScope (mt 5 11), 3, [], .none, .none, (.str (docOf (fBody (mt 5 11))) 564), (.str (Str.ofString "cpy313.difflib") 194), none, (.ref 231), .none, 0⟩), List.toArray []⟩
noncomputable def o6x233 (P : Params) : Obj := ⟨(.type "tuple"), none, (.seq (List.toArray []) 0), List.toArray []⟩
noncomputable def o6x234 (P : Params) : Obj := ⟨.none, none, (.fields (List.toArray [])), List.toArray []⟩
noncomputable def o6x235 (P : Params) : Obj := ⟨(.type "tuple"), none, (.seq (List.toArray [(.str (Str.ofString "self") 569), (.str (Str.ofString "la") 570), (.str (Str.ofString "lb") 571)]) 0), List.toArray []⟩
noncomputable def o6x236 (P : Params) : Obj := ⟨(.type "tuple"), none, (.seq (List.toArray []) 0), List.toArray []⟩
noncomputable def o6x237 (P : Params) : Obj := ⟨.none, none, (.func ⟨(Str.ofString "real_quick_ratio"), (Str.ofString "SequenceMatcher.real_quick_ratio"), fArgs (mt 5 12), .stmts (fBody (mt 5 12)), fScope (mt 5 12), 0, [], .none, .none, .none, .none, none, .none, .none, 0⟩), List.toArray []⟩
noncomputable def o6x238 (P : Params) : Obj := ⟨(.type "code"), none, (.fields (List.toArray [(.str (Str.ofString "real_quick_ratio") 566), (.str (Str.ofString "SequenceMatcher.real_quick_ratio") 567), (.str (Str.ofString "/claim/cut.py") 568), (.int (480) 0), (.int (1) 0), (.int (0) 0), (.int (0) 0), (.int (3) 0), (.ref 233), (.bool true), (.int (181) 0), (.ref 234), .none, (.ref 235), (.ref 236), (.ref 237), (.int (572) 0), (.int (480) 0), (.str (Str.ofString "/claim/cut.py") 573)])), List.toArray []⟩
noncomputable def o6x239 (P : Params) : Obj := ⟨(.type "function"), none, (.func ⟨(Str.ofString "real_quick_ratio"), (Str.ofString "SequenceMatcher.real_quick_ratio"), fArgs (mt 5 12), .stmts (fBody (mt 5 12)), fScope (mt 5 12), 3, [], .none, .none, (.str (docOf (fBody (mt 5 12))) 574), (.str (Str.ofString "cpy313.difflib") 194), none, (.ref 238), .none, 0⟩), List.toArray []⟩
noncomputable def o6x240 (P : Params) : Obj := ⟨(.type "tuple"), none, (.seq (List.toArray [(.str (Str.ofString "a") 576), (.str (Str.ofString "autojunk") 577), (.str (Str.ofString "b") 578), (.str (Str.ofString "b2j") 579), (.str (Str.ofString "bjunk") 580), (.str (Str.ofString "bpopular") 581), (.str (Str.ofString "fullbcount") 582), (.str (Str.ofString "isjunk") 583), (.str (Str.ofString "matching_blocks") 584), (.str (Str.ofString "opcodes") 585)]) 0), List.toArray []⟩
noncomputable def o6x241 (P : Params) : Obj := ⟨(.type "dict"), none, (.dict (List.toArray [⟨PyData.keyHash P (Str.ofString "__module__"), (.str (Str.ofString "__module__") 396), (.str (Str.ofString "cpy313.difflib") 194)⟩, ⟨PyData.keyHash P (Str.ofString "__firstlineno__"), (.str (Str.ofString "__firstlineno__") 400), (.int (70) 399)⟩, ⟨PyData.keyHash P (Str.ofString "__doc__"), (.str (Str.ofString "__doc__") 402), (.str (docOf (cBody (st 5))) 401)⟩, ⟨PyData.keyHash P (Str.ofString "__init__"), (.str (Str.ofString "__init__") 417), (.ref 160)⟩, ⟨PyData.keyHash P (Str.ofString "set_seqs"), (.str (Str.ofString "set_seqs") 427), (.ref 167)⟩, ⟨PyData.keyHash P (Str.ofString "set_seq1"), (.str (Str.ofString "set_seq1") 436), (.ref 174)⟩, ⟨PyData.keyHash P (Str.ofString "set_seq2"), (.str (Str.ofString "set_seq2") 445), (.ref 181)⟩, ⟨PyData.keyHash P (Str.ofString "_SequenceMatcher__chain_b"), (.str (Str.ofString "_SequenceMatcher__chain_b") 463), (.ref 188)⟩, ⟨PyData.keyHash P (Str.ofString "find_longest_match"), (.str (Str.ofString "find_longest_match") 491), (.ref 196)⟩, ⟨PyData.keyHash P (Str.ofString "get_matching_blocks"), (.str (Str.ofString "get_matching_blocks") 518), (.ref 203)⟩, ⟨PyData.keyHash P (Str.ofString "get_opcodes"), (.str (Str.ofString "get_opcodes") 533), (.ref 210)⟩, ⟨PyData.keyHash P (Str.ofString "get_grouped_opcodes"), (.str (Str.ofString "get_grouped_opcodes") 542), (.ref 218)⟩, ⟨PyData.keyHash P (Str.ofString "ratio"), (.str (Str.ofString "ratio") 551), (.ref 225)⟩, ⟨PyData.keyHash P (Str.ofString "quick_ratio"), (.str (Str.ofString "quick_ratio") 565), (.ref 232)⟩, ⟨PyData.keyHash P (Str.ofString "real_quick_ratio"), (.str (Str.ofString "real_quick_ratio") 575), (.ref 239)⟩, ⟨PyData.keyHash P (Str.ofString "__static_attributes__"), (.str (Str.ofString "__static_attributes__") 586), (.ref 240)⟩, ⟨PyData.keyHash P (Str.ofString "__dict__"), (.str (Str.ofString "__dict__") 588), (.ref 243)⟩, ⟨PyData.keyHash P (Str.ofString "__weakref__"), (.str (Str.ofString "__weakref__") 590), (.ref 244)⟩]) 3), List.toArray []⟩
noncomputable def o6x242 (P : Params) : Obj := ⟨(.type "type"), none, (.cls ⟨(Str.ofString "SequenceMatcher"), [(.type "object")], [(.ref 242), (.type "object")], 241, (Str.ofString "SequenceMatcher"), true, [], [], false, none, false⟩), List.toArray [none, none, (some (.str (Str.ofString "SequenceMatcher") 389)), (some (.str (Str.ofString "SequenceMatcher") 397)), (some (.builtin "object.__new__")), (some (.bool true))]⟩
noncomputable def o6x243 (P : Params) : Obj := ⟨(.type "getset_descriptor"), none, (.fields (List.toArray [(.str (Str.ofString "__dict__") 587), (.ref 242), (.builtin "function.__dict__"), (.builtin "function.__dict__#set")])), List.toArray []⟩
noncomputable def o6x244 (P : Params) : Obj := ⟨(.type "getset_descriptor"), none, (.fields (List.toArray [(.str (Str.ofString "__weakref__") 589), (.ref 242), (.builtin "ExceptionGroup.__weakref__"), .none])), List.toArray []⟩
noncomputable def o6x245 (P : Params) : Obj := ⟨(.type "super"), none, (.fields (List.toArray [(.ref 242), (.ref 242), (.ref 242)])), List.toArray []⟩
noncomputable def o6x246 (P : Params) : Obj := ⟨(.type "builtin_function_or_method"), none, (.fields (List.toArray [(.builtin "object.__init_subclass__"), (.ref 242)])), List.toArray []⟩
noncomputable def bt109 (P : Params) : BT := (.node (o3x63 P) (.node (o4x127 P) .nil .nil) (.node (o6x191 P) .nil .nil))
noncomputable def bt110 (P : Params) : BT := (.node (o4x95 P) (.node (o6x159 P) .nil .nil) (.node (o6x223 P) .nil .nil))
noncomputable def bt111 (P : Params) : BT := (.node (o4x79 P) (.node (o5x143 P) .nil .nil) (.node (o6x207 P) .nil .nil))
noncomputable def bt112 (P : Params) : BT := (.node (o4x111 P) (.node (o6x175 P) .nil .nil) (.node (o6x239 P) .nil .nil))
noncomputable def bt113 (P : Params) : BT := (.node (o4x71 P) (.node (o4x135 P) .nil .nil) (.node (o6x199 P) .nil .nil))
noncomputable def bt114 (P : Params) : BT := (.node (o4x103 P) (.node (o6x167 P) .nil .nil) (.node (o6x231 P) .nil .nil))
noncomputable def bt115 (P : Params) : BT := (.node (o4x87 P) (.node (o6x151 P) .nil .nil) (.node (o6x215 P) .nil .nil))
noncomputable def bt116 (P : Params) : BT := (.node (o4x119 P) (.node (o6x183 P) .nil .nil) .nil)
noncomputable def bt117 (P : Params) : BT := (.node (PySem.W.boot_o_7 P) (.node (o3x15 P) (.node (o3x31 P) (bt109 P) (bt110 P)) (.node (o3x47 P) (bt111 P) (bt112 P))) (.node (o3x23 P) (.node (o3x39 P) (bt113 P) (bt114 P)) (.node (o3x55 P) (bt115 P) (bt116 P))))
noncomputable def bt118 (P : Params) : BT := (.node (o4x67 P) (.node (o4x131 P) .nil .nil) (.node (o6x195 P) .nil .nil))
noncomputable def bt119 (P : Params) : BT := (.node (o4x99 P) (.node (o6x163 P) .nil .nil) (.node (o6x227 P) .nil .nil))
noncomputable def bt120 (P : Params) : BT := (.node (o4x83 P) (.node (o6x147 P) .nil .nil) (.node (o6x211 P) .nil .nil))
noncomputable def bt121 (P : Params) : BT := (.node (o4x115 P) (.node (o6x179 P) .nil .nil) (.node (o6x243 P) .nil .nil))
noncomputable def bt122 (P : Params) : BT := (.node (o4x75 P) (.node (o5x139 P) .nil .nil) (.node (o6x203 P) .nil .nil))
noncomputable def bt123 (P : Params) : BT := (.node (o4x107 P) (.node (o6x171 P) .nil .nil) (.node (o6x235 P) .nil .nil))
noncomputable def bt124 (P : Params) : BT := (.node (o4x91 P) (.node (o6x155 P) .nil .nil) (.node (o6x219 P) .nil .nil))
noncomputable def bt125 (P : Params) : BT := (.node (o4x123 P) (.node (o6x187 P) .nil .nil) .nil)
noncomputable def bt126 (P : Params) : BT := (.node (o0x11 P) (.node (o3x19 P) (.node (o3x35 P) (bt118 P) (bt119 P)) (.node (o3x51 P) (bt120 P) (bt121 P))) (.node (o3x27 P) (.node (o3x43 P) (bt122 P) (bt123 P)) (.node (o3x59 P) (bt124 P) (bt125 P))))
noncomputable def bt127 (P : Params) : BT := (.node (o4x65 P) (.node (o4x129 P) .nil .nil) (.node (o6x193 P) .nil .nil))
noncomputable def bt128 (P : Params) : BT := (.node (o4x97 P) (.node (o6x161 P) .nil .nil) (.node (o6x225 P) .nil .nil))
noncomputable def bt129 (P : Params) : BT := (.node (o4x81 P) (.node (o5x145 P) .nil .nil) (.node (o6x209 P) .nil .nil))
noncomputable def bt130 (P : Params) : BT := (.node (o4x113 P) (.node (o6x177 P) .nil .nil) (.node (o6x241 P) .nil .nil))
noncomputable def bt131 (P : Params) : BT := (.node (o4x73 P) (.node (o4x137 P) .nil .nil) (.node (o6x201 P) .nil .nil))
noncomputable def bt132 (P : Params) : BT := (.node (o4x105 P) (.node (o6x169 P) .nil .nil) (.node (o6x233 P) .nil .nil))
noncomputable def bt133 (P : Params) : BT := (.node (o4x89 P) (.node (o6x153 P) .nil .nil) (.node (o6x217 P) .nil .nil))
noncomputable def bt134 (P : Params) : BT := (.node (o4x121 P) (.node (o6x185 P) .nil .nil) .nil)
noncomputable def bt135 (P : Params) : BT := (.node (PySem.W.boot_o_9 P) (.node (o3x17 P) (.node (o3x33 P) (bt127 P) (bt128 P)) (.node (o3x49 P) (bt129 P) (bt130 P))) (.node (o3x25 P) (.node (o3x41 P) (bt131 P) (bt132 P)) (.node (o3x57 P) (bt133 P) (bt134 P))))
noncomputable def bt136 (P : Params) : BT := (.node (o4x69 P) (.node (o4x133 P) .nil .nil) (.node (o6x197 P) .nil .nil))
noncomputable def bt137 (P : Params) : BT := (.node (o4x101 P) (.node (o6x165 P) .nil .nil) (.node (o6x229 P) .nil .nil))
noncomputable def bt138 (P : Params) : BT := (.node (o4x85 P) (.node (o6x149 P) .nil .nil) (.node (o6x213 P) .nil .nil))
noncomputable def bt139 (P : Params) : BT := (.node (o4x117 P) (.node (o6x181 P) .nil .nil) (.node (o6x245 P) .nil .nil))
noncomputable def bt140 (P : Params) : BT := (.node (o4x77 P) (.node (o5x141 P) .nil .nil) (.node (o6x205 P) .nil .nil))
noncomputable def bt141 (P : Params) : BT := (.node (o4x109 P) (.node (o6x173 P) .nil .nil) (.node (o6x237 P) .nil .nil))
noncomputable def bt142 (P : Params) : BT := (.node (o4x93 P) (.node (o6x157 P) .nil .nil) (.node (o6x221 P) .nil .nil))
noncomputable def bt143 (P : Params) : BT := (.node (o4x125 P) (.node (o6x189 P) .nil .nil) .nil)
noncomputable def bt144 (P : Params) : BT := (.node (o0x13 P) (.node (o3x21 P) (.node (o3x37 P) (bt136 P) (bt137 P)) (.node (o3x53 P) (bt138 P) (bt139 P))) (.node (o3x29 P) (.node (o3x45 P) (bt140 P) (bt141 P)) (.node (o3x61 P) (bt142 P) (bt143 P))))
noncomputable def bt145 (P : Params) : BT := (.node (o3x64 P) (.node (o4x128 P) .nil .nil) (.node (o6x192 P) .nil .nil))
noncomputable def bt146 (P : Params) : BT := (.node (o4x96 P) (.node (o6x160 P) .nil .nil) (.node (o6x224 P) .nil .nil))
noncomputable def bt147 (P : Params) : BT := (.node (o4x80 P) (.node (o5x144 P) .nil .nil) (.node (o6x208 P) .nil .nil))
noncomputable def bt148 (P : Params) : BT := (.node (o4x112 P) (.node (o6x176 P) .nil .nil) (.node (o6x240 P) .nil .nil))
noncomputable def bt149 (P : Params) : BT := (.node (o4x72 P) (.node (o4x136 P) .nil .nil) (.node (o6x200 P) .nil .nil))
noncomputable def bt150 (P : Params) : BT := (.node (o4x104 P) (.node (o6x168 P) .nil .nil) (.node (o6x232 P) .nil .nil))
noncomputable def bt151 (P : Params) : BT := (.node (o4x88 P) (.node (o6x152 P) .nil .nil) (.node (o6x216 P) .nil .nil))
noncomputable def bt152 (P : Params) : BT := (.node (o4x120 P) (.node (o6x184 P) .nil .nil) .nil)
noncomputable def bt153 (P : Params) : BT := (.node (PySem.W.boot_o_8 P) (.node (o3x16 P) (.node (o3x32 P) (bt145 P) (bt146 P)) (.node (o3x48 P) (bt147 P) (bt148 P))) (.node (o3x24 P) (.node (o3x40 P) (bt149 P) (bt150 P)) (.node (o3x56 P) (bt151 P) (bt152 P))))
noncomputable def bt154 (P : Params) : BT := (.node (o4x68 P) (.node (o4x132 P) .nil .nil) (.node (o6x196 P) .nil .nil))
noncomputable def bt155 (P : Params) : BT := (.node (o4x100 P) (.node (o6x164 P) .nil .nil) (.node (o6x228 P) .nil .nil))
noncomputable def bt156 (P : Params) : BT := (.node (o4x84 P) (.node (o6x148 P) .nil .nil) (.node (o6x212 P) .nil .nil))
noncomputable def bt157 (P : Params) : BT := (.node (o4x116 P) (.node (o6x180 P) .nil .nil) (.node (o6x244 P) .nil .nil))
noncomputable def bt158 (P : Params) : BT := (.node (o4x76 P) (.node (o5x140 P) .nil .nil) (.node (o6x204 P) .nil .nil))
noncomputable def bt159 (P : Params) : BT := (.node (o4x108 P) (.node (o6x172 P) .nil .nil) (.node (o6x236 P) .nil .nil))
noncomputable def bt160 (P : Params) : BT := (.node (o4x92 P) (.node (o6x156 P) .nil .nil) (.node (o6x220 P) .nil .nil))
noncomputable def bt161 (P : Params) : BT := (.node (o4x124 P) (.node (o6x188 P) .nil .nil) .nil)
noncomputable def bt162 (P : Params) : BT := (.node (o6x12 P) (.node (o3x20 P) (.node (o3x36 P) (bt154 P) (bt155 P)) (.node (o3x52 P) (bt156 P) (bt157 P))) (.node (o3x28 P) (.node (o3x44 P) (bt158 P) (bt159 P)) (.node (o3x60 P) (bt160 P) (bt161 P))))
noncomputable def bt163 (P : Params) : BT := (.node (o4x66 P) (.node (o4x130 P) .nil .nil) (.node (o6x194 P) .nil .nil))
noncomputable def bt164 (P : Params) : BT := (.node (o4x98 P) (.node (o6x162 P) .nil .nil) (.node (o6x226 P) .nil .nil))
noncomputable def bt165 (P : Params) : BT := (.node (o4x82 P) (.node (o6x146 P) .nil .nil) (.node (o6x210 P) .nil .nil))
noncomputable def bt166 (P : Params) : BT := (.node (o4x114 P) (.node (o6x178 P) .nil .nil) (.node (o6x242 P) .nil .nil))
noncomputable def bt167 (P : Params) : BT := (.node (o4x74 P) (.node (o4x138 P) .nil .nil) (.node (o6x202 P) .nil .nil))
noncomputable def bt168 (P : Params) : BT := (.node (o4x106 P) (.node (o6x170 P) .nil .nil) (.node (o6x234 P) .nil .nil))
noncomputable def bt169 (P : Params) : BT := (.node (o4x90 P) (.node (o6x154 P) .nil .nil) (.node (o6x218 P) .nil .nil))
noncomputable def bt170 (P : Params) : BT := (.node (o4x122 P) (.node (o6x186 P) .nil .nil) .nil)
noncomputable def bt171 (P : Params) : BT := (.node (PySem.W.boot_o_10 P) (.node (o3x18 P) (.node (o3x34 P) (bt163 P) (bt164 P)) (.node (o3x50 P) (bt165 P) (bt166 P))) (.node (o3x26 P) (.node (o3x42 P) (bt167 P) (bt168 P)) (.node (o3x58 P) (bt169 P) (bt170 P))))
noncomputable def bt172 (P : Params) : BT := (.node (o4x70 P) (.node (o4x134 P) .nil .nil) (.node (o6x198 P) .nil .nil))
noncomputable def bt173 (P : Params) : BT := (.node (o4x102 P) (.node (o6x166 P) .nil .nil) (.node (o6x230 P) .nil .nil))
noncomputable def bt174 (P : Params) : BT := (.node (o4x86 P) (.node (o6x150 P) .nil .nil) (.node (o6x214 P) .nil .nil))
noncomputable def bt175 (P : Params) : BT := (.node (o4x118 P) (.node (o6x182 P) .nil .nil) (.node (o6x246 P) .nil .nil))
noncomputable def bt176 (P : Params) : BT := (.node (o4x78 P) (.node (o5x142 P) .nil .nil) (.node (o6x206 P) .nil .nil))
noncomputable def bt177 (P : Params) : BT := (.node (o4x110 P) (.node (o6x174 P) .nil .nil) (.node (o6x238 P) .nil .nil))
noncomputable def bt178 (P : Params) : BT := (.node (o4x94 P) (.node (o6x158 P) .nil .nil) (.node (o6x222 P) .nil .nil))
noncomputable def bt179 (P : Params) : BT := (.node (o4x126 P) (.node (o6x190 P) .nil .nil) .nil)
noncomputable def bt180 (P : Params) : BT := (.node (o0x14 P) (.node (o3x22 P) (.node (o3x38 P) (bt172 P) (bt173 P)) (.node (o3x54 P) (bt174 P) (bt175 P))) (.node (o3x30 P) (.node (o3x46 P) (bt176 P) (bt177 P)) (.node (o3x62 P) (bt178 P) (bt179 P))))
noncomputable def bt181 (P : Params) : BT := (.node (PySem.W.boot_o_0 P) (.node (PySem.W.boot_o_1 P) (.node (o6x3 P) (bt117 P) (bt126 P)) (.node (PySem.W.boot_o_5 P) (bt135 P) (bt144 P))) (.node (PySem.W.boot_o_2 P) (.node (PySem.W.boot_o_4 P) (bt153 P) (bt162 P)) (.node (PySem.W.boot_o_6 P) (bt171 P) (bt180 P))))
noncomputable def T6 (P : Params) : BT := bt181 P
noncomputable def S6 (w : World) (os : OsState) : SharedT := ⟨T6 w.params, 247, bootLife, #[], boot_drawn, 593, os⟩
noncomputable def o7x3 (P : Params) : Obj := ⟨(.type "dict"), none, (.dict (List.toArray [⟨PyData.keyHash P (Str.ofString "__name__"), (.str (Str.ofString "__name__") 165), (.str (Str.ofString "cpy313.difflib") 194)⟩, ⟨PyData.keyHash P (Str.ofString "__doc__"), (.str (Str.ofString "__doc__") 166), .none⟩, ⟨PyData.keyHash P (Str.ofString "__package__"), (.str (Str.ofString "__package__") 167), .none⟩, ⟨PyData.keyHash P (Str.ofString "__loader__"), (.str (Str.ofString "__loader__") 168), (.builtin "__main__.__loader__#opaque")⟩, ⟨PyData.keyHash P (Str.ofString "__spec__"), (.str (Str.ofString "__spec__") 169), .none⟩, ⟨PyData.keyHash P (Str.ofString "__annotations__"), (.str (Str.ofString "__annotations__") 170), (.ref 6)⟩, ⟨PyData.keyHash P (Str.ofString "__builtins__"), (.str (Str.ofString "__builtins__") 171), (.ref 4)⟩, ⟨PyData.keyHash P (Str.ofString "__file__"), (.str (Str.ofString "__file__") 173), (.str (Str.ofString "/claim/cut.py") 172)⟩, ⟨PyData.keyHash P (Str.ofString "__cached__"), (.str (Str.ofString "__cached__") 174), .none⟩, ⟨PyData.keyHash P (Str.ofString "_wall"), (.str (Str.ofString "_wall") 193), (.ref 21)⟩, ⟨PyData.keyHash P (Str.ofString "_tuplegetter"), (.str (Str.ofString "_tuplegetter") 252), (.ref 60)⟩, ⟨PyData.keyHash P (Str.ofString "Match"), (.str (Str.ofString "Match") 380), (.ref 135)⟩, ⟨PyData.keyHash P (Str.ofString "_calculate_ratio"), (.str (Str.ofString "_calculate_ratio") 388), (.ref 145)⟩, ⟨PyData.keyHash P (Str.ofString "SequenceMatcher"), (.str (Str.ofString "SequenceMatcher") 592), (.ref 242)⟩, ⟨PyData.keyHash P (Str.ofString "_keep_original_ws"), (.str (Str.ofString "_keep_original_ws") 601), (.ref 253)⟩]) 15), List.toArray []⟩
noncomputable def o7x12 (P : Params) : Obj := ⟨.none, none, (.fields (List.toArray [(.int (1) 0), (.int (0) 0), (.ref 20), (.int (5) 0), (.int (0) 0), (.ref 27), (.int (23) 0), (.int (0) 0), (.ref 71), (.int (66) 0), (.int (0) 0), (.ref 144), (.int (70) 0), (.int (0) 0), (.ref 151), (.int (488) 0), (.int (0) 0), (.ref 252)])), List.toArray []⟩
noncomputable def o7x247 (P : Params) : Obj := ⟨(.type "tuple"), none, (.seq (List.toArray []) 0), List.toArray []⟩
noncomputable def o7x248 (P : Params) : Obj := ⟨.none, none, (.fields (List.toArray [])), List.toArray []⟩
noncomputable def o7x249 (P : Params) : Obj := ⟨(.type "tuple"), none, (.seq (List.toArray [(.str (Str.ofString "s") 596), (.str (Str.ofString "tag_s") 597)]) 0), List.toArray []⟩
noncomputable def o7x250 (P : Params) : Obj := ⟨(.type "tuple"), none, (.seq (List.toArray []) 0), List.toArray []⟩
noncomputable def o7x251 (P : Params) : Obj := ⟨.none, none, (.func ⟨(Str.ofString "_keep_original_ws"), (Str.ofString "_keep_original_ws"), fArgs (st 6), .stmts (fBody (st 6)), fScope (st 6), 0, [], .none, .none, .none, .none, none, .none, .none, 0⟩), List.toArray []⟩
noncomputable def o7x252 (P : Params) : Obj := ⟨(.type "code"), none, (.fields (List.toArray [(.str (Str.ofString "_keep_original_ws") 593), (.str (Str.ofString "_keep_original_ws") 594), (.str (Str.ofString "/claim/cut.py") 595), (.int (488) 0), (.int (2) 0), (.int (0) 0), (.int (0) 0), (.int (3) 0), (.ref 247), (.bool true), (.int (181) 0), (.ref 248), .none, (.ref 249), (.ref 250), (.ref 251), (.int (598) 0), (.int (488) 0), (.str (Str.ofString "/claim/cut.py") 599)])), List.toArray []⟩
noncomputable def o7x253 (P : Params) : Obj := ⟨(.type "function"), none, (.func ⟨(Str.ofString "_keep_original_ws"), (Str.ofString "_keep_original_ws"), fArgs (st 6), .stmts (fBody (st 6)), fScope (st 6), 3, [], .none, .none, (.str (docOf (fBody (st 6))) 600), (.str (Str.ofString "cpy313.difflib") 194), none, (.ref 252), .none, 0⟩), List.toArray []⟩
noncomputable def bt182 (P : Params) : BT := (.node (o4x119 P) (.node (o6x183 P) .nil .nil) (.node (o7x247 P) .nil .nil))
noncomputable def bt183 (P : Params) : BT := (.node (PySem.W.boot_o_7 P) (.node (o3x15 P) (.node (o3x31 P) (bt109 P) (bt110 P)) (.node (o3x47 P) (bt111 P) (bt112 P))) (.node (o3x23 P) (.node (o3x39 P) (bt113 P) (bt114 P)) (.node (o3x55 P) (bt115 P) (bt182 P))))
noncomputable def bt184 (P : Params) : BT := (.node (o4x123 P) (.node (o6x187 P) .nil .nil) (.node (o7x251 P) .nil .nil))
noncomputable def bt185 (P : Params) : BT := (.node (o0x11 P) (.node (o3x19 P) (.node (o3x35 P) (bt118 P) (bt119 P)) (.node (o3x51 P) (bt120 P) (bt121 P))) (.node (o3x27 P) (.node (o3x43 P) (bt122 P) (bt123 P)) (.node (o3x59 P) (bt124 P) (bt184 P))))
noncomputable def bt186 (P : Params) : BT := (.node (o4x121 P) (.node (o6x185 P) .nil .nil) (.node (o7x249 P) .nil .nil))
noncomputable def bt187 (P : Params) : BT := (.node (PySem.W.boot_o_9 P) (.node (o3x17 P) (.node (o3x33 P) (bt127 P) (bt128 P)) (.node (o3x49 P) (bt129 P) (bt130 P))) (.node (o3x25 P) (.node (o3x41 P) (bt131 P) (bt132 P)) (.node (o3x57 P) (bt133 P) (bt186 P))))
noncomputable def bt188 (P : Params) : BT := (.node (o4x125 P) (.node (o6x189 P) .nil .nil) (.node (o7x253 P) .nil .nil))
noncomputable def bt189 (P : Params) : BT := (.node (o0x13 P) (.node (o3x21 P) (.node (o3x37 P) (bt136 P) (bt137 P)) (.node (o3x53 P) (bt138 P) (bt139 P))) (.node (o3x29 P) (.node (o3x45 P) (bt140 P) (bt141 P)) (.node (o3x61 P) (bt142 P) (bt188 P))))
noncomputable def bt190 (P : Params) : BT := (.node (o4x120 P) (.node (o6x184 P) .nil .nil) (.node (o7x248 P) .nil .nil))
noncomputable def bt191 (P : Params) : BT := (.node (PySem.W.boot_o_8 P) (.node (o3x16 P) (.node (o3x32 P) (bt145 P) (bt146 P)) (.node (o3x48 P) (bt147 P) (bt148 P))) (.node (o3x24 P) (.node (o3x40 P) (bt149 P) (bt150 P)) (.node (o3x56 P) (bt151 P) (bt190 P))))
noncomputable def bt192 (P : Params) : BT := (.node (o4x124 P) (.node (o6x188 P) .nil .nil) (.node (o7x252 P) .nil .nil))
noncomputable def bt193 (P : Params) : BT := (.node (o7x12 P) (.node (o3x20 P) (.node (o3x36 P) (bt154 P) (bt155 P)) (.node (o3x52 P) (bt156 P) (bt157 P))) (.node (o3x28 P) (.node (o3x44 P) (bt158 P) (bt159 P)) (.node (o3x60 P) (bt160 P) (bt192 P))))
noncomputable def bt194 (P : Params) : BT := (.node (o4x122 P) (.node (o6x186 P) .nil .nil) (.node (o7x250 P) .nil .nil))
noncomputable def bt195 (P : Params) : BT := (.node (PySem.W.boot_o_10 P) (.node (o3x18 P) (.node (o3x34 P) (bt163 P) (bt164 P)) (.node (o3x50 P) (bt165 P) (bt166 P))) (.node (o3x26 P) (.node (o3x42 P) (bt167 P) (bt168 P)) (.node (o3x58 P) (bt169 P) (bt194 P))))
noncomputable def bt196 (P : Params) : BT := (.node (PySem.W.boot_o_0 P) (.node (PySem.W.boot_o_1 P) (.node (o7x3 P) (bt183 P) (bt185 P)) (.node (PySem.W.boot_o_5 P) (bt187 P) (bt189 P))) (.node (PySem.W.boot_o_2 P) (.node (PySem.W.boot_o_4 P) (bt191 P) (bt193 P)) (.node (PySem.W.boot_o_6 P) (bt195 P) (bt180 P))))
noncomputable def T7 (P : Params) : BT := bt196 P
noncomputable def S7 (w : World) (os : OsState) : SharedT := ⟨T7 w.params, 254, bootLife, #[], boot_drawn, 602, os⟩
noncomputable def o8x3 (P : Params) : Obj := ⟨(.type "dict"), none, (.dict (List.toArray [⟨PyData.keyHash P (Str.ofString "__name__"), (.str (Str.ofString "__name__") 165), (.str (Str.ofString "cpy313.difflib") 194)⟩, ⟨PyData.keyHash P (Str.ofString "__doc__"), (.str (Str.ofString "__doc__") 166), .none⟩, ⟨PyData.keyHash P (Str.ofString "__package__"), (.str (Str.ofString "__package__") 167), .none⟩, ⟨PyData.keyHash P (Str.ofString "__loader__"), (.str (Str.ofString "__loader__") 168), (.builtin "__main__.__loader__#opaque")⟩, ⟨PyData.keyHash P (Str.ofString "__spec__"), (.str (Str.ofString "__spec__") 169), .none⟩, ⟨PyData.keyHash P (Str.ofString "__annotations__"), (.str (Str.ofString "__annotations__") 170), (.ref 6)⟩, ⟨PyData.keyHash P (Str.ofString "__builtins__"), (.str (Str.ofString "__builtins__") 171), (.ref 4)⟩, ⟨PyData.keyHash P (Str.ofString "__file__"), (.str (Str.ofString "__file__") 173), (.str (Str.ofString "/claim/cut.py") 172)⟩, ⟨PyData.keyHash P (Str.ofString "__cached__"), (.str (Str.ofString "__cached__") 174), .none⟩, ⟨PyData.keyHash P (Str.ofString "_wall"), (.str (Str.ofString "_wall") 193), (.ref 21)⟩, ⟨PyData.keyHash P (Str.ofString "_tuplegetter"), (.str (Str.ofString "_tuplegetter") 252), (.ref 60)⟩, ⟨PyData.keyHash P (Str.ofString "Match"), (.str (Str.ofString "Match") 380), (.ref 135)⟩, ⟨PyData.keyHash P (Str.ofString "_calculate_ratio"), (.str (Str.ofString "_calculate_ratio") 388), (.ref 145)⟩, ⟨PyData.keyHash P (Str.ofString "SequenceMatcher"), (.str (Str.ofString "SequenceMatcher") 592), (.ref 242)⟩, ⟨PyData.keyHash P (Str.ofString "_keep_original_ws"), (.str (Str.ofString "_keep_original_ws") 601), (.ref 253)⟩, ⟨PyData.keyHash P (Str.ofString "Differ"), (.str (Str.ofString "Differ") 743), (.ref 313)⟩]) 16), List.toArray []⟩
noncomputable def o8x12 (P : Params) : Obj := ⟨.none, none, (.fields (List.toArray [(.int (1) 0), (.int (0) 0), (.ref 20), (.int (5) 0), (.int (0) 0), (.ref 27), (.int (23) 0), (.int (0) 0), (.ref 71), (.int (66) 0), (.int (0) 0), (.ref 144), (.int (70) 0), (.int (0) 0), (.ref 151), (.int (488) 0), (.int (0) 0), (.ref 252), (.int (491) 0), (.int (0) 0), (.ref 259)])), List.toArray []⟩
noncomputable def o8x254 (P : Params) : Obj := ⟨(.type "tuple"), none, (.seq (List.toArray []) 0), List.toArray []⟩
noncomputable def o8x255 (P : Params) : Obj := ⟨(.type "builtin_function_or_method"), none, (.fields (List.toArray [(.builtin "type.__prepare__"), (.type "type")])), List.toArray []⟩
noncomputable def o8x256 (P : Params) : Obj := ⟨(.type "dict"), none, (.dict (List.toArray [⟨PyData.keyHash P (Str.ofString "__module__"), (.str (Str.ofString "__module__") 609), (.str (Str.ofString "cpy313.difflib") 194)⟩, ⟨PyData.keyHash P (Str.ofString "__qualname__"), (.str (Str.ofString "__qualname__") 611), (.str (Str.ofString "Differ") 610)⟩, ⟨PyData.keyHash P (Str.ofString "__firstlineno__"), (.str (Str.ofString "__firstlineno__") 613), (.int (491) 612)⟩, ⟨PyData.keyHash P (Str.ofString "__doc__"), (.str (Str.ofString "__doc__") 615), (.str (docOf (cBody (st 7))) 614)⟩, ⟨PyData.keyHash P (Str.ofString "__init__"), (.str (Str.ofString "__init__") 626), (.ref 268)⟩, ⟨PyData.keyHash P (Str.ofString "compare"), (.str (Str.ofString "compare") 643), (.ref 275)⟩, ⟨PyData.keyHash P (Str.ofString "_dump"), (.str (Str.ofString "_dump") 656), (.ref 282)⟩, ⟨PyData.keyHash P (Str.ofString "_plain_replace"), (.str (Str.ofString "_plain_replace") 672), (.ref 289)⟩, ⟨PyData.keyHash P (Str.ofString "_fancy_replace"), (.str (Str.ofString "_fancy_replace") 708), (.ref 296)⟩, ⟨PyData.keyHash P (Str.ofString "_fancy_helper"), (.str (Str.ofString "_fancy_helper") 722), (.ref 303)⟩, ⟨PyData.keyHash P (Str.ofString "_qformat"), (.str (Str.ofString "_qformat") 734), (.ref 310)⟩, ⟨PyData.keyHash P (Str.ofString "__static_attributes__"), (.str (Str.ofString "__static_attributes__") 737), (.ref 311)⟩]) 12), List.toArray []⟩
noncomputable def o8x257 (P : Params) : Obj := ⟨(.type "tuple"), none, (.seq (List.toArray []) 0), List.toArray []⟩
noncomputable def o8x258 (P : Params) : Obj := ⟨.none, none, (.fields (List.toArray [(.int (577) 0), (.int (4) 0), (.ref 267), (.int (599) 0), (.int (4) 0), (.ref 274), (.int (638) 0), (.int (4) 0), (.ref 281), (.int (643) 0), (.int (4) 0), (.ref 288), (.int (654) 0), (.int (4) 0), (.ref 295), (.int (718) 0), (.int (4) 0), (.ref 302), (.int (729) 0), (.int (4) 0), (.ref 309)])), List.toArray []⟩
noncomputable def o8x259 (P : Params) : Obj := ⟨(.type "code"), none, (.fields (List.toArray [(.str (Str.ofString "Differ") 604), (.str (Str.ofString "Differ") 605), (.str (Str.ofString "/claim/cut.py") 606), (.int (491) 0), (.int (0) 0), (.int (0) 0), (.int (0) 0), (.int (0) 0), (.ref 257), (.bool false), (.int (181) 0), (.ref 258), .none, .none, .none, .none, (.int (607) 0), (.int (491) 0), (.str (Str.ofString "/claim/cut.py") 608)])), List.toArray []⟩
noncomputable def o8x260 (P : Params) : Obj := ⟨(.type "frame"), none, .plain, List.toArray [(some (.ref 259)), (some (.ref 3)), (some (.ref 256)), none, (some (.str (Str.ofString "cpy313.difflib") 194)), none, (some (.ref 0))]⟩
noncomputable def o8x261 (P : Params) : Obj := ⟨(.type "tuple"), none, (.seq (List.toArray [.none, .none]) 0), List.toArray []⟩
noncomputable def o8x262 (P : Params) : Obj := ⟨(.type "tuple"), none, (.seq (List.toArray []) 0), List.toArray []⟩
noncomputable def o8x263 (P : Params) : Obj := ⟨.none, none, (.fields (List.toArray [])), List.toArray []⟩
noncomputable def o8x264 (P : Params) : Obj := ⟨(.type "tuple"), none, (.seq (List.toArray [(.str (Str.ofString "self") 620), (.str (Str.ofString "linejunk") 621), (.str (Str.ofString "charjunk") 622)]) 0), List.toArray []⟩
noncomputable def o8x265 (P : Params) : Obj := ⟨(.type "tuple"), none, (.seq (List.toArray []) 0), List.toArray []⟩
noncomputable def o8x266 (P : Params) : Obj := ⟨.none, none, (.func ⟨(Str.ofString "__init__"), (Str.ofString "Differ.__init__"), fArgs (mt 7 1), .stmts (fBody (mt 7 1)), fScope (mt 7 1), 0, [], .none, .none, .none, .none, none, .none, .none, 0⟩), List.toArray []⟩
noncomputable def o8x267 (P : Params) : Obj := ⟨(.type "code"), none, (.fields (List.toArray [(.str (Str.ofString "__init__") 617), (.str (Str.ofString "Differ.__init__") 618), (.str (Str.ofString "/claim/cut.py") 619), (.int (577) 0), (.int (3) 0), (.int (0) 0), (.int (0) 0), (.int (3) 0), (.ref 262), (.bool true), (.int (181) 0), (.ref 263), .none, (.ref 264), (.ref 265), (.ref 266), (.int (623) 0), (.int (577) 0), (.str (Str.ofString "/claim/cut.py") 624)])), List.toArray []⟩
noncomputable def o8x268 (P : Params) : Obj := ⟨(.type "function"), none, (.func ⟨(Str.ofString "__init__"), (Str.ofString "Differ.__init__"), fArgs (mt 7 1), .stmts (fBody (mt 7 1)), fScope (mt 7 1), 3, [], (.ref 261), .none, (.str (docOf (fBody (mt 7 1))) 625), (.str (Str.ofString "cpy313.difflib") 194), none, (.ref 267), .none, 0⟩), List.toArray []⟩
noncomputable def o8x269 (P : Params) : Obj := ⟨(.type "tuple"), none, (.seq (List.toArray []) 0), List.toArray []⟩
noncomputable def o8x270 (P : Params) : Obj := ⟨.none, none, (.fields (List.toArray [])), List.toArray []⟩
noncomputable def o8x271 (P : Params) : Obj := ⟨(.type "tuple"), none, (.seq (List.toArray [(.str (Str.ofString "self") 630), (.str (Str.ofString "a") 631), (.str (Str.ofString "b") 632), (.str (Str.ofString "cruncher") 633), (.str (Str.ofString "tag") 634), (.str (Str.ofString "alo") 635), (.str (Str.ofString "ahi") 636), (.str (Str.ofString "blo") 637), (.str (Str.ofString "bhi") 638), (.str (Str.ofString "g") 639)]) 0), List.toArray []⟩
noncomputable def o8x272 (P : Params) : Obj := ⟨(.type "tuple"), none, (.seq (List.toArray []) 0), List.toArray []⟩
noncomputable def o8x273 (P : Params) : Obj := ⟨.none, none, (.func ⟨(Str.ofString "compare"), (Str.ofString "Differ.compare"), fArgs (mt 7 2), .stmts (fBody (mt 7 2)), fScope (mt 7 2), 0, [], .none, .none, .none, .none, none, .none, .none, 0⟩), List.toArray []⟩
noncomputable def o8x274 (P : Params) : Obj := ⟨(.type "code"), none, (.fields (List.toArray [(.str (Str.ofString "compare") 627), (.str (Str.ofString "Differ.compare") 628), (.str (Str.ofString "/claim/cut.py") 629), (.int (599) 0), (.int (3) 0), (.int (0) 0), (.int (0) 0), (.int (35) 0), (.ref 269), (.bool true), (.int (181) 0), (.ref 270), .none, (.ref 271), (.ref 272), (.ref 273), (.int (640) 0), (.int (599) 0), (.str (Str.ofString "/claim/cut.py") 641)])), List.toArray []⟩
noncomputable def o8x275 (P : Params) : Obj := ⟨(.type "function"), none, (.func ⟨(Str.ofString "compare"), (Str.ofString "Differ.compare"), fArgs (mt 7 2), .stmts (fBody (mt 7 2)), fScope (mt 7 2), 3, [], .none, .none, (.str (docOf (fBody (mt 7 2))) 642), (.str (Str.ofString "cpy313.difflib") 194), none, (.ref 274), .none, 0⟩), List.toArray []⟩
noncomputable def o8x276 (P : Params) : Obj := ⟨(.type "tuple"), none, (.seq (List.toArray []) 0), List.toArray []⟩
noncomputable def o8x277 (P : Params) : Obj := ⟨.none, none, (.fields (List.toArray [])), List.toArray []⟩
noncomputable def o8x278 (P : Params) : Obj := ⟨(.type "tuple"), none, (.seq (List.toArray [(.str (Str.ofString "self") 647), (.str (Str.ofString "tag") 648), (.str (Str.ofString "x") 649), (.str (Str.ofString "lo") 650), (.str (Str.ofString "hi") 651), (.str (Str.ofString "i") 652)]) 0), List.toArray []⟩
noncomputable def o8x279 (P : Params) : Obj := ⟨(.type "tuple"), none, (.seq (List.toArray []) 0), List.toArray []⟩
noncomputable def o8x280 (P : Params) : Obj := ⟨.none, none, (.func ⟨(Str.ofString "_dump"), (Str.ofString "Differ._dump"), fArgs (mt 7 3), .stmts (fBody (mt 7 3)), fScope (mt 7 3), 0, [], .none, .none, .none, .none, none, .none, .none, 0⟩), List.toArray []⟩
noncomputable def o8x281 (P : Params) : Obj := ⟨(.type "code"), none, (.fields (List.toArray [(.str (Str.ofString "_dump") 644), (.str (Str.ofString "Differ._dump") 645), (.str (Str.ofString "/claim/cut.py") 646), (.int (638) 0), (.int (5) 0), (.int (0) 0), (.int (0) 0), (.int (35) 0), (.ref 276), (.bool true), (.int (181) 0), (.ref 277), .none, (.ref 278), (.ref 279), (.ref 280), (.int (653) 0), (.int (638) 0), (.str (Str.ofString "/claim/cut.py") 654)])), List.toArray []⟩
noncomputable def o8x282 (P : Params) : Obj := ⟨(.type "function"), none, (.func ⟨(Str.ofString "_dump"), (Str.ofString "Differ._dump"), fArgs (mt 7 3), .stmts (fBody (mt 7 3)), fScope (mt 7 3), 3, [], .none, .none, (.str (Str.ofString "Generate comparison results for a same-tagged range.") 655), (.str (Str.ofString "cpy313.difflib") 194), none, (.ref 281), .none, 0⟩), List.toArray []⟩
noncomputable def o8x283 (P : Params) : Obj := ⟨(.type "tuple"), none, (.seq (List.toArray []) 0), List.toArray []⟩
noncomputable def o8x284 (P : Params) : Obj := ⟨.none, none, (.fields (List.toArray [])), List.toArray []⟩
noncomputable def o8x285 (P : Params) : Obj := ⟨(.type "tuple"), none, (.seq (List.toArray [(.str (Str.ofString "self") 660), (.str (Str.ofString "a") 661), (.str (Str.ofString "alo") 662), (.str (Str.ofString "ahi") 663), (.str (Str.ofString "b") 664), (.str (Str.ofString "blo") 665), (.str (Str.ofString "bhi") 666), (.str (Str.ofString "first") 667), (.str (Str.ofString "second") 668), (.str (Str.ofString "g") 669)]) 0), List.toArray []⟩
noncomputable def o8x286 (P : Params) : Obj := ⟨(.type "tuple"), none, (.seq (List.toArray []) 0), List.toArray []⟩
noncomputable def o8x287 (P : Params) : Obj := ⟨.none, none, (.func ⟨(Str.ofString "_plain_replace"), (Str.ofString "Differ._plain_replace"), fArgs (mt 7 4), .stmts (fBody (mt 7 4)), fScope (mt 7 4), 0, [], .none, .none, .none, .none, none, .none, .none, 0⟩), List.toArray []⟩
noncomputable def o8x288 (P : Params) : Obj := ⟨(.type "code"), none, (.fields (List.toArray [(.str (Str.ofString "_plain_replace") 657), (.str (Str.ofString "Differ._plain_replace") 658), (.str (Str.ofString "/claim/cut.py") 659), (.int (643) 0), (.int (7) 0), (.int (0) 0), (.int (0) 0), (.int (35) 0), (.ref 283), (.bool true), (.int (181) 0), (.ref 284), .none, (.ref 285), (.ref 286), (.ref 287), (.int (670) 0), (.int (643) 0), (.str (Str.ofString "/claim/cut.py") 671)])), List.toArray []⟩
noncomputable def o8x289 (P : Params) : Obj := ⟨(.type "function"), none, (.func ⟨(Str.ofString "_plain_replace"), (Str.ofString "Differ._plain_replace"), fArgs (mt 7 4), .stmts (fBody (mt 7 4)), fScope (mt 7 4), 3, [], .none, .none, .none, (.str (Str.ofString "cpy313.difflib") 194), none, (.ref 288), .none, 0⟩), List.toArray []⟩
noncomputable def o8x290 (P : Params) : Obj := ⟨(.type "tuple"), none, (.seq (List.toArray []) 0), List.toArray []⟩
noncomputable def o8x291 (P : Params) : Obj := ⟨.none, none, (.fields (List.toArray [])), List.toArray []⟩
noncomputable def o8x292 (P : Params) : Obj := ⟨(.type "tuple"), none, (.seq (List.toArray [(.str (Str.ofString "self") 676), (.str (Str.ofString "a") 677), (.str (Str.ofString "alo") 678), (.str (Str.ofString "ahi") 679), (.str (Str.ofString "b") 680), (.str (Str.ofString "blo") 681), (.str (Str.ofString "bhi") 682), (.str (Str.ofString "best_ratio") 683), (.str (Str.ofString "cutoff") 684), (.str (Str.ofString "cruncher") 685), (.str (Str.ofString "eqi") 686), (.str (Str.ofString "eqj") 687), (.str (Str.ofString "j") 688), (.str (Str.ofString "bj") 689), (.str (Str.ofString "i") 690), (.str (Str.ofString "ai") 691), (.str (Str.ofString "best_i") 692), (.str (Str.ofString "best_j") 693), (.str (Str.ofString "aelt") 694), (.str (Str.ofString "belt") 695), (.str (Str.ofString "atags") 696), (.str (Str.ofString "btags") 697), (.str (Str.ofString "tag") 698), (.str (Str.ofString "ai1") 699), (.str (Str.ofString "ai2") 700), (.str (Str.ofString "bj1") 701), (.str (Str.ofString "bj2") 702), (.str (Str.ofString "la") 703), (.str (Str.ofString "lb") 704)]) 0), List.toArray []⟩
noncomputable def o8x293 (P : Params) : Obj := ⟨(.type "tuple"), none, (.seq (List.toArray []) 0), List.toArray []⟩
noncomputable def o8x294 (P : Params) : Obj := ⟨.none, none, (.func ⟨(Str.ofString "_fancy_replace"), (Str.ofString "Differ._fancy_replace"), fArgs (mt 7 5), .stmts (fBody (mt 7 5)), fScope (mt 7 5), 0, [], .none, .none, .none, .none, none, .none, .none, 0⟩), List.toArray []⟩
noncomputable def o8x295 (P : Params) : Obj := ⟨(.type "code"), none, (.fields (List.toArray [(.str (Str.ofString "_fancy_replace") 673), (.str (Str.ofString "Differ._fancy_replace") 674), (.str (Str.ofString "/claim/cut.py") 675), (.int (654) 0), (.int (7) 0), (.int (0) 0), (.int (0) 0), (.int (35) 0), (.ref 290), (.bool true), (.int (181) 0), (.ref 291), .none, (.ref 292), (.ref 293), (.ref 294), (.int (705) 0), (.int (654) 0), (.str (Str.ofString "/claim/cut.py") 706)])), List.toArray []⟩
noncomputable def o8x296 (P : Params) : Obj := ⟨(.type "function"), none, (.func ⟨(Str.ofString "_fancy_replace"), (Str.ofString "Differ._fancy_replace"), fArgs (mt 7 5), .stmts (fBody (mt 7 5)), fScope (mt 7 5), 3, [], .none, .none, (.str (docOf (fBody (mt 7 5))) 707), (.str (Str.ofString "cpy313.difflib") 194), none, (.ref 295), .none, 0⟩), List.toArray []⟩
noncomputable def o8x297 (P : Params) : Obj := ⟨(.type "tuple"), none, (.seq (List.toArray []) 0), List.toArray []⟩
noncomputable def o8x298 (P : Params) : Obj := ⟨.none, none, (.fields (List.toArray [])), List.toArray []⟩
noncomputable def o8x299 (P : Params) : Obj := ⟨(.type "tuple"), none, (.seq (List.toArray [(.str (Str.ofString "self") 712), (.str (Str.ofString "a") 713), (.str (Str.ofString "alo") 714), (.str (Str.ofString "ahi") 715), (.str (Str.ofString "b") 716), (.str (Str.ofString "blo") 717), (.str (Str.ofString "bhi") 718), (.str (Str.ofString "g") 719)]) 0), List.toArray []⟩
noncomputable def o8x300 (P : Params) : Obj := ⟨(.type "tuple"), none, (.seq (List.toArray []) 0), List.toArray []⟩
noncomputable def o8x301 (P : Params) : Obj := ⟨.none, none, (.func ⟨(Str.ofString "_fancy_helper"), (Str.ofString "Differ._fancy_helper"), fArgs (mt 7 6), .stmts (fBody (mt 7 6)), fScope (mt 7 6), 0, [], .none, .none, .none, .none, none, .none, .none, 0⟩), List.toArray []⟩
noncomputable def o8x302 (P : Params) : Obj := ⟨(.type "code"), none, (.fields (List.toArray [(.str (Str.ofString "_fancy_helper") 709), (.str (Str.ofString "Differ._fancy_helper") 710), (.str (Str.ofString "/claim/cut.py") 711), (.int (718) 0), (.int (7) 0), (.int (0) 0), (.int (0) 0), (.int (35) 0), (.ref 297), (.bool true), (.int (181) 0), (.ref 298), .none, (.ref 299), (.ref 300), (.ref 301), (.int (720) 0), (.int (718) 0), (.str (Str.ofString "/claim/cut.py") 721)])), List.toArray []⟩
noncomputable def o8x303 (P : Params) : Obj := ⟨(.type "function"), none, (.func ⟨(Str.ofString "_fancy_helper"), (Str.ofString "Differ._fancy_helper"), fArgs (mt 7 6), .stmts (fBody (mt 7 6)), fScope (mt 7 6), 3, [], .none, .none, .none, (.str (Str.ofString "cpy313.difflib") 194), none, (.ref 302), .none, 0⟩), List.toArray []⟩
noncomputable def o8x304 (P : Params) : Obj := ⟨(.type "tuple"), none, (.seq (List.toArray []) 0), List.toArray []⟩
noncomputable def o8x305 (P : Params) : Obj := ⟨.none, none, (.fields (List.toArray [])), List.toArray []⟩
noncomputable def o8x306 (P : Params) : Obj := ⟨(.type "tuple"), none, (.seq (List.toArray [(.str (Str.ofString "self") 726), (.str (Str.ofString "aline") 727), (.str (Str.ofString "bline") 728), (.str (Str.ofString "atags") 729), (.str (Str.ofString "btags") 730)]) 0), List.toArray []⟩
noncomputable def o8x307 (P : Params) : Obj := ⟨(.type "tuple"), none, (.seq (List.toArray []) 0), List.toArray []⟩
noncomputable def o8x308 (P : Params) : Obj := ⟨.none, none, (.func ⟨(Str.ofString "_qformat"), (Str.ofString "Differ._qformat"), fArgs (mt 7 7), .stmts (fBody (mt 7 7)), fScope (mt 7 7), 0, [], .none, .none, .none, .none, none, .none, .none, 0⟩), List.toArray []⟩
noncomputable def o8x309 (P : Params) : Obj := ⟨(.type "code"), none, (.fields (List.toArray [(.str (Str.ofString "_qformat") 723), (.str (Str.ofString "Differ._qformat") 724), (.str (Str.ofString "/claim/cut.py") 725), (.int (729) 0), (.int (5) 0), (.int (0) 0), (.int (0) 0), (.int (35) 0), (.ref 304), (.bool true), (.int (181) 0), (.ref 305), .none, (.ref 306), (.ref 307), (.ref 308), (.int (731) 0), (.int (729) 0), (.str (Str.ofString "/claim/cut.py") 732)])), List.toArray []⟩
noncomputable def o8x310 (P : Params) : Obj := ⟨(.type "function"), none, (.func ⟨(Str.ofString "_qformat"), (Str.ofString "Differ._qformat"), fArgs (mt 7 7), .stmts (fBody (mt 7 7)), fScope (mt 7 7), 3, [], .none, .none, (.str (docOf (fBody (mt 7 7))) 733), (.str (Str.ofString "cpy313.difflib") 194), none, (.ref 309), .none, 0⟩), List.toArray []⟩
noncomputable def o8x311 (P : Params) : Obj := ⟨(.type "tuple"), none, (.seq (List.toArray [(.str (Str.ofString "charjunk") 735), (.str (Str.ofString "linejunk") 736)]) 0), List.toArray []⟩
noncomputable def o8x312 (P : Params) : Obj := ⟨(.type "dict"), none, (.dict (List.toArray [⟨PyData.keyHash P (Str.ofString "__module__"), (.str (Str.ofString "__module__") 609), (.str (Str.ofString "cpy313.difflib") 194)⟩, ⟨PyData.keyHash P (Str.ofString "__firstlineno__"), (.str (Str.ofString "__firstlineno__") 613), (.int (491) 612)⟩, ⟨PyData.keyHash P (Str.ofString "__doc__"), (.str (Str.ofString "__doc__") 615), (.str (docOf (cBody (st 7))) 614)⟩, ⟨PyData.keyHash P (Str.ofString "__init__"), (.str (Str.ofString "__init__") 626), (.ref 268)⟩, ⟨PyData.keyHash P (Str.ofString "compare"), (.str (Str.ofString "compare") 643), (.ref 275)⟩, ⟨PyData.keyHash P (Str.ofString "_dump"), (.str (Str.ofString "_dump") 656), (.ref 282)⟩, ⟨PyData.keyHash P (Str.ofString "_plain_replace"), (.str (Str.ofString "_plain_replace") 672), (.ref 289)⟩, ⟨PyData.keyHash P (Str.ofString "_fancy_replace"), (.str (Str.ofString "_fancy_replace") 708), (.ref 296)⟩, ⟨PyData.keyHash P (Str.ofString "_fancy_helper"), (.str (Str.ofString "_fancy_helper") 722), (.ref 303)⟩, ⟨PyData.keyHash P (Str.ofString "_qformat"), (.str (Str.ofString "_qformat") 734), (.ref 310)⟩, ⟨PyData.keyHash P (Str.ofString "__static_attributes__"), (.str (Str.ofString "__static_attributes__") 737), (.ref 311)⟩, ⟨PyData.keyHash P (Str.ofString "__dict__"), (.str (Str.ofString "__dict__") 739), (.ref 314)⟩, ⟨PyData.keyHash P (Str.ofString "__weakref__"), (.str (Str.ofString "__weakref__") 741), (.ref 315)⟩]) 3), List.toArray []⟩
noncomputable def o8x313 (P : Params) : Obj := ⟨(.type "type"), none, (.cls ⟨(Str.ofString "Differ"), [(.type "object")], [(.ref 313), (.type "object")], 312, (Str.ofString "Differ"), true, [], [], false, none, false⟩), List.toArray [none, none, (some (.str (Str.ofString "Differ") 602)), (some (.str (Str.ofString "Differ") 610)), (some (.builtin "object.__new__")), (some (.bool true))]⟩
noncomputable def o8x314 (P : Params) : Obj := ⟨(.type "getset_descriptor"), none, (.fields (List.toArray [(.str (Str.ofString "__dict__") 738), (.ref 313), (.builtin "function.__dict__"), (.builtin "function.__dict__#set")])), List.toArray []⟩
noncomputable def o8x315 (P : Params) : Obj := ⟨(.type "getset_descriptor"), none, (.fields (List.toArray [(.str (Str.ofString "__weakref__") 740), (.ref 313), (.builtin "ExceptionGroup.__weakref__"), .none])), List.toArray []⟩
noncomputable def o8x316 (P : Params) : Obj := ⟨(.type "super"), none, (.fields (List.toArray [(.ref 313), (.ref 313), (.ref 313)])), List.toArray []⟩
noncomputable def o8x317 (P : Params) : Obj := ⟨(.type "builtin_function_or_method"), none, (.fields (List.toArray [(.builtin "object.__init_subclass__"), (.ref 313)])), List.toArray []⟩
noncomputable def bt197 (P : Params) : BT := (.node (o3x63 P) (.node (o4x127 P) (.node (o8x255 P) .nil .nil) .nil) (.node (o6x191 P) .nil .nil))
noncomputable def bt198 (P : Params) : BT := (.node (o4x95 P) (.node (o6x159 P) (.node (o8x287 P) .nil .nil) .nil) (.node (o6x223 P) .nil .nil))
noncomputable def bt199 (P : Params) : BT := (.node (o4x79 P) (.node (o5x143 P) (.node (o8x271 P) .nil .nil) .nil) (.node (o6x207 P) .nil .nil))
noncomputable def bt200 (P : Params) : BT := (.node (o4x111 P) (.node (o6x175 P) (.node (o8x303 P) .nil .nil) .nil) (.node (o6x239 P) .nil .nil))
noncomputable def bt201 (P : Params) : BT := (.node (o4x71 P) (.node (o4x135 P) (.node (o8x263 P) .nil .nil) .nil) (.node (o6x199 P) .nil .nil))
noncomputable def bt202 (P : Params) : BT := (.node (o4x103 P) (.node (o6x167 P) (.node (o8x295 P) .nil .nil) .nil) (.node (o6x231 P) .nil .nil))
noncomputable def bt203 (P : Params) : BT := (.node (o4x87 P) (.node (o6x151 P) (.node (o8x279 P) .nil .nil) .nil) (.node (o6x215 P) .nil .nil))
noncomputable def bt204 (P : Params) : BT := (.node (o4x119 P) (.node (o6x183 P) (.node (o8x311 P) .nil .nil) .nil) (.node (o7x247 P) .nil .nil))
noncomputable def bt205 (P : Params) : BT := (.node (PySem.W.boot_o_7 P) (.node (o3x15 P) (.node (o3x31 P) (bt197 P) (bt198 P)) (.node (o3x47 P) (bt199 P) (bt200 P))) (.node (o3x23 P) (.node (o3x39 P) (bt201 P) (bt202 P)) (.node (o3x55 P) (bt203 P) (bt204 P))))
noncomputable def bt206 (P : Params) : BT := (.node (o4x67 P) (.node (o4x131 P) (.node (o8x259 P) .nil .nil) .nil) (.node (o6x195 P) .nil .nil))
noncomputable def bt207 (P : Params) : BT := (.node (o4x99 P) (.node (o6x163 P) (.node (o8x291 P) .nil .nil) .nil) (.node (o6x227 P) .nil .nil))
noncomputable def bt208 (P : Params) : BT := (.node (o4x83 P) (.node (o6x147 P) (.node (o8x275 P) .nil .nil) .nil) (.node (o6x211 P) .nil .nil))
noncomputable def bt209 (P : Params) : BT := (.node (o4x115 P) (.node (o6x179 P) (.node (o8x307 P) .nil .nil) .nil) (.node (o6x243 P) .nil .nil))
noncomputable def bt210 (P : Params) : BT := (.node (o4x75 P) (.node (o5x139 P) (.node (o8x267 P) .nil .nil) .nil) (.node (o6x203 P) .nil .nil))
noncomputable def bt211 (P : Params) : BT := (.node (o4x107 P) (.node (o6x171 P) (.node (o8x299 P) .nil .nil) .nil) (.node (o6x235 P) .nil .nil))
noncomputable def bt212 (P : Params) : BT := (.node (o4x91 P) (.node (o6x155 P) (.node (o8x283 P) .nil .nil) .nil) (.node (o6x219 P) .nil .nil))
noncomputable def bt213 (P : Params) : BT := (.node (o4x123 P) (.node (o6x187 P) (.node (o8x315 P) .nil .nil) .nil) (.node (o7x251 P) .nil .nil))
noncomputable def bt214 (P : Params) : BT := (.node (o0x11 P) (.node (o3x19 P) (.node (o3x35 P) (bt206 P) (bt207 P)) (.node (o3x51 P) (bt208 P) (bt209 P))) (.node (o3x27 P) (.node (o3x43 P) (bt210 P) (bt211 P)) (.node (o3x59 P) (bt212 P) (bt213 P))))
noncomputable def bt215 (P : Params) : BT := (.node (o4x65 P) (.node (o4x129 P) (.node (o8x257 P) .nil .nil) .nil) (.node (o6x193 P) .nil .nil))
noncomputable def bt216 (P : Params) : BT := (.node (o4x97 P) (.node (o6x161 P) (.node (o8x289 P) .nil .nil) .nil) (.node (o6x225 P) .nil .nil))
noncomputable def bt217 (P : Params) : BT := (.node (o4x81 P) (.node (o5x145 P) (.node (o8x273 P) .nil .nil) .nil) (.node (o6x209 P) .nil .nil))
noncomputable def bt218 (P : Params) : BT := (.node (o4x113 P) (.node (o6x177 P) (.node (o8x305 P) .nil .nil) .nil) (.node (o6x241 P) .nil .nil))
noncomputable def bt219 (P : Params) : BT := (.node (o4x73 P) (.node (o4x137 P) (.node (o8x265 P) .nil .nil) .nil) (.node (o6x201 P) .nil .nil))
noncomputable def bt220 (P : Params) : BT := (.node (o4x105 P) (.node (o6x169 P) (.node (o8x297 P) .nil .nil) .nil) (.node (o6x233 P) .nil .nil))
noncomputable def bt221 (P : Params) : BT := (.node (o4x89 P) (.node (o6x153 P) (.node (o8x281 P) .nil .nil) .nil) (.node (o6x217 P) .nil .nil))
noncomputable def bt222 (P : Params) : BT := (.node (o4x121 P) (.node (o6x185 P) (.node (o8x313 P) .nil .nil) .nil) (.node (o7x249 P) .nil .nil))
noncomputable def bt223 (P : Params) : BT := (.node (PySem.W.boot_o_9 P) (.node (o3x17 P) (.node (o3x33 P) (bt215 P) (bt216 P)) (.node (o3x49 P) (bt217 P) (bt218 P))) (.node (o3x25 P) (.node (o3x41 P) (bt219 P) (bt220 P)) (.node (o3x57 P) (bt221 P) (bt222 P))))
noncomputable def bt224 (P : Params) : BT := (.node (o4x69 P) (.node (o4x133 P) (.node (o8x261 P) .nil .nil) .nil) (.node (o6x197 P) .nil .nil))
noncomputable def bt225 (P : Params) : BT := (.node (o4x101 P) (.node (o6x165 P) (.node (o8x293 P) .nil .nil) .nil) (.node (o6x229 P) .nil .nil))
noncomputable def bt226 (P : Params) : BT := (.node (o4x85 P) (.node (o6x149 P) (.node (o8x277 P) .nil .nil) .nil) (.node (o6x213 P) .nil .nil))
noncomputable def bt227 (P : Params) : BT := (.node (o4x117 P) (.node (o6x181 P) (.node (o8x309 P) .nil .nil) .nil) (.node (o6x245 P) .nil .nil))
noncomputable def bt228 (P : Params) : BT := (.node (o4x77 P) (.node (o5x141 P) (.node (o8x269 P) .nil .nil) .nil) (.node (o6x205 P) .nil .nil))
noncomputable def bt229 (P : Params) : BT := (.node (o4x109 P) (.node (o6x173 P) (.node (o8x301 P) .nil .nil) .nil) (.node (o6x237 P) .nil .nil))
noncomputable def bt230 (P : Params) : BT := (.node (o4x93 P) (.node (o6x157 P) (.node (o8x285 P) .nil .nil) .nil) (.node (o6x221 P) .nil .nil))
noncomputable def bt231 (P : Params) : BT := (.node (o4x125 P) (.node (o6x189 P) (.node (o8x317 P) .nil .nil) .nil) (.node (o7x253 P) .nil .nil))
noncomputable def bt232 (P : Params) : BT := (.node (o0x13 P) (.node (o3x21 P) (.node (o3x37 P) (bt224 P) (bt225 P)) (.node (o3x53 P) (bt226 P) (bt227 P))) (.node (o3x29 P) (.node (o3x45 P) (bt228 P) (bt229 P)) (.node (o3x61 P) (bt230 P) (bt231 P))))
noncomputable def bt233 (P : Params) : BT := (.node (o3x64 P) (.node (o4x128 P) (.node (o8x256 P) .nil .nil) .nil) (.node (o6x192 P) .nil .nil))
noncomputable def bt234 (P : Params) : BT := (.node (o4x96 P) (.node (o6x160 P) (.node (o8x288 P) .nil .nil) .nil) (.node (o6x224 P) .nil .nil))
noncomputable def bt235 (P : Params) : BT := (.node (o4x80 P) (.node (o5x144 P) (.node (o8x272 P) .nil .nil) .nil) (.node (o6x208 P) .nil .nil))
noncomputable def bt236 (P : Params) : BT := (.node (o4x112 P) (.node (o6x176 P) (.node (o8x304 P) .nil .nil) .nil) (.node (o6x240 P) .nil .nil))
noncomputable def bt237 (P : Params) : BT := (.node (o4x72 P) (.node (o4x136 P) (.node (o8x264 P) .nil .nil) .nil) (.node (o6x200 P) .nil .nil))
noncomputable def bt238 (P : Params) : BT := (.node (o4x104 P) (.node (o6x168 P) (.node (o8x296 P) .nil .nil) .nil) (.node (o6x232 P) .nil .nil))
noncomputable def bt239 (P : Params) : BT := (.node (o4x88 P) (.node (o6x152 P) (.node (o8x280 P) .nil .nil) .nil) (.node (o6x216 P) .nil .nil))
noncomputable def bt240 (P : Params) : BT := (.node (o4x120 P) (.node (o6x184 P) (.node (o8x312 P) .nil .nil) .nil) (.node (o7x248 P) .nil .nil))
noncomputable def bt241 (P : Params) : BT := (.node (PySem.W.boot_o_8 P) (.node (o3x16 P) (.node (o3x32 P) (bt233 P) (bt234 P)) (.node (o3x48 P) (bt235 P) (bt236 P))) (.node (o3x24 P) (.node (o3x40 P) (bt237 P) (bt238 P)) (.node (o3x56 P) (bt239 P) (bt240 P))))
noncomputable def bt242 (P : Params) : BT := (.node (o4x68 P) (.node (o4x132 P) (.node (o8x260 P) .nil .nil) .nil) (.node (o6x196 P) .nil .nil))
noncomputable def bt243 (P : Params) : BT := (.node (o4x100 P) (.node (o6x164 P) (.node (o8x292 P) .nil .nil) .nil) (.node (o6x228 P) .nil .nil))
noncomputable def bt244 (P : Params) : BT := (.node (o4x84 P) (.node (o6x148 P) (.node (o8x276 P) .nil .nil) .nil) (.node (o6x212 P) .nil .nil))
noncomputable def bt245 (P : Params) : BT := (.node (o4x116 P) (.node (o6x180 P) (.node (o8x308 P) .nil .nil) .nil) (.node (o6x244 P) .nil .nil))
noncomputable def bt246 (P : Params) : BT := (.node (o4x76 P) (.node (o5x140 P) (.node (o8x268 P) .nil .nil) .nil) (.node (o6x204 P) .nil .nil))
noncomputable def bt247 (P : Params) : BT := (.node (o4x108 P) (.node (o6x172 P) (.node (o8x300 P) .nil .nil) .nil) (.node (o6x236 P) .nil .nil))
noncomputable def bt248 (P : Params) : BT := (.node (o4x92 P) (.node (o6x156 P) (.node (o8x284 P) .nil .nil) .nil) (.node (o6x220 P) .nil .nil))
noncomputable def bt249 (P : Params) : BT := (.node (o4x124 P) (.node (o6x188 P) (.node (o8x316 P) .nil .nil) .nil) (.node (o7x252 P) .nil .nil))
noncomputable def bt250 (P : Params) : BT := (.node (o8x12 P) (.node (o3x20 P) (.node (o3x36 P) (bt242 P) (bt243 P)) (.node (o3x52 P) (bt244 P) (bt245 P))) (.node (o3x28 P) (.node (o3x44 P) (bt246 P) (bt247 P)) (.node (o3x60 P) (bt248 P) (bt249 P))))
noncomputable def bt251 (P : Params) : BT := (.node (o4x66 P) (.node (o4x130 P) (.node (o8x258 P) .nil .nil) .nil) (.node (o6x194 P) .nil .nil))
noncomputable def bt252 (P : Params) : BT := (.node (o4x98 P) (.node (o6x162 P) (.node (o8x290 P) .nil .nil) .nil) (.node (o6x226 P) .nil .nil))
noncomputable def bt253 (P : Params) : BT := (.node (o4x82 P) (.node (o6x146 P) (.node (o8x274 P) .nil .nil) .nil) (.node (o6x210 P) .nil .nil))
noncomputable def bt254 (P : Params) : BT := (.node (o4x114 P) (.node (o6x178 P) (.node (o8x306 P) .nil .nil) .nil) (.node (o6x242 P) .nil .nil))
noncomputable def bt255 (P : Params) : BT := (.node (o4x74 P) (.node (o4x138 P) (.node (o8x266 P) .nil .nil) .nil) (.node (o6x202 P) .nil .nil))
noncomputable def bt256 (P : Params) : BT := (.node (o4x106 P) (.node (o6x170 P) (.node (o8x298 P) .nil .nil) .nil) (.node (o6x234 P) .nil .nil))
noncomputable def bt257 (P : Params) : BT := (.node (o4x90 P) (.node (o6x154 P) (.node (o8x282 P) .nil .nil) .nil) (.node (o6x218 P) .nil .nil))
noncomputable def bt258 (P : Params) : BT := (.node (o4x122 P) (.node (o6x186 P) (.node (o8x314 P) .nil .nil) .nil) (.node (o7x250 P) .nil .nil))
noncomputable def bt259 (P : Params) : BT := (.node (PySem.W.boot_o_10 P) (.node (o3x18 P) (.node (o3x34 P) (bt251 P) (bt252 P)) (.node (o3x50 P) (bt253 P) (bt254 P))) (.node (o3x26 P) (.node (o3x42 P) (bt255 P) (bt256 P)) (.node (o3x58 P) (bt257 P) (bt258 P))))
noncomputable def bt260 (P : Params) : BT := (.node (o4x70 P) (.node (o4x134 P) (.node (o8x262 P) .nil .nil) .nil) (.node (o6x198 P) .nil .nil))
noncomputable def bt261 (P : Params) : BT := (.node (o4x102 P) (.node (o6x166 P) (.node (o8x294 P) .nil .nil) .nil) (.node (o6x230 P) .nil .nil))
noncomputable def bt262 (P : Params) : BT := (.node (o4x86 P) (.node (o6x150 P) (.node (o8x278 P) .nil .nil) .nil) (.node (o6x214 P) .nil .nil))
noncomputable def bt263 (P : Params) : BT := (.node (o4x118 P) (.node (o6x182 P) (.node (o8x310 P) .nil .nil) .nil) (.node (o6x246 P) .nil .nil))
noncomputable def bt264 (P : Params) : BT := (.node (o4x78 P) (.node (o5x142 P) (.node (o8x270 P) .nil .nil) .nil) (.node (o6x206 P) .nil .nil))
noncomputable def bt265 (P : Params) : BT := (.node (o4x110 P) (.node (o6x174 P) (.node (o8x302 P) .nil .nil) .nil) (.node (o6x238 P) .nil .nil))
noncomputable def bt266 (P : Params) : BT := (.node (o4x94 P) (.node (o6x158 P) (.node (o8x286 P) .nil .nil) .nil) (.node (o6x222 P) .nil .nil))
noncomputable def bt267 (P : Params) : BT := (.node (o4x126 P) (.node (o6x190 P) .nil .nil) (.node (o8x254 P) .nil .nil))
noncomputable def bt268 (P : Params) : BT := (.node (o0x14 P) (.node (o3x22 P) (.node (o3x38 P) (bt260 P) (bt261 P)) (.node (o3x54 P) (bt262 P) (bt263 P))) (.node (o3x30 P) (.node (o3x46 P) (bt264 P) (bt265 P)) (.node (o3x62 P) (bt266 P) (bt267 P))))
noncomputable def bt269 (P : Params) : BT := (.node (PySem.W.boot_o_0 P) (.node (PySem.W.boot_o_1 P) (.node (o8x3 P) (bt205 P) (bt214 P)) (.node (PySem.W.boot_o_5 P) (bt223 P) (bt232 P))) (.node (PySem.W.boot_o_2 P) (.node (PySem.W.boot_o_4 P) (bt241 P) (bt250 P)) (.node (PySem.W.boot_o_6 P) (bt259 P) (bt268 P))))
noncomputable def T8 (P : Params) : BT := bt269 P
noncomputable def S8 (w : World) (os : OsState) : SharedT := ⟨T8 w.params, 318, bootLife, #[], boot_drawn, 744, os⟩
noncomputable def o11x3 (P : Params) : Obj := ⟨(.type "dict"), none, (.dict (List.toArray [⟨PyData.keyHash P (Str.ofString "__name__"), (.str (Str.ofString "__name__") 165), (.str (Str.ofString "law_dm0050_07") 756)⟩, ⟨PyData.keyHash P (Str.ofString "__doc__"), (.str (Str.ofString "__doc__") 166), .none⟩, ⟨PyData.keyHash P (Str.ofString "__package__"), (.str (Str.ofString "__package__") 167), .none⟩, ⟨PyData.keyHash P (Str.ofString "__loader__"), (.str (Str.ofString "__loader__") 168), (.builtin "__main__.__loader__#opaque")⟩, ⟨PyData.keyHash P (Str.ofString "__spec__"), (.str (Str.ofString "__spec__") 169), .none⟩, ⟨PyData.keyHash P (Str.ofString "__annotations__"), (.str (Str.ofString "__annotations__") 170), (.ref 6)⟩, ⟨PyData.keyHash P (Str.ofString "__builtins__"), (.str (Str.ofString "__builtins__") 171), (.ref 4)⟩, ⟨PyData.keyHash P (Str.ofString "__file__"), (.str (Str.ofString "__file__") 173), (.str (Str.ofString "/claim/cut.py") 172)⟩, ⟨PyData.keyHash P (Str.ofString "__cached__"), (.str (Str.ofString "__cached__") 174), .none⟩, ⟨PyData.keyHash P (Str.ofString "_wall"), (.str (Str.ofString "_wall") 193), (.ref 21)⟩, ⟨PyData.keyHash P (Str.ofString "_tuplegetter"), (.str (Str.ofString "_tuplegetter") 252), (.ref 60)⟩, ⟨PyData.keyHash P (Str.ofString "Match"), (.str (Str.ofString "Match") 380), (.ref 135)⟩, ⟨PyData.keyHash P (Str.ofString "_calculate_ratio"), (.str (Str.ofString "_calculate_ratio") 388), (.ref 145)⟩, ⟨PyData.keyHash P (Str.ofString "SequenceMatcher"), (.str (Str.ofString "SequenceMatcher") 592), (.ref 242)⟩, ⟨PyData.keyHash P (Str.ofString "_keep_original_ws"), (.str (Str.ofString "_keep_original_ws") 601), (.ref 253)⟩, ⟨PyData.keyHash P (Str.ofString "Differ"), (.str (Str.ofString "Differ") 743), (.ref 313)⟩, ⟨PyData.keyHash P (Str.ofString "restore"), (.str (Str.ofString "restore") 755), (.ref 324)⟩, ⟨PyData.keyHash P (Str.ofString "law"), (.str (Str.ofString "law") 763), (.ref 329)⟩]) 18), List.toArray []⟩
noncomputable def o11x12 (P : Params) : Obj := ⟨.none, none, (.fields (List.toArray [(.int (1) 0), (.int (0) 0), (.ref 20), (.int (5) 0), (.int (0) 0), (.ref 27), (.int (23) 0), (.int (0) 0), (.ref 71), (.int (66) 0), (.int (0) 0), (.ref 144), (.int (70) 0), (.int (0) 0), (.ref 151), (.int (488) 0), (.int (0) 0), (.ref 252), (.int (491) 0), (.int (0) 0), (.ref 259), (.int (753) 0), (.int (0) 0), (.ref 323), (.int (784) 0), (.int (0) 0), (.ref 328)])), List.toArray []⟩
noncomputable def o11x318 (P : Params) : Obj := ⟨(.type "tuple"), none, (.seq (List.toArray []) 0), List.toArray []⟩
noncomputable def o11x319 (P : Params) : Obj := ⟨.none, none, (.fields (List.toArray [])), List.toArray []⟩
noncomputable def o11x320 (P : Params) : Obj := ⟨(.type "tuple"), none, (.seq (List.toArray [(.str (Str.ofString "delta") 747), (.str (Str.ofString "which") 748), (.str (Str.ofString "tag") 749), (.str (Str.ofString "prefixes") 750), (.str (Str.ofString "line") 751)]) 0), List.toArray []⟩
noncomputable def o11x321 (P : Params) : Obj := ⟨(.type "tuple"), none, (.seq (List.toArray []) 0), List.toArray []⟩
noncomputable def o11x322 (P : Params) : Obj := ⟨.none, none, (.func ⟨(Str.ofString "restore"), (Str.ofString "restore"), fArgs (st 8), .stmts (fBody (st 8)), fScope (st 8), 0, [], .none, .none, .none, .none, none, .none, .none, 0⟩), List.toArray []⟩
noncomputable def o11x323 (P : Params) : Obj := ⟨(.type "code"), none, (.fields (List.toArray [(.str (Str.ofString "restore") 744), (.str (Str.ofString "restore") 745), (.str (Str.ofString "/claim/cut.py") 746), (.int (753) 0), (.int (2) 0), (.int (0) 0), (.int (0) 0), (.int (35) 0), (.ref 318), (.bool true), (.int (181) 0), (.ref 319), .none, (.ref 320), (.ref 321), (.ref 322), (.int (752) 0), (.int (753) 0), (.str (Str.ofString "/claim/cut.py") 753)])), List.toArray []⟩
noncomputable def o11x324 (P : Params) : Obj := ⟨(.type "function"), none, (.func ⟨(Str.ofString "restore"), (Str.ofString "restore"), fArgs (st 8), .stmts (fBody (st 8)), fScope (st 8), 3, [], .none, .none, (.str (docOf (fBody (st 8))) 754), (.str (Str.ofString "cpy313.difflib") 194), none, (.ref 323), .none, 0⟩), List.toArray []⟩
noncomputable def o11x325 (P : Params) : Obj := ⟨(.type "tuple"), none, (.seq (List.toArray []) 0), List.toArray []⟩
noncomputable def o11x326 (P : Params) : Obj := ⟨.none, none, (.fields (List.toArray [])), List.toArray []⟩
noncomputable def o11x327 (P : Params) : Obj := ⟨.none, none, (.func ⟨(Str.ofString "law"), (Str.ofString "law"), fArgs (st 10), .stmts (fBody (st 10)), fScope (st 10), 0, [], .none, .none, .none, .none, none, .none, .none, 0⟩), List.toArray []⟩
noncomputable def o11x328 (P : Params) : Obj := ⟨(.type "code"), none, (.fields (List.toArray [(.str (Str.ofString "law") 758), (.str (Str.ofString "law") 759), (.str (Str.ofString "/claim/cut.py") 760), (.int (784) 0), (.int (1) 0), (.int (0) 0), (.int (0) 0), (.int (3) 0), (.ref 325), (.bool true), (.int (181) 0), (.ref 326), .none, .none, .none, (.ref 327), (.int (761) 0), (.int (784) 0), (.str (Str.ofString "/claim/cut.py") 762)])), List.toArray []⟩
noncomputable def o11x329 (P : Params) : Obj := ⟨(.type "function"), none, (.func ⟨(Str.ofString "law"), (Str.ofString "law"), fArgs (st 10), .stmts (fBody (st 10)), fScope (st 10), 3, [], .none, .none, .none, (.str (Str.ofString "law_dm0050_07") 756), none, (.ref 328), .none, 0⟩), List.toArray []⟩
noncomputable def bt270 (P : Params) : BT := (.node (o3x63 P) (.node (o4x127 P) (.node (o8x255 P) .nil .nil) .nil) (.node (o6x191 P) (.node (o11x319 P) .nil .nil) .nil))
noncomputable def bt271 (P : Params) : BT := (.node (o4x71 P) (.node (o4x135 P) (.node (o8x263 P) .nil .nil) .nil) (.node (o6x199 P) (.node (o11x327 P) .nil .nil) .nil))
noncomputable def bt272 (P : Params) : BT := (.node (PySem.W.boot_o_7 P) (.node (o3x15 P) (.node (o3x31 P) (bt270 P) (bt198 P)) (.node (o3x47 P) (bt199 P) (bt200 P))) (.node (o3x23 P) (.node (o3x39 P) (bt271 P) (bt202 P)) (.node (o3x55 P) (bt203 P) (bt204 P))))
noncomputable def bt273 (P : Params) : BT := (.node (o4x67 P) (.node (o4x131 P) (.node (o8x259 P) .nil .nil) .nil) (.node (o6x195 P) (.node (o11x323 P) .nil .nil) .nil))
noncomputable def bt274 (P : Params) : BT := (.node (o0x11 P) (.node (o3x19 P) (.node (o3x35 P) (bt273 P) (bt207 P)) (.node (o3x51 P) (bt208 P) (bt209 P))) (.node (o3x27 P) (.node (o3x43 P) (bt210 P) (bt211 P)) (.node (o3x59 P) (bt212 P) (bt213 P))))
noncomputable def bt275 (P : Params) : BT := (.node (o4x65 P) (.node (o4x129 P) (.node (o8x257 P) .nil .nil) .nil) (.node (o6x193 P) (.node (o11x321 P) .nil .nil) .nil))
noncomputable def bt276 (P : Params) : BT := (.node (o4x73 P) (.node (o4x137 P) (.node (o8x265 P) .nil .nil) .nil) (.node (o6x201 P) (.node (o11x329 P) .nil .nil) .nil))
noncomputable def bt277 (P : Params) : BT := (.node (PySem.W.boot_o_9 P) (.node (o3x17 P) (.node (o3x33 P) (bt275 P) (bt216 P)) (.node (o3x49 P) (bt217 P) (bt218 P))) (.node (o3x25 P) (.node (o3x41 P) (bt276 P) (bt220 P)) (.node (o3x57 P) (bt221 P) (bt222 P))))
noncomputable def bt278 (P : Params) : BT := (.node (o4x69 P) (.node (o4x133 P) (.node (o8x261 P) .nil .nil) .nil) (.node (o6x197 P) (.node (o11x325 P) .nil .nil) .nil))
noncomputable def bt279 (P : Params) : BT := (.node (o0x13 P) (.node (o3x21 P) (.node (o3x37 P) (bt278 P) (bt225 P)) (.node (o3x53 P) (bt226 P) (bt227 P))) (.node (o3x29 P) (.node (o3x45 P) (bt228 P) (bt229 P)) (.node (o3x61 P) (bt230 P) (bt231 P))))
noncomputable def bt280 (P : Params) : BT := (.node (o3x64 P) (.node (o4x128 P) (.node (o8x256 P) .nil .nil) .nil) (.node (o6x192 P) (.node (o11x320 P) .nil .nil) .nil))
noncomputable def bt281 (P : Params) : BT := (.node (o4x72 P) (.node (o4x136 P) (.node (o8x264 P) .nil .nil) .nil) (.node (o6x200 P) (.node (o11x328 P) .nil .nil) .nil))
noncomputable def bt282 (P : Params) : BT := (.node (PySem.W.boot_o_8 P) (.node (o3x16 P) (.node (o3x32 P) (bt280 P) (bt234 P)) (.node (o3x48 P) (bt235 P) (bt236 P))) (.node (o3x24 P) (.node (o3x40 P) (bt281 P) (bt238 P)) (.node (o3x56 P) (bt239 P) (bt240 P))))
noncomputable def bt283 (P : Params) : BT := (.node (o4x68 P) (.node (o4x132 P) (.node (o8x260 P) .nil .nil) .nil) (.node (o6x196 P) (.node (o11x324 P) .nil .nil) .nil))
noncomputable def bt284 (P : Params) : BT := (.node (o11x12 P) (.node (o3x20 P) (.node (o3x36 P) (bt283 P) (bt243 P)) (.node (o3x52 P) (bt244 P) (bt245 P))) (.node (o3x28 P) (.node (o3x44 P) (bt246 P) (bt247 P)) (.node (o3x60 P) (bt248 P) (bt249 P))))
noncomputable def bt285 (P : Params) : BT := (.node (o4x66 P) (.node (o4x130 P) (.node (o8x258 P) .nil .nil) .nil) (.node (o6x194 P) (.node (o11x322 P) .nil .nil) .nil))
noncomputable def bt286 (P : Params) : BT := (.node (PySem.W.boot_o_10 P) (.node (o3x18 P) (.node (o3x34 P) (bt285 P) (bt252 P)) (.node (o3x50 P) (bt253 P) (bt254 P))) (.node (o3x26 P) (.node (o3x42 P) (bt255 P) (bt256 P)) (.node (o3x58 P) (bt257 P) (bt258 P))))
noncomputable def bt287 (P : Params) : BT := (.node (o4x70 P) (.node (o4x134 P) (.node (o8x262 P) .nil .nil) .nil) (.node (o6x198 P) (.node (o11x326 P) .nil .nil) .nil))
noncomputable def bt288 (P : Params) : BT := (.node (o4x126 P) (.node (o6x190 P) (.node (o11x318 P) .nil .nil) .nil) (.node (o8x254 P) .nil .nil))
noncomputable def bt289 (P : Params) : BT := (.node (o0x14 P) (.node (o3x22 P) (.node (o3x38 P) (bt287 P) (bt261 P)) (.node (o3x54 P) (bt262 P) (bt263 P))) (.node (o3x30 P) (.node (o3x46 P) (bt264 P) (bt265 P)) (.node (o3x62 P) (bt266 P) (bt288 P))))
noncomputable def bt290 (P : Params) : BT := (.node (PySem.W.boot_o_0 P) (.node (PySem.W.boot_o_1 P) (.node (o11x3 P) (bt272 P) (bt274 P)) (.node (PySem.W.boot_o_5 P) (bt277 P) (bt279 P))) (.node (PySem.W.boot_o_2 P) (.node (PySem.W.boot_o_4 P) (bt282 P) (bt284 P)) (.node (PySem.W.boot_o_6 P) (bt286 P) (bt289 P))))
noncomputable def T11 (P : Params) : BT := bt290 P
noncomputable def S11 (w : World) (os : OsState) : SharedT := ⟨T11 w.params, 330, bootLife, #[], boot_drawn, 764, os⟩
noncomputable def hp0 (P : Params) (r : List Obj) : List Obj := PySem.W.boot_o_0 P :: PySem.W.boot_o_1 P :: PySem.W.boot_o_2 P :: o11x3 P :: PySem.W.boot_o_4 P :: PySem.W.boot_o_5 P :: PySem.W.boot_o_6 P :: PySem.W.boot_o_7 P :: PySem.W.boot_o_8 P :: PySem.W.boot_o_9 P :: PySem.W.boot_o_10 P :: o0x11 P :: r
noncomputable def hp1 (P : Params) (r : List Obj) : List Obj := o11x12 P :: o0x13 P :: o0x14 P :: o3x15 P :: o3x16 P :: o3x17 P :: o3x18 P :: o3x19 P :: o3x20 P :: o3x21 P :: o3x22 P :: o3x23 P :: r
noncomputable def hp2 (P : Params) (r : List Obj) : List Obj := o3x24 P :: o3x25 P :: o3x26 P :: o3x27 P :: o3x28 P :: o3x29 P :: o3x30 P :: o3x31 P :: o3x32 P :: o3x33 P :: o3x34 P :: o3x35 P :: r
noncomputable def hp3 (P : Params) (r : List Obj) : List Obj := o3x36 P :: o3x37 P :: o3x38 P :: o3x39 P :: o3x40 P :: o3x41 P :: o3x42 P :: o3x43 P :: o3x44 P :: o3x45 P :: o3x46 P :: o3x47 P :: r
noncomputable def hp4 (P : Params) (r : List Obj) : List Obj := o3x48 P :: o3x49 P :: o3x50 P :: o3x51 P :: o3x52 P :: o3x53 P :: o3x54 P :: o3x55 P :: o3x56 P :: o3x57 P :: o3x58 P :: o3x59 P :: r
noncomputable def hp5 (P : Params) (r : List Obj) : List Obj := o3x60 P :: o3x61 P :: o3x62 P :: o3x63 P :: o3x64 P :: o4x65 P :: o4x66 P :: o4x67 P :: o4x68 P :: o4x69 P :: o4x70 P :: o4x71 P :: r
noncomputable def hp6 (P : Params) (r : List Obj) : List Obj := o4x72 P :: o4x73 P :: o4x74 P :: o4x75 P :: o4x76 P :: o4x77 P :: o4x78 P :: o4x79 P :: o4x80 P :: o4x81 P :: o4x82 P :: o4x83 P :: r
noncomputable def hp7 (P : Params) (r : List Obj) : List Obj := o4x84 P :: o4x85 P :: o4x86 P :: o4x87 P :: o4x88 P :: o4x89 P :: o4x90 P :: o4x91 P :: o4x92 P :: o4x93 P :: o4x94 P :: o4x95 P :: r
noncomputable def hp8 (P : Params) (r : List Obj) : List Obj := o4x96 P :: o4x97 P :: o4x98 P :: o4x99 P :: o4x100 P :: o4x101 P :: o4x102 P :: o4x103 P :: o4x104 P :: o4x105 P :: o4x106 P :: o4x107 P :: r
noncomputable def hp9 (P : Params) (r : List Obj) : List Obj := o4x108 P :: o4x109 P :: o4x110 P :: o4x111 P :: o4x112 P :: o4x113 P :: o4x114 P :: o4x115 P :: o4x116 P :: o4x117 P :: o4x118 P :: o4x119 P :: r
noncomputable def hp10 (P : Params) (r : List Obj) : List Obj := o4x120 P :: o4x121 P :: o4x122 P :: o4x123 P :: o4x124 P :: o4x125 P :: o4x126 P :: o4x127 P :: o4x128 P :: o4x129 P :: o4x130 P :: o4x131 P :: r
noncomputable def hp11 (P : Params) (r : List Obj) : List Obj := o4x132 P :: o4x133 P :: o4x134 P :: o4x135 P :: o4x136 P :: o4x137 P :: o4x138 P :: o5x139 P :: o5x140 P :: o5x141 P :: o5x142 P :: o5x143 P :: r
noncomputable def hp12 (P : Params) (r : List Obj) : List Obj := o5x144 P :: o5x145 P :: o6x146 P :: o6x147 P :: o6x148 P :: o6x149 P :: o6x150 P :: o6x151 P :: o6x152 P :: o6x153 P :: o6x154 P :: o6x155 P :: r
noncomputable def hp13 (P : Params) (r : List Obj) : List Obj := o6x156 P :: o6x157 P :: o6x158 P :: o6x159 P :: o6x160 P :: o6x161 P :: o6x162 P :: o6x163 P :: o6x164 P :: o6x165 P :: o6x166 P :: o6x167 P :: r
noncomputable def hp14 (P : Params) (r : List Obj) : List Obj := o6x168 P :: o6x169 P :: o6x170 P :: o6x171 P :: o6x172 P :: o6x173 P :: o6x174 P :: o6x175 P :: o6x176 P :: o6x177 P :: o6x178 P :: o6x179 P :: r
noncomputable def hp15 (P : Params) (r : List Obj) : List Obj := o6x180 P :: o6x181 P :: o6x182 P :: o6x183 P :: o6x184 P :: o6x185 P :: o6x186 P :: o6x187 P :: o6x188 P :: o6x189 P :: o6x190 P :: o6x191 P :: r
noncomputable def hp16 (P : Params) (r : List Obj) : List Obj := o6x192 P :: o6x193 P :: o6x194 P :: o6x195 P :: o6x196 P :: o6x197 P :: o6x198 P :: o6x199 P :: o6x200 P :: o6x201 P :: o6x202 P :: o6x203 P :: r
noncomputable def hp17 (P : Params) (r : List Obj) : List Obj := o6x204 P :: o6x205 P :: o6x206 P :: o6x207 P :: o6x208 P :: o6x209 P :: o6x210 P :: o6x211 P :: o6x212 P :: o6x213 P :: o6x214 P :: o6x215 P :: r
noncomputable def hp18 (P : Params) (r : List Obj) : List Obj := o6x216 P :: o6x217 P :: o6x218 P :: o6x219 P :: o6x220 P :: o6x221 P :: o6x222 P :: o6x223 P :: o6x224 P :: o6x225 P :: o6x226 P :: o6x227 P :: r
noncomputable def hp19 (P : Params) (r : List Obj) : List Obj := o6x228 P :: o6x229 P :: o6x230 P :: o6x231 P :: o6x232 P :: o6x233 P :: o6x234 P :: o6x235 P :: o6x236 P :: o6x237 P :: o6x238 P :: o6x239 P :: r
noncomputable def hp20 (P : Params) (r : List Obj) : List Obj := o6x240 P :: o6x241 P :: o6x242 P :: o6x243 P :: o6x244 P :: o6x245 P :: o6x246 P :: o7x247 P :: o7x248 P :: o7x249 P :: o7x250 P :: o7x251 P :: r
noncomputable def hp21 (P : Params) (r : List Obj) : List Obj := o7x252 P :: o7x253 P :: o8x254 P :: o8x255 P :: o8x256 P :: o8x257 P :: o8x258 P :: o8x259 P :: o8x260 P :: o8x261 P :: o8x262 P :: o8x263 P :: r
noncomputable def hp22 (P : Params) (r : List Obj) : List Obj := o8x264 P :: o8x265 P :: o8x266 P :: o8x267 P :: o8x268 P :: o8x269 P :: o8x270 P :: o8x271 P :: o8x272 P :: o8x273 P :: o8x274 P :: o8x275 P :: r
noncomputable def hp23 (P : Params) (r : List Obj) : List Obj := o8x276 P :: o8x277 P :: o8x278 P :: o8x279 P :: o8x280 P :: o8x281 P :: o8x282 P :: o8x283 P :: o8x284 P :: o8x285 P :: o8x286 P :: o8x287 P :: r
noncomputable def hp24 (P : Params) (r : List Obj) : List Obj := o8x288 P :: o8x289 P :: o8x290 P :: o8x291 P :: o8x292 P :: o8x293 P :: o8x294 P :: o8x295 P :: o8x296 P :: o8x297 P :: o8x298 P :: o8x299 P :: r
noncomputable def hp25 (P : Params) (r : List Obj) : List Obj := o8x300 P :: o8x301 P :: o8x302 P :: o8x303 P :: o8x304 P :: o8x305 P :: o8x306 P :: o8x307 P :: o8x308 P :: o8x309 P :: o8x310 P :: o8x311 P :: r
noncomputable def hp26 (P : Params) (r : List Obj) : List Obj := o8x312 P :: o8x313 P :: o8x314 P :: o8x315 P :: o8x316 P :: o8x317 P :: o11x318 P :: o11x319 P :: o11x320 P :: o11x321 P :: o11x322 P :: o11x323 P :: r
noncomputable def hp27 (P : Params) (r : List Obj) : List Obj := o11x324 P :: o11x325 P :: o11x326 P :: o11x327 P :: o11x328 P :: o11x329 P :: r
noncomputable def hq4 (P : Params) (r : List Obj) : List Obj := (hp24 P (hp25 P (hp26 P (hp27 P r))))
noncomputable def hq3 (P : Params) (r : List Obj) : List Obj := (hp18 P (hp19 P (hp20 P (hp21 P (hp22 P (hp23 P r))))))
noncomputable def hq2 (P : Params) (r : List Obj) : List Obj := (hp12 P (hp13 P (hp14 P (hp15 P (hp16 P (hp17 P r))))))
noncomputable def hq1 (P : Params) (r : List Obj) : List Obj := (hp6 P (hp7 P (hp8 P (hp9 P (hp10 P (hp11 P r))))))
noncomputable def hq0 (P : Params) (r : List Obj) : List Obj := (hp0 P (hp1 P (hp2 P (hp3 P (hp4 P (hp5 P r))))))
noncomputable def heapF (P : Params) : Heap := ⟨Array.mk (hq0 P (hq1 P (hq2 P (hq3 P (hq4 P []))))), bootLife⟩
end Mine
end
section
open PySem PySem.W PyProof.Rows
set_option Elab.async false
set_option maxRecDepth 100000
set_option maxHeartbeats 0
namespace Mine
noncomputable def env : Env := { scope := prog.main.scope, locals := mainNs, globals := mainNs, cells := [], code := .ref 13, frame := some 14 }
noncomputable def cE : Code := .body (behindTheImports prog) env
noncomputable def B : List Frame := [topFrame ⟨0, 0, 0, 0⟩]
noncomputable def ePre : Prop := ∀ (w : World) (os : OsState), topGo tableL prog w 11 (some (.ref 6)) 12 ⟨boot_heap w.params, #[], boot_drawn, boot_toks, os⟩ (topStub prog) = some ((S0 w os).abs, ⟨denote tableL cE, cE, ⟨0, 0, 0, 0⟩, B⟩)
theorem noTwin : (fun (_ _ _ _ _ _ _ _ _ _ _ : Params → Obj) => true) PySem.W.boot_o_0 PySem.W.boot_o_1 PySem.W.boot_o_2 PySem.W.boot_o_3 PySem.W.boot_o_4 PySem.W.boot_o_5 PySem.W.boot_o_6 PySem.W.boot_o_7 PySem.W.boot_o_8 PySem.W.boot_o_9 PySem.W.boot_o_10 = true := by first | k_qdec | rfl
lay_quick ePre
theorem pPre : ePre := by rw [PySem.W.Fast.te9180895667377596671]; intro w os; kernel_rfl
noncomputable def eBlock : Prop := ∀ (w : World) (os : OsState), segRun tableL prog w 11 (some (.ref 6)) 1 1 (S0 w os).abs (blockOf (behindTheImports prog) env cE ⟨0, 0, 0, 0⟩ B) = some (.next, (S0 w os).abs, cE, ⟨0, 0, 0, 0⟩)
lay_quick eBlock
theorem pBlock : eBlock := by rw [PySem.W.Fast.te11210240287184410953]; intro w os; kernel_rfl
noncomputable def g3 : List Stmt := [st 0, st 1, st 2]
noncomputable def e3 : Prop := ∀ (w : World) (os : OsState), segRunT tableL prog w 11 (some (.ref 6)) 1 362 (S0 w os) (piecesOf g3 env cE ⟨0, 0, 0, 0⟩ B) = some (.next, S3 w os, cE, ⟨5, 0, 22, 54⟩)
lay_quick e3
theorem p3 : e3 := by rw [PySem.W.Fast.te133392957147307173]; intro w os; kernel_rfl
noncomputable def g4 : List Stmt := [st 3]
noncomputable def e4 : Prop := ∀ (w : World) (os : OsState), segRunT tableL prog w 11 (some (.ref 6)) 1 1047 (S3 w os) (piecesOf g4 env cE ⟨5, 0, 22, 54⟩ B) = some (.next, S4 w os, cE, ⟨23, 0, 65, 54⟩)
lay_quick e4
theorem p4 : e4 := by rw [PySem.W.Fast.te8441420125603298618]; intro w os; kernel_rfl
noncomputable def g5 : List Stmt := [st 4]
noncomputable def e5 : Prop := ∀ (w : World) (os : OsState), segRunT tableL prog w 11 (some (.ref 6)) 1 31 (S4 w os) (piecesOf g5 env cE ⟨23, 0, 65, 54⟩ B) = some (.next, S5 w os, cE, ⟨66, 0, 69, 14⟩)
lay_quick e5
theorem p5 : e5 := by rw [PySem.W.Fast.te3026065901257255642]; intro w os; kernel_rfl
noncomputable def g6 : List Stmt := [st 5]
noncomputable def e6 : Prop := ∀ (w : World) (os : OsState), segRunT tableL prog w 11 (some (.ref 6)) 1 667 (S5 w os) (piecesOf g6 env cE ⟨66, 0, 69, 14⟩ B) = some (.next, S6 w os, cE, ⟨70, 0, 487, 53⟩)
lay_quick e6
theorem p6 : e6 := by rw [PySem.W.Fast.te8035552493404043078]; intro w os; kernel_rfl
noncomputable def g7 : List Stmt := [st 6]
noncomputable def e7 : Prop := ∀ (w : World) (os : OsState), segRunT tableL prog w 11 (some (.ref 6)) 1 32 (S6 w os) (piecesOf g7 env cE ⟨70, 0, 487, 53⟩ B) = some (.next, S7 w os, cE, ⟨488, 0, 490, 96⟩)
lay_quick e7
theorem p7 : e7 := by rw [PySem.W.Fast.te18097334487791328804]; intro w os; kernel_rfl
noncomputable def g8 : List Stmt := [st 7]
noncomputable def e8 : Prop := ∀ (w : World) (os : OsState), segRunT tableL prog w 11 (some (.ref 6)) 1 483 (S7 w os) (piecesOf g8 env cE ⟨488, 0, 490, 96⟩ B) = some (.next, S8 w os, cE, ⟨491, 0, 752, 32⟩)
lay_quick e8
theorem p8 : e8 := by rw [PySem.W.Fast.te11772204471832787405]; intro w os; kernel_rfl
noncomputable def g11 : List Stmt := [st 8, st 9, st 10]
noncomputable def e11 : Prop := ∀ (w : World) (os : OsState), segRunT tableL prog w 11 (some (.ref 6)) 1 70 (S8 w os) (piecesOf g11 env cE ⟨491, 0, 752, 32⟩ B) = some (.next, S11 w os, cE, ⟨784, 0, 806, 15⟩)
lay_quick e11
theorem p11 : e11 := by rw [PySem.W.Fast.te18055833169007544477]; intro w os; kernel_rfl
end Mine
end
section
open PySem PySem.W PyProof.Rows
set_option Elab.async false
set_option maxRecDepth 100000
set_option maxHeartbeats 0
namespace Mine
noncomputable def eFin : Prop := ∀ (w : World) (os : OsState), topRun tableL prog w 11 (some (.ref 6)) 2 (S11 w os).abs ⟨doneF .next, cE, ⟨784, 0, 806, 15⟩, B⟩ = some ⟨heapF w.params, #[], boot_drawn, 764, os⟩
lay_quick eFin
theorem pFin : eFin := by rw [PySem.W.Fast.te6097259074420145996]; intro w os; kernel_rfl
theorem body_eq : behindTheImports prog = (g3 ++ (g4 ++ (g5 ++ (g6 ++ (g7 ++ (g8 ++ (g11 ++ []))))))) := by kernel_rfl
theorem runL (w : World) (os : OsState) : topRun tableL prog w 11 (some (.ref 6)) (12 + (1 + (362 + (1047 + (31 + (667 + (32 + (483 + (70 + 2))))))))) ⟨boot_heap w.params, #[], boot_drawn, boot_toks, os⟩ (topStub prog) = some ⟨heapF w.params, #[], boot_drawn, 764, os⟩ := by
  have k := piece_nil (env := env) (q := ⟨0, 0, 0, 0⟩) (pFin w os)
  replace k := piece_app (env := env) (q := ⟨0, 0, 0, 0⟩) (segRun_of (p11 w os)) k
  replace k := piece_app (env := env) (q := ⟨0, 0, 0, 0⟩) (segRun_of (p8 w os)) k
  replace k := piece_app (env := env) (q := ⟨0, 0, 0, 0⟩) (segRun_of (p7 w os)) k
  replace k := piece_app (env := env) (q := ⟨0, 0, 0, 0⟩) (segRun_of (p6 w os)) k
  replace k := piece_app (env := env) (q := ⟨0, 0, 0, 0⟩) (segRun_of (p5 w os)) k
  replace k := piece_app (env := env) (q := ⟨0, 0, 0, 0⟩) (segRun_of (p4 w os)) k
  replace k := piece_app (env := env) (q := ⟨0, 0, 0, 0⟩) (segRun_of (p3 w os)) k
  rw [← body_eq] at k
  exact go_top (pPre w os) (piece_block (env := env) (q := ⟨0, 0, 0, 0⟩) (pBlock w os) k)
theorem run0 (w : World) (os : OsState) : topRun treeTable prog w 11 (some (.ref 6)) 2707 ⟨boot_heap w.params, #[], boot_drawn, boot_toks, os⟩ (topStub prog) = some ⟨heapF w.params, #[], boot_drawn, 764, os⟩ := by
  rw [table_eq]; exact runL w os
theorem open0 : ∀ w : World, (fencedOpening treeTable prog w 5684).map (fun s => (s.heap, s.gens, s.drawn, s.toks)) = some (boot_heap w.params, Array.mk [], boot_drawn, boot_toks) :=
  boot_open (by kernel_rfl) (by rfl) (fun s => by kernel_rfl)
noncomputable def eSize : Prop := ∀ w : World, ((boot_heap w.params).isNs mainGlobals && (Array.mk ([] : List GenState)).size == 0, (boot_heap w.params).objs.size, (boot_heap w.params).nsMap mainGlobals "__annotations__") = (true, 11, some (Value.ref 6))
lay_quick eSize
theorem pSize : eSize := by rw [PySem.W.Fast.te10159770440577813370]; intro w; kernel_rfl
noncomputable def qv : Program := { prog with main := { prog.main with body := [st 10] } }
noncomputable def loose : List Str := [Str.ofString "_wall", Str.ofString "_tuplegetter", Str.ofString "Match", Str.ofString "_calculate_ratio", Str.ofString "SequenceMatcher", Str.ofString "_keep_original_ws", Str.ofString "Differ", Str.ofString "restore"]
noncomputable def K (P : Params) : Frag := (nat_lit 2, PySem.W.boot_o_2 P) :: (nat_lit 3, o11x3 P) :: (nat_lit 247, o7x247 P) :: (nat_lit 248, o7x248 P) :: (nat_lit 249, o7x249 P) :: (nat_lit 250, o7x250 P) :: (nat_lit 251, o7x251 P) :: (nat_lit 252, o7x252 P) :: (nat_lit 253, o7x253 P) :: (nat_lit 261, o8x261 P) :: (nat_lit 262, o8x262 P) :: (nat_lit 263, o8x263 P) :: (nat_lit 264, o8x264 P) :: (nat_lit 265, o8x265 P) :: (nat_lit 266, o8x266 P) :: (nat_lit 267, o8x267 P) :: (nat_lit 268, o8x268 P) :: (nat_lit 269, o8x269 P) :: (nat_lit 270, o8x270 P) :: (nat_lit 271, o8x271 P) :: (nat_lit 272, o8x272 P) :: (nat_lit 273, o8x273 P) :: (nat_lit 274, o8x274 P) :: (nat_lit 275, o8x275 P) :: (nat_lit 276, o8x276 P) :: (nat_lit 277, o8x277 P) :: (nat_lit 278, o8x278 P) :: (nat_lit 279, o8x279 P) :: (nat_lit 280, o8x280 P) :: (nat_lit 281, o8x281 P) :: (nat_lit 282, o8x282 P) :: (nat_lit 283, o8x283 P) :: (nat_lit 284, o8x284 P) :: (nat_lit 285, o8x285 P) :: (nat_lit 286, o8x286 P) :: (nat_lit 287, o8x287 P) :: (nat_lit 288, o8x288 P) :: (nat_lit 289, o8x289 P) :: (nat_lit 290, o8x290 P) :: (nat_lit 291, o8x291 P) :: (nat_lit 292, o8x292 P) :: (nat_lit 293, o8x293 P) :: (nat_lit 294, o8x294 P) :: (nat_lit 295, o8x295 P) :: (nat_lit 296, o8x296 P) :: (nat_lit 297, o8x297 P) :: (nat_lit 298, o8x298 P) :: (nat_lit 299, o8x299 P) :: (nat_lit 300, o8x300 P) :: (nat_lit 301, o8x301 P) :: (nat_lit 302, o8x302 P) :: (nat_lit 303, o8x303 P) :: (nat_lit 304, o8x304 P) :: (nat_lit 305, o8x305 P) :: (nat_lit 306, o8x306 P) :: (nat_lit 307, o8x307 P) :: (nat_lit 308, o8x308 P) :: (nat_lit 309, o8x309 P) :: (nat_lit 310, o8x310 P) :: (nat_lit 311, o8x311 P) :: (nat_lit 312, o8x312 P) :: (nat_lit 313, o8x313 P) :: (nat_lit 314, o8x314 P) :: (nat_lit 315, o8x315 P) :: (nat_lit 318, o11x318 P) :: (nat_lit 319, o11x319 P) :: (nat_lit 320, o11x320 P) :: (nat_lit 321, o11x321 P) :: (nat_lit 322, o11x322 P) :: (nat_lit 323, o11x323 P) :: (nat_lit 324, o11x324 P) :: (nat_lit 325, o11x325 P) :: (nat_lit 326, o11x326 P) :: (nat_lit 327, o11x327 P) :: (nat_lit 328, o11x328 P) :: (nat_lit 329, o11x329 P) :: []
def as : List Addr := nat_lit 2 :: nat_lit 3 :: nat_lit 247 :: nat_lit 248 :: nat_lit 249 :: nat_lit 250 :: nat_lit 251 :: nat_lit 252 :: nat_lit 253 :: nat_lit 261 :: nat_lit 262 :: nat_lit 263 :: nat_lit 264 :: nat_lit 265 :: nat_lit 266 :: nat_lit 267 :: nat_lit 268 :: nat_lit 269 :: nat_lit 270 :: nat_lit 271 :: nat_lit 272 :: nat_lit 273 :: nat_lit 274 :: nat_lit 275 :: nat_lit 276 :: nat_lit 277 :: nat_lit 278 :: nat_lit 279 :: nat_lit 280 :: nat_lit 281 :: nat_lit 282 :: nat_lit 283 :: nat_lit 284 :: nat_lit 285 :: nat_lit 286 :: nat_lit 287 :: nat_lit 288 :: nat_lit 289 :: nat_lit 290 :: nat_lit 291 :: nat_lit 292 :: nat_lit 293 :: nat_lit 294 :: nat_lit 295 :: nat_lit 296 :: nat_lit 297 :: nat_lit 298 :: nat_lit 299 :: nat_lit 300 :: nat_lit 301 :: nat_lit 302 :: nat_lit 303 :: nat_lit 304 :: nat_lit 305 :: nat_lit 306 :: nat_lit 307 :: nat_lit 308 :: nat_lit 309 :: nat_lit 310 :: nat_lit 311 :: nat_lit 312 :: nat_lit 313 :: nat_lit 314 :: nat_lit 315 :: nat_lit 318 :: nat_lit 319 :: nat_lit 320 :: nat_lit 321 :: nat_lit 322 :: nat_lit 323 :: nat_lit 324 :: nat_lit 325 :: nat_lit 326 :: nat_lit 327 :: nat_lit 328 :: nat_lit 329 :: []
noncomputable def hook : Hook := kHook K as (fun _ => by kernel_rfl)
abbrev row : OpenRow := PySem.Challenge.rw_dm0050_07.row
noncomputable def Xt (s : Shared) : Bool := xlAt qv [] s && recOk (RowW.records row.toRowW) s
noncomputable def sF (w : World) (os : OsState) : Shared := ⟨heapF w.params, Array.mk [], boot_drawn, 764, os⟩
noncomputable def eL1 : Prop := ∀ (w : World) (os : OsState), (staticsOk (importedModules prog.main.body) (boot_heap w.params) (heapF w.params) && namesBound prog (heapF w.params) && gensDone (sF w os) && laidKept (boot_heap w.params) (heapF w.params)) = true
lay_quick eL1
theorem pL1 : eL1 := by rw [PySem.W.Fast.te916417627720882613]; intro w os; kernel_rfl
noncomputable def eL2 : Prop := ∀ (w : World) (os : OsState), openSeen qv loose (importedModules prog.main.body) Xt true (sF w os) = openGood qv loose
lay_quick eL2
theorem pL2 : eL2 := by rw [PySem.W.Fast.te6703831594060808801]; intro w os; kernel_rfl
theorem pL3 (w : World) (os : OsState) : Hook.obs hook (sF w os) = Hook.val hook w := by kernel_rfl
theorem three {α β γ : Type} {a a' : α} {b b' : β} {c c' : γ} (x : a = a') (y : b = b') (z : c = c') : (a, b, c) = (a', b', c') := by rw [x, y, z]
theorem left : LeftO prog qv loose Xt (Hook.obs hook) (Hook.val hook) 5684 :=
  LeftO.of_pieces open0 pSize run0 (by rfl) (fun w => funext fun os => three (pL1 w os) (pL2 w os) (pL3 w os))
end Mine
end
section
open PySem PySem.W PyProof.Rows
set_option Elab.async false
set_option maxRecDepth 100000
set_option maxHeartbeats 0
namespace Mine
noncomputable def dLaw : DefRec := ⟨Str.ofString "law", fArgs (st 10), fBody (st 10), fScope (st 10), ⟨784, 0, 806, 15⟩⟩
theorem hd (hc : WalkO qv loose (XL qv []) (InK K) row.toRowW dLaw [] fun f vs => PySem.call f vs) : PySem.Challenge.rw_dm0050_07.Holds := by
  w_on; o_law
  refine holds_open (r := row) (q := qv) (loose := loose) (Xt := Xt) (XP := XL qv []) (Yf := Hook.obs hook) (Ya := Hook.val hook) (YP := InK K) (d := dLaw) (kwd := []) (N := 5684) left (Hook.of hook) (Hook.keeps hook) (fun s e => xl_of s (Bool.and_eq_true_iff.mp e).1) XL.keeps (by kernel_rfl) (by kernel_rfl) (by kernel_rfl) (fun s e => recFacts_of (Bool.and_eq_true_iff.mp e).2) (by rfl) (by assumption) (by decide +kernel) ⟨rfl, rfl, rfl, rfl, rfl, by decide +kernel⟩ ?hw hc
  case hw => w_witness2
end Mine
end
section
open PySem PySem.W PyProof.Rows
set_option Elab.async false
set_option maxRecDepth 100000
namespace Mine
open Sem (wp)

/-- what a step of an iterator leaves as it was -/
structure Kept (Wr : Addr → Obj → Prop) (Gp : Nat → Prop) (s s' : Shared) : Prop where
  heap : ∀ b o, ¬ Wr b o → s.heap.get? b = some o → s'.heap.get? b = some o
  gsize : s.gens.size ≤ s'.gens.size
  gens : ∀ k, ¬ Gp k → k < s.gens.size → s'.gens[k]? = s.gens[k]?
  bare : AllBare s.gens → AllBare s'.gens
  drawn : s'.drawn = s.drawn
  os : s'.os = s.os
  toks : s.toks ≤ s'.toks

namespace Kept
variable {Wr : Addr → Obj → Prop} {Gp : Nat → Prop} {s s' s'' : Shared}
theorem refl : Kept Wr Gp s s := ⟨fun _ _ _ e => e, Nat.le_refl _, fun _ _ _ => rfl, id, rfl, rfl, Nat.le_refl _⟩
theorem trans (x : Kept Wr Gp s s') (y : Kept Wr Gp s' s'') : Kept Wr Gp s s'' :=
  ⟨fun b o hb e => y.heap b o hb (x.heap b o hb e), Nat.le_trans x.gsize y.gsize, fun k hk hl => (y.gens k hk (Nat.lt_of_lt_of_le hl x.gsize)).trans (x.gens k hk hl),
    fun h => y.bare (x.bare h), y.drawn.trans x.drawn, y.os.trans x.os, Nat.le_trans x.toks y.toks⟩
theorem mono {Wr' : Addr → Obj → Prop} {Gp' : Nat → Prop} (x : Kept Wr Gp s s') (h : ∀ b o, Wr b o → Wr' b o) (hg : ∀ k, Gp k → Gp' k) : Kept Wr' Gp' s s' :=
  ⟨fun b o hb e => x.heap b o (fun q => hb (h b o q)) e, x.gsize, fun k hk hl => x.gens k (fun q => hk (hg k q)) hl, x.bare, x.drawn, x.os, x.toks⟩
theorem pre {h' : Heap} (hk : ∀ b o, ¬ Wr b o → s.heap.get? b = some o → h'.get? b = some o) (y : Kept Wr Gp { s with heap := h' } s'') : Kept Wr Gp s s'' :=
  ⟨fun b o hb e => y.heap b o hb (hk b o hb e), y.gsize, y.gens, y.bare, y.drawn, y.os, y.toks⟩
theorem of_heap {h' : Heap} {tk : Nat} (hk : ∀ b o, ¬ Wr b o → s.heap.get? b = some o → h'.get? b = some o) (ht : s.toks ≤ tk) : Kept Wr Gp s { s with heap := h', toks := tk } :=
  ⟨hk, Nat.le_refl _, fun _ _ _ => rfl, id, rfl, rfl, ht⟩
end Kept

/-- what an iterator asks of its surroundings between two steps -/
structure Still (Fp : Addr → Obj → Prop) (Gp : Nat → Prop) (s s' : Shared) : Prop where
  heap : ∀ b o, Fp b o → s.heap.get? b = some o → s'.heap.get? b = some o
  gens : ∀ k, Gp k → k < s.gens.size → s'.gens[k]? = s.gens[k]?
  gsize : s.gens.size ≤ s'.gens.size
theorem Still.refl {Fp : Addr → Obj → Prop} {Gp : Nat → Prop} {s : Shared} : Still Fp Gp s s := ⟨fun _ _ _ e => e, fun _ _ _ => rfl, Nat.le_refl _⟩
theorem Still.trans {Fp : Addr → Obj → Prop} {Gp : Nat → Prop} {s s' s'' : Shared} (x : Still Fp Gp s s') (y : Still Fp Gp s' s'') : Still Fp Gp s s'' :=
  ⟨fun b o hb e => y.heap b o hb (x.heap b o hb e), fun k hk hl => (y.gens k hk (Nat.lt_of_lt_of_le hl x.gsize)).trans (x.gens k hk hl), Nat.le_trans x.gsize y.gsize⟩

/-- an iterator that hands out these texts -/
structure WalksP (prog : Program) (w : World) (A : Around) (I : Addr) (Fp Wr : Addr → Obj → Prop) (Gp : Nat → Prop) (outs : List Str) (St : Nat → Shared → Prop) : Prop where
  frame : ∀ i s s', St i s → Still Fp Gp s s' → St i s'
  item : ∀ i (s : Shared) (x : Str) (Q : Option Value → Shared → Prop) (E : Value → Shared → Prop), outs[i]? = some x → St i s →
    (∀ t s', St (i + 1) s' → Kept Wr Gp s s' → Q (some (.str x t)) s') → wpAny (model prog w) A (pyNext (.ref I)) Q E s
  done : ∀ (s : Shared) (Q : Option Value → Shared → Prop) (E : Value → Shared → Prop), St outs.length s → (∀ s', Kept Wr Gp s s' → Q none s') → wpAny (model prog w) A (pyNext (.ref I)) Q E s

theorem strsAre_snoc {vs : List Value} {xs : List Str} {x : Str} {t : Tok} (h : StrsAre vs xs) : StrsAre (vs ++ [.str x t]) (xs ++ [x]) := by
  induction h with
  | nil => exact .cons _ _ .nil
  | cons y t _ ih => exact .cons _ _ ih
theorem strsAre_length {vs : List Value} {xs : List Str} (h : StrsAre vs xs) : vs.length = xs.length := by
  induction h with
  | nil => rfl
  | cons y t _ ih => simp [ih]

section
variable {prog : Program} {w : World} {A : Around} {R : Result → Shared → Prop} {I : Addr} {Fp Wr : Addr → Obj → Prop} {Gp : Nat → Prop} {outs : List Str} {St : Nat → Shared → Prop}

theorem extend_loop (W : WalksP prog w A.in1 I Fp Wr Gp outs St) (hn : outs.length ≤ sizeLine) (S : Addr) (hSf : ∀ its c, ¬ Fp S (listOf its c)) (hSw : ∀ its c, ¬ Wr S (listOf its c)) (res : Value) :
    ∀ (k i : Nat) (s : Shared) (acc : List Value) (c : Nat), outs.length - i = k → i ≤ outs.length → St i s → s.heap.get? S = some (listOf acc.toArray c) → StrsAre acc (outs.take i) →
    (∀ s' acc' c', Kept (fun b o => b = S ∨ Wr b o) Gp s s' → s'.heap.get? S = some (listOf acc'.toArray c') → StrsAre acc' outs → R (.ok (.ret res)) s') →
    codeAny (model prog w) A (.builtin "list.extend.loop" ⟨[.ref S, .ref I, res], []⟩) R s := by
  intro k
  induction k with
  | zero =>
    intro i s acc c hk hi hst hS hacc hR
    have hin : i = outs.length := by omega
    subst hin
    refine codeAny_builtin F.entry_extend_loop ?_
    rw [Around.under_plainId F.plain_extend_loop _]
    show wpAny _ A.in1 (pyNext (.ref I) >>= _) _ _ s
    refine wpAny_bind (W.done s _ _ hst fun s' hm => ?_)
    refine wpAny_pure (hR s' acc c (hm.mono (fun _ _ => .inr) fun _ => id) (hm.heap S _ (hSw _ _) hS) ?_)
    rwa [List.take_length] at hacc
  | succ k ih =>
    intro i s acc c hk hi hst hS hacc hR
    have hlt : i < outs.length := by omega
    refine codeAny_builtin F.entry_extend_loop ?_
    rw [Around.under_plainId F.plain_extend_loop _]
    show wpAny _ A.in1 (pyNext (.ref I) >>= _) _ _ s
    refine wpAny_bind (W.item i s outs[i] _ _ (by simp [hlt]) hst fun t s' hst' hm => ?_)
    have hS' := hm.heap S _ (hSw _ _) hS
    have hlen : acc.length = i := by rw [strsAre_length hacc, List.length_take]; omega
    show wpAny _ A.in1 (updateSeq S (·.push (.str outs[i] t)) >>= _) _ _ _
    refine wpAny_bind ?_
    have hS2 : (s'.heap.update S (Obj.mapSeq (·.push (Value.str outs[i] t)))).get? S = some (listOf (acc ++ [Value.str outs[i] t]).toArray (c + 1)) := by
      have := Heap.get?_update_self (Obj.mapSeq (·.push (Value.str outs[i] t))) hS' rfl
      rw [this]
      simp [Obj.mapSeq]
    have oth : ∀ b o, b ≠ S → s'.heap.get? b = some o → (s'.heap.update S (Obj.mapSeq (·.push (Value.str outs[i] t)))).get? b = some o :=
      fun b o hb e => (Heap.get?_update_other _ _ (Ne.symm hb)).trans e
    refine wpAny_updateSeq hS' rfl (wpAny_pure ⟨plainId_quiet F.plain_extend_loop _, ih (i + 1) _ (acc ++ [Value.str outs[i] t]) (c + 1) (by omega) hlt (W.frame _ s' _ hst' ⟨fun b o hb e => ?_, fun _ _ _ => rfl, Nat.le_refl _⟩) hS2 ?_ fun s'' acc' c' hm'' hS'' hacc' => ?_⟩)
      (by simp [hlen]; omega) (by show (acc.toArray.push _).size ≤ sizeLine + 1; simp [hlen]; omega)
    · by_cases hbS : b = S
      · subst hbS
        rw [hS'] at e
        cases e
        exact absurd hb (hSf _ _)
      · exact oth b o hbS e
    · rw [List.take_add_one, List.getElem?_eq_getElem hlt]
      exact strsAre_snoc hacc
    · refine hR s'' acc' c' (Kept.trans ((hm.mono (fun _ _ => .inr) fun _ => id).trans ?_) hm'') hS'' hacc'
      exact ⟨fun b o hb e => oth b o (fun q => hb (.inl q)) e, Nat.le_refl _, fun _ _ _ => rfl, id, rfl, rfl, Nat.le_refl _⟩
end

section
variable {prog : Program} {w : World} {A : Around} {E : Value → Shared → Prop} {s : Shared} {R : Result → Shared → Prop} {I : Addr} {Fp Wr : Addr → Obj → Prop} {Gp : Nat → Prop} {outs : List Str} {St : Nat → Shared → Prop}

/-- a list's own changes are let by -/
theorem still_list {S : Addr} {its : Array Value} {c : Nat} {h' : Heap} (hSf : ∀ its c, ¬ Fp S (listOf its c)) (hS : s.heap.get? S = some (listOf its c)) (oth : ∀ b o, b ≠ S → s.heap.get? b = some o → h'.get? b = some o) :
    Still Fp Gp s { s with heap := h' } :=
  ⟨fun b o hb e => by
    by_cases q : b = S
    · subst q; rw [hS] at e; cases e; exact absurd hb (hSf _ _)
    · exact oth b o q e, fun _ _ _ => rfl, Nat.le_refl _⟩

theorem extend_walk (W : WalksP prog w A.in1 I Fp Wr Gp outs St) (hG : ∀ i s, St i s → ∃ g, s.heap.IsGen I g) (S : Addr) (res : Value) (c₀ : Nat) (acc₀ : List Value) (hst : St 0 s) (hSI : S ≠ I)
    (hSf : ∀ its c, ¬ Fp S (listOf its c)) (hSw : ∀ its c, ¬ Wr S (listOf its c)) (hS : s.heap.get? S = some (listOf #[] c₀)) (_h0 : acc₀ = [])
    (hR : ∀ s' acc' c', Kept (fun b o => b = S ∨ Wr b o) Gp s s' → s'.heap.get? S = some (listOf acc'.toArray c') → StrsAre acc' outs → R (.ok (.ret res)) s') (hn : outs.length ≤ sizeLine) :
    wpAny (model prog w) A.in1 (Builtin.List.listExtendWith (.ref S) (.ref I) res)
      (fun fin s' => match fin with | .done f => R (.ok f) s' | .again c' => c'.quiet = true ∧ codeAny (model prog w) A c' R s') (fun e s' => R (.error e) s') s := by
  obtain ⟨g, hg⟩ := hG 0 _ hst
  unfold Builtin.List.listExtendWith
  refine wpAny_bind (wpAny_typeOf hg.typeIs ?_)
  have h1 : Builtin.List.listSameRef (.ref S) (.ref I) = false := by simp [Builtin.List.listSameRef, hSI]
  have h2 : (Value.type "generator" == Value.type "list") = false := by decide
  have h3 : (Value.type "generator" == Value.type "tuple") = false := by decide
  simp only [h1, h2, h3, Bool.or_false, Bool.false_eq_true, if_false]
  refine wpAny_bind (wpAny_pyIter_gen hg ?_)
  refine wpAny_bind (wpAny_holding ?_)
  unfold Builtin.List.listLengthHint
  refine wpAny_bind (wpAny_specialOf hg.typeIs F.gen_no_len ?_)
  show wpAny _ A.in1 (specialOf (Value.ref I) (Str.ofString "__length_hint__") >>= _) _ _ _
  refine wpAny_bind (wpAny_specialOf hg.typeIs F.gen_no_hint ?_)
  refine wpAny_pure ?_
  show wpAny _ A.in1 (rule "list.extend.makes-room" >>= fun _ => Builtin.List.listTouch (.ref S) >>= fun _ =>
    again (.builtin "list.extend.loop" ⟨[.ref S, .ref I, res], []⟩)) _ _ _
  refine wpAny_bind (wpAny_rule ?_)
  refine wpAny_bind ?_
  show wpAny _ A.in1 (updateSeq S (·.push .none) >>= fun _ => updateSeq S (·.pop)) _ _ _
  refine wpAny_bind (wpAny_updateSeq hS rfl ?_)
  have hS₂ := Heap.get?_update_self (Obj.mapSeq (·.push Value.none)) hS rfl
  refine wpAny_updateSeq (hz := by seq_fits) hS₂ rfl ?_
  have hS₃ := Heap.get?_update_self (Obj.mapSeq (·.pop)) hS₂ rfl
  have oth : ∀ b o, b ≠ S → s.heap.get? b = some o → ((s.heap.update S (Obj.mapSeq (·.push Value.none))).update S (Obj.mapSeq (·.pop))).get? b = some o :=
    fun b o hb e => (Heap.get?_update_other _ _ (Ne.symm hb)).trans ((Heap.get?_update_other _ _ (Ne.symm hb)).trans e)
  refine wpAny_pure ⟨plainId_quiet F.plain_extend_loop _, extend_loop W hn S hSf hSw _ outs.length 0 _ [] _ rfl (Nat.zero_le _)
    (W.frame 0 s _ hst (still_list hSf hS oth)) hS₃ (by simpa using StrsAre.nil) fun s' acc' c' hm hS' hacc => ?_⟩
  exact hR s' acc' c' (Kept.pre (fun b o hb e => oth b o (fun q => hb (.inl q)) e) hm) hS' hacc

theorem init_walk (W : WalksP prog w A.in1 I Fp Wr Gp outs St) (hG : ∀ i s, St i s → ∃ g, s.heap.IsGen I g) (S : Addr) (hst : St 0 s) (hSI : S ≠ I)
    (hSf : ∀ its c, ¬ Fp S (listOf its c)) (hSw : ∀ its c, ¬ Wr S (listOf its c)) (hS : s.heap.get? S = some (listOf #[] 0))
    (hR : ∀ s' acc' c', Kept (fun b o => b = S ∨ Wr b o) Gp s s' → s'.heap.get? S = some (listOf acc'.toArray c') → StrsAre acc' outs → R (.ok (.ret .none)) s') (hn : outs.length ≤ sizeLine) :
    wpAny (model prog w) A.in1 (Builtin.«list.__init__» ⟨[.ref S, .ref I], []⟩)
      (fun fin s' => match fin with | .done f => R (.ok f) s' | .again c' => c'.quiet = true ∧ codeAny (model prog w) A c' R s') (fun e s' => R (.error e) s') s := by
  show wpAny _ A.in1 (do let old ← Builtin.List.listItems (.ref S); Builtin.List.listUpdate (.ref S) (fun _ => #[]); letGo old.toList.reverse; Builtin.List.listExtendWith (.ref S) (.ref I) .none) _ _ s
  refine wpAny_bind ?_
  unfold Builtin.List.listItems
  refine wpAny_bind (wpAny_seqItems hS rfl (wpAny_pure ?_))
  show wpAny _ A.in1 (updateSeq S (fun _ => #[]) >>= fun _ => letGo (#[] : Array Value).toList.reverse >>= fun _ => Builtin.List.listExtendWith (.ref S) (.ref I) .none) _ _ s
  refine wpAny_bind (wpAny_updateSeq hS rfl ?_)
  have hS₂ := Heap.get?_update_self (Obj.mapSeq (fun _ => (#[] : Array Value))) hS rfl
  have oth : ∀ b o, b ≠ S → s.heap.get? b = some o → (s.heap.update S (Obj.mapSeq (fun _ => (#[] : Array Value)))).get? b = some o :=
    fun b o hb e => (Heap.get?_update_other _ _ (Ne.symm hb)).trans e
  refine wpAny_bind (wpAny_letGo ?_)
  refine extend_walk (hn := hn) W hG S .none _ [] (W.frame 0 s _ hst (still_list hSf hS oth)) hSI hSf hSw hS₂ rfl fun s' acc' c' hm hS' hacc => ?_
  exact hR s' acc' c' (Kept.pre (fun b o hb e => oth b o (fun q => hb (.inl q)) e) hm) hS' hacc

/-- list(it) -/
theorem call_list_walk {Q : Value → Shared → Prop} (W : WalksP prog w A.in1.in1 I Fp Wr Gp outs St) (hG : ∀ i s, St i s → ∃ g, s.heap.IsGen I g) (hst : St 0 s)
    (hSf : ∀ its c, ¬ Fp s.heap.objs.size (listOf its c)) (hSw : ∀ its c, ¬ Wr s.heap.objs.size (listOf its c))
    (hQ : ∀ s' vs c', Kept (fun b o => b = s.heap.objs.size ∨ Wr b o) Gp s s' → s'.heap.get? s.heap.objs.size = some (listOf vs.toArray c') → StrsAre vs outs → Q (.ref s.heap.objs.size) s') (hn : outs.length ≤ sizeLine) :
    wpAny (model prog w) A (call (.type "list") [.ref I]) Q E s := by
  obtain ⟨g, hg⟩ := hG 0 _ hst
  have hSI : s.heap.objs.size ≠ I := fun e => by
    obtain ⟨o, _, _, ho, _⟩ := hg
    exact absurd (Heap.lt_size ho) (e ▸ Nat.lt_irrefl _)
  refine callType_codes (Q₁ := fun obj s₁ => obj = .ref s.heap.objs.size ∧ s₁ = { s with heap := s.heap.push (listOf #[] 0) }) F.called_list (F.typeCall_list_1 _) F.entry_list_init
    (code_list_new _ ⟨rfl, rfl⟩) fun obj s₁ h₁ => ?_
  obtain ⟨rfl, rfl⟩ := h₁
  have hS : (s.heap.push (listOf #[] 0)).get? s.heap.objs.size = some (listOf #[] 0) := Heap.get?_push_size _ rfl
  refine ⟨⟨_, hS, rfl⟩, F.args_list_init_2 _ _, init_walk (hn := hn) W hG _ (W.frame 0 s _ hst ⟨fun b o _ e => Heap.get?_push_of_some _ e, fun _ _ _ => rfl, Nat.le_refl _⟩) hSI hSf hSw hS fun s' acc' c' hm hS' hacc => ?_⟩
  exact ⟨rfl, hQ s' acc' c' (Kept.pre (fun b o _ e => Heap.get?_push_of_some _ e) hm) hS' hacc⟩
end
end Mine
end
section
open PySem PySem.W PyProof.Rows
set_option Elab.async false
set_option maxRecDepth 100000
namespace Mine
open Sem (wp)
section
variable {prog : Program} {w : World} {A : Around} {E : Value → Shared → Prop} {s : Shared}

theorem next_gen {a : Addr} {g n : Nat} {gs : GenState} {P : Nat → Shared → Shared → Prop} {Y : Protocol} {Q : Option Value → Shared → Prop} (hh : A.handled = none)
    (hl : s.heap.NoLimit) (hroom : A.depth < recursionLimit) (hg : s.heap.IsGen a g) (hgs : s.gens[g]? = some gs)
    (hgo : gs.Goes (model prog w) A.in1 (fun n s₀ r s₁ => r = .ok (.ret .none) ∧ P n s₀ s₁) Y n (.send .none) (s.setGen g .running))
    (hY : ∀ v s₁ gs', gs'.bare = true → Y (n - 1) (s.setGen g .running) v s₁ (fun r' s'' => match n with
        | 0 => False
        | m + 1 => gs'.Goes (model prog w) A.in1 (fun n s₀ r s₁ => r = .ok (.ret .none) ∧ P n s₀ s₁) Y m r' s'') → Q (some v) (s₁.setGen g gs'))
    (hP : ∀ s₁, P n (s.setGen g .running) s₁ → ∀ h', (∀ b o, s₁.heap.get? b = some o → h'.get? b = some o) → Q none { s₁.setGen g .finished with heap := h' }) :
    wpAny (model prog w) A (pyNext (.ref a)) Q E s := by
  unfold pyNext
  refine wpAny_bind (wpAny_attempt (wpAny_callSpecial?_slot (name := Str.ofString "__next__") hg.typeIs slot_gen_next
    (wpAny_call_entry slot_gen_next hg.typeIs entry_gen_next ?_ (args_gen_next _))))
  show wpAny _ A.in1 (Builtin.Generator.genWake (.ref a) (.send .none)) _ _ s
  unfold Builtin.Generator.genWake
  refine wpAny_bind (wpAny_holding (wpAny_genNumber hg (wpAny_bind (wpAny_genState hgs ?_))))
  cases gs with
  | running => exact hgo.elim
  | finished => exact hgo.elim
  | _ =>
    refine wpAny_bind (wpAny_roomToWake hl hroom ?_)
    show wpAny _ A.in1 (.resume g (.send .none) [] _) _ _ s
    refine wpAny_resumeQ hgs hgo (fun x s₁ hx => ?_) (fun v s₁ gs' hb hv => ?_)
    · obtain ⟨rfl, hp⟩ := hx
      show wpAny _ A.in1 (newExc (.type "StopIteration") [] >>= _) _ _ _
      refine wpAny_bind ?_
      simp only [newExc, newTuple]
      refine wpAny_bind (wpAny_newObj_type ?_ (by size_fits))
      refine wpAny_bind (m := firstArgMember _ _) (wpAny_of_eq (a := Value.none) (by first | rfl | (simp only [firstArgMember]; rfl)) ?_)
      refine wpAny_newObj_type ?_ (by size_fits)
      simp only [raiseNew]
      refine wpAny_bind (wpAny_bind (wpAny_handled ?_))
      rw [show A.in1.handled = none from hh]
      refine wpAny_throw ?_
      refine wpAny_bind (wpAny_isInstance (T := "StopIteration") (b := true) ⟨_, Heap.get?_push_size _ rfl, rfl⟩ isSubtype_stop ?_)
      exact wpAny_pure (hP s₁ hp _ fun b o hb => Heap.get?_push_of_some _ (Heap.get?_push_of_some _ hb))
    · exact wpAny_pure ⟨v, rfl, wpAny_pure (hY v s₁ gs' hb hv)⟩
end

/-- the generator's own end and yields -/
abbrev endF (Wr : Addr → Obj → Prop) (Gi : Nat → Prop) : Nat → Shared → Shared → Prop := fun n s₀ s₁ => n = 0 ∧ Kept Wr Gi s₀ s₁
abbrev retF (Wr : Addr → Obj → Prop) (Gi : Nat → Prop) : GenEnd := fun n s₀ r s₁ => r = .ok (.ret .none) ∧ endF Wr Gi n s₀ s₁
def protoF (Fp Wr : Addr → Obj → Prop) (Gi : Nat → Prop) (outs : List Str) : Protocol := fun m s₀ v s kap =>
  (∃ x t, outs[outs.length - 1 - m]? = some x ∧ v = .str x t) ∧ Kept Wr Gi s₀ s ∧ ∀ s'' : Shared, Still Fp Gi s s'' → kap (.send .none) s''

def GenAtF (prog : Program) (w : World) (A : Around) (a : Addr) (g : Nat) (Fp Wr : Addr → Obj → Prop) (Gi : Nat → Prop) (outs : List Str) (j : Nat) (s : Shared) : Prop :=
  s.heap.IsGen a g ∧ s.heap.NoLimit ∧ ∃ gs, s.gens[g]? = some gs ∧ ∀ s'' : Shared, Still Fp Gi s s'' → gs.Goes (model prog w) A.in1 (retF Wr Gi) (protoF Fp Wr Gi outs) (outs.length - j) (.send .none) s''

theorem still_setGen {Fp : Addr → Obj → Prop} {Gi : Nat → Prop} {s : Shared} {g : Nat} {x : GenState} (hg : ¬ Gi g) : Still Fp Gi s (s.setGen g x) :=
  ⟨fun _ _ _ e => e, fun k hk _ => by
    have : k ≠ g := fun q => hg (q ▸ hk)
    simp [Shared.setGen, Ne.symm this], by simp [Shared.setGen]⟩
theorem kept_setGen {Wr : Addr → Obj → Prop} {Gi : Nat → Prop} {s s₁ : Shared} {g : Nat} {x y : GenState} (h : Kept Wr Gi (s.setGen g x) s₁) (hx : x.bare = true) (hy : y.bare = true) :
    Kept Wr (fun k => k = g ∨ Gi k) s (s₁.setGen g y) := by
  have hb : ∀ (gens : Array GenState) (z : GenState), z.bare = true → AllBare gens → AllBare (gens.setIfInBounds g z) := fun gens z hz ha q hq => by
    rcases Array.mem_or_eq_of_mem_setIfInBounds hq with q1 | q1
    · exact ha q q1
    · exact q1 ▸ hz
  refine ⟨h.heap, ?_, fun k hk hl => ?_, fun ha => hb _ _ hy (h.bare (hb _ _ hx ha)), h.drawn, h.os, h.toks⟩
  · have := h.gsize
    simpa [Shared.setGen] using this
  · have k1 : k ≠ g := fun q => hk (.inl q)
    have k2 := h.gens k (fun q => hk (.inr q)) (by simpa [Shared.setGen] using hl)
    simp only [Shared.setGen, Array.getElem?_setIfInBounds_ne (Ne.symm k1)] at k2 ⊢
    exact k2

theorem WalksP.genfn {prog : Program} {w : World} {A : Around} (hh : A.handled = none) (hroom : A.depth < recursionLimit) (a : Addr) (g : Nat) (Fp Wr : Addr → Obj → Prop) (Gi : Nat → Prop) (outs : List Str)
    (hFa : ∀ o, Fp a o) (hFs : ∀ o, Fp cStatics o) (hWa : ∀ o, ¬ Wr a o) (hWs : ∀ o, ¬ Wr cStatics o) (hGi : ¬ Gi g) (hsub : ∀ b o, Fp b o → Wr b o → True) :
    WalksP prog w A a Fp Wr (fun k => k = g ∨ Gi k) outs (GenAtF prog w A a g Fp Wr Gi outs) where
  frame := fun i s s' st hs => by
    obtain ⟨⟨o, nm, qn, ho, r⟩, ⟨mc, hns, hnn⟩, gs, hgs, hgo⟩ := st
    have hlt : g < s.gens.size := by
      rcases Nat.lt_or_ge g s.gens.size with h' | h'
      · exact h'
      · rw [Array.getElem?_eq_none h'] at hgs; cases hgs
    exact ⟨⟨o, nm, qn, hs.heap a o (hFa o) ho, r⟩, ⟨mc, hns.at' fun o e => hs.heap cStatics o (hFs o) e, hnn⟩, gs, (hs.gens g (.inl rfl) hlt).trans hgs,
      fun s'' h'' => hgo s'' (Still.trans ⟨hs.heap, fun k hk hl => hs.gens k (.inr hk) hl, hs.gsize⟩ h'')⟩
  item := fun i s x Q E hx st hQ => by
    obtain ⟨hg, hl, gs, hgs, hgo⟩ := st
    have hi : i < outs.length := by
      rcases Nat.lt_or_ge i outs.length with h' | h'
      · exact h'
      · rw [List.getElem?_eq_none h'] at hx; cases hx
    obtain ⟨m, hm⟩ : ∃ m, outs.length - i = m + 1 := ⟨outs.length - i - 1, by omega⟩
    rw [hm] at hgo
    refine next_gen (P := endF Wr Gi) hh hl hroom hg hgs (hgo _ (still_setGen hGi)) (fun v s₁ gs' hb hv => ?_) (fun s₁ hp h' hk => ?_)
    · obtain ⟨⟨y, t, hy, rfl⟩, hk, hkap⟩ := hv
      have hidx : outs.length - 1 - (m + 1 - 1) = i := by omega
      rw [hidx, hx] at hy
      cases hy
      have K := kept_setGen (y := gs') hk rfl hb
      have hlt : g < s₁.gens.size := by
        have h1 : g < s.gens.size := by
          rcases Nat.lt_or_ge g s.gens.size with h' | h'
          · exact h'
          · rw [Array.getElem?_eq_none h'] at hgs; cases hgs
        have h2 := hk.gsize
        simp [Shared.setGen] at h2
        omega
      refine hQ t _ ⟨let ⟨o, nm, qn, ho, r⟩ := hg; ⟨o, nm, qn, hk.heap a o (hWa o) ho, r⟩, (let ⟨mc, hns, hnn⟩ := hl; ⟨mc, hns.at' fun o e => hk.heap cStatics o (hWs o) e, hnn⟩), gs', by simp [Shared.setGen, hlt], fun s'' hal => ?_⟩ K
      have e : outs.length - (i + 1) = m := by omega
      rw [e]
      exact hkap s'' (Still.trans (still_setGen hGi) hal)
    · exact absurd hp.1 (Nat.succ_ne_zero m)
  done := fun s Q E st hQ => by
    obtain ⟨hg, hl, gs, hgs, hgo⟩ := st
    rw [Nat.sub_self] at hgo
    refine next_gen (P := endF Wr Gi) hh hl hroom hg hgs (hgo _ (still_setGen hGi)) (fun v s₁ gs' hb hv => ?_) (fun s₁ hp h' hk => ?_)
    · exact (hv.2.2 _ .refl).elim
    · have K := kept_setGen (y := .finished) hp.2 rfl rfl
      exact hQ _ ⟨fun b o hb e => hk b o (K.heap b o hb e), K.gsize, K.gens, K.bare, K.drawn, K.os, K.toks⟩
end Mine
end
section
open PySem PySem.W PyProof.Rows
set_option Elab.async false
set_option maxRecDepth 100000
namespace Mine
open Sem (wp)
section
variable {prog : Program} {w : World} {A : Around} {R : GenEnd} {Y : Protocol} {n : Nat} {s₀ : Shared} {c : Code} {fs : List Frame} {s : Shared} {env : Env}
  {K : Flow → Sem Fin} {H : Value → Sem Fin} {gd : Bool → Bool} {lv : List Value → List Value}

/-- the frame that waits behind a loop's run -/
abbrev waitF (env : Env) (K : Flow → Sem Fin) (H : Value → Sem Fin) (gd : Bool → Bool) (lv : List Value → List Value) (c : Code) (p : Pos) : Frame :=
  .ret (fun r => ((match r with | .ok f => (.pure f : Sem Flow) | .error e => .raise e).onRaise fun (x : Value) => do
        if (← field x 1) == Value.none then unsupported "frame.own-activation:exception-without-traceback"
        setFlight x env.frame).wrap K H gd lv) none (gd false) (lv []) c p []

theorem seg_For {target iter : Expr} {body orelse : List Stmt} {pos : Pos}
    (h : wpAny (model prog w) (A.over c fs) (eval iter env) (fun x s₁ => wpAny (model prog w) (A.over c fs) (pyIter x) (fun it s₂ =>
      ∀ p, Seg (model prog w) A R Y n s₀ (.forLoop target it body orelse env) ((model prog w).den (.forLoop target it body orelse env)) (waitF env K H gd lv c p :: fs) s₂) (fun _ _ => False) s₁) (fun _ _ => False) s)
    (hs : ∀ x, foldedSetIterable iter env x = pure x := by intro _; rfl) :
    Seg (model prog w) A R Y n s₀ c ((exec (.For target iter body orelse pos) env).wrap K H gd lv) fs s := by
  rw [exec_For]
  refine seg_bind_wrap (wpAny_standAt ?_)
  refine seg_bind_wrap (wpAny_mono h (fun x s₁ h₁ => ?_) fun _ _ q => q.elim)
  refine seg_bind_wrap (wpAny_of_eq (hs x) ?_)
  refine seg_bind_wrap (wpAny_standAt ?_)
  refine seg_bind_wrap (wpAny_holding (wpAny_mono h₁ (fun it s₂ h₂ => ?_) fun _ _ q => q.elim))
  show Seg _ A R Y n s₀ c (.call (.forLoop target it body orelse env) none (gd false) (lv []) _) fs s₂
  exact seg_call h₂

/-- a turn's end -/
abbrev turnK (code : Code) : Flow → Sem Fin := fun f => match f with
  | .next | .cont => .pure (.again code)
  | .brk => .pure (.done .next)
  | .ret v => .pure (.done (.ret v))
abbrev noteH (env : Env) : Value → Sem Fin := fun e => (do noteFrame e env; theTreesLotGoes e : Sem Unit).wrap (fun _ => .raise e) .raise id id

theorem seg_forLoop {x : Str} {px : Pos} {it : Value} {body : List Stmt}
    (h : wpAny (model prog w) (A.over (.forLoop (.Name x px) it body [] env) fs) (pyNext it) (fun r s' => match r with
      | none => Seg (model prog w) A R Y n s₀ (.block [] env) ((model prog w).den (.block [] env)) fs s'
      | some v => wpAny (model prog w) (A.over (.forLoop (.Name x px) it body [] env) fs) (storeName env x v) (fun _ s'' =>
          Seg (model prog w) A R Y n s₀ (.forLoop (.Name x px) it body [] env) ((execs body env).wrap (turnK (.forLoop (.Name x px) it body [] env)) (noteH env) id id) fs s'') (fun _ _ => False) s') (fun _ _ => False) s) :
    Seg (model prog w) A R Y n s₀ (.forLoop (.Name x px) it body [] env) ((model prog w).den (.forLoop (.Name x px) it body [] env)) fs s := by
  show Seg _ A R Y n s₀ _ ((forTurn (.Name x px) it body [] env).onRaise (fun x => do noteFrame x env; theTreesLotGoes x)) fs s
  unfold forTurn
  rw [Sem.onRaise_eq_wrap]
  refine seg_bind_wrap (wpAny_standAt ?_)
  refine seg_bind_wrap (wpAny_onRaise (wpAny_mono h (fun r s' hr => ?_) fun _ _ q => q.elim))
  cases r with
  | none => exact seg_again rfl hr
  | some v =>
    refine seg_bind_wrap (wpAny_of_eq (rfl : letOwnedTupleGo (.Name x px) it v = pure ()) ?_)
    refine seg_bind_wrap (wpAny_assign_Name (wpAny_mono hr (fun _ s'' h'' => ?_) fun _ _ q => q.elim))
    rw [Sem.bind_eq_wrap', Sem.wrap_wrap]
    rw [Sem.wrap_congr (execs body env) _ _ (K' := turnK (.forLoop (.Name x px) it body [] env)) (H' := noteH env) (fun f => by cases f <;> rfl)
      (fun e => by first | exact Sem.bind_eq_wrap _ _ | (show (do noteFrame e env; theTreesLotGoes e : Sem Unit).bind (fun _ => .raise e) = _; rw [Sem.bind_eq_wrap]))]
    exact h''

theorem seg_block_nil {p : Pos} (h : Seg (model prog w) A R Y n s₀ c (K .next) fs s) : Seg (model prog w) A R Y n s₀ (.block [] env) ((model prog w).den (.block [] env)) (waitF env K H gd lv c p :: fs) s := by
  show Seg _ A R Y n s₀ _ (.pure (.done .next)) _ s
  exact seg_leaf (.ok .next) h
theorem seg_turn_next {p : Pos} {code : Code} (hq : code.quiet = true) (h : Seg (model prog w) A R Y n s₀ code ((model prog w).den code) fs s) : Seg (model prog w) A R Y n s₀ code (turnK code .next) fs s := seg_again hq h
end
end Mine
end
section
open PySem PySem.W PyProof.Rows
set_option Elab.async false
set_option maxRecDepth 100000
set_option maxHeartbeats 1000000
namespace Mine
section
variable {w : World} {A : Around} {E : Value → Shared → Prop} {s : Shared} {h₀ : Heap} {mg mb : Str → Option Value} {mean : ExcName → Option Value}
abbrev dumpEnv (C : Addr) : Env := envOf (Str.ofString "Differ._dump") (fScope (mt 7 3)) C 282 (.ref 281)
/-- the yield's expression -/
def forBody : Stmt → List Stmt
  | .For _ _ b _ _ => b
  | _ => []
def forIter : Stmt → Expr
  | .For _ i _ _ _ => i
  | _ => .Tuple [] 0 ⟨0, 0, 0, 0⟩
def yieldOf : Stmt → Expr
  | .Expr (.Yield (some e) _) _ => e
  | _ => .Tuple [] 0 ⟨0, 0, 0, 0⟩
def dumpFor : Stmt := nth (fBody (mt 7 3)) 1
def dumpElt : Expr := yieldOf (nth (forBody dumpFor) 0)

theorem sapp (a b : Str) : a ++ b = ⟨a.cps ++ b.cps⟩ := rfl
theorem empty_app (a : Str) : Str.empty ++ a = a := by
  rw [sapp]; show Str.mk (#[] ++ a.cps) = a; rw [Array.empty_append]
theorem len_app (a b : Str) : (a ++ b).length = a.length + b.length := by
  rw [sapp]; exact Array.size_append

theorem dump_elt {C lx : Addr} {m : Str → Option Value} {tag x : Str} {t u v : Tok} {k : Int} {vs : List Value} {Q : Value → Shared → Prop}
    (F : Fr h₀ C s.heap m) (htag : m (Str.ofString "tag") = some (.str tag t)) (hx : m (Str.ofString "x") = some (.ref lx)) (hi : m (Str.ofString "i") = some (.int k u)) (hl : s.heap.IsList lx vs.toArray) (h0 : 0 ≤ k) (hhi : k < 2 ^ 63) (hv : vs[k.toNat]? = some (.str x v))
    (hsz : tag.length + 1 + x.length ≤ sizeLine) (h : ∀ t' tk, Q (.str (tag ++ (Str.ofString " ") ++ x) t') { s with toks := tk }) :
    wpAny (model prog w) A (eval dumpElt (dumpEnv C)) Q E s := by
  show wpAny _ _ (eval (Expr.JoinedStr _ _) _) _ _ _
  w_on
  walk1; walk1; walk1
  refine ld F htag ?_
  try dsimp only
  repeat' (first | walk1 | (dsimp only; walk1))
  rotate_left 1
  · refine ld F hx ?_
    try dsimp only
    refine ld F hi ?_
    try dsimp only
    refine tail_any hl.typeIs slot_list_getitem.lookup (wpAny_getItem_list hl h0 hhi (by simpa using hv) ?_) (by with_unfolding_all rfl)
    repeat' (first | walk1 | (dsimp only; walk1))
    · rw [empty_app]; exact h _ _
  · rw [empty_app]; omega
end
end Mine
end
section
open PySem PySem.W PyProof.Rows
set_option Elab.async false
set_option maxRecDepth 100000
set_option maxHeartbeats 1000000
namespace Mine
section
variable {w : World} {A : Around} {h₀ : Heap}
/-- what the dump's generator leans on and what it turns -/
def dFp (h₀ : Heap) (C a lx : Addr) : Addr → Obj → Prop := fun b o => b = C ∨ b = a ∨ b = lx ∨ (∃ o', h₀.get? b = some o') ∨ (a < b ∧ o.cls = .type "range_iterator")
def dWr (C a : Addr) : Addr → Obj → Prop := fun b o => b = C ∨ (a < b ∧ o.cls = .type "range_iterator")
def noG : Nat → Prop := fun _ => False
def dumpOut (tag : Str) (xs : List Str) (lo n : Nat) : List Str := ((xs.drop lo).take n).map fun x => tag ++ Str.ofString " " ++ x
theorem dumpOut_length {tag : Str} {xs : List Str} {lo n : Nat} (h : lo + n ≤ xs.length) : (dumpOut tag xs lo n).length = n := by
  simp [dumpOut]; omega
theorem dumpOut_get {tag : Str} {xs : List Str} {lo n j : Nat} {x : Str} (h : j < n) (hx : xs[lo + j]? = some x) : (dumpOut tag xs lo n)[j]? = some (tag ++ Str.ofString " " ++ x) := by
  simp [dumpOut, List.getElem?_take, h, hx]
theorem strsAre_get {vs : List Value} {xs : List Str} (h : StrsAre vs xs) : ∀ {k : Nat} {x : Str}, xs[k]? = some x → ∃ t, vs[k]? = some (.str x t) := by
  induction h with
  | nil => intro k x hx; simp at hx
  | cons y t _ ih =>
    intro k x hx
    cases k with
    | zero => simp at hx; subst hx; exact ⟨t, rfl⟩
    | succ k => simpa using ih (by simpa using hx)

abbrev dumpCode (C I : Addr) : Code := .forLoop (.Name (Str.ofString "i") ⟨640, 12, 640, 13⟩) (.ref I) (forBody dumpFor) [] (dumpEnv C)
abbrev fnK : Flow → Sem Fin := fun f => .pure (.done (.ret (match f with | .ret v => v | _ => .none)))
abbrev fnH (env : Env) : Value → Sem Fin := fun e => (leaving env e).wrap (fun _ => .raise e) .raise id id

theorem ne_tag : Str.ofString "tag" ≠ Str.ofString "i" := by decide
theorem ne_x : Str.ofString "x" ≠ Str.ofString "i" := by decide
theorem dump_loop {C a lx I : Addr} {tag : Str} {t : Tok} {xs : List Str} {vs : List Value} {lo n : Nat} {c : Code} {p : Pos} {K : Flow → Sem Fin} {H : Value → Sem Fin}
    (hh : A.handled = none) (hCa : C < a) (haI : a < I) (hxC : lx ≠ C) (hxI : lx ≠ I) (hvs : StrsAre vs xs) (hlo : lo + n ≤ xs.length) (hxs : xs.length < 2 ^ 62) (hsz : ∀ x ∈ xs, tag.length + 1 + x.length ≤ sizeLine)
    (hK : ∀ s₀ s, Kept (dWr C a) noG s₀ s → Seg (model prog w) A (retF (dWr C a) noG) (protoF (dFp h₀ C a lx) (dWr C a) noG (dumpOut tag xs lo n)) 0 s₀ c (K .next) [] s) :
    ∀ (k j : Nat) (s₀ s : Shared) (m : Str → Option Value), n - j = k → j ≤ n → IsRangeIter s.heap I ((lo + j : Nat) : Int) ((n - j : Nat) : Int) 1 → Fr h₀ C s.heap m →
      m (Str.ofString "tag") = some (.str tag t) → m (Str.ofString "x") = some (.ref lx) → s.heap.IsList lx vs.toArray → Kept (dWr C a) noG s₀ s →
      Seg (model prog w) A (retF (dWr C a) noG) (protoF (dFp h₀ C a lx) (dWr C a) noG (dumpOut tag xs lo n)) (n - j) s₀ (dumpCode C I) ((model prog w).den (dumpCode C I)) [waitF (dumpEnv C) K H id id c p] s := by
  have hIC : I ≠ C := Nat.ne_of_gt (Nat.lt_trans hCa haI)
  intro k
  induction k with
  | zero =>
    intro j s₀ s m hk hj hit F htag hx hl hkp
    have hjn : j = n := by omega
    subst hjn
    rw [Nat.sub_self] at hit ⊢
    refine seg_forLoop (wpAny_pyNext_range_end (by exact hh) hit (by simp) fun h' he => ?_)
    refine seg_block_nil (hK s₀ _ (hkp.trans ⟨fun b o hb e => he b o (fun q => ?_) e, Nat.le_refl _, fun _ _ _ => rfl, id, rfl, rfl, Nat.le_refl _⟩))
    subst q
    rw [hit] at e
    cases e
    exact hb (.inr ⟨haI, rfl⟩)
  | succ k ih =>
    intro j s₀ s m hk hj hit F htag hx hl hkp
    have hlt : j < n := by omega
    have hxj : xs[lo + j]? = some xs[lo + j] := by simp
    obtain ⟨tv, hv⟩ := strsAre_get hvs hxj
    have en : n - j = (n - (j + 1)) + 1 := by omega
    refine seg_forLoop (wpAny_pyNext_range_item hit (by omega) fun h' hit' hs' => ?_)
    have hns' : h'.Ns C m := F.ns.sameBut hs' (Ne.symm hIC)
    refine wpAny_storeName_local (env := dumpEnv C) (by rfl) hns' (fun h'' hns'' hs'' => ?_) (by rfl)
    rw [en]
    have F' : Fr h₀ C h'' (fun y => if y = Str.ofString "i" then some (.int ((lo + j : Nat) : Int) s.toks) else m y) := ⟨hns'', fun b o e => ?_, F.above⟩
    rotate_left
    · have hb : b < C := Nat.lt_of_lt_of_le (Heap.lt_size e) F.above
      exact (hs''.2 b (Nat.ne_of_lt hb)).trans ((hs'.2 b (Nat.ne_of_lt (Nat.lt_trans (Nat.lt_trans hb hCa) haI))).trans (F.keep b o e))
    have hl'' : h''.IsList lx vs.toArray := hl.at fun o e => (hs''.2 lx hxC).trans ((hs'.2 lx hxI).trans e)
    have hit'' : IsRangeIter h'' I ((lo + (j + 1) : Nat) : Int) ((n - (j + 1) : Nat) : Int) 1 := by
      have e1 : ((lo + (j + 1) : Nat) : Int) = ((lo + j : Nat) : Int) + 1 := by omega
      have e2 : ((n - (j + 1) : Nat) : Int) = ((n - j : Nat) : Int) - 1 := by omega
      rw [e1, e2]
      exact (hs''.2 I hIC).trans hit'
    have hkp' : ∀ tk, s.toks ≤ tk → Kept (dWr C a) noG s₀ { s with heap := h'', toks := tk } := fun tk htk => hkp.trans ⟨fun b o hb e => ?_, Nat.le_refl _, fun _ _ _ => rfl, id, rfl, rfl, htk⟩
    rotate_left
    · have h1 : b ≠ C := fun q => hb (.inl q)
      have h2 : b ≠ I := fun q => by
        subst q
        rw [hit] at e
        cases e
        exact hb (.inr ⟨haI, rfl⟩)
      exact (hs''.2 b h1).trans ((hs'.2 b h2).trans e)
    refine seg_execs_cons ?_
    refine seg_Expr_Yield rfl rfl rfl ?_
    refine wpAny_with_toks (n := s.toks) (by show s.toks ≤ s.toks + 1 + 1; omega) ?_
    refine dump_elt (h₀ := h₀) (k := ((lo + j : Nat) : Int)) F' (by rw [if_neg ne_tag]; exact htag) (by rw [if_neg ne_x]; exact hx) (by rw [if_pos rfl]) hl'' (by omega) (by omega) (by rw [Int.toNat_natCast]; exact hv) (hsz _ (List.getElem_mem _)) (fun t' tk htk kap hkap => ?_)
    refine ⟨⟨_, t', ?_, rfl⟩, hkp' tk htk, fun s'' hst => hkap .none s'' ?_⟩
    · rw [dumpOut_length hlo]
      have : n - 1 - (n - (j + 1)) = j := by omega
      rw [this]
      exact dumpOut_get hlt hxj
    · refine seg_again rfl ?_
      have keepF : ∀ b o, dFp h₀ C a lx b o → h''.get? b = some o → s''.heap.get? b = some o := hst.heap
      refine ih (j + 1) s'' s'' _ (by omega) hlt (keepF I _ (.inr (.inr (.inr (.inr ⟨haI, rfl⟩)))) hit'') ⟨F'.ns.at' fun o e => keepF C o (.inl rfl) e, fun b o e => keepF b o (.inr (.inr (.inr (.inl ⟨o, e⟩)))) (F'.keep b o e), F.above⟩ ?_ ?_ (hl''.at fun o e => keepF lx o (.inr (.inr (.inl rfl))) e) .refl
      · rw [if_neg ne_tag]; exact htag
      · rw [if_neg ne_x]; exact hx
end
end Mine
end
section
open PySem PySem.W PyProof.Rows
set_option Elab.async false
set_option maxRecDepth 100000
set_option maxHeartbeats 1000000
namespace Mine
theorem k_range (P : Params) : nsIn (K P) mainGlobals (Str.ofString "range") = some none := by kernel_rfl
theorem b_range : bootBuiltins (Str.ofString "range") = some (.type "range") := by kernel_rfl
theorem n_range : Str.ofString "range" ≠ Str.ofString "__name__" := by decide
section
variable {w : World} {A : Around} {h₀ : Heap} {p : Program} {ls : List Str} {mg mb : Str → Option Value}

theorem dump_iter {E : Value → Shared → Prop} {s : Shared} {C : Addr} {m : Str → Option Value} {lo hi : Int} {t u : Tok} {Q : Value → Shared → Prop}
    (X : (K w.params).In h₀) (T : TopRead p ls mg mb h₀) (F : Fr h₀ C s.heap m) (hlo : m (Str.ofString "lo") = some (.int lo t)) (hhi : m (Str.ofString "hi") = some (.int hi u))
    (h : Q (.ref s.heap.objs.size) { s with heap := s.heap.push { cls := .type "range", data := .fields #[.int lo t, .int hi u, .int 1 s.toks] }, toks := s.toks + 1 }) :
    wpAny (model prog w) A (eval (forIter dumpFor) (dumpEnv C)) Q E s := by
  show wpAny _ _ (eval (Expr.Call _ _ _ _) _) _ _ _
  w_on
  walk1
  refine name_B F X T (k_range _) b_range n_range ?_
  walk1
  walk1
  refine ld F hlo ?_
  walk1
  refine ld F hhi ?_
  repeat' (first | walk1 | (dsimp only; walk1))
  exact call_range_2 h

theorem dump_seg {C a lx : Addr} {tag : Str} {t u v : Tok} {xs : List Str} {vs : List Value} {lo n : Nat} {s₀ s : Shared} {m : Str → Option Value}
    (X : (K w.params).In h₀) (T : TopRead p ls mg mb h₀) (hh : A.handled = none) (hCa : C < a) (hxC : lx ≠ C) (hvs : StrsAre vs xs) (hlo : lo + n ≤ xs.length) (hxs : xs.length < 2 ^ 61) (hsz : ∀ x ∈ xs, tag.length + 1 + x.length ≤ sizeLine)
    (ha : a < s.heap.objs.size) (F : Fr h₀ C s.heap m) (htag : m (Str.ofString "tag") = some (.str tag t)) (hx : m (Str.ofString "x") = some (.ref lx)) (hl : s.heap.IsList lx vs.toArray)
    (hml : m (Str.ofString "lo") = some (.int (lo : Int) u)) (hmh : m (Str.ofString "hi") = some (.int ((lo + n : Nat) : Int) v)) (hkp : Kept (dWr C a) noG s₀ s) :
    Seg (model prog w) A (retF (dWr C a) noG) (protoF (dFp h₀ C a lx) (dWr C a) noG (dumpOut tag xs lo n)) n s₀ (.func (fBody (mt 7 3)) (dumpEnv C)) ((model prog w).den (.func (fBody (mt 7 3)) (dumpEnv C))) [] s := by
  refine seg_func ?_
  refine seg_execs_cons ?_
  refine seg_wrap ?_
  refine wpAny_Expr ?_
  refine wpAny_mono (Q := fun v s' => (∃ z t, v = .str z t) ∧ ∃ tk, s' = { s with toks := tk } ∧ s.toks ≤ tk) (E := fun _ _ => False) (by w_on; walk1; exact ⟨⟨_, _, rfl⟩, _, rfl, by first | exact Nat.le_refl _ | exact Nat.le_succ _⟩) (fun v s' hq => ?_) fun _ _ q => q.elim
  obtain ⟨⟨z, tz, rfl⟩, tk, rfl, htk⟩ := hq
  show Seg _ _ _ _ _ _ _ ((execs [dumpFor] (dumpEnv C)).wrap fnK (fnH (dumpEnv C)) id id) [] _
  refine seg_execs_cons ?_
  have hkp' : Kept (dWr C a) noG s₀ { s with toks := tk } := hkp.trans ⟨fun _ _ _ e => e, Nat.le_refl _, fun _ _ _ => rfl, id, rfl, rfl, htk⟩
  show Seg _ _ _ _ _ _ _ ((exec (Stmt.For (.Name (Str.ofString "i") ⟨640, 12, 640, 13⟩) (forIter dumpFor) (forBody dumpFor) [] ⟨640, 8, 641, 41⟩) (dumpEnv C)).wrap _ _ _ _) [] _
  refine seg_For (dump_iter (h₀ := h₀) (s := { s with toks := tk }) X T F hml hmh ?_) (by intro _; rfl)
  have hsmall : Builtin.Range.small (lo : Int) ((lo + n : Nat) : Int) 1 = true := small_one (by omega) (by omega) (by omega) (by omega)
  refine wpAny_pyIter_range (IsRange.new ..) hsmall ?_
  intro pp
  have hrs : Builtin.Range.rangeSize (lo : Int) ((lo + n : Nat) : Int) 1 = ((n - 0 : Nat) : Int) := by
    rw [rangeSize_one]; split <;> omega
  rw [hrs]
  have hxs' : lx < s.heap.objs.size := by obtain ⟨o, ho, _⟩ := hl; exact Heap.lt_size ho
  refine dump_loop (H := fnH (dumpEnv C)) hh hCa ?_ hxC ?_ hvs hlo (by omega) hsz ?_ n 0 s₀ _ m rfl (Nat.zero_le _) ?_ (F.push _ |>.push _) htag hx ((hl.push _).push _) ?_
  · show a < (s.heap.push _).objs.size
    rw [Heap.size_push]; exact Nat.lt_succ_of_lt ha
  · show lx ≠ (s.heap.push _).objs.size
    rw [Heap.size_push]; exact Nat.ne_of_lt (Nat.lt_succ_of_lt hxs')
  · intro s₂ s₃ hk
    exact seg_end (.ok (.ret .none)) ⟨rfl, rfl, hk⟩
  · exact Heap.get?_push_size _ rfl
  · exact hkp'.trans ⟨fun b o _ e => Heap.get?_push_of_some _ (Heap.get?_push_of_some _ e), Nat.le_refl _, fun _ _ _ => rfl, id, rfl, rfl, Nat.le_succ _⟩
end
end Mine
end
section
open PySem PySem.W PyProof.Rows
set_option Elab.async false
set_option maxRecDepth 100000
set_option maxHeartbeats 1000000
namespace Mine
theorem k_dump (P : Params) : (K P).lookup 282 = some (o8x282 P) := by kernel_rfl
theorem c_dump (P : Params) : codeIn (K P) (.ref 281) (Str.ofString "Differ._dump") = true := by kernel_rfl
abbrev dumpFd : FuncData := ⟨Str.ofString "_dump", Str.ofString "Differ._dump", fArgs (mt 7 3), .stmts (fBody (mt 7 3)), fScope (mt 7 3), 3, [], .none, .none, .str (Str.ofString "Generate comparison results for a same-tagged range.") 655, .str (Str.ofString "cpy313.difflib") 194, none, .ref 281, .none, 0⟩
abbrev dumpBinds (self v1 v2 v3 v4 : Value) : List (Str × Value) := [(Str.ofString "self", self), (Str.ofString "tag", v1), (Str.ofString "x", v2), (Str.ofString "lo", v3), (Str.ofString "hi", v4)]
theorem dump_binds (self v1 v2 v3 v4 : Value) : bindArgs dumpFd ⟨[self, v1, v2, v3, v4], []⟩ = pure (dumpBinds self v1 v2 v3 v4) := by kernel_rfl
theorem dump_locs (self v1 v2 v3 v4 : Value) : ∀ y ∈ dumpBinds self v1 v2 v3 v4, (fScope (mt 7 3)).names.lookup y.1 = some .local := by
  intro y hy
  simp only [dumpBinds, List.mem_cons, List.not_mem_nil, or_false] at hy
  rcases hy with rfl | rfl | rfl | rfl | rfl <;> rfl
theorem dump_cells : ∀ x ∈ (fScope (mt 7 3)).names, x.2 ≠ .cell := by decide +kernel

section
variable {w : World} {A : Around} {h₀ : Heap} {p : Program} {ls : List Str} {mg mb : Str → Option Value} {E : Value → Shared → Prop} {s : Shared}

/-- a generator's object -/
abbrev genObj (nm qn : Str) (g : Nat) (t : Nat) : Obj := { cls := .type "generator", data := .fields #[.int g 0, .str nm t, .str qn (t + 1)] }

theorem mk_dump {L lx : Addr} {m : Str → Option Value} {news : List (Addr × Obj)} {self : Value} {tag : Str} {t u v : Tok} {xs : List Str} {vs : List Value} {lo n : Nat} {R : Result → Shared → Prop}
    (X : (K w.params).In h₀) (T : TopRead p ls mg mb h₀) (hh : A.handled = none) (hroom : A.depth < recursionLimit) (F : Fr h₀ L s.heap m) (N : News h₀ L s.heap news) (hl : s.heap.IsList lx vs.toArray)
    (hvs : StrsAre vs xs) (hlo : lo + n ≤ xs.length) (hxs : xs.length < 2 ^ 61) (hsz : ∀ x ∈ xs, tag.length + 1 + x.length ≤ sizeLine)
    (h : ∀ C a h' tk, C < a → s.heap.objs.size ≤ C → a < h'.objs.size → (∀ b o, s.heap.get? b = some o → h'.get? b = some o) → Fr h₀ L h' m → News h₀ L h' news →
      (∀ s' : Shared, s'.heap = h' → s'.gens = s.gens.push (.fresh (.func (fBody (mt 7 3)) (dumpEnv C))) → GenAtF prog w A.in1.in1 a s.gens.size (dFp h₀ C a lx) (dWr C a) noG (dumpOut tag xs lo n) 0 s') →
      R (.ok (.ret (.ref a))) { s with heap := h', gens := s.gens.push (.fresh (.func (fBody (mt 7 3)) (dumpEnv C))), toks := tk }) :
    codeAny (model prog w) A (.call (.ref 282) ⟨[self, .str tag t, .ref lx, .int (lo : Int) u, .int ((lo + n : Nat) : Int) v], []⟩) R s := by
  have Xs := X.keeps F.keep
  refine codeAny_call_generator (fd := dumpFd) (body := fBody (mt 7 3)) hroom (Xs _ _ (k_dump _)) rfl rfl rfl rfl (codeRec_of Xs (c_dump _)) ?_
  refine BindsTo.of_eq (dump_binds _ _ _ _ _) _ _ _ _ ?_
  refine wpAny_newFunctionEnv dump_cells (dump_locs _ _ _ _ _) (fun h' hns hsb => ?_)
  have hsz' : h'.objs.size = s.heap.objs.size + 1 := by rw [hsb.1, Heap.size_push]
  have keep' : ∀ b o, s.heap.get? b = some o → h'.get? b = some o := fun b o e => hsb.extBut b o (Nat.ne_of_lt (Heap.lt_size e)) (Heap.get?_push_of_some _ e)
  refine ⟨T.nolimit.keeps fun b o e => keep' b o (F.keep b o e), ?_⟩
  have hLC : L < s.heap.objs.size := F.ns.lt
  have keep2 : ∀ (o' : Obj) b o, s.heap.get? b = some o → (h'.push o').get? b = some o := fun o' b o e => Heap.get?_push_of_some _ (keep' b o e)
  obtain ⟨ol, hol, hol2⟩ := id hl
  have hlx : lx < s.heap.objs.size := Heap.lt_size hol
  refine h s.heap.objs.size h'.objs.size (h'.push _) _ (by rw [hsz']; exact Nat.lt_succ_self _) (Nat.le_refl _) (by rw [Heap.size_push]; exact Nat.lt_succ_self _) (keep2 _) ⟨F.ns.keeps (keep2 _), fun b o e => keep2 _ b o (F.keep b o e), F.above⟩
    (fun q hq => ⟨keep2 _ _ _ (N q hq).1, (N q hq).2⟩) fun s' hs' hg' => ?_
  refine ⟨⟨_, _, _, by rw [hs']; exact Heap.get?_push_size _ rfl, rfl, rfl, rfl⟩, T.nolimit.keeps fun b o e => by rw [hs']; exact keep2 _ b o (F.keep b o e), _, by rw [hg']; exact Array.getElem?_push_size .., fun s'' hst => ?_⟩
  rw [Nat.sub_zero, dumpOut_length hlo]
  have kF : ∀ b o, dFp h₀ s.heap.objs.size h'.objs.size lx b o → (h'.push _).get? b = some o → s''.heap.get? b = some o := fun b o hb e => hst.heap b o hb (by rw [hs']; exact e)
  refine ⟨rfl, dump_seg (m := fun y => (dumpBinds self (.str tag t) (.ref lx) (.int (lo : Int) u) (.int ((lo + n : Nat) : Int) v)).reverse.lookup y) X T hh (by rw [hsz']; exact Nat.lt_succ_self _) (Nat.ne_of_lt hlx) hvs hlo hxs hsz ?_ ⟨?_, ?_, ?_⟩ rfl rfl ?_ rfl rfl .refl⟩
  · exact Heap.lt_size (kF h'.objs.size _ (.inr (.inl rfl)) (Heap.get?_push_size _ rfl))
  · exact (hns.push _).at' fun o e => kF _ o (.inl rfl) e
  · exact fun b o e => kF b o (.inr (.inr (.inr (.inl ⟨o, e⟩)))) (keep2 _ b o (F.keep b o e))
  · exact Nat.le_of_lt (Nat.lt_of_le_of_lt F.above hLC)
  · exact (hl.at fun o e => kF lx o (.inr (.inr (.inl rfl))) (keep2 _ lx o e))
end
end Mine
end
section
open PySem PySem.W PyProof.Rows
set_option Elab.async false
set_option maxRecDepth 100000
set_option maxHeartbeats 1000000
namespace Mine
section
variable {w : World} {A : Around} {h₀ : Heap} {p : Program} {ls : List Str} {mg mb : Str → Option Value} {E : Value → Shared → Prop} {s : Shared}

/-- list(generator), in a frame with a ledger -/
theorem list_gen {L C a : Addr} {g : Nat} {m : Str → Option Value} {news : List (Addr × Obj)} {Fp Wr : Addr → Obj → Prop} {Gi : Nat → Prop} {outs : List Str} {Q : Value → Shared → Prop}
    (T : TopRead p ls mg mb h₀) (hh : A.handled = none) (hroom : A.depth < recursionLimit) (F : Fr h₀ L s.heap m) (N : News h₀ L s.heap news) (hb : AllBare s.gens)
    (G : GenAtF prog w A.in1.in1 a g Fp Wr Gi outs 0 s) (hGi : ¬ Gi g) (hLC : L < C) (hCa : C < a) (hnC : ∀ q ∈ news, q.1 < C)
    (hW : ∀ b o, Wr b o → b = C ∨ (a < b ∧ ∀ its c, o ≠ listOf its c)) (hFa : ∀ o, Fp a o) (hF0 : ∀ b o o', h₀.get? b = some o' → Fp b o) (hFS : ∀ its c, ¬ Fp s.heap.objs.size (listOf its c)) (hn : outs.length ≤ sizeLine)
    (h : ∀ S vs c h' gs tk, s.heap.objs.size = S → Fr h₀ L h' m → News h₀ L h' ((S, listOf vs.toArray c) :: news) → StrsAre vs outs → AllBare gs → (∀ q ∈ news, q.1 < S) → Q (.ref S) { s with heap := h', gens := gs, toks := tk }) :
    wpAny (model prog w) A (call (.type "list") [.ref a]) Q E s := by
  obtain ⟨oa, _, _, hoa, _⟩ := id G.1
  have haS : a < s.heap.objs.size := Heap.lt_size hoa
  obtain ⟨mc, ⟨os, _, _, hos, _⟩, _⟩ := id T.nolimit
  have hsL : cStatics < L := Nat.lt_of_lt_of_le (Heap.lt_size hos) F.above
  have hWlow : ∀ b o, b < C → ¬ Wr b o := fun b o hb q => by
    rcases hW b o q with q | q
    · exact Nat.lt_irrefl _ (q ▸ hb)
    · exact Nat.lt_irrefl _ (Nat.lt_trans (Nat.lt_trans hb hCa) q.1)
  have W := WalksP.genfn (prog := prog) (w := w) (A := A.in1.in1) hh hroom a g Fp Wr Gi outs hFa (fun o => hF0 cStatics o _ hos)
    (fun o q => by
      rcases hW a o q with q | q
      · exact Nat.lt_irrefl _ (q ▸ hCa)
      · exact Nat.lt_irrefl _ q.1) (fun o => hWlow _ _ (Nat.lt_trans hsL hLC)) hGi (fun _ _ _ _ => trivial)
  refine call_list_walk W (fun i s st => ⟨g, st.1⟩) G hFS (fun its c q => ?_) (fun s' vs c' hk hS hvs => ?_) hn
  · rcases hW _ _ q with q | q
    · exact absurd (q ▸ Nat.lt_trans hCa haS) (Nat.lt_irrefl _)
    · exact q.2 its c rfl
  · have low : ∀ b o, b < C → s.heap.get? b = some o → s'.heap.get? b = some o := fun b o hb e => hk.heap b o (fun q => by
      rcases q with q | q
      · exact absurd (Heap.lt_size e) (q ▸ Nat.lt_irrefl _)
      · exact hWlow b o hb q) e
    obtain ⟨h', gs, d, tk, os'⟩ := s'
    obtain rfl : d = s.drawn := hk.drawn
    obtain rfl : os' = s.os := hk.os
    have hCS : C < s.heap.objs.size := Nat.lt_trans hCa haS
    refine h _ vs c' h' gs tk rfl ⟨F.ns.at' fun o e => low L o hLC e, fun b o e => low b o (Nat.lt_trans (Nat.lt_of_lt_of_le (Heap.lt_size e) F.above) hLC) (F.keep b o e), F.above⟩ (fun q hq => ?_) hvs (hk.bare hb) (fun q hq => Nat.lt_trans (hnC q hq) hCS)
    rcases List.mem_cons.mp hq with rfl | hq
    · refine ⟨hS, fun q => Nat.lt_irrefl L (Nat.lt_of_lt_of_eq (Nat.lt_trans hLC hCS) q), ?_⟩
      cases e : h₀.get? s.heap.objs.size with
      | none => rfl
      | some o => exact absurd (Heap.lt_size (F.keep _ _ e)) (Nat.lt_irrefl _)
    · exact ⟨low _ _ (hnC q hq) (N q hq).1, (N q hq).2⟩

theorem dWr_low {C a : Addr} : ∀ b o, dWr C a b o → b = C ∨ (a < b ∧ ∀ its c, o ≠ listOf its c) := fun b o q => by
  rcases q with q | ⟨q, hc⟩
  · exact .inl q
  · exact .inr ⟨q, fun its c e => by subst e; exact absurd (show Value.type "list" = Value.type "range_iterator" from hc) (by decide)⟩
end
end Mine
end
section
open PySem PySem.W PyProof.Rows
set_option Elab.async false
set_option maxRecDepth 100000
set_option maxHeartbeats 1000000
namespace Mine
abbrev resEnv (C : Addr) : Env := envOf (Str.ofString "restore") (fScope (st 8)) C 324 (.ref 323)
def resTry : Stmt := nth (fBody (st 8)) 1
def tryBody : Stmt → List Stmt
  | .Try b _ _ _ _ => b
  | _ => []
def asgVal : Stmt → Expr
  | .Assign _ v _ => v
  | _ => .Tuple [] 0 ⟨0, 0, 0, 0⟩
def resTag : Expr := asgVal (nth (tryBody resTry) 0)
theorem k_int (P : Params) : nsIn (K P) mainGlobals (Str.ofString "int") = some none := by kernel_rfl
theorem b_int : bootBuiltins (Str.ofString "int") = some (.type "int") := by kernel_rfl
theorem n_int : Str.ofString "int" ≠ Str.ofString "__name__" := by decide
section
variable {w : World} {A : Around} {h₀ : Heap} {p : Program} {ls : List Str} {mg mb : Str → Option Value} {E : Value → Shared → Prop} {s : Shared}
theorem res_tag {C : Addr} {m : Str → Option Value} {k : Int} {tag : Str} {wv : Value} {Q : Value → Shared → Prop}
    (X : (K w.params).In h₀) (T : TopRead p ls mg mb h₀) (F : Fr h₀ C s.heap m) (hw : m (Str.ofString "which") = some wv)
    (hint : ∀ (s' : Shared) (Q' : Value → Shared → Prop), (∀ t' tk, Q' (.int k t') { s' with toks := tk }) → wpAny (model prog w) A (call (.type "int") [wv]) Q' E s')
    (hk : (k = 1 ∧ tag = Str.ofString "- ") ∨ (k = 2 ∧ tag = Str.ofString "+ "))
    (h : ∀ t' h' tk, (∀ b o, s.heap.get? b = some o → h'.get? b = some o) → Q (.str tag t') { s with heap := h', toks := tk }) :
    wpAny (model prog w) A (eval resTag (resEnv C)) Q E s := by
  show wpAny _ _ (eval (Expr.Subscript _ _ _) _) _ _ _
  refine Subscript_ ?_
  refine wpAny_Dict_walk (knd := intKind prog w) rfl rfl (by simp) (by decide) ?_
  w_on
  walk1; walk1; walk1; walk1; walk1; walk1; walk1
  refine ⟨[(1, _), (2, _)], ⟨rfl, rfl, rfl, rfl, trivial⟩, Heap.DictOf.new _, fun h' hd hsb => ?_⟩
  have keep : ∀ b o, s.heap.get? b = some o → h'.get? b = some o := fun b o e => hsb.extBut b o (Nat.ne_of_lt (Heap.lt_size e)) (Heap.get?_push_of_some _ e)
  have F' : Fr h₀ C h' m := ⟨F.ns.keeps keep, fun b o e => keep b o (F.keep b o e), F.above⟩
  walk1
  refine name_B F' X T (k_int _) b_int n_int ?_
  walk1; walk1
  refine ld F' hw ?_
  walk1
  refine hint _ _ fun t' tk => ?_
  have hm := hd.mapOf
  rcases hk with ⟨rfl, rfl⟩ | ⟨rfl, rfl⟩
  · refine tail_any (s := { s with heap := h', toks := tk }) hm.typeIs slot_dict_getitem.lookup (wpAny_getItem_of (s := { s with heap := h', toks := tk }) (k := 1) rfl hm rfl ?_) (by with_unfolding_all rfl)
    exact h _ _ _ keep
  · refine tail_any (s := { s with heap := h', toks := tk }) hm.typeIs slot_dict_getitem.lookup (wpAny_getItem_of (s := { s with heap := h', toks := tk }) (k := 2) rfl hm rfl ?_) (by with_unfolding_all rfl)
    exact h _ _ _ keep
end
end Mine
end
section
open PySem PySem.W PyProof.Rows
set_option Elab.async false
set_option maxRecDepth 100000
set_option maxHeartbeats 1000000
namespace Mine
def resFor : Stmt := nth (fBody (st 8)) 3
def resIf : Stmt := nth (forBody resFor) 0
def ifTest : Stmt → Expr
  | .If t _ _ _ => t
  | _ => .Tuple [] 0 ⟨0, 0, 0, 0⟩
def ifBody : Stmt → List Stmt
  | .If _ b _ _ => b
  | _ => []
def resElt : Expr := yieldOf (nth (ifBody resIf) 0)
/-- all objects beside the base's and the frame's own -/
def others (h₀ : Heap) (C : Addr) (h : Heap) : List (Addr × Obj) := (List.range h.objs.size).filterMap fun b => if b = C then none else match h₀.get? b with
  | some _ => none
  | none => (h.get? b).map fun o => (b, o)
theorem mem_others {h₀ h : Heap} {C b : Addr} {o : Obj} : (b, o) ∈ others h₀ C h ↔ b ≠ C ∧ h₀.get? b = none ∧ h.get? b = some o := by
  unfold others
  rw [List.mem_filterMap]
  constructor
  · rintro ⟨b', _, e⟩
    by_cases hb : b' = C
    · simp [hb] at e
    · simp only [if_neg hb] at e
      split at e
      · cases e
      · rename_i h0
        obtain ⟨o', ho', e⟩ := Option.map_eq_some_iff.mp e
        cases e
        exact ⟨hb, h0, ho'⟩
  · rintro ⟨hb, h0, ho⟩
    exact ⟨b, List.mem_range.mpr (Heap.lt_size ho), by simp [hb, h0, ho]⟩
theorem others_news {h₀ h : Heap} {C : Addr} : News h₀ C h (others h₀ C h) := fun q hq => by
  obtain ⟨b, o⟩ := q
  obtain ⟨h1, h2, h3⟩ := mem_others.mp hq
  exact ⟨h3, h1, h2⟩
theorem others_keep {h₀ h h' : Heap} {C : Addr} {m m' : Str → Option Value} {news' : List (Addr × Obj)} (F : Fr h₀ C h m) (F' : Fr h₀ C h' m') (N' : News h₀ C h' news') (hs : ∀ q ∈ others h₀ C h, q ∈ news') :
    ∀ b o, b ≠ C → h.get? b = some o → h'.get? b = some o := fun b o hb e => by
  cases h0 : h₀.get? b with
  | some o' =>
    have := F.keep b o' h0
    rw [e] at this
    cases this
    exact F'.keep b o h0
  | none => exact (N' _ (hs _ (mem_others.mpr ⟨hb, h0, e⟩))).1

section
variable {w : World} {A : Around} {h₀ : Heap} {p : Program} {ls : List Str} {mg mb : Str → Option Value} {E : Value → Shared → Prop} {s : Shared}
theorem res_elt {C : Addr} {m : Str → Option Value} {x : Str} {t : Tok} {Q : Value → Shared → Prop}
    (F : Fr h₀ C s.heap m) (hx : m (Str.ofString "line") = some (.str x t)) (hsz : x.length ≤ sizeLine)
    (h : ∀ t' tk h', Fr h₀ C h' m → (∀ b o, b ≠ C → s.heap.get? b = some o → h'.get? b = some o) → Q (.str (Txt.slice x (some 2) none) t') { s with heap := h', toks := tk }) :
    wpAny (model prog w) A (eval resElt (resEnv C)) Q E s := by
  show wpAny _ _ (eval (Expr.Subscript _ _ _) _) _ _ _
  have N := others_news (h₀ := h₀) (h := s.heap) (C := C)
  w_on
  walk1
  refine ld F hx ?_
  walk1; walk1; walk1; walk1; walk1
  refine slice_strN_sn (s := { s with toks := s.toks + 1 }) F N (fun h' t' k F' N' => ?_)
  exact h t' k h' F' (others_keep F F' N' fun _ hq => hq)
theorem res_test {C tp : Addr} {m : Str → Option Value} {x tag : Str} {t u v : Tok} {Q : Bool → Shared → Prop}
    (F : Fr h₀ C s.heap m) (hx : m (Str.ofString "line") = some (.str x t)) (hp : m (Str.ofString "prefixes") = some (.ref tp)) (htC : tp ≠ C) (ht : IsTup s.heap tp #[.str (Str.ofString "  ") u, .str tag v]) (hsz : x.length ≤ sizeLine)
    (h : ∀ tk h', Fr h₀ C h' m → (∀ b o, b ≠ C → s.heap.get? b = some o → h'.get? b = some o) → Q ([Str.ofString "  ", tag].any (· == Txt.slice x none (some 2))) { s with heap := h', toks := tk }) :
    wpAny (model prog w) A (isTrue (ifTest resIf) (resEnv C) (eval (ifTest resIf) (resEnv C))) Q E s := by
  show wpAny _ _ (isTrue (Expr.Compare _ _ _ _) _ _) _ _ _
  have N := others_news (h₀ := h₀) (h := s.heap) (C := C)
  w_on
  walk1
  walk1
  refine ld F hx ?_
  walk1; walk1; walk1; walk1; walk1
  refine slice_strN_ns (s := { s with toks := s.toks + 1 }) F N (fun h' t' k F' N' => ?_)
  have keep := others_keep F F' N' fun _ hq => hq
  refine ld F' hp ?_
  have ht' : IsTup h' tp #[.str (Str.ofString "  ") u, .str tag v] := let ⟨o, ho, r⟩ := ht; ⟨o, keep tp o htC ho, r⟩
  refine in_tuple_strs (s := { s with heap := h', toks := k }) ht' (.cons _ _ (.cons _ _ .nil)) ?_
  exact wpAny_truthy_bool (h k h' F' keep)
end
end Mine
end
section
open PySem PySem.W PyProof.Rows
set_option Elab.async false
set_option maxRecDepth 100000
set_option maxHeartbeats 1000000
namespace Mine
def resKeep (tag x : Str) : Bool := [Str.ofString "  ", tag].any (· == Txt.slice x none (some 2))
def resOut (tag : Str) (xs : List Str) : List Str := (xs.filter (resKeep tag)).map fun x => Txt.slice x (some 2) none
theorem resOut_app (tag : Str) (xs ys : List Str) : resOut tag (xs ++ ys) = resOut tag xs ++ resOut tag ys := by simp [resOut]
theorem resOut_cons (tag x : Str) (xs : List Str) : resOut tag (x :: xs) = if resKeep tag x then Txt.slice x (some 2) none :: resOut tag xs else resOut tag xs := by
  unfold resOut; rw [List.filter_cons]; split <;> rfl
theorem resOut_len (tag : Str) (xs : List Str) : (resOut tag xs).length ≤ xs.length := by simp [resOut]; exact List.length_filter_le _ _

section
variable {prog : Program} {w : World} {A : Around} {R : GenEnd} {Y : Protocol} {n : Nat} {s₀ : Shared} {c : Code} {fs : List Frame} {s : Shared} {env : Env}
  {K : Flow → Sem Fin} {H : Value → Sem Fin} {gd : Bool → Bool} {lv : List Value → List Value}
theorem seg_If {test : Expr} {body orelse : List Stmt} {pos : Pos}
    (h : wpAny (model prog w) (A.over c fs) (isTrue test env (eval test env)) (fun b s' => match b with
      | true => Seg (model prog w) A R Y n s₀ c ((execs body env).wrap K H gd lv) fs s'
      | false => Seg (model prog w) A R Y n s₀ c ((execs orelse env).wrap K H gd lv) fs s') (fun _ _ => False) s) :
    Seg (model prog w) A R Y n s₀ c ((exec (.If test body orelse pos) env).wrap K H gd lv) fs s := by
  rw [arm_exec_If]
  refine seg_bind_wrap (wpAny_standAt ?_)
  refine seg_bind_wrap (wpAny_mono h (fun b s' hb => ?_) fun _ _ q => q.elim)
  cases b with
  | true => exact hb
  | false => exact hb
end

abbrev resCode (C I : Addr) : Code := .forLoop (.Name (Str.ofString "line") ⟨780, 8, 780, 12⟩) (.ref I) (forBody resFor) [] (resEnv C)
theorem ne_pl : Str.ofString "prefixes" ≠ Str.ofString "line" := by decide

theorem res_loop {w : World} {A : Around} {h₀ : Heap} {C tp I : Addr} {tag : Str} {u v : Tok} {xs : List Str} {c : Code} {p : Pos} {K : Flow → Sem Fin} {H : Value → Sem Fin} {Fp Wr FpI WrI : Addr → Obj → Prop} {Gi GpI : Nat → Prop} {StI : Nat → Shared → Prop}
    (W : WalksP Mine.prog w (A.over (resCode C I) [waitF (resEnv C) K H id id c p]) I FpI WrI GpI xs StI) (hF : ∀ b o, FpI b o → Fp b o) (hW : ∀ b o, WrI b o → Wr b o) (hG : ∀ k, GpI k → Gi k)
    (hFC : ∀ o, ¬ FpI C o) (hWC : ∀ o, ¬ WrI C o) (hC : ∀ o, Wr C o) (hCF : ∀ o, Fp C o) (hF0 : ∀ b o o', h₀.get? b = some o' → Fp b o) (hW0 : ∀ b o o', h₀.get? b = some o' → ¬ WrI b o)
    (htpC : tp ≠ C) (htpF : ∀ o : Obj, o.cls = .type "tuple" → Fp tp o) (htpW : ∀ o, ¬ WrI tp o) (hsz : ∀ x ∈ xs, x.length ≤ sizeLine)
    (hK : ∀ s₀ s, Kept Wr Gi s₀ s → Seg (model Mine.prog w) A (retF Wr Gi) (protoF Fp Wr Gi (resOut tag xs)) 0 s₀ c (K .next) [] s) :
    ∀ (k j : Nat) (s₀ s : Shared) (m : Str → Option Value), xs.length - j = k → j ≤ xs.length → StI j s → Fr h₀ C s.heap m → m (Str.ofString "prefixes") = some (.ref tp) →
      IsTup s.heap tp #[.str (Str.ofString "  ") u, .str tag v] → Kept Wr Gi s₀ s →
      Seg (model Mine.prog w) A (retF Wr Gi) (protoF Fp Wr Gi (resOut tag xs)) (resOut tag (xs.drop j)).length s₀ (resCode C I) ((model Mine.prog w).den (resCode C I)) [waitF (resEnv C) K H id id c p] s := by
  intro k
  induction k with
  | zero =>
    intro j s₀ s m hk hj hst F hp ht hkp
    have hjn : j = xs.length := by omega
    subst hjn
    rw [List.drop_length]
    refine seg_forLoop (W.done s _ _ hst fun s' hm => ?_)
    exact seg_block_nil (hK s₀ _ (hkp.trans (hm.mono hW hG)))
  | succ k ih =>
    intro j s₀ s m hk hj hst F hp ht hkp
    have hlt : j < xs.length := by omega
    have hxj : xs[j]? = some xs[j] := by simp
    have hdrop : xs.drop j = xs[j] :: xs.drop (j + 1) := List.drop_eq_getElem_cons hlt
    refine seg_forLoop (W.item j s xs[j] _ _ hxj hst fun t s' hst' hm => ?_)
    have F1 : Fr h₀ C s'.heap m := ⟨F.ns.at' fun o e => hm.heap C o (hWC o) e, fun b o e => hm.heap b o (hW0 b o o e) (F.keep b o e), F.above⟩
    refine wpAny_storeName_local (env := resEnv C) (by rfl) F1.ns (fun h'' hns'' hs'' => ?_) (by rfl)
    have F2 : Fr h₀ C h'' (fun y => if y = Str.ofString "line" then some (.str xs[j] t) else m y) := ⟨hns'', fun b o e => (hs''.2 b (fun q => ?_)).trans (F1.keep b o e), F.above⟩
    rotate_left
    · exact absurd (Nat.lt_of_lt_of_le (Heap.lt_size e) F.above) (q ▸ Nat.lt_irrefl _)
    have ht1 : IsTup s'.heap tp #[.str (Str.ofString "  ") u, .str tag v] := let ⟨o, ho, r⟩ := ht; ⟨o, hm.heap tp o (htpW o) ho, r⟩
    have ht2 : IsTup h'' tp #[.str (Str.ofString "  ") u, .str tag v] := let ⟨o, ho, r⟩ := ht1; ⟨o, (hs''.2 tp htpC).trans ho, r⟩
    refine seg_execs_cons ?_
    show Seg _ _ _ _ _ _ _ ((exec (Stmt.If (ifTest resIf) (ifBody resIf) [] ⟨781, 8, 782, 26⟩) (resEnv C)).wrap _ _ _ _) _ _
    refine seg_If ?_
    refine wpAny_with_toks (n := s'.toks) (by exact Nat.le_succ _) ?_
    refine res_test (h₀ := h₀) (s := { s' with heap := h'', toks := s'.toks + 1 }) F2 (by rw [if_pos rfl]) (by rw [if_neg ne_pl]; exact hp) htpC ht2 (hsz _ (List.getElem_mem _)) fun tk h3 F3 keep3 htk => ?_
    have keepA : ∀ b o, b ≠ C → s'.heap.get? b = some o → h3.get? b = some o := fun b o hb e => keep3 b o hb ((hs''.2 b hb).trans e)
    have hst3 : StI (j + 1) { s' with heap := h3, toks := tk } := W.frame _ _ _ hst' ⟨fun b o hb e => keepA b o (fun q => hFC o (q ▸ hb)) e, fun _ _ _ => rfl, Nat.le_refl _⟩
    have hkp3 : Kept Wr Gi s₀ { s' with heap := h3, toks := tk } := (hkp.trans (hm.mono hW hG)).trans ⟨fun b o hb e => keepA b o (fun q => hb (q ▸ hC o)) e, Nat.le_refl _, fun _ _ _ => rfl, id, rfl, rfl, htk⟩
    have ht3 : IsTup h3 tp #[.str (Str.ofString "  ") u, .str tag v] := let ⟨o, ho, r⟩ := ht1; ⟨o, keepA tp o htpC ho, r⟩
    change match resKeep tag xs[j] with | true => _ | false => _
    cases hkeep : resKeep tag xs[j] with
    | false =>
      have e1 : resOut tag (xs.drop j) = resOut tag (xs.drop (j + 1)) := by rw [hdrop, resOut_cons, hkeep]; rfl
      rw [e1]
      show Seg _ _ _ _ _ _ _ (.pure (.again (resCode C I))) _ _
      exact seg_again rfl (ih (j + 1) s₀ _ _ (by omega) hlt hst3 F3 (by rw [if_neg ne_pl]; exact hp) ht3 hkp3)
    | true =>
      have e1 : resOut tag (xs.drop j) = Txt.slice xs[j] (some 2) none :: resOut tag (xs.drop (j + 1)) := by rw [hdrop, resOut_cons, hkeep]; rfl
      have e2 : resOut tag xs = resOut tag (xs.take j) ++ Txt.slice xs[j] (some 2) none :: resOut tag (xs.drop (j + 1)) := by rw [← e1, ← resOut_app, List.take_append_drop]
      rw [show (resOut tag (xs.drop j)).length = (resOut tag (xs.drop (j + 1))).length + 1 by rw [e1]; rfl]
      refine seg_execs_cons ?_
      refine seg_Expr_Yield rfl rfl rfl ?_
      refine wpAny_with_toks (n := tk) (Nat.le_refl _) ?_
      refine res_elt (h₀ := h₀) (s := { s' with heap := h3, toks := tk }) F3 (by rw [if_pos rfl]) (hsz _ (List.getElem_mem _)) fun t4 tk4 h4 F4 keep4 htk4 kap hkap => ?_
      refine ⟨⟨_, t4, ?_, rfl⟩, hkp3.trans ⟨fun b o hb e => keep4 b o (fun q => hb (q ▸ hC o)) e, Nat.le_refl _, fun _ _ _ => rfl, id, rfl, rfl, htk4⟩, fun s5 hs5 => hkap .none s5 ?_⟩
      · rw [e2]
        simp only [List.length_append, List.length_cons]
        rw [List.getElem?_append_right (by omega)]
        have : (resOut tag (xs.take j)).length + ((resOut tag (xs.drop (j + 1))).length + 1) - 1 - (resOut tag (xs.drop (j + 1))).length - (resOut tag (xs.take j)).length = 0 := by omega
        rw [this]; rfl
      · show Seg _ _ _ _ _ _ _ (.pure (.again (resCode C I))) _ _
        have ht4 : IsTup h4 tp #[.str (Str.ofString "  ") u, .str tag v] := let ⟨o, ho, r⟩ := ht3; ⟨o, keep4 tp o htpC ho, r⟩
        refine seg_again rfl (ih (j + 1) s5 s5 _ (by omega) hlt (W.frame _ _ _ hst3 ?_) ⟨F4.ns.at' fun o e => hs5.heap C o (hCF o) e, fun b o e => hs5.heap b o (hF0 b o o e) (F4.keep b o e), F.above⟩ (by rw [if_neg ne_pl]; exact hp) (let ⟨o, ho, r⟩ := ht4; ⟨o, hs5.heap tp o (htpF o r.1) ho, r⟩) .refl)
        exact ⟨fun b o hb e => hs5.heap b o (hF b o hb) (keep4 b o (fun q => hFC o (q ▸ hb)) e), fun k hk hl => hs5.gens k (hG k hk) hl, hs5.gsize⟩
end Mine
end
section
open PySem PySem.W PyProof.Rows
set_option Elab.async false
set_option maxRecDepth 100000
set_option maxHeartbeats 1000000
namespace Mine
theorem WalksP.list {prog : Program} {w : World} {A : Around} (hh : A.handled = none) (I l : Addr) (hne : l ≠ I) {vs : List Value} {xs : List Str} (hvs : StrsAre vs xs) :
    WalksP prog w A I (fun b o => (b = I ∧ o.cls = .type "list_iterator") ∨ b = l) (fun b o => b = I ∧ o.cls = .type "list_iterator") (fun _ => False) xs (fun i s => s.heap.IsListIter I l i ∧ s.heap.IsList l vs.toArray) where
  frame := fun i s s' st hs => by
    obtain ⟨⟨o, ho, hc, hd⟩, hl⟩ := st
    exact ⟨⟨o, hs.heap I o (.inl ⟨rfl, hc⟩) ho, hc, hd⟩, hl.at fun o e => hs.heap l o (.inr rfl) e⟩
  item := fun i s x Q E hx st hQ => by
    obtain ⟨t, hv⟩ := strsAre_get hvs hx
    refine wpAny_pyNext_list_item st.1 st.2 (x := .str x t) (by simpa using hv) fun h' hit' hs' => ?_
    refine hQ t _ ⟨hit', st.2.at fun o e => (hs'.2 l hne).trans e⟩ ⟨fun b o hb e => (hs'.2 b fun q => ?_).trans e, Nat.le_refl _, fun _ _ _ => rfl, id, rfl, rfl, Nat.le_refl _⟩
    subst q
    obtain ⟨o', ho', hc', _⟩ := st.1
    rw [e] at ho'; cases ho'
    exact hb ⟨rfl, hc'⟩
  done := fun s Q E st hQ => by
    refine wpAny_pyNext_list_end hh st.1 st.2 (by rw [← strsAre_length hvs]; simp) fun h' he => hQ _ ⟨fun b o hb e => he b o (fun q => ?_) e, Nat.le_refl _, fun _ _ _ => rfl, id, rfl, rfl, Nat.le_refl _⟩
    subst q
    obtain ⟨o', ho', hc', _⟩ := st.1
    rw [e] at ho'; cases ho'
    exact hb ⟨rfl, hc'⟩

theorem with_t {α : Type} {M : Model} {A : Around} {t : Sem α} {Q : α → Shared → Prop} {E : Value → Shared → Prop} {s : Shared}
    (h : wpAny M A t (fun a s' => s.toks ≤ s'.toks → Q a s') (fun e s' => s.toks ≤ s'.toks → E e s') s) : wpAny M A t Q E s := wpAny_with_toks (Nat.le_refl _) h
theorem ne_tp : Str.ofString "tag" ≠ Str.ofString "prefixes" := by decide
theorem ne_dt : Str.ofString "delta" ≠ Str.ofString "tag" := by decide
theorem ne_dp : Str.ofString "delta" ≠ Str.ofString "prefixes" := by decide
section
variable {w : World} {A : Around} {h₀ : Heap} {p : Program} {ls : List Str} {mg mb : Str → Option Value} {E : Value → Shared → Prop} {s : Shared}

theorem try_plain {M : Model} {body : List Stmt} {hs : List ExceptHandler} {pos : Pos} {env : Env} {Q : Flow → Shared → Prop} (h : wpAny M A (execs body env) (fun f s' => f = .next ∧ Q .next s') (fun _ _ => False) s) :
    wpAny M A (exec (.Try body hs [] [] pos) env) Q E s := by
  rw [arm_exec_Try]
  refine wpAny_bind (wpAny_standAt ?_)
  unfold tryStmt
  simp only [List.isEmpty_nil, if_true]
  refine wpAny_bind (wpAny_attempt (wpAny_mono h (fun f s' hf => ?_) fun _ _ q => q.elim))
  obtain ⟨rfl, hq⟩ := hf
  exact wpAny_execs_nil hq
theorem res_try {C : Addr} {m : Str → Option Value} {k : Int} {tag : Str} {wv : Value} {Q : Flow → Shared → Prop}
    (X : (K w.params).In h₀) (T : TopRead p ls mg mb h₀) (F : Fr h₀ C s.heap m) (hw : m (Str.ofString "which") = some wv)
    (hint : ∀ (E : Value → Shared → Prop) (s' : Shared) (Q' : Value → Shared → Prop), (∀ t' tk, Q' (.int k t') { s' with toks := tk }) → wpAny (model prog w) A (call (.type "int") [wv]) Q' E s')
    (hk : (k = 1 ∧ tag = Str.ofString "- ") ∨ (k = 2 ∧ tag = Str.ofString "+ "))
    (h : ∀ t' h' tk, Fr h₀ C h' (fun y => if y = Str.ofString "tag" then some (.str tag t') else m y) → (∀ b o, b ≠ C → s.heap.get? b = some o → h'.get? b = some o) → Q .next { s with heap := h', toks := tk }) :
    wpAny (model prog w) A (exec resTry (resEnv C)) Q E s := by
  refine try_plain ?_
  refine wpAny_execs_cons ?_
  refine wpAny_Assign_Name ?_
  refine res_tag X T F hw (hint _) hk fun t' h' tk keep => ?_
  have F1 : Fr h₀ C h' m := ⟨F.ns.keeps keep, fun b o e => keep b o (F.keep b o e), F.above⟩
  refine wpAny_storeName_local (env := resEnv C) (by rfl) F1.ns (fun h2 hns2 hs2 => ?_) (by rfl)
  refine wpAny_execs_nil ⟨rfl, ?_⟩
  refine (h t' h2 _ ⟨hns2, fun b o e => (hs2.2 b fun q => ?_).trans (F1.keep b o e), F.above⟩ fun b o hb e => (hs2.2 b hb).trans (keep b o e))
  exact absurd (Nat.lt_of_lt_of_le (Heap.lt_size e) F.above) (q ▸ Nat.lt_irrefl _)

theorem res_prefixes {C : Addr} {m : Str → Option Value} {tag : Str} {t : Tok} {Q : Flow → Shared → Prop} (F : Fr h₀ C s.heap m) (ht : m (Str.ofString "tag") = some (.str tag t))
    (h : ∀ tp u h' tk, s.heap.objs.size = tp → IsTup h' tp #[.str (Str.ofString "  ") u, .str tag t] → Fr h₀ C h' (fun y => if y = Str.ofString "prefixes" then some (.ref tp) else m y) → (∀ b o, b ≠ C → s.heap.get? b = some o → h'.get? b = some o) → Q .next { s with heap := h', toks := tk }) :
    wpAny (model prog w) A (exec (nth (fBody (st 8)) 2) (resEnv C)) Q E s := by
  show wpAny _ _ (exec (Stmt.Assign _ _ _) _) _ _ _
  have hC := F.ns.lt
  refine wpAny_Assign_Name ?_
  w_on
  walk1; walk1; walk1; walk1
  refine ld F ht ?_
  walk1
  simp only [newTuple]
  refine wpAny_newObj_type ?_ (by size_fits)
  refine wpAny_storeName_local (env := resEnv C) (by rfl) (F.ns.push _) (fun h2 hns2 hs2 => ?_) (by rfl)
  refine h s.heap.objs.size _ h2 _ rfl ⟨_, (hs2.2 _ (Nat.ne_of_gt hC)).trans (Heap.get?_push_size _ rfl), rfl, _, rfl⟩ ⟨hns2, fun b o e => (hs2.2 b fun q => ?_).trans (Heap.get?_push_of_some _ (F.keep b o e)), F.above⟩ fun b o hb e => (hs2.2 b hb).trans (Heap.get?_push_of_some _ e)
  exact absurd (Nat.lt_of_lt_of_le (Heap.lt_size e) F.above) (q ▸ Nat.lt_irrefl _)
theorem res_try_t {C : Addr} {m : Str → Option Value} {k : Int} {tag : Str} {wv : Value} {Q : Flow → Shared → Prop}
    (X : (K w.params).In h₀) (T : TopRead p ls mg mb h₀) (F : Fr h₀ C s.heap m) (hw : m (Str.ofString "which") = some wv)
    (hint : ∀ (E : Value → Shared → Prop) (s' : Shared) (Q' : Value → Shared → Prop), (∀ t' tk, Q' (.int k t') { s' with toks := tk }) → wpAny (model prog w) A (call (.type "int") [wv]) Q' E s')
    (hk : (k = 1 ∧ tag = Str.ofString "- ") ∨ (k = 2 ∧ tag = Str.ofString "+ "))
    (h : ∀ t' h' tk, s.toks ≤ tk → Fr h₀ C h' (fun y => if y = Str.ofString "tag" then some (.str tag t') else m y) → (∀ b o, b ≠ C → s.heap.get? b = some o → h'.get? b = some o) → Q .next { s with heap := h', toks := tk }) :
    wpAny (model prog w) A (exec resTry (resEnv C)) Q E s :=
  by
  refine with_t ?_
  refine @res_try w A h₀ p ls mg mb _ s C m k tag wv (fun a s' => s.toks ≤ s'.toks → Q a s') X T F hw hint hk ?_
  intro t' h' tk F' keep htk
  exact h t' h' tk htk F' keep
theorem res_prefixes_t {C : Addr} {m : Str → Option Value} {tag : Str} {t : Tok} {Q : Flow → Shared → Prop} (F : Fr h₀ C s.heap m) (ht : m (Str.ofString "tag") = some (.str tag t))
    (h : ∀ tp u h' tk, s.heap.objs.size = tp → s.toks ≤ tk → IsTup h' tp #[.str (Str.ofString "  ") u, .str tag t] → Fr h₀ C h' (fun y => if y = Str.ofString "prefixes" then some (.ref tp) else m y) → (∀ b o, b ≠ C → s.heap.get? b = some o → h'.get? b = some o) → Q .next { s with heap := h', toks := tk }) :
    wpAny (model prog w) A (exec (nth (fBody (st 8)) 2) (resEnv C)) Q E s :=
  by
  refine with_t ?_
  refine res_prefixes F ht ?_
  intro tp u h' tk e ht' F' keep htk
  exact h tp u h' tk e htk ht' F' keep
end
end Mine
end
section
open PySem PySem.W PyProof.Rows
set_option Elab.async false
set_option maxRecDepth 100000
set_option maxHeartbeats 1000000
namespace Mine
def rFp (h₀ : Heap) (C a l : Addr) : Addr → Obj → Prop := fun b o => b = C ∨ b = a ∨ b = l ∨ (∃ o', h₀.get? b = some o') ∨ (a < b ∧ (o.cls = .type "list_iterator" ∨ o.cls = .type "tuple"))
def rWr (C a : Addr) : Addr → Obj → Prop := fun b o => b = C ∨ (a < b ∧ o.cls = .type "list_iterator")
theorem rWr_low {C a : Addr} : ∀ b o, rWr C a b o → b = C ∨ (a < b ∧ ∀ its c, o ≠ listOf its c) := fun b o q => by
  rcases q with q | ⟨q, hc⟩
  · exact .inl q
  · exact .inr ⟨q, fun its c e => by subst e; exact absurd (show Value.type "list" = Value.type "list_iterator" from hc) (by decide)⟩
section
variable {w : World} {A : Around} {h₀ : Heap} {p : Program} {ls : List Str} {mg mb : Str → Option Value} {E : Value → Shared → Prop} {s : Shared}

/-- which, as restore reads it -/
def Asks (w : World) (wv : Value) (tag : Str) : Prop := ∃ k : Int, ((k = 1 ∧ tag = Str.ofString "- ") ∨ (k = 2 ∧ tag = Str.ofString "+ ")) ∧
  ∀ (A : Around) (E : Value → Shared → Prop) (s' : Shared) (Q' : Value → Shared → Prop), (∀ t' tk, s'.toks ≤ tk → Q' (.int k t') { s' with toks := tk }) → wpAny (model prog w) A (call (.type "int") [wv]) Q' E s'

theorem seg_doc {M : Model} {R : GenEnd} {Y : Protocol} {n : Nat} {s₀ : Shared} {c : Code} {fs : List Frame} {env : Env} {K : Flow → Sem Fin} {H : Value → Sem Fin} {gd : Bool → Bool} {lv : List Value → List Value} {d : Str} {k : Nat} {p1 p2 : Pos} {rest : List Stmt}
    (hi : interactive env = false) (hs : swapsWith (.Constant (.str d) k p1) none p2.line env = pure false)
    (h : Seg M A R Y n s₀ c ((execs rest env).wrap K H gd lv) fs { s with toks := s.toks + 1 }) : Seg M A R Y n s₀ c ((execs (.Expr (.Constant (.str d) k p1) p2 :: rest) env).wrap K H gd lv) fs s :=
  seg_execs_cons (seg_wrap (wpAny_Expr (wpAny_Constant_str h) hi hs))
theorem res_seg {C a l : Addr} {tag : Str} {wv : Value} {xs : List Str} {vs : List Value} {s₀ s : Shared} {m : Str → Option Value}
    (X : (K w.params).In h₀) (T : TopRead p ls mg mb h₀) (hh : A.handled = none) (hCa : C < a) (hlC : l ≠ C) (hla : l < a) (hvs : StrsAre vs xs) (hsz : ∀ x ∈ xs, x.length ≤ sizeLine) (hw : Asks w wv tag)
    {oa : Obj} (hoa : s.heap.get? a = some oa) (F : Fr h₀ C s.heap m) (hmd : m (Str.ofString "delta") = some (.ref l)) (hmw : m (Str.ofString "which") = some wv) (hl : s.heap.IsList l vs.toArray) (hkp : Kept (rWr C a) noG s₀ s) :
    Seg (model prog w) A (retF (rWr C a) noG) (protoF (rFp h₀ C a l) (rWr C a) noG (resOut tag xs)) (resOut tag xs).length s₀ (.func (fBody (st 8)) (resEnv C)) ((model prog w).den (.func (fBody (st 8)) (resEnv C))) [] s := by
  obtain ⟨k, hk, hint⟩ := hw
  refine seg_func ?_
  refine seg_doc (by kernel_rfl) (by kernel_rfl) ?_
  have htk : s.toks ≤ s.toks + 1 := Nat.le_succ _
  generalize s.toks + 1 = tk at htk
  show Seg _ _ _ _ _ _ _ ((execs (resTry :: nth (fBody (st 8)) 2 :: resFor :: []) (resEnv C)).wrap fnK (fnH (resEnv C)) id id) [] _
  refine seg_execs_cons (seg_wrap ?_)
  have hint' : ∀ (A : Around) (E : Value → Shared → Prop) (s' : Shared) (Q' : Value → Shared → Prop), (∀ t' tk, Q' (.int k t') { s' with toks := tk }) → wpAny (model prog w) A (call (.type "int") [wv]) Q' E s' := fun A E s' Q' h => hint A E s' Q' fun t tk _ => h t tk
  refine @res_try_t w _ h₀ p ls mg mb _ _ C m k tag wv _ X T F hmw (hint' _) hk ?_
  intro t1 h1 tk1 htk1 F1 keep1
  refine seg_execs_cons (seg_wrap ?_)
  refine @res_prefixes_t w _ h₀ _ { s with heap := h1, toks := tk1 } C _ tag t1 _ F1 (by rw [if_pos rfl]) ?_
  intro tp u h2 tk2 htp htk2 ht2 F2 keep2
  refine seg_execs_cons ?_
  have keepA : ∀ b o, b ≠ C → s.heap.get? b = some o → h2.get? b = some o := fun b o hb e => keep2 b o hb (keep1 b o hb e)
  have hl2 : h2.IsList l vs.toArray := hl.at fun o e => keepA l o hlC e
  have hmd2 : (fun y => if y = Str.ofString "prefixes" then some (Value.ref tp) else if y = Str.ofString "tag" then some (Value.str tag t1) else m y) (Str.ofString "delta") = some (Value.ref l) := by
    show (if _ then _ else _) = _
    rw [if_neg ne_dp, if_neg ne_dt]; exact hmd
  show Seg _ _ _ _ _ _ _ ((exec (Stmt.For (.Name (Str.ofString "line") ⟨780, 8, 780, 12⟩) (.Name (Str.ofString "delta") ⟨780, 16, 780, 21⟩) (forBody resFor) [] ⟨780, 4, 782, 26⟩) (resEnv C)).wrap _ _ _ _) [] _
  refine seg_For ?_ (by intro _; rfl)
  refine ld F2 hmd2 ?_
  refine wpAny_pyIter_list hl2 ?_
  intro pp
  obtain ⟨ol, hol, _⟩ := id hl2
  obtain ⟨ot, hot, hotc, _⟩ := id ht2
  have hIl : l ≠ h2.objs.size := Nat.ne_of_lt (Heap.lt_size hol)
  have hCI : C < h2.objs.size := F2.ns.lt
  have haC : a ≠ C := Nat.ne_of_gt hCa
  have hsz1 : a < h1.objs.size := Heap.lt_size (keep1 a oa haC hoa)
  have haI : a < h2.objs.size := Heap.lt_size (keepA a oa haC hoa)
  have htpI : tp < h2.objs.size := Heap.lt_size hot
  have hatp : a < tp := by rw [← htp]; exact hsz1
  have hbase : ∀ b o', h₀.get? b = some o' → b < C := fun b o' e => Nat.lt_of_lt_of_le (Heap.lt_size e) F.above
  have hd0 : resOut tag xs = resOut tag (xs.drop 0) := by rw [List.drop_zero]
  rw [show (resOut tag xs).length = (resOut tag (xs.drop 0)).length by rw [List.drop_zero]]
  refine res_loop (h₀ := h₀) (C := C) (tp := tp) (u := u) (v := t1) (WalksP.list (by exact hh) h2.objs.size l hIl hvs) ?_ ?_ ?_ ?_ ?_ ?_ ?_ ?_ ?_ ?_ ?_ ?_ hsz ?_ xs.length 0 s₀ _ _ rfl (Nat.zero_le _) ?_ (F2.push _) ?_ ?_ ?_
  · rintro b o (⟨rfl, hc⟩ | rfl)
    · exact .inr (.inr (.inr (.inr ⟨haI, .inl hc⟩)))
    · exact .inr (.inr (.inl rfl))
  · rintro b o ⟨rfl, hc⟩
    exact .inr ⟨haI, hc⟩
  · intro k hk; exact hk.elim
  · rintro o (⟨q, _⟩ | q)
    · exact Nat.ne_of_lt hCI q
    · exact hlC q.symm
  · rintro o ⟨q, _⟩
    exact Nat.ne_of_lt hCI q
  · intro o; exact .inl rfl
  · intro o; exact .inl rfl
  · intro b o o' e; exact .inr (.inr (.inr (.inl ⟨o', e⟩)))
  · rintro b o o' e ⟨q, _⟩
    exact Nat.ne_of_lt (Nat.lt_trans (hbase b o' e) hCI) q
  · exact Nat.ne_of_gt (Nat.lt_trans hCa hatp)
  · intro o hc; exact .inr (.inr (.inr (.inr ⟨hatp, .inr hc⟩)))
  · rintro o ⟨q, _⟩
    exact Nat.ne_of_lt htpI q
  · intro s2 s3 hk
    exact seg_end (.ok (.ret .none)) ⟨rfl, rfl, hk⟩
  · exact ⟨⟨_, Heap.get?_push_size _ rfl, rfl, rfl⟩, hl2.push _⟩
  · exact if_pos rfl
  · exact ⟨ot, Heap.get?_push_of_some _ hot, hotc, by assumption⟩
  · exact hkp.trans ⟨fun b o hb e => Heap.get?_push_of_some _ (keepA b o (fun q => hb (.inl q)) e), Nat.le_refl _, fun _ _ _ => rfl, id, rfl, rfl, Nat.le_trans htk (Nat.le_trans htk1 htk2)⟩
end
end Mine
end
section
open PySem PySem.W PyProof.Rows
set_option Elab.async false
set_option maxRecDepth 100000
set_option maxHeartbeats 1000000
namespace Mine
theorem k_restore (P : Params) : (K P).lookup 324 = some (o11x324 P) := by kernel_rfl
theorem c_restore (P : Params) : codeIn (K P) (.ref 323) (Str.ofString "restore") = true := by kernel_rfl
abbrev resFd : FuncData := ⟨Str.ofString "restore", Str.ofString "restore", fArgs (st 8), .stmts (fBody (st 8)), fScope (st 8), 3, [], .none, .none, .str (docOf (fBody (st 8))) 754, .str (Str.ofString "cpy313.difflib") 194, none, .ref 323, .none, 0⟩
abbrev resBinds (v1 v2 : Value) : List (Str × Value) := [(Str.ofString "delta", v1), (Str.ofString "which", v2)]
theorem res_binds (v1 v2 : Value) : bindArgs resFd ⟨[v1, v2], []⟩ = pure (resBinds v1 v2) := by kernel_rfl
theorem res_locs (v1 v2 : Value) : ∀ y ∈ resBinds v1 v2, (fScope (st 8)).names.lookup y.1 = some .local := by
  intro y hy
  simp only [resBinds, List.mem_cons, List.not_mem_nil, or_false] at hy
  rcases hy with rfl | rfl <;> rfl
theorem res_cells : ∀ x ∈ (fScope (st 8)).names, x.2 ≠ .cell := by decide +kernel
section
variable {w : World} {A : Around} {h₀ : Heap} {p : Program} {ls : List Str} {mg mb : Str → Option Value} {E : Value → Shared → Prop} {s : Shared}
theorem mk_restore {L l : Addr} {m : Str → Option Value} {news : List (Addr × Obj)} {tag : Str} {wv : Value} {xs : List Str} {vs : List Value} {R : Result → Shared → Prop}
    (X : (K w.params).In h₀) (T : TopRead p ls mg mb h₀) (hh : A.handled = none) (hroom : A.depth < recursionLimit) (F : Fr h₀ L s.heap m) (N : News h₀ L s.heap news) (hl : s.heap.IsList l vs.toArray)
    (hvs : StrsAre vs xs) (hsz : ∀ x ∈ xs, x.length ≤ sizeLine) (hw : Asks w wv tag)
    (h : ∀ C a h' tk, C < a → s.heap.objs.size ≤ C → a < h'.objs.size → (∀ b o, s.heap.get? b = some o → h'.get? b = some o) → Fr h₀ L h' m → News h₀ L h' news →
      (∀ s' : Shared, s'.heap = h' → s'.gens = s.gens.push (.fresh (.func (fBody (st 8)) (resEnv C))) → GenAtF prog w A.in1.in1 a s.gens.size (rFp h₀ C a l) (rWr C a) noG (resOut tag xs) 0 s') →
      R (.ok (.ret (.ref a))) { s with heap := h', gens := s.gens.push (.fresh (.func (fBody (st 8)) (resEnv C))), toks := tk }) :
    codeAny (model prog w) A (.call (.ref 324) ⟨[.ref l, wv], []⟩) R s := by
  have Xs := X.keeps F.keep
  refine codeAny_call_generator (fd := resFd) (body := fBody (st 8)) hroom (Xs _ _ (k_restore _)) rfl rfl rfl rfl (codeRec_of Xs (c_restore _)) ?_
  refine BindsTo.of_eq (res_binds _ _) _ _ _ _ ?_
  refine wpAny_newFunctionEnv res_cells (res_locs _ _) (fun h' hns hsb => ?_)
  have hsz' : h'.objs.size = s.heap.objs.size + 1 := by rw [hsb.1, Heap.size_push]
  have keep' : ∀ b o, s.heap.get? b = some o → h'.get? b = some o := fun b o e => hsb.extBut b o (Nat.ne_of_lt (Heap.lt_size e)) (Heap.get?_push_of_some _ e)
  refine ⟨T.nolimit.keeps fun b o e => keep' b o (F.keep b o e), ?_⟩
  have hLC : L < s.heap.objs.size := F.ns.lt
  have keep2 : ∀ (o' : Obj) b o, s.heap.get? b = some o → (h'.push o').get? b = some o := fun o' b o e => Heap.get?_push_of_some _ (keep' b o e)
  obtain ⟨ol, hol, hol2⟩ := id hl
  have hlx : l < s.heap.objs.size := Heap.lt_size hol
  refine h s.heap.objs.size h'.objs.size (h'.push _) _ (by rw [hsz']; exact Nat.lt_succ_self _) (Nat.le_refl _) (by rw [Heap.size_push]; exact Nat.lt_succ_self _) (keep2 _) ⟨F.ns.keeps (keep2 _), fun b o e => keep2 _ b o (F.keep b o e), F.above⟩
    (fun q hq => ⟨keep2 _ _ _ (N q hq).1, (N q hq).2⟩) fun s' hs' hg' => ?_
  refine ⟨⟨_, _, _, by rw [hs']; exact Heap.get?_push_size _ rfl, rfl, rfl, rfl⟩, T.nolimit.keeps fun b o e => by rw [hs']; exact keep2 _ b o (F.keep b o e), _, by rw [hg']; exact Array.getElem?_push_size .., fun s'' hst => ?_⟩
  rw [Nat.sub_zero]
  have kF : ∀ b o, rFp h₀ s.heap.objs.size h'.objs.size l b o → (h'.push _).get? b = some o → s''.heap.get? b = some o := fun b o hb e => hst.heap b o hb (by rw [hs']; exact e)
  refine ⟨rfl, res_seg (m := fun y => (resBinds (.ref l) wv).reverse.lookup y) X T hh (by rw [hsz']; exact Nat.lt_succ_self _) (Nat.ne_of_lt hlx) (by rw [hsz']; exact Nat.lt_succ_of_lt hlx) hvs hsz hw (kF h'.objs.size _ (.inr (.inl rfl)) (Heap.get?_push_size _ rfl)) ⟨?_, ?_, ?_⟩ rfl rfl ?_ .refl⟩
  · exact (hns.push _).at' fun o e => kF _ o (.inl rfl) e
  · exact fun b o e => kF b o (.inr (.inr (.inr (.inl ⟨o, e⟩)))) (keep2 _ b o (F.keep b o e))
  · exact Nat.le_of_lt (Nat.lt_of_le_of_lt F.above hLC)
  · exact (hl.at fun o e => kF l o (.inr (.inr (.inl rfl))) (keep2 _ l o e))

theorem asks_one (t : Tok) : Asks w (.int 1 t) (Str.ofString "- ") := ⟨1, .inl ⟨rfl, rfl⟩, fun A E s' Q' h => call_int_int (h t s'.toks (Nat.le_refl _))⟩
theorem asks_two (t : Tok) : Asks w (.int 2 t) (Str.ofString "+ ") := ⟨2, .inr ⟨rfl, rfl⟩, fun A E s' Q' h => call_int_int (h t s'.toks (Nat.le_refl _))⟩
theorem asks_s1 (t : Tok) : Asks w (.str (Str.ofString "1") t) (Str.ofString "- ") := ⟨1, .inl ⟨rfl, rfl⟩, fun A E s' Q' h => PySem.W.KIN.call_text (by decide +kernel) (by decide) (h _ _ (Nat.le_succ _))⟩
theorem asks_s2 (t : Tok) : Asks w (.str (Str.ofString "2") t) (Str.ofString "+ ") := ⟨2, .inr ⟨rfl, rfl⟩, fun A E s' Q' h => PySem.W.KIN.call_text (by decide +kernel) (by decide) (h _ _ (Nat.le_succ _))⟩
end
end Mine
end
section
open PySem PySem.W PyProof.Rows
set_option Elab.async false
set_option maxRecDepth 100000
set_option maxHeartbeats 4000000
namespace Mine
abbrev lawEnv (L fa : Addr) (cd : Value) : Env := envOf (Str.ofString "law") (fScope (st 10)) L fa cd
/-- what the law's body must come to -/
def LawEnd (s₁ : Shared) (f : Flow) (s' : Shared) : Prop := f = .ret (.bool true) ∧ (∀ b o, s₁.heap.get? b = some o → s'.heap.get? b = some o) ∧ s'.os = s₁.os ∧ AllBare s'.gens
def LawBody : Prop := ∀ (w : World) (s₁ : Shared) (mg mb : Str → Option Value) (p : Program) (ls : List Str) (mean : ExcName → Option Value) (fa l : Addr) (cd : Value) (vs : List Value) (ns : List Int) (h : Heap) (tk : Nat),
  (K w.params).In s₁.heap → Top p ls mean mg mb s₁.heap → Below callerA s₁.heap [] s₁.heap → s₁.gens = #[] → s₁.heap.IsList l vs.toArray → IntsAre vs ns → ns.length ≤ 63 → (PyData.list (ns.map PyData.int)).layable0 = true →
  Fr s₁.heap s₁.heap.objs.size h (fun y => [(Str.ofString "script", Value.ref l)].reverse.lookup y) →
  wpAny (model prog w) (callerA.deeper (lawEnv s₁.heap.objs.size fa cd)) (execs (fBody (st 10)) (lawEnv s₁.heap.objs.size fa cd)) (LawEnd s₁) (fun _ _ => False) { s₁ with heap := h, toks := tk }

theorem law_locs (v : Value) : ∀ y ∈ [(Str.ofString "script", v)], (fScope (st 10)).names.lookup y.1 = some .local := by
  intro y hy
  simp only [List.mem_cons, List.not_mem_nil, or_false] at hy
  subst hy; rfl
theorem law_cells : ∀ x ∈ (fScope (st 10)).names, x.2 ≠ .cell := by decide +kernel

theorem walk (hb : LawBody) : WalkO qv loose (XL qv []) (InK K) row.toRowW dLaw [] fun f vs => PySem.call f vs := by
  w_on
  intro w s₀ s₁ mg mb G Y fa o pm cd doc dV kV ho hd hcd hD hmg hg args vals as hpre hlay hrd hwl hlo
  have KX : (K w.params).In s₁.heap := Y
  refine Ground.open G ?_
  intro T B D TE TW
  clear hmg
  wrow_args hpre hlay hrd hwl hlo
  rename_i ns _ _ hL1 _ _ _ _ l vs _ hL _ _ _ hI _ hc _
  refine enter_call ?_
  obtain ⟨rfl, rfl⟩ : dV = .none ∧ kV = .none := ⟨hD.pos.elim (·.2) fun q => absurd (by kernel_rfl) q.1, hD.kw.elim (·.2) fun q => absurd rfl q.1⟩
  refine codeAny_call_def (fd := { Calls.docDef dLaw.name dLaw.params dLaw.body dLaw.scope pm cd doc with defaults := .none, kwdefaults := .none }) (body := fBody (st 10)) (binds := [(Str.ofString "script", Value.ref l)])
    (by decide) ho hd T.nolimit hcd rfl (BindsTo.of_eq (by kernel_rfl)) law_cells (law_locs _) (fun h hns hk => ?_) (by rfl) (by rfl) (by rfl)
  have F : Fr s₁.heap s₁.heap.objs.size h (fun y => [(Str.ofString "script", Value.ref l)].reverse.lookup y) := ⟨hns, hk, Nat.le_refl _⟩
  refine wpAny_mono (hb w s₁ mg mb _ _ _ fa l cd vs ns h _ KX T (below_caller (Top.heap T)) hg hL hI (by omega) hL1 F) (fun f s' hf => ?_) fun _ _ q => q.elim
  obtain ⟨rfl, keep, hos, hbr⟩ := hf
  exact ⟨.inl ⟨.bool true, .bool true, [], rfl, fun _ => rfl, .bool _, by kernel_rfl, fun _ => ⟨.nil, fun _ h => (nomatch h)⟩⟩, .of_keep keep, hos, hbr⟩
theorem law07 (hb : LawBody) : PySem.Challenge.rw_dm0050_07.Holds := hd (walk hb)
end Mine
end
section
open PySem PySem.W PyProof.Rows
set_option Elab.async false
set_option maxRecDepth 100000
set_option maxHeartbeats 4000000
namespace Mine
section
variable {w : World} {s₁ s : Shared} {mg mb : Str → Option Value} {p : Program} {ls : List Str} {mean : ExcName → Option Value} {fa l : Addr} {cd : Value} {vs : List Value} {ns : List Int} {L : Addr}
abbrev lawA (L fa : Addr) (cd : Value) : Around := callerA.deeper (lawEnv L fa cd)
abbrev lawS (i : Nat) : Stmt := nth (fBody (st 10)) i
theorem s0 {m : Str → Option Value} {Q : Flow → Shared → Prop} (X : (K w.params).In s₁.heap) (T : Top p ls mean mg mb s₁.heap) (hl : s₁.heap.IsList l vs.toArray) (hI : IntsAre vs ns) (hlen : ns.length ≤ 63)
    (F : Fr s₁.heap L s.heap m) (hm : m (Str.ofString "script") = some (.ref l))
    (h : ∀ D ws h' tk, IntsAre ws ns → Fr s₁.heap L h' (fun y => if y = Str.ofString "script" then some (.ref D) else m y) → News s₁.heap L h' [(D, listOf ws.toArray 0)] → Q .next { s with heap := h', toks := tk }) :
    wpAny (model prog w) (lawA L fa cd) (exec (lawS 0) (lawEnv L fa cd)) Q (fun _ _ => False) s := by
  have N : News s₁.heap L s.heap [] := fun _ hp => (nomatch hp)
  show wpAny _ _ (exec (Stmt.Assign _ _ _) _) _ _ _
  w_on
  walk1
  walk1
  refine ld F hm ?_
  k_steps
  rename_i hI' _ _ _ _ F' N'
  rw [List.take_of_length_le hlen] at hI'
  exact h _ _ _ _ hI' F' N'

theorem allLt_mem {d : Nat} {l : List (Addr × Obj)} (h : AllLt d l) : ∀ z ∈ l, z.1 < d := by
  induction l with
  | nil => intro z hz; cases hz
  | cons a r ih =>
    intro z hz
    rcases List.mem_cons.mp hz with rfl | hz
    · exact h.1
    · exact ih h.2 z hz
theorem news_skip2 {h₀ h : Heap} {L : Addr} {a b c : Addr × Obj} {rest : List (Addr × Obj)} (N : News h₀ L h (a :: b :: c :: rest)) : News h₀ L h (a :: rest) := fun z hz => by
  rcases List.mem_cons.mp hz with rfl | hz
  · exact N _ (by simp)
  · exact N _ (by simp [hz])
theorem s1 {m : Str → Option Value} {news : List (Addr × Obj)} {Q : Flow → Shared → Prop} (X : (K w.params).In s₁.heap) (T : Top p ls mean mg mb s₁.heap) (B : Below callerA s₁.heap [] s₁.heap)
    (F : Fr s₁.heap L s.heap m) (N : News s₁.heap L s.heap news)
    (h : ∀ q x h' tk, (∀ z ∈ news, z.1 < q) → Fr s₁.heap L h' (fun y => if y = Str.ofString "dump" then some (.ref q) else m y) → News s₁.heap L h' ((q, methodObj (.ref 282) (.ref x)) :: news) → Q .next { s with heap := h', toks := tk }) :
    wpAny (model prog w) (lawA L fa cd) (exec (lawS 1) (lawEnv L fa cd)) Q (fun _ _ => False) s := by
  have hrow : row = row := rfl
  revert hrow X
  k_fill
  intro _ X
  show wpAny _ _ (exec (Stmt.Assign _ _ _) _) _ _ _
  w_on
  try k_fold
  k_steps
  rename_i l1 h' F' N'
  exact h _ _ _ _ (allLt_mem l1.2.2) F' (news_skip2 N')
end
end Mine
end
section
open PySem PySem.W PyProof.Rows
set_option Elab.async false
set_option maxRecDepth 100000
set_option maxHeartbeats 1000000
namespace Mine
section
variable {w : World} {s₁ s : Shared} {mg mb : Str → Option Value} {p : Program} {ls : List Str} {mean : ExcName → Option Value} {fa : Addr} {cd : Value} {ns : List Int} {L : Addr}
def binL : Expr → Expr
  | .BinOp l _ _ _ => l
  | _ => .Tuple [] 0 ⟨0, 0, 0, 0⟩
def rowOf (k : Int) : Str := Str.ofString (toString (k.fmod 1000)) ++ Str.ofString "\n"
theorem s2comp {m : Str → Option Value} {news : List (Addr × Obj)} {D : Addr} {ws : List Value} {c : Nat} {Q : Value → Shared → Prop} (X : (K w.params).In s₁.heap) (T : Top p ls mean mg mb s₁.heap) (B : Below callerA s₁.heap [] s₁.heap)
    (F : Fr s₁.heap L s.heap m) (N : News s₁.heap L s.heap news) (hm : m (Str.ofString "script") = some (.ref D)) (hD : (D, listOf ws.toArray c) ∈ news) (hI : IntsAre ws ns) (hlen : ns.length ≤ 63)
    (h : ∀ R vs c h' tk, LCg.Off1 R news → StrsAre vs (ns.map rowOf) → Fr s₁.heap L h' m → News s₁.heap L h' ((R, listOf vs.toArray c) :: news) → Q (.ref R) { s with heap := h', toks := tk }) :
    wpAny (model prog w) (lawA L fa cd) (eval (binL (asgVal (lawS 2))) (lawEnv L fa cd)) Q (fun _ _ => False) s := by
  have hrow : row = row := rfl
  revert hrow X
  k_fill
  intro _ X
  show wpAny _ _ (eval (Expr.ListComp _ _ _ _) _) _ _ _
  refine LCg.ListComp_U (F₀ := F) (by with_unfolding_all rfl) (by decide) (by rfl) (by decide) (by rfl) ?_
  refine ld F hm ?_
  refine LCg.CompSrc.ledger (by rfl) F N hD (by simp [hI.length, PySem.sizeLine_eq]; omega) ?_
  intro g
  refine kct_list rowOf hI (fun k' t' I' oI' C' oC' D' m' ys' h' tk' E' hk' hC' hx' F' N' off' ne' => ?_) ?_
  · intro hMark
    w_on
    k_steps
    exact LCg.CompEnd.intro F' N' news (fun _ h => h) off' (.inr ⟨_, hD, rfl, _, rfl⟩) ⟨rfl, _, rfl⟩
  · unfold KPfDone
    intro ys hc _ R h2 tk2 F2 N2 off
    exact h R ys _ h2 tk2 off (CarriedAll.strsOf hc) F2 N2
end
end Mine
end
section
open PySem PySem.W PyProof.Rows
set_option Elab.async false
set_option maxRecDepth 100000
set_option maxHeartbeats 1000000
namespace Mine
section
variable {w : World} {s₁ s : Shared} {mg mb : Str → Option Value} {p : Program} {ls : List Str} {mean : ExcName → Option Value} {fa : Addr} {cd : Value} {ns : List Int} {L : Addr}
def rows0 (ns : List Int) : List Str := ns.map rowOf ++ [Str.ofString "\n"]
theorem isL {h₀ h : Heap} {L a : Addr} {its : Array Value} {c : Nat} {news : List (Addr × Obj)} (N : News h₀ L h news) (hm : (a, listOf its c) ∈ news) : h.IsList a its := ⟨_, N.get hm, rfl, _, rfl⟩
theorem ltS {h₀ h : Heap} {L : Addr} {news : List (Addr × Obj)} (N : News h₀ L h news) : ∀ z ∈ news, z.1 < h.objs.size := fun z hz => Heap.lt_size (N z hz).1
theorem news_sub {h₀ h : Heap} {L : Addr} {news news' : List (Addr × Obj)} (N : News h₀ L h news) (hs : ∀ z ∈ news', z ∈ news) : News h₀ L h news' := fun z hz => N z (hs z hz)
theorem s2 {m : Str → Option Value} {news : List (Addr × Obj)} {D : Addr} {ws : List Value} {c : Nat} {Q : Flow → Shared → Prop} (X : (K w.params).In s₁.heap) (T : Top p ls mean mg mb s₁.heap) (B : Below callerA s₁.heap [] s₁.heap)
    (F : Fr s₁.heap L s.heap m) (N : News s₁.heap L s.heap news) (hm : m (Str.ofString "script") = some (.ref D)) (hD : (D, listOf ws.toArray c) ∈ news) (hI : IntsAre ws ns) (hlen : ns.length ≤ 63)
    (h : ∀ R vs c h' tk, (∀ z ∈ news, z.1 < R) → StrsAre vs (rows0 ns) → Fr s₁.heap L h' (fun y => if y = Str.ofString "rows" then some (.ref R) else m y) → News s₁.heap L h' ((R, listOf vs.toArray c) :: news) → Q .next { s with heap := h', toks := tk }) :
    wpAny (model prog w) (lawA L fa cd) (exec (lawS 2) (lawEnv L fa cd)) Q (fun _ _ => False) s := by
  show wpAny _ _ (exec (Stmt.Assign _ _ _) _) _ _ _
  w_on
  walk1
  walk1
  refine s2comp X T B F N hm hD hI hlen ?_
  intro R vs c h' tk off hvs F' N'
  k_steps
  rename_i l2 h2 F2 N2 l1
  have hv : vs.length = ns.length := by rw [hvs.length]; simp
  refine add_arrays F2 N2 (isL N2 (.tail _ (.head _))) (isL N2 (.head _)) (fun h3 F3 N3 => ?_) (hsz := ?_)
  rotate_left
  · simp [hv, PySem.sizeLine_eq]; omega
  have hlt := ltS N2
  revert hlt
  generalize h2.objs.size = S at N3 ⊢
  intro hlt
  k_steps
  rename_i h4 F4 N4
  refine h S (vs ++ [.str (Str.ofString "\n") tk]) 0 h4 _ (fun z hz => hlt z (.tail _ (.tail _ hz))) (strsAre_append hvs (.cons _ _ .nil)) F4 (news_sub N4 ?_)
  intro z hz
  rcases List.mem_cons.mp hz with rfl | hz
  · exact .head _
  · exact .tail _ (.tail _ (.tail _ hz))
end
end Mine
end
section
open PySem PySem.W PyProof.Rows
set_option Elab.async false
set_option maxRecDepth 100000
set_option maxHeartbeats 1000000
namespace Mine
/-- all but the frame's own object is kept -/
def Kp (L : Addr) (h h' : Heap) : Prop := ∀ b o, b ≠ L → h.get? b = some o → h'.get? b = some o
theorem Kp.refl {L : Addr} {h : Heap} : Kp L h h := fun _ _ _ e => e
theorem Kp.trans {L : Addr} {h h' h'' : Heap} (x : Kp L h h') (y : Kp L h' h'') : Kp L h h'' := fun b o hb e => y b o hb (x b o hb e)
/-- all but the frame's own object and one more is kept -/
def KpB (L S : Addr) (h h' : Heap) : Prop := ∀ b o, b ≠ L → b ≠ S → h.get? b = some o → h'.get? b = some o
abbrev set1 (m : Str → Option Value) (x : Str) (v : Value) : Str → Option Value := fun y => if y = x then some v else m y
section
variable {prog : Program} {w : World} {A : Around} {s : Shared} {h₀ : Heap} {env : Env} {R : Result → Shared → Prop} {I l : Addr} {items : Array Value}
theorem fr_but {h h' : Heap} {L : Addr} {m : Str → Option Value} (F : Fr h₀ L h m) (hI : I ≠ L) (hI0 : h₀.get? I = none) (k : ∀ b o, b ≠ I → h.get? b = some o → h'.get? b = some o) : Fr h₀ L h' m :=
  ⟨F.ns.at' fun o e => k L o (Ne.symm hI) e, fun b o e => k b o (fun q => by rw [q, hI0] at e; cases e) (F.keep b o e), F.above⟩
theorem loop_name {x : Str} {px : Pos} {body : List Stmt} {m : Str → Option Value} (hh : A.handled = none) (hx : env.kindOf x = some .local)
    (hp : (env.scope.kind == .class || (env.scope.kind == .module && env.locals != env.globals)) = false) (P : Nat → Shared → (Str → Option Value) → Prop)
    (hP : ∀ i s m, P i s m → Fr h₀ env.locals s.heap m ∧ s.heap.IsListIter I l i ∧ s.heap.IsList l items ∧ I ≠ env.locals ∧ h₀.get? I = none)
    (turn : ∀ i s m v h' tk, P i s m → items[i]? = some v → Fr h₀ env.locals h' (set1 m x v) → h'.IsListIter I l (i + 1) → KpB env.locals I s.heap h' →
      wpAny (model prog w) A (execs body env) (fun f s₃ => (f = .next ∨ f = .cont) ∧ ∃ m', P (i + 1) s₃ m') (fun _ _ => False) { s with heap := h', toks := tk })
    (fin : ∀ s m h', P items.size s m → Fr h₀ env.locals h' m → KpB env.locals I s.heap h' → R (.ok .next) { s with heap := h' })
    (h0 : P 0 s m) : codeAny (model prog w) A (.forLoop (.Name x px) (.ref I) body [] env) R s := by
  refine codeAny_forLoop (fun n s => ∃ i m, n = items.size - i ∧ i ≤ items.size ∧ P i s m) ?_ (items.size - 0) ⟨0, m, rfl, Nat.zero_le _, h0⟩
  rintro n s ⟨i, m, rfl, hi, hPi⟩
  obtain ⟨F, hit, hl, hIL, hI0⟩ := hP i s m hPi
  by_cases hlt : i < items.size
  · refine wpAny_pyNext_list_item hit hl (x := items[i]) (by simp [hlt]) fun h' hit' hs' => ?_
    have F1 := fr_but F hIL hI0 (h' := h') fun b o hb e => (hs'.2 b hb).trans e
    refine wpAny_assign_Name (wpAny_storeName_local hx F1.ns (fun h2 hns2 hs2 => ?_) hp)
    have it2 : h2.IsListIter I l (i + 1) := hit'.at fun o e => (hs2.2 I hIL).trans e
    refine wpAny_mono (turn i s m items[i] h2 _ hPi (by simp [hlt]) (F1.set hns2 hs2) it2 fun b o hb1 hb2 e => (hs2.2 b hb1).trans ((hs'.2 b hb2).trans e)) (fun f s3 h3 => ?_) fun _ _ q => q.elim
    obtain ⟨hf, m', hP'⟩ := h3
    have : ∃ n, n < items.size - i ∧ ∃ j m, n = items.size - j ∧ j ≤ items.size ∧ P j s3 m := ⟨items.size - (i + 1), by omega, i + 1, m', rfl, hlt, hP'⟩
    rcases hf with rfl | rfl <;> exact this
  · have hin : i = items.size := by omega
    subst hin
    refine wpAny_pyNext_list_end hh hit hl (by simp) fun h' he => ?_
    refine wpAny_execs_nil (fin s m h' hPi (fr_but F hIL hI0 fun b o hb e => he b o hb e) fun b o _ hb e => he b o hb e)
theorem loop_pair {x0 x1 : Str} {p0 p1 pt : Pos} {k1 : Nat} {body : List Stmt} {m : Str → Option Value} (hh : A.handled = none) (hx0 : env.kindOf x0 = some .local) (hx1 : env.kindOf x1 = some .local)
    (hp : (env.scope.kind == .class || (env.scope.kind == .module && env.locals != env.globals)) = false) (P : Nat → Shared → (Str → Option Value) → Prop)
    (hP : ∀ i s m, P i s m → Fr h₀ env.locals s.heap m ∧ s.heap.IsListIter I l i ∧ s.heap.IsList l items ∧ I ≠ env.locals ∧ h₀.get? I = none)
    (hT : ∀ i s m v, P i s m → items[i]? = some v → ∃ T v0 v1, v = .ref T ∧ T ≠ I ∧ s.heap.IsTuple T #[v0, v1])
    (turn : ∀ i s m T v0 v1 h' tk, P i s m → items[i]? = some (.ref T) → s.heap.IsTuple T #[v0, v1] → Fr h₀ env.locals h' (set1 (set1 m x0 v0) x1 v1) → h'.IsListIter I l (i + 1) → KpB env.locals I s.heap h' →
      wpAny (model prog w) A (execs body env) (fun f s₃ => (f = .next ∨ f = .cont) ∧ ∃ m', P (i + 1) s₃ m') (fun _ _ => False) { s with heap := h', toks := tk })
    (fin : ∀ s m h', P items.size s m → Fr h₀ env.locals h' m → KpB env.locals I s.heap h' → R (.ok .next) { s with heap := h' })
    (h0 : P 0 s m) : codeAny (model prog w) A (.forLoop (.Tuple [.Name x0 p0, .Name x1 p1] k1 pt) (.ref I) body [] env) R s := by
  refine codeAny_forLoop_any (fun n s => ∃ i m, n = items.size - i ∧ i ≤ items.size ∧ P i s m) ?_ (items.size - 0) ⟨0, m, rfl, Nat.zero_le _, h0⟩
  rintro n s ⟨i, m, rfl, hi, hPi⟩
  obtain ⟨F, hit, hl, hIL, hI0⟩ := hP i s m hPi
  by_cases hlt : i < items.size
  · obtain ⟨T, v0, v1, hv, hTI, htu⟩ := hT i s m items[i] hPi (by simp [hlt])
    refine wpAny_pyNext_list_item hit hl (x := items[i]) (by simp [hlt]) fun h' hit' hs' => ?_
    rw [hv]
    have F1 := fr_but F hIL hI0 (h' := h') fun b o hb e => (hs'.2 b hb).trans e
    refine wpAny_letOwnedTupleGo_listiter hit' ?_
    have ht1 : h'.IsTuple T #[v0, v1] := htu.at fun o e => (hs'.2 T hTI).trans e
    refine wpAny_assign_Tuple hh ht1 rfl rfl fun h3 hx3 => ?_
    replace hx3 : Heap.ExtBut h'.objs.size h' h3 := hx3
    have up3 : ∀ b o, h'.get? b = some o → h3.get? b = some o := fun b o x => hx3 b o (Nat.ne_of_lt (Heap.lt_size x)) x
    have F3 : Fr h₀ env.locals h3 m := ⟨F1.ns.at' fun o e => up3 _ o e, fun b o e => up3 b o (F1.keep b o e), F1.above⟩
    show wpAny _ A (do holding [v1] (assign (.Name x0 p0) env v0); do holding [] (assign (.Name x1 p1) env v1); pure ()) _ _ _
    refine wpAny_bind (wpAny_holding (wpAny_assign_Name (wpAny_storeName_local hx0 F3.ns (fun h4 hn4 hs4 => ?_) hp)))
    replace hs4 : Heap.SameBut env.locals h3 h4 := hs4
    have F4 := F3.set hn4 hs4
    refine wpAny_bind (wpAny_holding (wpAny_assign_Name (wpAny_storeName_local hx1 F4.ns (fun h5 hn5 hs5 => wpAny_pure ?_) hp)))
    replace hs5 : Heap.SameBut env.locals h4 h5 := hs5
    have F5 := F4.set hn5 hs5
    have up5 : ∀ b o, b ≠ env.locals → h'.get? b = some o → h5.get? b = some o := fun b o hb e => (hs5.2 b hb).trans ((hs4.2 b hb).trans (up3 b o e))
    refine wpAny_mono (turn i s m T v0 v1 h5 _ hPi (by simp [hlt, hv]) htu F5 (hit'.at fun o e => up5 I o hIL e) fun b o hb1 hb2 e => up5 b o hb1 ((hs'.2 b hb2).trans e)) (fun f s3 h3 => ?_) fun _ _ q => q.elim
    obtain ⟨hf, m', hP'⟩ := h3
    have : ∃ n, n < items.size - i ∧ ∃ j m, n = items.size - j ∧ j ≤ items.size ∧ P j s3 m := ⟨items.size - (i + 1), by omega, i + 1, m', rfl, hlt, hP'⟩
    rcases hf with rfl | rfl <;> exact this
  · have hin : i = items.size := by omega
    subst hin
    refine wpAny_pyNext_list_end hh hit hl (by simp) fun h' he => ?_
    refine wpAny_execs_nil (fin s m h' hPi (fr_but F hIL hI0 fun b o hb e => he b o hb e) fun b o _ hb e => he b o hb e)
end
end Mine
end
section
open PySem PySem.W PyProof.Rows
set_option Elab.async false
set_option maxRecDepth 100000
set_option maxHeartbeats 4000000
namespace Mine
/-- an object of the call's own -/
def Own (h₀ : Heap) (L : Addr) (h : Heap) (a : Addr) (o : Obj) : Prop := h.get? a = some o ∧ a ≠ L ∧ h₀.get? a = none
theorem Own.kp {h₀ h h' : Heap} {L a : Addr} {o : Obj} (x : Own h₀ L h a o) (k : Kp L h h') : Own h₀ L h' a o := ⟨k a o x.2.1 x.1, x.2⟩
theorem Own.of {h₀ h : Heap} {L a : Addr} {o : Obj} {news : List (Addr × Obj)} (N : News h₀ L h news) (hm : (a, o) ∈ news) : Own h₀ L h a o := N _ hm
theorem Own.isL {h₀ h : Heap} {L a : Addr} {its : Array Value} {c : Nat} (x : Own h₀ L h a (listOf its c)) : h.IsList a its := ⟨_, x.1, rfl, _, rfl⟩
theorem Own.news {h₀ h : Heap} {L a : Addr} {o : Obj} {news : List (Addr × Obj)} (x : Own h₀ L h a o) (N : News h₀ L h news) : News h₀ L h ((a, o) :: news) := fun q hq => by
  rcases List.mem_cons.mp hq with rfl | hq
  · exact x
  · exact N q hq
theorem Fr.congr {h₀ h : Heap} {L : Addr} {m m' : Str → Option Value} (F : Fr h₀ L h m) (e : ∀ y, m y = m' y) : Fr h₀ L h m' := (funext e : m = m') ▸ F
section
variable {h₀ h : Heap} {L : Addr} {m : Str → Option Value} {x1 x2 x3 x4 x5 : Str} {v1 v2 v3 v4 v5 : Value}
theorem kn1 (h1 : m x1 = some v1) (y : Str) : (if y = x1 then some v1 else m y) = m y := by
  split
  · rename_i e; subst e; exact h1.symm
  · rfl
theorem kn2 (h1 : m x1 = some v1) (h2 : m x2 = some v2) (y : Str) : (if y = x1 then some v1 else if y = x2 then some v2 else m y) = m y := by rw [kn1 h2 y]; exact kn1 h1 y
theorem kn3 (h1 : m x1 = some v1) (h2 : m x2 = some v2) (h3 : m x3 = some v3) (y : Str) : (if y = x1 then some v1 else if y = x2 then some v2 else if y = x3 then some v3 else m y) = m y := by rw [kn2 h2 h3 y]; exact kn1 h1 y
theorem kn4 (h1 : m x1 = some v1) (h2 : m x2 = some v2) (h3 : m x3 = some v3) (h4 : m x4 = some v4) (y : Str) : (if y = x1 then some v1 else if y = x2 then some v2 else if y = x3 then some v3 else if y = x4 then some v4 else m y) = m y := by rw [kn3 h2 h3 h4 y]; exact kn1 h1 y
theorem kn5 (h1 : m x1 = some v1) (h2 : m x2 = some v2) (h3 : m x3 = some v3) (h4 : m x4 = some v4) (h5 : m x5 = some v5) (y : Str) : (if y = x1 then some v1 else if y = x2 then some v2 else if y = x3 then some v3 else if y = x4 then some v4 else if y = x5 then some v5 else m y) = m y := by rw [kn4 h2 h3 h4 h5 y]; exact kn1 h1 y
theorem st1 {f : Str → Option Value} {a : Str} {va : Option Value} (e : ∀ y, f y = m y) (y : Str) : (if y = a then va else f y) = if y = a then va else m y := by rw [e]
theorem st2 {f : Str → Option Value} {a b : Str} {va vb : Option Value} (e : ∀ y, f y = m y) (y : Str) : (if y = a then va else if y = b then vb else f y) = if y = a then va else if y = b then vb else m y := by rw [e]
/-- an address that no object of this heap has, apart from the frame's -/
def Fresh (L : Addr) (h : Heap) (S : Addr) : Prop := ∀ b o, b ≠ L → h.get? b = some o → b ≠ S
theorem led4 (F : Fr h₀ L h m) : ∃ oth, News h₀ L h oth ∧ (∀ {h' : Heap} {m' : Str → Option Value} {news' : List (Addr × Obj)}, Fr h₀ L h' m' → News h₀ L h' news' → (∀ q ∈ oth, q ∈ news') → Kp L h h') ∧
    (∀ {S : Addr}, h₀.get? S = none → (∀ q ∈ oth, q.1 < S) → Fresh L h S) ∧ ∀ b o, b ≠ L → h₀.get? b = none → h.get? b = some o → (b, o) ∈ oth :=
  ⟨others h₀ L h, others_news, fun F' N' hs => others_keep F F' N' hs, fun {S} h0 hl b o hb e q => by
    cases e0 : h₀.get? b with
    | some o' => rw [q, h0] at e0; cases e0
    | none => exact Nat.lt_irrefl _ (q ▸ hl _ (mem_others.mpr ⟨hb, e0, e⟩)), fun b o hb h0 e => mem_others.mpr ⟨hb, h0, e⟩⟩
theorem led (F : Fr h₀ L h m) : ∃ oth, News h₀ L h oth ∧ ∀ {h' : Heap} {m' : Str → Option Value} {news' : List (Addr × Obj)}, Fr h₀ L h' m' → News h₀ L h' news' → (∀ q ∈ oth, q ∈ news') → Kp L h h' :=
  ⟨others h₀ L h, others_news, fun F' N' hs => others_keep F F' N' hs⟩
end
abbrev bS (i : Nat) : Stmt := nth (forBody (lawS 4)) i
def ownOf (x : Int) : Str := Txt.item (Str.ofString "--++") (x.fmod 4)
def otherOf (x : Int) : Str := Txt.item (Str.ofString "++--") (x.fmod 4)
def shortOf (x : Int) : Str := [Str.ofString "", Str.ofString " ", Str.ofString "-", Str.ofString "+"].getD ((x.fdiv 4).fmod 4).toNat Str.empty
def foreignOf (x : Int) : Str := [otherOf x, Str.ofString "?", ownOf x ++ ownOf x, Str.ofString "@"].getD ((x.fdiv 16).fmod 4).toNat Str.empty
def placeOf (x : Int) (n : Nat) : Int := (((n : Int).fdiv 2) + x.fdiv 64).fmod ((n : Int) + 1)
def lowOf (x : Int) (n : Nat) : Int := (x.fdiv 4096).fmod (n : Int)
theorem m4 (x : Int) : x.fmod 4 = 0 ∨ x.fmod 4 = 1 ∨ x.fmod 4 = 2 ∨ x.fmod 4 = 3 := by
  have h0 := Int.fmod_nonneg_of_pos x (b := 4) (by decide)
  have h1 := Int.fmod_lt_of_pos x (b := 4) (by decide)
  omega
theorem own_len (x : Int) : (ownOf x).length = 1 := by unfold ownOf; rcases m4 x with e | e | e | e <;> rw [e] <;> decide +kernel
theorem other_len (x : Int) : (otherOf x).length = 1 := by unfold otherOf; rcases m4 x with e | e | e | e <;> rw [e] <;> decide +kernel
section
variable {w : World} {s₁ s : Shared} {mg mb : Str → Option Value} {p : Program} {ls : List Str} {mean : ExcName → Option Value} {fa : Addr} {cd : Value} {ns : List Int} {L : Addr}
theorem b0 {m : Str → Option Value} {x : Int} {t : Tok} {Q : Flow → Shared → Prop} (X : (K w.params).In s₁.heap) (T : Top p ls mean mg mb s₁.heap) (B : Below callerA s₁.heap [] s₁.heap)
    (F : Fr s₁.heap L s.heap m) (hx : m (Str.ofString "x") = some (.int x t))
    (h : ∀ h' tk t1 t2, Fr s₁.heap L h' (fun y => if y = Str.ofString "own" then some (.str (ownOf x) t1) else if y = Str.ofString "other" then some (.str (otherOf x) t2) else m y) → Kp L s.heap h' → Q .next { s with heap := h', toks := tk }) :
    wpAny (model prog w) (lawA L fa cd) (exec (bS 0) (lawEnv L fa cd)) Q (fun _ _ => False) s := by
  have KN := fun y => kn1 hx y
  replace F := Fr.congr F (fun y => (KN y).symm)
  obtain ⟨oth, N, hoth⟩ := led F
  clear hx
  have hrow : row = row := rfl
  revert hrow X
  k_fill
  intro _ X
  show wpAny _ _ (exec (Stmt.Assign _ _ _) _) _ _ _
  w_on
  try k_fold
  k_steps
  rename Fr _ _ _ _ => F'
  rename News _ _ _ _ => N'
  exact h _ _ _ _ (Fr.congr F' (st2 KN)) (hoth F' N' (by intro q hq; repeat (first | exact hq | apply List.mem_cons_of_mem)))
theorem b1 {m : Str → Option Value} {x : Int} {t : Tok} {Q : Flow → Shared → Prop} (X : (K w.params).In s₁.heap) (T : Top p ls mean mg mb s₁.heap) (B : Below callerA s₁.heap [] s₁.heap)
    (F : Fr s₁.heap L s.heap m) (hx : m (Str.ofString "x") = some (.int x t))
    (h : ∀ h' tk t1, Fr s₁.heap L h' (set1 m (Str.ofString "short") (.str (shortOf x) t1)) → Kp L s.heap h' → Q .next { s with heap := h', toks := tk }) :
    wpAny (model prog w) (lawA L fa cd) (exec (bS 1) (lawEnv L fa cd)) Q (fun _ _ => False) s := by
  have KN := fun y => kn1 hx y
  replace F := Fr.congr F (fun y => (KN y).symm)
  obtain ⟨oth, N, hoth⟩ := led F
  clear hx
  have hrow : row = row := rfl
  revert hrow X
  k_fill
  intro _ X
  show wpAny _ _ (exec (Stmt.Assign _ _ _) _) _ _ _
  w_on
  try k_fold
  k_steps
  rename_i F' N' _
  have h0 := Int.fmod_nonneg_of_pos (x.fdiv 4) (b := 4) (by decide)
  have h1 := Int.fmod_lt_of_pos (x.fdiv 4) (b := 4) (by decide)
  refine KTb.item_list (isL N' (.head _)) (.cons _ _ (.cons _ _ (.cons _ _ (.cons _ _ .nil)))) h0 h1 (by omega) (fun t' _ => ?_)
  change wpAny _ _ (storeName _ _ (.str (shortOf x) t')) _ _ _
  generalize shortOf x = sh at h ⊢
  k_steps
  rename_i h2 F2 N2
  exact h _ _ _ (Fr.congr F2 (st1 KN)) (hoth F2 N2 (by intro q hq; repeat (first | exact hq | apply List.mem_cons_of_mem)))
theorem b2 {m : Str → Option Value} {x : Int} {t t1 t2 : Tok} {Q : Flow → Shared → Prop} (X : (K w.params).In s₁.heap) (T : Top p ls mean mg mb s₁.heap) (B : Below callerA s₁.heap [] s₁.heap)
    (F : Fr s₁.heap L s.heap m) (hx : m (Str.ofString "x") = some (.int x t)) (ho : m (Str.ofString "own") = some (.str (ownOf x) t1)) (ho2 : m (Str.ofString "other") = some (.str (otherOf x) t2))
    (h : ∀ h' tk t3, Fr s₁.heap L h' (set1 m (Str.ofString "foreign") (.str (foreignOf x) t3)) → Kp L s.heap h' → Q .next { s with heap := h', toks := tk }) :
    wpAny (model prog w) (lawA L fa cd) (exec (bS 2) (lawEnv L fa cd)) Q (fun _ _ => False) s := by
  unfold foreignOf at h
  have hla := own_len x
  have hlb := other_len x
  generalize ownOf x = a at *
  generalize otherOf x = b at *
  have KN := fun y => kn3 ho2 ho hx y
  replace F := Fr.congr F (fun y => (KN y).symm)
  obtain ⟨oth, N, hoth⟩ := led F
  clear hx ho ho2
  have hrow : row = row := rfl
  revert hrow X
  k_fill
  intro _ X
  show wpAny _ _ (exec (Stmt.Assign _ _ _) _) _ _ _
  w_on
  try k_fold
  k_steps
  rename_i F' N' _
  have h0 := Int.fmod_nonneg_of_pos (x.fdiv 16) (b := 4) (by decide)
  have h1 := Int.fmod_lt_of_pos (x.fdiv 16) (b := 4) (by decide)
  refine KTb.item_list (isL N' (.head _)) (.cons _ _ (.cons _ _ (.cons _ _ (.cons _ _ .nil)))) h0 h1 (by omega) (fun t' _ => ?_)
  generalize [b, Str.ofString "?", a ++ a, Str.ofString "@"].getD ((x.fdiv 16).fmod 4).toNat Str.empty = sh at h ⊢
  k_steps
  rename_i h2 F2 N2
  exact h _ _ _ (Fr.congr F2 (st1 KN)) (hoth F2 N2 (by intro q hq; repeat (first | exact hq | apply List.mem_cons_of_mem)))
theorem b3 {m : Str → Option Value} {x : Int} {t : Tok} {R : Addr} {vs : List Value} {c : Nat} {Q : Flow → Shared → Prop} (X : (K w.params).In s₁.heap) (T : Top p ls mean mg mb s₁.heap) (B : Below callerA s₁.heap [] s₁.heap)
    (F : Fr s₁.heap L s.heap m) (hx : m (Str.ofString "x") = some (.int x t)) (hr : m (Str.ofString "rows") = some (.ref R)) (hR : Own s₁.heap L s.heap R (listOf vs.toArray c)) (hmax : vs.length ≤ 400)
    (h : ∀ h' tk t3, Fr s₁.heap L h' (set1 m (Str.ofString "place") (.int (placeOf x vs.length) t3)) → Kp L s.heap h' → Q .next { s with heap := h', toks := tk }) :
    wpAny (model prog w) (lawA L fa cd) (exec (bS 3) (lawEnv L fa cd)) Q (fun _ _ => False) s := by
  have KN := fun y => kn2 hx hr y
  replace F := Fr.congr F (fun y => (KN y).symm)
  obtain ⟨oth, N, hoth⟩ := led F
  replace N := hR.news N
  clear hx hr hR
  have hrow : row = row := rfl
  revert hrow X
  k_fill
  intro _ X
  show wpAny _ _ (exec (Stmt.Assign _ _ _) _) _ _ _
  w_on
  try k_fold
  k_steps
  refine len_list (isL N (.head _)) (by simp; omega) ?_
  rw [List.size_toArray]
  k_steps
  refine len_list (isL N (.head _)) (by simp; omega) ?_
  rw [List.size_toArray]
  k_steps
  rename Fr _ _ _ _ => F'
  rename News _ _ _ _ => N'
  exact h _ _ _ (Fr.congr F' (st1 KN)) (hoth F' N' (by intro q hq; repeat (first | exact hq | apply List.mem_cons_of_mem)))
theorem b4 {m : Str → Option Value} {x : Int} {t : Tok} {R : Addr} {vs : List Value} {c : Nat} {Q : Flow → Shared → Prop} (X : (K w.params).In s₁.heap) (T : Top p ls mean mg mb s₁.heap) (B : Below callerA s₁.heap [] s₁.heap)
    (F : Fr s₁.heap L s.heap m) (hx : m (Str.ofString "x") = some (.int x t)) (hr : m (Str.ofString "rows") = some (.ref R)) (hR : Own s₁.heap L s.heap R (listOf vs.toArray c)) (hpos : 0 < vs.length) (hmax : vs.length ≤ 400)
    (h : ∀ h' tk t3, Fr s₁.heap L h' (set1 m (Str.ofString "low") (.int (lowOf x vs.length) t3)) → Kp L s.heap h' → Q .next { s with heap := h', toks := tk }) :
    wpAny (model prog w) (lawA L fa cd) (exec (bS 4) (lawEnv L fa cd)) Q (fun _ _ => False) s := by
  have KN := fun y => kn2 hx hr y
  replace F := Fr.congr F (fun y => (KN y).symm)
  obtain ⟨oth, N, hoth⟩ := led F
  replace N := hR.news N
  clear hx hr hR
  have hrow : row = row := rfl
  revert hrow X
  k_fill
  intro _ X
  show wpAny _ _ (exec (Stmt.Assign _ _ _) _) _ _ _
  w_on
  try k_fold
  k_steps
  refine len_list (isL N (.head _)) (by simp; omega) ?_
  rw [List.size_toArray]
  have hz : (vs.length : Int) ≠ 0 := by omega
  k_steps
  rename Fr _ _ _ _ => F'
  rename News _ _ _ _ => N'
  exact h _ _ _ (Fr.congr F' (st1 KN)) (hoth F' N' (by intro q hq; repeat (first | exact hq | apply List.mem_cons_of_mem)))
end
end Mine
end
section
open PySem PySem.W PyProof.Rows
set_option Elab.async false
set_option maxRecDepth 100000
set_option maxHeartbeats 4000000
namespace Mine
section
variable {w : World} {A : Around} {h₀ : Heap} {p : Program} {ls : List Str} {mg mb : Str → Option Value} {E : Value → Shared → Prop} {s : Shared}
theorem dump_call {L lx q : Addr} {m : Str → Option Value} {news : List (Addr × Obj)} {self : Value} {tag : Str} {t u v : Tok} {xs : List Str} {vs : List Value} {lo n : Nat} {hi lo' : Int} {c : Nat} {Q : Value → Shared → Prop}
    (X : (K w.params).In h₀) (T : TopRead p ls mg mb h₀) (hh : A.handled = none) (hroom : A.depth < recursionLimit) (F : Fr h₀ L s.heap m) (N : News h₀ L s.heap news) (hq : (q, methodObj (.ref 282) self) ∈ news) (hl : (lx, listOf vs.toArray c) ∈ news)
    (hvs : StrsAre vs xs) (hlo' : lo' = (lo : Int)) (hhi : hi = ((lo + n : Nat) : Int)) (hlo : lo + n ≤ xs.length) (hxs : xs.length < 2 ^ 61) (hsz : ∀ x ∈ xs, tag.length + 1 + x.length ≤ sizeLine) (hb : AllBare s.gens)
    (h : ∀ C a h' gs tk, C < a → s.heap.objs.size ≤ C → a < h'.objs.size → (∀ b o, s.heap.get? b = some o → h'.get? b = some o) → Fr h₀ L h' m → News h₀ L h' news → AllBare gs →
      (∀ s' : Shared, s'.heap = h' → s'.gens = gs → GenAtF prog w A.in1.in1 a s.gens.size (dFp h₀ C a lx) (dWr C a) noG (dumpOut tag xs lo n) 0 s') →
      Q (.ref a) { s with heap := h', gens := gs, toks := tk }) :
    wpAny (model prog w) A (call (.ref q) [.str tag t, .ref lx, .int lo' u, .int hi v]) Q E s := by
  subst hlo' hhi
  refine call_meth N hq ?_
  refine mk_dump X T hh hroom F N (isL N hl) hvs hlo hxs hsz ?_
  intro C a h' tk h1 h2 h3 h4 F' N' G
  refine h C a h' _ tk h1 h2 h3 h4 F' N' ?_ G
  intro z hz
  rcases Array.mem_push.mp hz with hz | hz
  · exact hb z hz
  · subst hz; rfl
/-- list of a dump's generator -/
theorem list_dump {L C a lx : Addr} {g : Nat} {m : Str → Option Value} {news : List (Addr × Obj)} {tag : Str} {xs : List Str} {lo n : Nat} {Q : Value → Shared → Prop}
    (T : TopRead p ls mg mb h₀) (hh : A.handled = none) (hroom : A.depth < recursionLimit) (F : Fr h₀ L s.heap m) (N : News h₀ L s.heap news) (hb : AllBare s.gens)
    (G : GenAtF prog w A.in1.in1 a g (dFp h₀ C a lx) (dWr C a) noG (dumpOut tag xs lo n) 0 s) (hLC : L < C) (hCa : C < a) (hlx : lx < C) (hnC : ∀ q ∈ news, q.1 < C) (hlo : lo + n ≤ xs.length) (hxs : xs.length ≤ sizeLine)
    (h : ∀ S vs c h' gs tk, Fr h₀ L h' m → News h₀ L h' ((S, listOf vs.toArray c) :: news) → StrsAre vs (dumpOut tag xs lo n) → AllBare gs → (∀ q ∈ news, q.1 < S) → Q (.ref S) { s with heap := h', gens := gs, toks := tk }) :
    wpAny (model prog w) A (call (.type "list") [.ref a]) Q E s := by
  obtain ⟨oa, _, _, hoa, _⟩ := id G.1
  have haS : a < s.heap.objs.size := Heap.lt_size hoa
  refine list_gen T hh hroom F N hb G (by exact id) hLC hCa hnC dWr_low (fun o => .inr (.inl rfl)) (fun b o o' e => .inr (.inr (.inr (.inl ⟨o', e⟩)))) (fun its c q => ?_) (by rw [dumpOut_length hlo]; omega) ?_
  · have hCS : C < s.heap.objs.size := Nat.lt_trans hCa haS
    rcases q with q | q | q | ⟨o', q⟩ | ⟨_, q⟩
    · exact Nat.lt_irrefl _ (q ▸ hCS)
    · exact Nat.lt_irrefl _ (q ▸ haS)
    · exact Nat.lt_irrefl _ (q ▸ (Nat.lt_trans hlx hCS))
    · exact Nat.lt_irrefl _ (Heap.lt_size (F.keep _ _ q))
    · exact absurd (show Value.type "list" = Value.type "range_iterator" from q) (by decide)
  · intro S vs c h' gs tk hS F' N' hvs hb' hlt
    exact h S vs c h' gs tk F' N' hvs hb' hlt
end
section
variable {w : World} {s₁ s : Shared} {mg mb : Str → Option Value} {p : Program} {ls : List Str} {mean : ExcName → Option Value} {fa : Addr} {cd : Value} {ns : List Int} {L : Addr}
theorem lawA_h : (lawA L fa cd).handled = none := rfl
theorem lawA_d : (lawA L fa cd).depth < recursionLimit := by show 1 + claimMargin + 1 < 1000; decide
theorem b5 {m : Str → Option Value} {x : Int} {t u : Tok} {R q : Addr} {self : Value} {sh : Str} {vs : List Value} {xs : List Str} {c pl : Nat} {Q : Flow → Shared → Prop} (X : (K w.params).In s₁.heap) (T : Top p ls mean mg mb s₁.heap) (B : Below callerA s₁.heap [] s₁.heap)
    (F : Fr s₁.heap L s.heap m) (hd : m (Str.ofString "dump") = some (.ref q)) (hr : m (Str.ofString "rows") = some (.ref R)) (hp : m (Str.ofString "place") = some (.int (pl : Int) t)) (hs : m (Str.ofString "short") = some (.str sh u))
    (hq : Own s₁.heap L s.heap q (methodObj (.ref 282) self)) (hR : Own s₁.heap L s.heap R (listOf vs.toArray c)) (hvs : StrsAre vs xs) (hmax : xs.length ≤ 400) (hpl : pl ≤ xs.length) (hsz : ∀ x ∈ xs, x.length ≤ 1000) (hb : AllBare s.gens)
    (h : ∀ h' tk gs S ys c', Fr s₁.heap L h' (set1 m (Str.ofString "delta") (.ref S)) → Kp L s.heap h' → Fresh L s.heap S → Own s₁.heap L h' S (listOf ys.toArray c') → StrsAre ys (dumpOut (Str.ofString " ") xs 0 pl ++ [sh]) → AllBare gs → Q .next { s with heap := h', gens := gs, toks := tk }) :
    wpAny (model prog w) (lawA L fa cd) (exec (bS 5) (lawEnv L fa cd)) Q (fun _ _ => False) s := by
  have KN := fun y => kn4 hd hr hp hs y
  replace F := Fr.congr F (fun y => (KN y).symm)
  obtain ⟨oth, N, hoth, hfr, -⟩ := led4 F
  replace N := hR.news (hq.news N)
  clear hd hr hp hs hR hq
  have hrow : row = row := rfl
  have X' := X
  revert hrow X
  k_fill
  intro _ X
  show wpAny _ _ (exec (Stmt.Assign _ _ _) _) _ _ _
  w_on
  try k_fold
  k_steps
  · exact methP N (.tail _ (.head _)) (X'.keeps F.keep)
  dsimp only
  refine dump_call (A := lawA L fa cd) (lo := 0) (n := pl) X' (topRead_of T) lawA_h lawA_d F N (.tail _ (.head _)) (.head _) hvs rfl (by rw [Nat.zero_add]) (by omega) (by omega) (fun x hx => by have := hsz x hx; rw [show (Str.ofString " ").length = 1 from rfl, PySem.sizeLine_eq]; omega) hb ?_
  intro C a h' gs tk hCa hsC hah keep F' N' hb' G
  k_steps
  dsimp only
  have hLC : L < C := Nat.lt_of_lt_of_le F.ns.lt hsC
  have hnC : ∀ z ∈ ((R, listOf vs.toArray c) :: (q, methodObj (.ref 282) self) :: oth), z.1 < C := fun z hz => Nat.lt_of_lt_of_le (ltS N z hz) hsC
  refine list_dump (A := lawA L fa cd) (topRead_of T) lawA_h lawA_d F' N' hb' (G _ rfl rfl) hLC hCa (hnC _ (.head _)) hnC (by omega) (by rw [PySem.sizeLine_eq]; omega) ?_
  intro S ys c1 h1 gs1 tk1 F1 N1 hys hb1 hS
  clear F' N' G N F
  k_steps
  rename Fr _ _ _ _ => F2
  rename News _ _ _ _ => N2
  rename Heap => h2
  have hyl : ys.length = pl := by rw [hys.length, dumpOut_length (by omega)]
  dsimp only
  refine add_arrays F2 N2 (isL N2 (.tail _ (.head _))) (isL N2 (.head _)) (fun h3 F3 N3 => ?_) (hsz := ?_)
  rotate_left
  · simp [hyl, PySem.sizeLine_eq]; omega
  have hlt := ltS N2
  revert hlt
  generalize h2.objs.size = D at N3 ⊢
  intro hlt
  k_steps
  rename Fr _ _ _ _ => F4
  rename News _ _ _ _ => N4
  have hO := Own.of N4 (.head _)
  refine h _ _ _ D _ _ (Fr.congr F4 (st1 KN)) (hoth F4 N4 (by intro q hq; repeat (first | exact hq | apply List.mem_cons_of_mem))) (hfr hO.2.2 (fun q hq => hlt q (by repeat (first | exact hq | apply List.mem_cons_of_mem)))) hO (strsAre_append hys (.cons _ _ .nil)) hb1
end
end Mine
end
section
open PySem PySem.W PyProof.Rows
set_option Elab.async false
set_option maxRecDepth 100000
set_option maxHeartbeats 4000000
namespace Mine
section
variable {prog : Program} {w : World} {A : Around} {E : Value → Shared → Prop} {s : Shared}
theorem fi_list : fillsInplaceSlot (.type "list") "add" (Operator.Add == .Add) = pure false := by
  unfold fillsInplaceSlot
  show (typeLookup (.type "list") (dunderI "add") >>= fun fi => pure (fi.isSome && !isSeqSlot fi)) = pure false
  rw [PySem.F.slot_list_iadd.lookup]
  show (pure ((some (Value.builtin "list.__iadd__")).isSome && !isSeqSlot (some (Value.builtin "list.__iadd__"))) : Sem Bool) = pure false
  rw [show ((some (Value.builtin "list.__iadd__")).isSome && !isSeqSlot (some (Value.builtin "list.__iadd__"))) = false by decide +kernel]
/-- xs += ys -/
theorem iadd_lists {l b : Addr} {its its2 : Array Value} {n n2 : Nat} {Q : Value → Shared → Prop} (hl : s.heap.get? l = some (listOf its n)) (hb : s.heap.get? b = some (listOf its2 n2))
    (h : ∀ h' n', h'.get? l = some (listOf (its ++ its2) n') → Heap.SameBut l s.heap h' → Q (.ref l) { s with heap := h' }) (hsz : its.size + its2.size ≤ sizeLine) :
    wpAny (model prog w) A (inplaceOp .Add (.ref l) (.ref b)) Q E s := by
  have ha : s.TypeIs (.ref l) "list" := ⟨_, hl, rfl⟩
  have hbt : s.TypeIs (.ref b) "list" := ⟨_, hb, rfl⟩
  unfold inplaceOp
  refine wpAny_holding ?_
  refine wpAny_bind (wpAny_typeOf ha (wpAny_bind (wpAny_of_eq fi_list ?_)))
  show wpAny _ A (if false = true then _ else _) Q E s
  rw [if_neg Bool.false_ne_true]
  refine wpAny_bind (wpAny_binaryOp1_none (nm := "add") ha hbt noFill_list_add ?_)
  refine wpAny_bind (wpAny_of_eq (PySem.seqSlot_of PySem.F.slot_list_iadd.lookup (by decide +kernel)) ?_)
  refine wpAny_bind (wpAny_rule ?_)
  refine call_meets PySem.F.slot_list_iadd ha PySem.F.entry_list_iadd (PySem.F.args_list_iadd_2 _ _) (AutoSeq1.list___iadd___list_list_0 l its n b its2 n2 (extend_door hsz) (Nat.le_trans (Nat.le_add_right _ _) hsz)) ⟨hl, hb, ?_⟩
  refine h _ (if (its ++ its2).size == its.size then n else n + 1) ?_ (Heap.SameBut.update ..)
  rw [Heap.get?_update_self _ hl (by rfl)]
  rfl
end
section
variable {w : World} {s₁ s : Shared} {mg mb : Str → Option Value} {p : Program} {ls : List Str} {mean : ExcName → Option Value} {fa : Addr} {cd : Value} {ns : List Int} {L : Addr}
theorem min2 (n lo : Nat) (hlo : lo < n) : (if (n : Int) < (lo : Int) + 2 then (n : Int) else (lo : Int) + 2) = ((lo + min 2 (n - lo) : Nat) : Int) := by
  split <;> omega
theorem b6 {m : Str → Option Value} {t u : Tok} {R q S : Addr} {self : Value} {tag : Str} {vs ds : List Value} {xs dx : List Str} {c d lo : Nat} {Q : Flow → Shared → Prop} (X : (K w.params).In s₁.heap) (T : Top p ls mean mg mb s₁.heap) (B : Below callerA s₁.heap [] s₁.heap)
    (F : Fr s₁.heap L s.heap m) (hd : m (Str.ofString "dump") = some (.ref q)) (hr : m (Str.ofString "rows") = some (.ref R)) (hp : m (Str.ofString "low") = some (.int (lo : Int) t)) (hs : m (Str.ofString "foreign") = some (.str tag u)) (hdel : m (Str.ofString "delta") = some (.ref S))
    (hq : Own s₁.heap L s.heap q (methodObj (.ref 282) self)) (hR : Own s₁.heap L s.heap R (listOf vs.toArray c)) (hS : Own s₁.heap L s.heap S (listOf ds.toArray d)) (hvs : StrsAre vs xs) (hds : StrsAre ds dx) (hmax : xs.length ≤ 400) (hmax2 : dx.length ≤ 1000) (hpl : lo < xs.length) (hsz : ∀ x ∈ xs, x.length ≤ 1000) (htag : tag.length ≤ 10) (hb : AllBare s.gens)
    (h : ∀ h' tk gs ys c', Fr s₁.heap L h' m → KpB L S s.heap h' → Own s₁.heap L h' S (listOf ys.toArray c') → StrsAre ys (dx ++ dumpOut tag xs lo (min 2 (xs.length - lo))) → AllBare gs → Q .next { s with heap := h', gens := gs, toks := tk }) :
    wpAny (model prog w) (lawA L fa cd) (exec (bS 6) (lawEnv L fa cd)) Q (fun _ _ => False) s := by
  have KN := fun y => kn5 hd hr hp hs hdel y
  replace F := Fr.congr F (fun y => (KN y).symm)
  obtain ⟨oth, N, hoth, hfr, -⟩ := led4 F
  replace N := hS.news (hR.news (hq.news N))
  clear hd hr hp hs hR hq
  have hvl := hvs.length
  have hrow : row = row := rfl
  have X' := X
  revert hrow X
  k_fill
  intro _ X
  show wpAny _ _ (exec (Stmt.AugAssign _ _ _ _) _) _ _ _
  w_on
  try k_fold
  k_steps
  rename Fr _ _ _ _ => F1
  rename News _ _ _ _ => N1
  · exact methP N1 (.tail _ (.tail _ (.head _))) (X'.keeps F1.keep)
  rename Fr _ _ _ _ => F1
  rename News _ _ _ _ => N1
  rename StrsAre vs xs => hvs'
  dsimp only [List.nil_append]
  rw [min2 _ _ hpl]
  refine dump_call (A := lawA L fa cd) (lo := lo) (n := min 2 (xs.length - lo)) X' (topRead_of T) lawA_h lawA_d F1 N1 (.tail _ (.tail _ (.head _))) (.tail _ (.head _)) hvs' rfl rfl (by omega) (by omega) (fun x hx => by have := hsz x hx; rw [PySem.sizeLine_eq]; omega) hb ?_
  intro C a h' gs tk hCa hsC hah keep F' N' hb' G
  k_steps
  dsimp only
  have hLC : L < C := Nat.lt_of_lt_of_le F1.ns.lt hsC
  have hnC : ∀ z ∈ ((S, listOf ds.toArray d) :: (R, listOf vs.toArray c) :: (q, methodObj (.ref 282) self) :: oth), z.1 < C := fun z hz => Nat.lt_of_lt_of_le (ltS N1 z hz) hsC
  refine list_dump (A := lawA L fa cd) (topRead_of T) lawA_h lawA_d F' N' hb' (G _ rfl rfl) hLC hCa (hnC _ (.tail _ (.head _))) hnC (by omega) (by rw [PySem.sizeLine_eq]; omega) ?_
  intro D ys c1 h1 gs1 tk1 F1 N1 hys hb1 hD
  rename StrsAre ds dx => hds'
  have hyl : ys.length ≤ 2 := by rw [hys.length, dumpOut_length (by omega)]; omega
  have hdl : ds.length ≤ 1000 := by rw [hds'.length]; omega
  dsimp only
  have kp := hoth F1 N1 (by intro q hq; repeat (first | exact hq | apply List.mem_cons_of_mem))
  have hm := N1 _ (.tail _ (.head _))
  refine iadd_lists (s := { s with heap := h1, gens := gs1, toks := tk1 }) hm.1 (N1 _ (.head _)).1 ?_ ?_
  rotate_left
  · simp [PySem.sizeLine_eq]; omega
  intro h2 n2 hS2 sb
  refine wpAny_storeName_local (env := lawEnv L fa cd) (by rfl) (F1.ns.sameBut sb (Ne.symm hm.2.1)) (fun h3 hns3 hs3 => ?_) (by rfl)
  refine h h3 _ gs1 (ds ++ ys) n2 (Fr.congr ⟨hns3, fun b o e => ?_, F1.above⟩ ?_) (fun b o hb1 hb2 e => (hs3.2 b hb1).trans ((sb.2 b hb2).trans (kp b o hb1 e))) ⟨(hs3.2 S hm.2.1).trans ?_, hm.2⟩ (strsAre_append hds' hys) hb1
  · exact (hs3.2 b (fun q => by subst q; exact absurd (Nat.lt_of_lt_of_le (Heap.lt_size e) F1.above) (Nat.lt_irrefl _))).trans ((sb.2 b (fun q => by subst q; rw [hm.2.2] at e; cases e)).trans (F1.keep b o e))
  · intro y
    rw [st1 KN]
    exact kn1 hdel y
  · rw [hS2]; simp
end
end Mine
end
section
open PySem PySem.W PyProof.Rows
set_option Elab.async false
set_option maxRecDepth 100000
set_option maxHeartbeats 4000000
namespace Mine
section
variable {w : World} {s₁ s : Shared} {mg mb : Str → Option Value} {p : Program} {ls : List Str} {mean : ExcName → Option Value} {fa : Addr} {cd : Value} {ns : List Int} {L : Addr}
theorem b7 {m : Str → Option Value} {t u : Tok} {R q S : Addr} {self : Value} {tag : Str} {vs ds : List Value} {xs dx : List Str} {c d lo : Nat} {Q : Flow → Shared → Prop} (X : (K w.params).In s₁.heap) (T : Top p ls mean mg mb s₁.heap) (B : Below callerA s₁.heap [] s₁.heap)
    (F : Fr s₁.heap L s.heap m) (hd : m (Str.ofString "dump") = some (.ref q)) (hr : m (Str.ofString "rows") = some (.ref R)) (hp : m (Str.ofString "place") = some (.int (lo : Int) t)) (hs : m (Str.ofString "own") = some (.str tag u)) (hdel : m (Str.ofString "delta") = some (.ref S))
    (hq : Own s₁.heap L s.heap q (methodObj (.ref 282) self)) (hR : Own s₁.heap L s.heap R (listOf vs.toArray c)) (hS : Own s₁.heap L s.heap S (listOf ds.toArray d)) (hvs : StrsAre vs xs) (hds : StrsAre ds dx) (hmax : xs.length ≤ 400) (hmax2 : dx.length ≤ 1000) (hpl : lo ≤ xs.length) (hsz : ∀ x ∈ xs, x.length ≤ 1000) (htag : tag.length ≤ 10) (hb : AllBare s.gens)
    (h : ∀ h' tk gs ys c', Fr s₁.heap L h' m → KpB L S s.heap h' → Own s₁.heap L h' S (listOf ys.toArray c') → StrsAre ys (dx ++ dumpOut tag xs lo (xs.length - lo)) → AllBare gs → Q .next { s with heap := h', gens := gs, toks := tk }) :
    wpAny (model prog w) (lawA L fa cd) (exec (bS 7) (lawEnv L fa cd)) Q (fun _ _ => False) s := by
  have KN := fun y => kn5 hd hr hp hs hdel y
  replace F := Fr.congr F (fun y => (KN y).symm)
  obtain ⟨oth, N, hoth, hfr, -⟩ := led4 F
  replace N := hS.news (hR.news (hq.news N))
  clear hd hr hp hs hR hq
  have hvl := hvs.length
  have hrow : row = row := rfl
  have X' := X
  revert hrow X
  k_fill
  intro _ X
  show wpAny _ _ (exec (Stmt.AugAssign _ _ _ _) _) _ _ _
  w_on
  try k_fold
  k_steps
  rename Fr _ _ _ _ => F1
  rename News _ _ _ _ => N1
  · exact methP N1 (.tail _ (.tail _ (.head _))) (X'.keeps F1.keep)
  rename Fr _ _ _ _ => F1
  rename News _ _ _ _ => N1
  rename StrsAre vs xs => hvs'
  dsimp only [List.nil_append]
  refine dump_call (A := lawA L fa cd) (lo := lo) (n := xs.length - lo) (hi := (xs.length : Int)) X' (topRead_of T) lawA_h lawA_d F1 N1 (.tail _ (.tail _ (.head _))) (.tail _ (.head _)) hvs' rfl (by omega) (by omega) (by omega) (fun x hx => by have := hsz x hx; rw [PySem.sizeLine_eq]; omega) hb ?_
  intro C a h' gs tk hCa hsC hah keep F' N' hb' G
  k_steps
  dsimp only
  have hLC : L < C := Nat.lt_of_lt_of_le F1.ns.lt hsC
  have hnC : ∀ z ∈ ((S, listOf ds.toArray d) :: (R, listOf vs.toArray c) :: (q, methodObj (.ref 282) self) :: oth), z.1 < C := fun z hz => Nat.lt_of_lt_of_le (ltS N1 z hz) hsC
  refine list_dump (A := lawA L fa cd) (topRead_of T) lawA_h lawA_d F' N' hb' (G _ rfl rfl) hLC hCa (hnC _ (.tail _ (.head _))) hnC (by omega) (by rw [PySem.sizeLine_eq]; omega) ?_
  intro D ys c1 h1 gs1 tk1 F1 N1 hys hb1 hD
  rename StrsAre ds dx => hds'
  have hyl : ys.length ≤ 400 := by rw [hys.length, dumpOut_length (by omega)]; omega
  have hdl : ds.length ≤ 1000 := by rw [hds'.length]; omega
  dsimp only
  have kp := hoth F1 N1 (by intro q hq; repeat (first | exact hq | apply List.mem_cons_of_mem))
  have hm := N1 _ (.tail _ (.head _))
  refine iadd_lists (s := { s with heap := h1, gens := gs1, toks := tk1 }) hm.1 (N1 _ (.head _)).1 ?_ ?_
  rotate_left
  · simp [PySem.sizeLine_eq]; omega
  intro h2 n2 hS2 sb
  refine wpAny_storeName_local (env := lawEnv L fa cd) (by rfl) (F1.ns.sameBut sb (Ne.symm hm.2.1)) (fun h3 hns3 hs3 => ?_) (by rfl)
  refine h h3 _ gs1 (ds ++ ys) n2 (Fr.congr ⟨hns3, fun b o e => ?_, F1.above⟩ ?_) (fun b o hb1 hb2 e => (hs3.2 b hb1).trans ((sb.2 b hb2).trans (kp b o hb1 e))) ⟨(hs3.2 S hm.2.1).trans ?_, hm.2⟩ (strsAre_append hds' hys) hb1
  · exact (hs3.2 b (fun q => by subst q; exact absurd (Nat.lt_of_lt_of_le (Heap.lt_size e) F1.above) (Nat.lt_irrefl _))).trans ((sb.2 b (fun q => by subst q; rw [hm.2.2] at e; cases e)).trans (F1.keep b o e))
  · intro y
    rw [st1 KN]
    exact kn1 hdel y
  · rw [hS2]; simp
end
end Mine
end
section
open PySem PySem.W PyProof.Rows
set_option Elab.async false
set_option maxRecDepth 100000
set_option maxHeartbeats 4000000
namespace Mine
section
variable {prog : Program} {w : World} {A : Around} {E : Value → Shared → Prop} {s : Shared}
theorem append_own {D : Addr} {v : Value} {its : Array Value} {n : Nat} {Q : Value → Shared → Prop} (hl : s.heap.get? D = some (listOf its n))
    (h : ∀ h' n', h'.get? D = some (listOf (its.push v) n') → Heap.SameBut D s.heap h' → Q .none { s with heap := h' }) (hsz : its.size ≤ sizeLine) :
    wpAny (model prog w) A (call (.builtin "list.append") [.ref D, v]) Q E s := by
  refine call_meets PySem.F.slot_list_append ⟨_, hl, rfl⟩ PySem.F.entry_list_append (PySem.F.args_list_append_2 _ _) (list_append D its n v hsz) ⟨hl, ?_⟩
  refine h _ (if (its.push v).size == its.size then n else n + 1) ?_ (Heap.SameBut.update ..)
  rw [Heap.get?_update_self _ hl (by rfl)]
  rfl
end
abbrev tupOf (its : Array Value) : Obj := { cls := .type "tuple", data := .seq its }
section
variable {w : World} {s₁ s : Shared} {mg mb : Str → Option Value} {p : Program} {ls : List Str} {mean : ExcName → Option Value} {fa : Addr} {cd : Value} {ns : List Int} {L : Addr}
theorem b8 {m : Str → Option Value} {t : Tok} {R S : Addr} {vs ds : List Value} {xs dx : List Str} {c d lo : Nat} {Q : Flow → Shared → Prop} (X : (K w.params).In s₁.heap) (T : Top p ls mean mg mb s₁.heap) (B : Below callerA s₁.heap [] s₁.heap)
    (F : Fr s₁.heap L s.heap m) (hr : m (Str.ofString "rows") = some (.ref R)) (hp : m (Str.ofString "low") = some (.int (lo : Int) t)) (hdel : m (Str.ofString "delta") = some (.ref S))
    (hR : Own s₁.heap L s.heap R (listOf vs.toArray c)) (hS : Own s₁.heap L s.heap S (listOf ds.toArray d)) (hvs : StrsAre vs xs) (hds : StrsAre ds dx) (hmax : xs.length ≤ 400) (hmax2 : dx.length ≤ 1000) (hpl : lo < xs.length) (hlen : dx.length = xs.length + 1 + min 2 (xs.length - lo))
    (h : ∀ h' tk, Fr s₁.heap L h' m → Kp L s.heap h' → Q .next { s with heap := h', toks := tk }) :
    wpAny (model prog w) (lawA L fa cd) (exec (bS 8) (lawEnv L fa cd)) Q (fun _ _ => False) s := by
  have KN := fun y => kn3 hr hp hdel y
  replace F := Fr.congr F (fun y => (KN y).symm)
  obtain ⟨oth, N, hoth, hfr, -⟩ := led4 F
  replace N := hS.news (hR.news N)
  clear hr hp hR hdel
  have hrow : row = row := rfl
  have X' := X
  revert hrow X
  k_fill
  intro _ X
  show wpAny _ _ (exec (Stmt.If _ _ _ _) _) _ _ _
  w_on
  try k_fold
  k_steps
  · rename (_ : Int) ≠ _ => hne
    exfalso
    refine hne ?_
    split <;> omega
  · rename Fr _ _ _ _ => F'
    rename News _ _ _ _ => N'
    exact h _ _ (Fr.congr F' KN) (hoth F' N' (by intro q hq; repeat (first | exact hq | apply List.mem_cons_of_mem)))
theorem wish_item {w : World} (x : Int) (t0 t1 t2 t3 : Tok) : ∃ wv, [Value.int 1 t0, Value.str (Str.ofString "1") t1, Value.int 2 t2, Value.str (Str.ofString "2") t3][(x.fmod 4).toNat]? = some wv ∧ Asks w wv (ownOf x ++ Str.ofString " ") := by
  unfold ownOf
  rcases m4 x with e | e | e | e <;> rw [e]
  · exact ⟨_, rfl, by rw [show Txt.item (Str.ofString "--++") 0 ++ Str.ofString " " = Str.ofString "- " by decide +kernel]; exact asks_one _⟩
  · exact ⟨_, rfl, by rw [show Txt.item (Str.ofString "--++") 1 ++ Str.ofString " " = Str.ofString "- " by decide +kernel]; exact asks_s1 _⟩
  · exact ⟨_, rfl, by rw [show Txt.item (Str.ofString "--++") 2 ++ Str.ofString " " = Str.ofString "+ " by decide +kernel]; exact asks_two _⟩
  · exact ⟨_, rfl, by rw [show Txt.item (Str.ofString "--++") 3 ++ Str.ofString " " = Str.ofString "+ " by decide +kernel]; exact asks_s2 _⟩
theorem b9 {m : Str → Option Value} {x : Int} {t : Tok} {R Ly : Addr} {vs us : List Value} {c d : Nat} {Q : Flow → Shared → Prop} (X : (K w.params).In s₁.heap) (T : Top p ls mean mg mb s₁.heap) (B : Below callerA s₁.heap [] s₁.heap)
    (F : Fr s₁.heap L s.heap m) (hr : m (Str.ofString "rows") = some (.ref R)) (hx : m (Str.ofString "x") = some (.int x t)) (hly : m (Str.ofString "layers") = some (.ref Ly))
    (hL : Own s₁.heap L s.heap Ly (listOf us.toArray d)) (hmax : us.length ≤ 100)
    (h : ∀ h' tk wv D n, Asks w wv (ownOf x ++ Str.ofString " ") → Fr s₁.heap L h' m → KpB L Ly s.heap h' → Fresh L s.heap D → Own s₁.heap L h' D (tupOf #[wv, .ref R]) → Own s₁.heap L h' Ly (listOf (us ++ [Value.ref D]).toArray n) → Q .next { s with heap := h', toks := tk }) :
    wpAny (model prog w) (lawA L fa cd) (exec (bS 9) (lawEnv L fa cd)) Q (fun _ _ => False) s := by
  have KN := fun y => kn3 hr hx hly y
  replace F := Fr.congr F (fun y => (KN y).symm)
  obtain ⟨oth, N, hoth, hfr, -⟩ := led4 F
  replace N := hL.news N
  clear hr hx
  have hrow : row = row := rfl
  have X' := X
  revert hrow X
  k_fill
  intro _ X
  show wpAny _ _ (exec (Stmt.Expr _ _) _) _ _ _
  w_on
  try k_fold
  k_steps
  rename Fr _ _ _ _ => F'
  rename News _ _ _ _ => N'
  have h0 := Int.fmod_nonneg_of_pos x (b := 4) (by decide)
  have h1 := Int.fmod_lt_of_pos x (b := 4) (by decide)
  dsimp only
  obtain ⟨wv, hwv, hask⟩ := wish_item (w := w) x (s.toks) (s.toks + 1) (s.toks + 1 + 1) (s.toks + 1 + 1 + 1)
  refine item_litK (isL N' (.head _)) h0 (by omega) hwv ?_
  generalize ownOf x ++ Str.ofString " " = tg at hask h
  clear hwv
  k_steps
  rename_i D h2 F2 N2 l2
  have kp := hoth F2 N2 (by intro q hq; repeat (first | exact hq | apply List.mem_cons_of_mem))
  have hD := N2 _ (.head _)
  have hm := N2 _ (.tail _ (.tail _ (.head _)))
  have hDLy : D ≠ Ly := Nat.ne_of_gt l2.2.1
  refine append_own (its := us.toArray) hm.1 (fun h3 n3 hS3 sb => ?_) (by simp [PySem.sizeLine_eq]; omega)
  have F3 := F2.update N2 (.tail _ (.tail _ (.head _))) sb
  refine h h3 _ wv D n3 hask (Fr.congr F3 KN) (fun b o hb1 hb2 e => (sb.2 b hb2).trans (kp b o hb1 e)) (hfr hD.2.2 (allLt_mem l2.2.2)) ⟨(sb.2 D hDLy).trans hD.1, hD.2⟩ ⟨?_, hm.2⟩
  rw [hS3]; simp
theorem b10 {m : Str → Option Value} {S : Addr} {Q : Flow → Shared → Prop} (X : (K w.params).In s₁.heap) (T : Top p ls mean mg mb s₁.heap) (B : Below callerA s₁.heap [] s₁.heap)
    (F : Fr s₁.heap L s.heap m) (hdel : m (Str.ofString "delta") = some (.ref S))
    (h : ∀ h' tk, Fr s₁.heap L h' (set1 m (Str.ofString "rows") (.ref S)) → Kp L s.heap h' → Q .next { s with heap := h', toks := tk }) :
    wpAny (model prog w) (lawA L fa cd) (exec (bS 10) (lawEnv L fa cd)) Q (fun _ _ => False) s := by
  have KN := fun y => kn1 hdel y
  replace F := Fr.congr F (fun y => (KN y).symm)
  obtain ⟨oth, N, hoth, hfr, -⟩ := led4 F
  clear hdel
  have hrow : row = row := rfl
  have X' := X
  revert hrow X
  k_fill
  intro _ X
  show wpAny _ _ (exec (Stmt.Assign _ _ _) _) _ _ _
  w_on
  try k_fold
  k_steps
  rename Fr _ _ _ _ => F'
  rename News _ _ _ _ => N'
  exact h _ _ (Fr.congr F' (st1 KN)) (hoth F' N' (by intro q hq; repeat (first | exact hq | apply List.mem_cons_of_mem)))
end
end Mine
end
section
open PySem PySem.W PyProof.Rows
set_option Elab.async false
set_option maxRecDepth 100000
set_option maxHeartbeats 1000000
namespace Mine
theorem sl_to2 (x : Str) (h : 2 ≤ x.length) : Txt.slice x none (some 2) = ⟨(x.cps.toList.take 2).toArray⟩ := by
  have := beq_iff_eq.mp (slice_closes_toL (x := x) (j := 2) (by decide) (by omega))
  rw [this]; rfl
theorem sl_from2 (x : Str) (h : 2 ≤ x.length) : Txt.slice x (some 2) none = ⟨(x.cps.toList.drop 2).toArray⟩ := by
  rw [slice_from_eq (x := x) (i := 2) (b := x.length) (by decide) (by omega) rfl]
  have : ((x.length : Int) - 2).toNat = (x.cps.toList.drop 2).length := by simp [Str.length]; omega
  rw [this]
  show (⟨((x.cps.toList.drop 2).take _).toArray⟩ : Str) = _
  rw [List.take_length]
theorem row_toList (c x : Str) : (c ++ Str.ofString " " ++ x).cps.toList = c.cps.toList ++ 32 :: x.cps.toList := by
  rw [sapp, sapp]
  show ((c.cps ++ #[32]) ++ x.cps).toList = _
  simp
theorem code_toList (c : Str) : (c ++ Str.ofString " ").cps.toList = c.cps.toList ++ [32] := by
  rw [sapp]
  show (c.cps ++ #[32]).toList = _
  simp
theorem len_sp : (Str.ofString " ").length = 1 := rfl
theorem keep_dump (tag c x : Str) (hc : 1 ≤ c.length) : resKeep tag (c ++ Str.ofString " " ++ x) = resKeep tag (c ++ Str.ofString " ") := by
  have h1 : 1 ≤ c.cps.toList.length := by simpa [Str.length] using hc
  unfold resKeep
  rw [sl_to2 _ (by rw [len_app, len_app, len_sp]; omega), sl_to2 (c ++ Str.ofString " ") (by rw [len_app, len_sp]; omega), row_toList, code_toList]
  have : List.take 2 (c.cps.toList ++ 32 :: x.cps.toList) = List.take 2 (c.cps.toList ++ [32]) := by
    match c.cps.toList, h1 with
    | [a], _ => rfl
    | a :: b :: r, _ => rfl
  rw [this]
theorem from_dump (c x : Str) (hc : c.length = 1) : Txt.slice (c ++ Str.ofString " " ++ x) (some 2) none = x := by
  have h1 : c.cps.toList.length = 1 := by simpa [Str.length] using hc
  rw [sl_from2 _ (by rw [len_app, len_app, len_sp]; omega), row_toList]
  match c.cps.toList, h1 with
  | [a], _ =>
    show (⟨(x.cps.toList).toArray⟩ : Str) = x
    simp
theorem res_all {tag c : Str} (hk : resKeep tag (c ++ Str.ofString " ") = true) (hc : c.length = 1) (xs : List Str) (lo n : Nat) : resOut tag (dumpOut c xs lo n) = (xs.drop lo).take n := by
  unfold dumpOut
  generalize (xs.drop lo).take n = l
  induction l with
  | nil => rfl
  | cons x r ih => rw [List.map_cons, resOut_cons, keep_dump _ _ _ (by omega), hk, if_pos rfl, ih, from_dump _ _ hc]
theorem res_none {tag c : Str} (hk : resKeep tag (c ++ Str.ofString " ") = false) (hc : 1 ≤ c.length) (xs : List Str) (lo n : Nat) : resOut tag (dumpOut c xs lo n) = [] := by
  unfold dumpOut
  generalize (xs.drop lo).take n = l
  induction l with
  | nil => rfl
  | cons x r ih => rw [List.map_cons, resOut_cons, keep_dump _ _ _ hc, hk, ih]; rfl

def plN (x : Int) (xs : List Str) : Nat := (placeOf x xs.length).toNat
def loN (x : Int) (xs : List Str) : Nat := (lowOf x xs.length).toNat
def nextRows (x : Int) (xs : List Str) : List Str :=
  ((dumpOut (Str.ofString " ") xs 0 (plN x xs) ++ [shortOf x]) ++ dumpOut (foreignOf x) xs (loN x xs) (min 2 (xs.length - loN x xs))) ++ dumpOut (ownOf x) xs (plN x xs) (xs.length - plN x xs)
theorem plN_le (x : Int) (xs : List Str) : plN x xs ≤ xs.length ∧ placeOf x xs.length = ((plN x xs : Nat) : Int) := by
  unfold plN placeOf
  have h0 := Int.fmod_nonneg_of_pos ((((xs.length : Int).fdiv 2) + x.fdiv 64)) (b := (xs.length : Int) + 1) (by omega)
  have h1 := Int.fmod_lt_of_pos ((((xs.length : Int).fdiv 2) + x.fdiv 64)) (b := (xs.length : Int) + 1) (by omega)
  omega
theorem loN_lt (x : Int) (xs : List Str) (h : 0 < xs.length) : loN x xs < xs.length ∧ lowOf x xs.length = ((loN x xs : Nat) : Int) := by
  unfold loN lowOf
  have h0 := Int.fmod_nonneg_of_pos (x.fdiv 4096) (b := (xs.length : Int)) (by omega)
  have h1 := Int.fmod_lt_of_pos (x.fdiv 4096) (b := (xs.length : Int)) (by omega)
  omega
theorem own_cases (x : Int) : (ownOf x = Str.ofString "-" ∧ otherOf x = Str.ofString "+") ∨ (ownOf x = Str.ofString "+" ∧ otherOf x = Str.ofString "-") := by
  unfold ownOf otherOf
  rcases m4 x with e | e | e | e <;> rw [e] <;> first | exact .inl (by decide +kernel) | exact .inr (by decide +kernel)
theorem short_cases (x : Int) : shortOf x = Str.ofString "" ∨ shortOf x = Str.ofString " " ∨ shortOf x = Str.ofString "-" ∨ shortOf x = Str.ofString "+" := by
  unfold shortOf
  rcases m4 (x.fdiv 4) with e | e | e | e <;> rw [e]
  · exact .inl rfl
  · exact .inr (.inl rfl)
  · exact .inr (.inr (.inl rfl))
  · exact .inr (.inr (.inr rfl))
theorem foreign_cases (x : Int) : foreignOf x = otherOf x ∨ foreignOf x = Str.ofString "?" ∨ foreignOf x = ownOf x ++ ownOf x ∨ foreignOf x = Str.ofString "@" := by
  unfold foreignOf
  rcases m4 (x.fdiv 16) with e | e | e | e <;> rw [e]
  · exact .inl rfl
  · exact .inr (.inl rfl)
  · exact .inr (.inr (.inl rfl))
  · exact .inr (.inr (.inr rfl))
theorem foreign_len (x : Int) : 1 ≤ (foreignOf x).length ∧ (foreignOf x).length ≤ 2 := by
  rcases foreign_cases x with e | e | e | e <;> rw [e]
  · rw [other_len]; omega
  · decide
  · rw [len_app, own_len]; omega
  · decide
theorem short_len (x : Int) : (shortOf x).length ≤ 1 := by
  rcases short_cases x with e | e | e | e <;> rw [e] <;> decide
theorem res_next (x : Int) (xs : List Str) : resOut (ownOf x ++ Str.ofString " ") (nextRows x xs) = xs := by
  have hpl := (plN_le x xs).1
  have k1 : resKeep (ownOf x ++ Str.ofString " ") (Str.ofString " " ++ Str.ofString " ") = true := by
    rcases own_cases x with ⟨e, _⟩ | ⟨e, _⟩ <;> rw [e] <;> decide +kernel
  have k2 : resKeep (ownOf x ++ Str.ofString " ") (shortOf x) = false := by
    rcases own_cases x with ⟨e, _⟩ | ⟨e, _⟩ <;> rw [e] <;> rcases short_cases x with e | e | e | e <;> rw [e] <;> decide +kernel
  have k3 : resKeep (ownOf x ++ Str.ofString " ") (foreignOf x ++ Str.ofString " ") = false := by
    rcases foreign_cases x with q | q | q | q <;> rw [q] <;> rcases own_cases x with ⟨e, e'⟩ | ⟨e, e'⟩ <;> (try rw [e']) <;> rw [e] <;> decide +kernel
  have k4 : resKeep (ownOf x ++ Str.ofString " ") (ownOf x ++ Str.ofString " ") = true := by
    rcases own_cases x with ⟨e, _⟩ | ⟨e, _⟩ <;> rw [e] <;> decide +kernel
  unfold nextRows
  rw [resOut_app, resOut_app, resOut_app, res_all k1 rfl, res_none k3 (foreign_len x).1, res_all k4 (own_len x), resOut_cons, k2]
  show ((List.take _ (List.drop 0 xs)) ++ [] ++ []) ++ _ = _
  rw [List.drop_zero, List.append_nil, List.append_nil]
  rw [show xs.length - plN x xs = (xs.drop (plN x xs)).length by simp, List.take_length, List.take_append_drop]
theorem next_length (x : Int) (xs : List Str) (h : 0 < xs.length) : (nextRows x xs).length = xs.length + 1 + min 2 (xs.length - loN x xs) := by
  have hpl := (plN_le x xs).1
  have hlo := (loN_lt x xs h).1
  unfold nextRows
  rw [List.length_append, List.length_append, List.length_append, dumpOut_length (by omega), dumpOut_length (by omega), dumpOut_length (by omega)]
  simp; omega
theorem dump_len {c : Str} {xs : List Str} {lo n b : Nat} (h : ∀ y ∈ xs, y.length ≤ b) : ∀ y ∈ dumpOut c xs lo n, y.length ≤ c.length + 1 + b := by
  intro y hy
  unfold dumpOut at hy
  obtain ⟨z, hz, rfl⟩ := List.mem_map.mp hy
  have := h z (List.mem_of_mem_drop (List.mem_of_mem_take hz))
  rw [len_app, len_app, len_sp]; omega
theorem next_len (x : Int) (xs : List Str) {b : Nat} (h : ∀ y ∈ xs, y.length ≤ b) : ∀ y ∈ nextRows x xs, y.length ≤ b + 3 := by
  intro y hy
  unfold nextRows at hy
  have := (foreign_len x).2
  have := own_len x
  have := short_len x
  rcases List.mem_append.mp hy with hy | hy
  · rcases List.mem_append.mp hy with hy | hy
    · rcases List.mem_append.mp hy with hy | hy
      · have := dump_len h y hy; rw [len_sp] at this; omega
      · rw [List.mem_singleton] at hy; subst hy; omega
    · have := dump_len h y hy; omega
  · have := dump_len h y hy; omega
/-- the rows after these numbers, and the layers -/
def rowsAt (zs : List Int) (xs : List Str) : List Str := zs.foldl (fun r x => nextRows x r) xs
theorem rowsAt_snoc (zs : List Int) (x : Int) (xs : List Str) : rowsAt (zs ++ [x]) xs = nextRows x (rowsAt zs xs) := by simp [rowsAt]
theorem rowsAt_bounds (zs : List Int) (xs : List Str) (h0 : 0 < xs.length) {a b : Nat} (h1 : xs.length ≤ a) (h2 : ∀ y ∈ xs, y.length ≤ b) :
    0 < (rowsAt zs xs).length ∧ (rowsAt zs xs).length ≤ a + 3 * zs.length ∧ ∀ y ∈ rowsAt zs xs, y.length ≤ b + 3 * zs.length := by
  induction zs generalizing xs a b with
  | nil => exact ⟨h0, by simpa [rowsAt] using h1, by simpa [rowsAt] using h2⟩
  | cons x r ih =>
    have hl := next_length x xs h0
    have := ih (nextRows x xs) (by omega) (a := a + 3) (b := b + 3) (by omega) (next_len x xs h2)
    simp only [rowsAt, List.foldl_cons, List.length_cons] at this ⊢
    refine ⟨this.1, by omega, fun y hy => ?_⟩
    have := this.2.2 y hy
    omega
end Mine
end
section
open PySem PySem.W PyProof.Rows
set_option Elab.async false
set_option maxRecDepth 100000
set_option maxHeartbeats 4000000
namespace Mine
section
variable {w : World} {s₁ s : Shared} {mg mb : Str → Option Value} {p : Program} {ls : List Str} {mean : ExcName → Option Value} {fa : Addr} {cd : Value} {ns : List Int} {L : Addr}
theorem lk {m : Str → Option Value} {x z : Str} {v u : Value} (h : m z = some u) (hne : z ≠ x) : set1 m x v z = some u := by rw [show set1 m x v z = m z from if_neg hne]; exact h
theorem lk0 {m : Str → Option Value} {x : Str} {v : Value} : set1 m x v x = some v := if_pos rfl
theorem turn {m : Str → Option Value} {x : Int} {t : Tok} {R q Ly : Addr} {self : Value} {vs us : List Value} {xs : List Str} {c d : Nat} {Q : Flow → Shared → Prop} (X : (K w.params).In s₁.heap) (T : Top p ls mean mg mb s₁.heap) (B : Below callerA s₁.heap [] s₁.heap)
    (F : Fr s₁.heap L s.heap m) (hx : m (Str.ofString "x") = some (.int x t)) (hd : m (Str.ofString "dump") = some (.ref q)) (hr : m (Str.ofString "rows") = some (.ref R)) (hly : m (Str.ofString "layers") = some (.ref Ly))
    (hq : Own s₁.heap L s.heap q (methodObj (.ref 282) self)) (hR : Own s₁.heap L s.heap R (listOf vs.toArray c)) (hL : Own s₁.heap L s.heap Ly (listOf us.toArray d)) (hvs : StrsAre vs xs) (hRL : R ≠ Ly)
    (hpos : 0 < xs.length) (hmax : xs.length ≤ 400) (hsz : ∀ x ∈ xs, x.length ≤ 1000) (hus : us.length ≤ 100) (hb : AllBare s.gens)
    (h : ∀ h' tk gs m' D wv S ys c' n, AllBare gs → Fr s₁.heap L h' m' → m' (Str.ofString "dump") = some (.ref q) → m' (Str.ofString "layers") = some (.ref Ly) → m' (Str.ofString "rows") = some (.ref S) →
      (∀ b o, b ≠ L → b ≠ Ly → s.heap.get? b = some o → h'.get? b = some o) → Own s₁.heap L h' S (listOf ys.toArray c') → StrsAre ys (nextRows x xs) → S ≠ Ly → D ≠ Ly → Own s₁.heap L h' D (tupOf #[wv, .ref R]) → Asks w wv (ownOf x ++ Str.ofString " ") →
      Own s₁.heap L h' Ly (listOf (us ++ [Value.ref D]).toArray n) → Q .next { s with heap := h', gens := gs, toks := tk }) :
    wpAny (model prog w) (lawA L fa cd) (execs (forBody (lawS 4)) (lawEnv L fa cd)) Q (fun _ _ => False) s := by
  have hvl := hvs.length
  show wpAny _ _ (execs (bS 0 :: bS 1 :: bS 2 :: bS 3 :: bS 4 :: bS 5 :: bS 6 :: bS 7 :: bS 8 :: bS 9 :: bS 10 :: []) _) _ _ _
  refine wpAny_execs_cons (b0 X T B F hx ?_)
  intro h0 tk0 t1 t2 F0 k0
  have xx := lk (v := .str (ownOf x) t1) (x := Str.ofString "own") (lk (v := .str (otherOf x) t2) (x := Str.ofString "other") hx (by decide)) (by decide)
  have xd := lk (v := .str (ownOf x) t1) (x := Str.ofString "own") (lk (v := .str (otherOf x) t2) (x := Str.ofString "other") hd (by decide)) (by decide)
  have xr := lk (v := .str (ownOf x) t1) (x := Str.ofString "own") (lk (v := .str (otherOf x) t2) (x := Str.ofString "other") hr (by decide)) (by decide)
  have xl := lk (v := .str (ownOf x) t1) (x := Str.ofString "own") (lk (v := .str (otherOf x) t2) (x := Str.ofString "other") hly (by decide)) (by decide)
  have xo : set1 (set1 m (Str.ofString "other") (.str (otherOf x) t2)) (Str.ofString "own") (.str (ownOf x) t1) (Str.ofString "own") = _ := lk0
  have xo2 := lk (v := .str (ownOf x) t1) (x := Str.ofString "own") (lk0 (m := m) (v := .str (otherOf x) t2) (x := Str.ofString "other")) (by decide)
  change Fr _ _ _ (set1 (set1 m (Str.ofString "other") (.str (otherOf x) t2)) (Str.ofString "own") (.str (ownOf x) t1)) at F0
  generalize set1 (set1 m (Str.ofString "other") (.str (otherOf x) t2)) (Str.ofString "own") (.str (ownOf x) t1) = m0 at F0 xx xd xr xl xo xo2
  refine wpAny_execs_cons (b1 (s := { s with heap := h0, toks := tk0 }) X T B F0 xx ?_)
  intro h1 tk1 t3 F1 k1
  refine wpAny_execs_cons (b2 (s := { s with heap := h1, toks := tk1 }) X T B F1 (lk xx (by decide)) (lk xo (by decide)) (lk xo2 (by decide)) ?_)
  intro h2 tk2 t4 F2 k2
  have R2 : Own s₁.heap L h2 R (listOf vs.toArray c) := ((hR.kp k0).kp k1).kp k2
  refine wpAny_execs_cons (b3 (s := { s with heap := h2, toks := tk2 }) X T B F2 (lk (lk xx (by decide)) (by decide)) (lk (lk xr (by decide)) (by decide)) R2 (by omega) ?_)
  intro h3 tk3 t5 F3 k3
  have R3 := R2.kp k3
  refine wpAny_execs_cons (b4 (s := { s with heap := h3, toks := tk3 }) X T B F3 (lk (lk (lk xx (by decide)) (by decide)) (by decide)) (lk (lk (lk xr (by decide)) (by decide)) (by decide)) R3 (by omega) (by omega) ?_)
  intro h4 tk4 t6 F4 k4
  have R4 := R3.kp k4
  rw [hvl] at F4
  rw [(plN_le x xs).2, (loN_lt x xs hpos).2] at F4
  have K4 : Kp L s.heap h4 := (((k0.trans k1).trans k2).trans k3).trans k4
  have q4 := hq.kp K4
  have L4 := hL.kp K4
  have yd := lk (x := Str.ofString "low") (v := .int ((loN x xs : Nat) : Int) t6) (lk (x := Str.ofString "place") (v := .int ((plN x xs : Nat) : Int) t5) (lk (x := Str.ofString "foreign") (v := .str (foreignOf x) t4) (lk (x := Str.ofString "short") (v := .str (shortOf x) t3) xd (by decide)) (by decide)) (by decide)) (by decide)
  have yr := lk (x := Str.ofString "low") (v := .int ((loN x xs : Nat) : Int) t6) (lk (x := Str.ofString "place") (v := .int ((plN x xs : Nat) : Int) t5) (lk (x := Str.ofString "foreign") (v := .str (foreignOf x) t4) (lk (x := Str.ofString "short") (v := .str (shortOf x) t3) xr (by decide)) (by decide)) (by decide)) (by decide)
  have yl := lk (x := Str.ofString "low") (v := .int ((loN x xs : Nat) : Int) t6) (lk (x := Str.ofString "place") (v := .int ((plN x xs : Nat) : Int) t5) (lk (x := Str.ofString "foreign") (v := .str (foreignOf x) t4) (lk (x := Str.ofString "short") (v := .str (shortOf x) t3) xl (by decide)) (by decide)) (by decide)) (by decide)
  have yx := lk (x := Str.ofString "low") (v := .int ((loN x xs : Nat) : Int) t6) (lk (x := Str.ofString "place") (v := .int ((plN x xs : Nat) : Int) t5) (lk (x := Str.ofString "foreign") (v := .str (foreignOf x) t4) (lk (x := Str.ofString "short") (v := .str (shortOf x) t3) xx (by decide)) (by decide)) (by decide)) (by decide)
  have yo := lk (x := Str.ofString "low") (v := .int ((loN x xs : Nat) : Int) t6) (lk (x := Str.ofString "place") (v := .int ((plN x xs : Nat) : Int) t5) (lk (x := Str.ofString "foreign") (v := .str (foreignOf x) t4) (lk (x := Str.ofString "short") (v := .str (shortOf x) t3) xo (by decide)) (by decide)) (by decide)) (by decide)
  have ys := lk (x := Str.ofString "low") (v := .int ((loN x xs : Nat) : Int) t6) (lk (x := Str.ofString "place") (v := .int ((plN x xs : Nat) : Int) t5) (lk (x := Str.ofString "foreign") (v := .str (foreignOf x) t4) (lk0 (m := m0) (x := Str.ofString "short") (v := .str (shortOf x) t3)) (by decide)) (by decide)) (by decide)
  have yf := lk (x := Str.ofString "low") (v := .int ((loN x xs : Nat) : Int) t6) (lk (x := Str.ofString "place") (v := .int ((plN x xs : Nat) : Int) t5) (lk0 (m := set1 m0 (Str.ofString "short") (.str (shortOf x) t3)) (x := Str.ofString "foreign") (v := .str (foreignOf x) t4)) (by decide)) (by decide)
  have yp := lk (x := Str.ofString "low") (v := .int ((loN x xs : Nat) : Int) t6) (lk0 (m := set1 (set1 m0 (Str.ofString "short") (.str (shortOf x) t3)) (Str.ofString "foreign") (.str (foreignOf x) t4)) (x := Str.ofString "place") (v := .int ((plN x xs : Nat) : Int) t5)) (by decide)
  have yw := lk0 (m := set1 (set1 (set1 m0 (Str.ofString "short") (.str (shortOf x) t3)) (Str.ofString "foreign") (.str (foreignOf x) t4)) (Str.ofString "place") (.int ((plN x xs : Nat) : Int) t5)) (x := Str.ofString "low") (v := .int ((loN x xs : Nat) : Int) t6)
  generalize set1 (set1 (set1 (set1 m0 (Str.ofString "short") (.str (shortOf x) t3)) (Str.ofString "foreign") (.str (foreignOf x) t4)) (Str.ofString "place") (.int ((plN x xs : Nat) : Int) t5)) (Str.ofString "low") (.int ((loN x xs : Nat) : Int) t6) = m4' at F4 yd yr yl yx yo ys yf yp yw
  clear F3 F2 F1 F0 xx xd xr xl xo xo2
  have hpl := (plN_le x xs).1
  have hlo := (loN_lt x xs hpos).1
  refine wpAny_execs_cons (b5 (x := x) (s := { s with heap := h4, toks := tk4 }) X T B F4 yd yr yp ys q4 R4 hvs hmax hpl hsz hb ?_)
  intro h5 tk5 gs5 S ys5 c5 F5 k5 fr5 O5 sa5 b5'
  have hRS : R ≠ S := fr5 R _ R4.2.1 R4.1
  have hqS : q ≠ S := fr5 q _ q4.2.1 q4.1
  have hLS : Ly ≠ S := fr5 Ly _ L4.2.1 L4.1
  refine wpAny_execs_cons (b6 (s := { s with heap := h5, gens := gs5, toks := tk5 }) X T B F5 (lk yd (by decide)) (lk yr (by decide)) (lk yw (by decide)) (lk yf (by decide)) lk0 (q4.kp k5) (R4.kp k5) O5 hvs sa5 hmax ?_ hlo hsz (Nat.le_trans (foreign_len x).2 (by decide)) b5' ?_)
  · rw [List.length_append, dumpOut_length (by omega)]; simp; omega
  intro h6 tk6 gs6 ys6 c6 F6 k6 O6 sa6 b6'
  have upS : ∀ b o, b ≠ L → b ≠ S → h4.get? b = some o → h6.get? b = some o := fun b o hb hs e => k6 b o hb hs (k5 b o hb e)
  refine wpAny_execs_cons (b7 (s := { s with heap := h6, gens := gs6, toks := tk6 }) X T B F6 (lk yd (by decide)) (lk yr (by decide)) (lk yp (by decide)) (lk yo (by decide)) lk0 ⟨upS q _ q4.2.1 hqS q4.1, q4.2⟩ ⟨upS R _ R4.2.1 hRS R4.1, R4.2⟩ O6 hvs sa6 hmax ?_ hpl hsz (by rw [own_len]; decide) b6' ?_)
  · rw [List.length_append, List.length_append, dumpOut_length (by omega), dumpOut_length (by omega)]; simp; omega
  intro h7 tk7 gs7 ys7 c7 F7 k7 O7 sa7 b7'
  have up7 : ∀ b o, b ≠ L → b ≠ S → h4.get? b = some o → h7.get? b = some o := fun b o hb hs e => k7 b o hb hs (upS b o hb hs e)
  have hnl := next_length x xs hpos
  change StrsAre ys7 (nextRows x xs) at sa7
  refine wpAny_execs_cons (b8 (s := { s with heap := h7, gens := gs7, toks := tk7 }) X T B F7 (lk yr (by decide)) (lk yw (by decide)) lk0 ⟨up7 R _ R4.2.1 hRS R4.1, R4.2⟩ O7 hvs sa7 hmax (by omega) hlo hnl ?_)
  intro h8 tk8 F8 k8
  have L8 : Own s₁.heap L h8 Ly (listOf us.toArray d) := ⟨k8 _ _ L4.2.1 (up7 Ly _ L4.2.1 hLS L4.1), L4.2⟩
  refine wpAny_execs_cons (b9 (vs := vs) (c := c) (s := { s with heap := h8, gens := gs7, toks := tk8 }) X T B F8 (lk yr (by decide)) (lk yx (by decide)) (lk yl (by decide)) L8 hus ?_)
  intro h9 tk9 wv D n9 hask F9 k9 fr9 OD OL
  have O8 := O7.kp k8
  have hDL : D ≠ Ly := Ne.symm (fr9 Ly _ L8.2.1 L8.1)
  refine wpAny_execs_cons (b10 (s := { s with heap := h9, gens := gs7, toks := tk9 }) X T B F9 lk0 ?_)
  intro h10 tk10 F10 k10
  refine wpAny_execs_nil ?_
  refine h h10 tk10 gs7 _ D wv S ys7 c7 n9 b7' F10 (lk (lk yd (by decide)) (by decide)) (lk (lk yl (by decide)) (by decide)) lk0 (fun b o hb hbL e => ?_) ⟨k10 S _ O8.2.1 (k9 S _ O8.2.1 (Ne.symm hLS) O8.1), O8.2⟩ sa7 (Ne.symm hLS) hDL (OD.kp k10) hask (OL.kp k10)
  have e4 := K4 b o hb e
  exact k10 b o hb (k9 b o hb hbL (k8 b o hb (up7 b o hb (fr5 b o hb e4) e4)))
end
end Mine
end
section
open PySem PySem.W PyProof.Rows
set_option Elab.async false
set_option maxRecDepth 100000
set_option maxHeartbeats 4000000
namespace Mine
def forTarget : Stmt → Expr
  | .For t _ _ _ _ => t
  | _ => .Tuple [] 0 ⟨0, 0, 0, 0⟩
section
variable {w : World} {s₁ s : Shared} {mg mb : Str → Option Value} {p : Program} {ls : List Str} {mean : ExcName → Option Value} {fa : Addr} {cd : Value} {ns : List Int} {L : Addr}
theorem s3 {m : Str → Option Value} {Q : Flow → Shared → Prop} (X : (K w.params).In s₁.heap) (T : Top p ls mean mg mb s₁.heap) (B : Below callerA s₁.heap [] s₁.heap)
    (F : Fr s₁.heap L s.heap m)
    (h : ∀ h' tk D, Fr s₁.heap L h' (set1 m (Str.ofString "layers") (.ref D)) → Kp L s.heap h' → Fresh L s.heap D → Own s₁.heap L h' D (listOf #[] 0) → Q .next { s with heap := h', toks := tk }) :
    wpAny (model prog w) (lawA L fa cd) (exec (lawS 3) (lawEnv L fa cd)) Q (fun _ _ => False) s := by
  obtain ⟨oth, N, hoth, hfr, -⟩ := led4 F
  have hrow : row = row := rfl
  have X' := X
  revert hrow X
  k_fill
  intro _ X
  show wpAny _ _ (exec (Stmt.Assign _ _ _) _) _ _ _
  w_on
  try k_fold
  k_steps
  rename_i l1 h' F' N'
  have hO := Own.of N' (.head _)
  exact h _ _ _ F' (hoth F' N' (by intro q hq; repeat (first | exact hq | apply List.mem_cons_of_mem))) (hfr hO.2.2 l1) hO
theorem s4iter {m : Str → Option Value} {D : Addr} {ws : List Value} {c : Nat} {Q : Value → Shared → Prop} (X : (K w.params).In s₁.heap) (T : Top p ls mean mg mb s₁.heap) (B : Below callerA s₁.heap [] s₁.heap)
    (F : Fr s₁.heap L s.heap m) (hs : m (Str.ofString "script") = some (.ref D)) (hD : Own s₁.heap L s.heap D (listOf ws.toArray c)) (hI : IntsAre ws ns) (hlen : ns.length ≤ 63)
    (h : ∀ h' tk Z zs d, Fr s₁.heap L h' m → Kp L s.heap h' → Fresh L s.heap Z → Own s₁.heap L h' Z (listOf zs.toArray d) → IntsAre zs (ns ++ [(ns.length : Int)]) → Q (.ref Z) { s with heap := h', toks := tk }) :
    wpAny (model prog w) (lawA L fa cd) (eval (forIter (lawS 4)) (lawEnv L fa cd)) Q (fun _ _ => False) s := by
  have KN := fun y => kn1 hs y
  replace F := Fr.congr F (fun y => (KN y).symm)
  obtain ⟨oth, N, hoth, hfr, -⟩ := led4 F
  replace N := hD.news N
  clear hs hD
  have hrow : row = row := rfl
  have X' := X
  revert hrow X
  k_fill
  intro _ X
  show wpAny _ _ (eval (Expr.BinOp _ _ _ _) _) _ _ _
  w_on
  try k_fold
  k_steps
  rename_i Z zs h' F' N' hI' l1
  have hO := Own.of N' (.head _)
  exact h _ _ _ zs 0 (Fr.congr F' KN) (hoth F' N' (by intro q hq; repeat (first | exact hq | apply List.mem_cons_of_mem))) (hfr hO.2.2 (allLt_mem l1.2.2)) hO hI'
/-- a layer, as it lies -/
def LayAt (w : World) (h₀ : Heap) (L : Addr) (h : Heap) (Ly : Addr) (v : Value) (tag : Str) (rows : List Str) : Prop :=
  ∃ D wv R vs c, v = .ref D ∧ D ≠ Ly ∧ R ≠ Ly ∧ Own h₀ L h D (tupOf #[wv, .ref R]) ∧ Own h₀ L h R (listOf vs.toArray c) ∧ Asks w wv tag ∧ StrsAre vs rows
theorem LayAt.keep {h₀ h h' : Heap} {Ly : Addr} {v : Value} {tag : Str} {rows : List Str} (x : LayAt w h₀ L h Ly v tag rows)
    (hk : ∀ b o, b ≠ L → b ≠ Ly → (o.cls = .type "tuple" ∨ o.cls = .type "list") → h.get? b = some o → h'.get? b = some o) : LayAt w h₀ L h' Ly v tag rows := by
  obtain ⟨D, wv, R, vs, c, rfl, h1, h2, h3, h4, h5, h6⟩ := x
  exact ⟨D, wv, R, vs, c, rfl, h1, h2, ⟨hk D _ h3.2.1 h1 (.inl rfl) h3.1, h3.2⟩, ⟨hk R _ h4.2.1 h2 (.inr rfl) h4.1, h4.2⟩, h5, h6⟩
def LaysAt (w : World) (h₀ : Heap) (L : Addr) (h : Heap) (Ly : Addr) (us : List Value) (zs : List Int) (xs : List Str) : Prop :=
  ∀ j v, us[j]? = some v → LayAt w h₀ L h Ly v (ownOf (zs.getD j 0) ++ Str.ofString " ") (rowsAt (zs.take j) xs)
theorem LaysAt.keep {h₀ h h' : Heap} {Ly : Addr} {us : List Value} {zs : List Int} {xs : List Str} (x : LaysAt w h₀ L h Ly us zs xs)
    (hk : ∀ b o, b ≠ L → b ≠ Ly → (o.cls = .type "tuple" ∨ o.cls = .type "list") → h.get? b = some o → h'.get? b = some o) : LaysAt w h₀ L h' Ly us zs xs := fun j v e => (x j v e).keep hk
theorem iter_ne {h : Heap} {I l b : Addr} {i : Nat} {o : Obj} (hit : h.IsListIter I l i) (e : h.get? b = some o) (hc : o.cls ≠ .type "list_iterator") : b ≠ I := fun q => by
  subst q
  obtain ⟨o', ho', hc', _⟩ := hit
  rw [e] at ho'; cases ho'
  exact hc hc'
theorem intsAre_get {vs : List Value} {xs : List Int} (h : IntsAre vs xs) : ∀ {k : Nat} {v : Value}, vs[k]? = some v → ∃ t, v = .int (xs.getD k 0) t ∧ k < xs.length := by
  induction h with
  | nil => intro k x hx; simp at hx
  | cons y t _ ih =>
    intro k v hv
    cases k with
    | zero => simp at hv; subst hv; exact ⟨t, rfl, by simp⟩
    | succ k =>
      obtain ⟨t', e, hl⟩ := ih (by simpa using hv)
      exact ⟨t', by simpa using e, by simpa using hl⟩
/-- what holds between two turns of the first loop -/
def Inv4 (w : World) (s₁ : Shared) (L q Ly I Z : Addr) (self : Value) (wz : List Value) (dz : Nat) (zs : List Int) (xs0 : List Str) (i : Nat) (s : Shared) (m : Str → Option Value) : Prop :=
  i ≤ zs.length ∧ AllBare s.gens ∧ s.os = s₁.os ∧ Fr s₁.heap L s.heap m ∧ m (Str.ofString "dump") = some (.ref q) ∧ m (Str.ofString "layers") = some (.ref Ly) ∧ Own s₁.heap L s.heap q (methodObj (.ref 282) self) ∧
  s.heap.IsListIter I Z i ∧ I ≠ L ∧ s₁.heap.get? I = none ∧ Own s₁.heap L s.heap Z (listOf wz.toArray dz) ∧ Z ≠ Ly ∧
  ∃ R vs c us d, m (Str.ofString "rows") = some (.ref R) ∧ Own s₁.heap L s.heap R (listOf vs.toArray c) ∧ StrsAre vs (rowsAt (zs.take i) xs0) ∧ R ≠ Ly ∧ Own s₁.heap L s.heap Ly (listOf us.toArray d) ∧ us.length = i ∧ LaysAt w s₁.heap L s.heap Ly us zs xs0
theorem s4 {m : Str → Option Value} {D q Ly R : Addr} {self : Value} {ws vs : List Value} {c c2 d : Nat} {xs0 : List Str} {Q : Flow → Shared → Prop} (X : (K w.params).In s₁.heap) (T : Top p ls mean mg mb s₁.heap) (B : Below callerA s₁.heap [] s₁.heap)
    (F : Fr s₁.heap L s.heap m) (hs : m (Str.ofString "script") = some (.ref D)) (hD : Own s₁.heap L s.heap D (listOf ws.toArray c)) (hI : IntsAre ws ns) (hlen : ns.length ≤ 63)
    (hd : m (Str.ofString "dump") = some (.ref q)) (hr : m (Str.ofString "rows") = some (.ref R)) (hly : m (Str.ofString "layers") = some (.ref Ly)) (hq : Own s₁.heap L s.heap q (methodObj (.ref 282) self)) (hR : Own s₁.heap L s.heap R (listOf vs.toArray c2)) (hvs : StrsAre vs xs0) (hRL : R ≠ Ly)
    (hL : Own s₁.heap L s.heap Ly (listOf #[] d)) (hx0 : 0 < xs0.length) (hx1 : xs0.length ≤ 64) (hx2 : ∀ y ∈ xs0, y.length ≤ 20) (hb : AllBare s.gens) (hos : s.os = s₁.os)
    (h : ∀ s' m' R' vs' c' us d', AllBare s'.gens → s'.os = s₁.os → Fr s₁.heap L s'.heap m' → m' (Str.ofString "rows") = some (.ref R') → m' (Str.ofString "layers") = some (.ref Ly) → Own s₁.heap L s'.heap R' (listOf vs'.toArray c') → StrsAre vs' (rowsAt (ns ++ [(ns.length : Int)]) xs0) →
      Own s₁.heap L s'.heap Ly (listOf us.toArray d') → us.length = ns.length + 1 → R' ≠ Ly → LaysAt w s₁.heap L s'.heap Ly us (ns ++ [(ns.length : Int)]) xs0 → Q .next s') :
    wpAny (model prog w) (lawA L fa cd) (exec (lawS 4) (lawEnv L fa cd)) Q (fun _ _ => False) s := by
  show wpAny _ _ (exec (Stmt.For (.Name (Str.ofString "x") ⟨789, 8, 789, 9⟩) (forIter (lawS 4)) (forBody (lawS 4)) [] _) _) _ _ _
  refine wpAny_For (s4iter X T B F hs hD hI hlen ?_) (by intro _; rfl)
  intro h1 tk1 Z zz dz F1 k1 fr1 OZ hIz
  have hZL : Ly ≠ Z := fr1 Ly _ hL.2.1 hL.1
  refine wpAny_pyIter_list OZ.isL ?_
  dsimp only
  have hzl : zz.length = ns.length + 1 := by rw [hIz.length]; simp
  generalize hzs : ns ++ [(ns.length : Int)] = zs at *
  have hzl2 : zs.length = ns.length + 1 := by rw [← hzs]; simp
  have up : ∀ b o, h1.get? b = some o → (h1.push { cls := Value.type "list_iterator", data := .fields #[.ref Z, .int 0 0] }).get? b = some o := fun b o e => Heap.get?_push_of_some _ e
  have F2 := F1.push { cls := Value.type "list_iterator", data := .fields #[.ref Z, .int 0 0] }
  have hIL : h1.objs.size ≠ L := fun q => by
    have := F1.ns.lt
    rw [q] at this
    exact absurd this (Nat.lt_irrefl _)
  have hI0 : s₁.heap.get? h1.objs.size = none := by
    cases e : s₁.heap.get? h1.objs.size with
    | none => rfl
    | some o => exact absurd (Heap.lt_size (F1.keep _ _ e)) (Nat.lt_irrefl _)
  refine loop_name (h₀ := s₁.heap) (l := Z) (env := lawEnv L fa cd) (items := zz.toArray) lawA_h (by rfl) (by rfl) (Inv4 w s₁ L q Ly h1.objs.size Z self zz dz zs xs0) ?_ ?_ ?_ (m := m) ?_
  · rintro i s m ⟨_, _, _, F, _, _, _, hit, hIL, hI0, OZ, _⟩
    exact ⟨F, hit, OZ.isL, hIL, hI0⟩
  · rintro i s m v h' tk ⟨hi, hb, hos, F, hd, hly, hq, hit, hIL, hI0, OZ, hZLy, R, vs, c, us, d, hr, OR, hvs, hRL, OL, hul, hlays⟩ hv F' hit' kB
    obtain ⟨t, rfl, hil⟩ := intsAre_get hIz (k := i) (v := v) (by simpa using hv)
    have hkeep : ∀ b o, b ≠ L → o.cls ≠ .type "list_iterator" → s.heap.get? b = some o → h'.get? b = some o := fun b o hb hc e => kB b o hb (iter_ne hit e hc) e
    have hbd := rowsAt_bounds (zs.take i) xs0 hx0 hx1 hx2
    have htl : (zs.take i).length ≤ 64 := by rw [List.length_take]; omega
    refine turn (s := { s with heap := h', toks := tk }) X T B F' lk0 (lk hd (by decide)) (lk hr (by decide)) (lk hly (by decide)) ⟨hkeep _ _ hq.2.1 (by show Value.type "method" ≠ _; decide) hq.1, hq.2⟩ ⟨hkeep _ _ OR.2.1 (by show Value.type "list" ≠ _; decide) OR.1, OR.2⟩ ⟨hkeep _ _ OL.2.1 (by show Value.type "list" ≠ _; decide) OL.1, OL.2⟩ hvs hRL hbd.1 (by omega) (fun y hy => by have := hbd.2.2 y hy; omega) (by omega) hb ?_
    intro h2 tk2 gs2 m2 D2 wv2 S2 ys2 c3 n2 hb2 F2 hd2 hly2 hr2 kk OS sa hSL hDL OD hask OL2
    have hqL : q ≠ Ly := fun e => by subst e; exact absurd (show Value.type "method" = Value.type "list" from congrArg Obj.cls (Option.some.inj (hq.1.symm.trans OL.1))) (by decide)
    have hIne : h1.objs.size ≠ Ly := fun e => (iter_ne hit OL.1 (by show Value.type "list" ≠ _; decide)) e.symm
    obtain ⟨oi, hoi, hci⟩ := id hit'
    refine ⟨.inl rfl, m2, by omega, hb2, hos, F2, hd2, hly2, ⟨kk q _ hq.2.1 hqL (hkeep _ _ hq.2.1 (by show Value.type "method" ≠ _; decide) hq.1), hq.2⟩, hit'.at fun o e => kk _ o hIL hIne e, hIL, hI0, ⟨kk Z _ OZ.2.1 hZLy (hkeep _ _ OZ.2.1 (by show Value.type "list" ≠ _; decide) OZ.1), OZ.2⟩, hZLy,
      S2, ys2, c3, us ++ [.ref D2], n2, hr2, OS, ?_, hSL, OL2, by simp [hul], ?_⟩
    · have e1 : zs.take (i + 1) = zs.take i ++ [zs.getD i 0] := by
        rw [List.take_add_one, List.getElem?_eq_getElem hil]; simp [List.getD_eq_getElem?_getD, hil]
      rw [e1, rowsAt_snoc]; exact sa
    · intro j v hj
      by_cases hji : j < us.length
      · rw [List.getElem?_append_left hji] at hj
        exact (hlays j v hj).keep fun b o hb1 hb2 hc e => kk b o hb1 hb2 (hkeep b o hb1 (by rcases hc with hc | hc <;> rw [hc] <;> decide) e)
      · have hje : j = i := by
          have : j < (us ++ [Value.ref D2]).length := by
            rcases Nat.lt_or_ge j (us ++ [Value.ref D2]).length with q | q
            · exact q
            · rw [List.getElem?_eq_none q] at hj; cases hj
          simp at this; omega
        subst hje
        rw [List.getElem?_append_right (by omega), hul, Nat.sub_self] at hj
        cases hj
        exact ⟨D2, wv2, R, vs, c, rfl, hDL, hRL, OD, ⟨kk R _ OR.2.1 hRL (hkeep _ _ OR.2.1 (by show Value.type "list" ≠ _; decide) OR.1), OR.2⟩, hask, hvs⟩
  · rintro s m h' ⟨hi, hb, hos, F, hd, hly, hq, hit, hIL, hI0, OZ, hZLy, R, vs, c, us, d, hr, OR, hvs, hRL, OL, hul, hlays⟩ F' kB
    have hkeep : ∀ b o, b ≠ L → o.cls ≠ .type "list_iterator" → s.heap.get? b = some o → h'.get? b = some o := fun b o hb hc e => kB b o hb (iter_ne hit e hc) e
    refine h { s with heap := h' } m R vs c us d hb hos F' hr hly ⟨hkeep _ _ OR.2.1 (by show Value.type "list" ≠ _; decide) OR.1, OR.2⟩ ?_ ⟨hkeep _ _ OL.2.1 (by show Value.type "list" ≠ _; decide) OL.1, OL.2⟩ (by rw [hul]; simpa using hzl) hRL (hlays.keep fun b o hb1 _ hc e => hkeep b o hb1 (by rcases hc with hc | hc <;> rw [hc] <;> decide) e)
    rw [List.take_of_length_le (by simp; omega)] at hvs
    exact hvs
  · have kO : ∀ {a : Addr} {o : Obj}, Own s₁.heap L s.heap a o → Own s₁.heap L (h1.push { cls := Value.type "list_iterator", data := .fields #[.ref Z, .int 0 0] }) a o := fun x => ⟨up _ _ (k1 _ _ x.2.1 x.1), x.2⟩
    exact ⟨Nat.zero_le _, hb, hos, F2, hd, hly, kO hq, ⟨_, Heap.get?_push_size _ rfl, rfl, rfl⟩, hIL, hI0, ⟨up _ _ OZ.1, OZ.2⟩, Ne.symm hZL, R, vs, c2, [], d, hr, kO hR, by simpa [rowsAt] using hvs, hRL, kO hL, rfl, fun j v e => by simp at e⟩
end
end Mine
end
section
open PySem PySem.W PyProof.Rows
set_option Elab.async false
set_option maxRecDepth 100000
set_option maxHeartbeats 4000000
namespace Mine
abbrev cS (i : Nat) : Stmt := nth (forBody (lawS 5)) i
section
variable {w : World} {A : Around} {h₀ : Heap} {p : Program} {ls : List Str} {mg mb : Str → Option Value} {E : Value → Shared → Prop} {s : Shared}
theorem res_call {L lx : Addr} {m : Str → Option Value} {news : List (Addr × Obj)} {wv : Value} {tag : Str} {xs : List Str} {vs : List Value} {c : Nat} {Q : Value → Shared → Prop}
    (X : (K w.params).In h₀) (T : TopRead p ls mg mb h₀) (hh : A.handled = none) (hroom : A.depth < recursionLimit) (F : Fr h₀ L s.heap m) (N : News h₀ L s.heap news) (hl : (lx, listOf vs.toArray c) ∈ news)
    (hvs : StrsAre vs xs) (hsz : ∀ x ∈ xs, x.length ≤ sizeLine) (hw : Asks w wv tag) (hb : AllBare s.gens)
    (h : ∀ C a h' gs tk, C < a → s.heap.objs.size ≤ C → a < h'.objs.size → (∀ b o, s.heap.get? b = some o → h'.get? b = some o) → Fr h₀ L h' m → News h₀ L h' news → AllBare gs →
      (∀ s' : Shared, s'.heap = h' → s'.gens = gs → GenAtF prog w A.in1.in1 a s.gens.size (rFp h₀ C a lx) (rWr C a) noG (resOut tag xs) 0 s') →
      Q (.ref a) { s with heap := h', gens := gs, toks := tk }) :
    wpAny (model prog w) A (call (.ref 324) [.ref lx, wv]) Q E s := by
  refine wpAny_call ?_
  refine mk_restore X T hh hroom F N (isL N hl) hvs hsz hw ?_
  intro C a h' tk h1 h2 h3 h4 F' N' G
  refine h C a h' _ tk h1 h2 h3 h4 F' N' ?_ G
  intro z hz
  rcases Array.mem_push.mp hz with hz | hz
  · exact hb z hz
  · subst hz; rfl
theorem list_res {L C a lx : Addr} {g : Nat} {m : Str → Option Value} {news : List (Addr × Obj)} {tag : Str} {xs : List Str} {Q : Value → Shared → Prop}
    (T : TopRead p ls mg mb h₀) (hh : A.handled = none) (hroom : A.depth < recursionLimit) (F : Fr h₀ L s.heap m) (N : News h₀ L s.heap news) (hb : AllBare s.gens)
    (G : GenAtF prog w A.in1.in1 a g (rFp h₀ C a lx) (rWr C a) noG (resOut tag xs) 0 s) (hLC : L < C) (hCa : C < a) (hlx : lx < C) (hnC : ∀ q ∈ news, q.1 < C) (hxs : xs.length ≤ sizeLine)
    (h : ∀ S vs c h' gs tk, Fr h₀ L h' m → News h₀ L h' ((S, listOf vs.toArray c) :: news) → StrsAre vs (resOut tag xs) → AllBare gs → (∀ q ∈ news, q.1 < S) → Q (.ref S) { s with heap := h', gens := gs, toks := tk }) :
    wpAny (model prog w) A (call (.type "list") [.ref a]) Q E s := by
  obtain ⟨oa, _, _, hoa, _⟩ := id G.1
  have haS : a < s.heap.objs.size := Heap.lt_size hoa
  refine list_gen T hh hroom F N hb G (by exact id) hLC hCa hnC rWr_low (fun o => .inr (.inl rfl)) (fun b o o' e => .inr (.inr (.inr (.inl ⟨o', e⟩)))) (fun its c q => ?_) (Nat.le_trans (resOut_len _ _) hxs) ?_
  · have hCS : C < s.heap.objs.size := Nat.lt_trans hCa haS
    rcases q with q | q | q | ⟨o', q⟩ | ⟨_, q | q⟩
    · exact Nat.lt_irrefl _ (q ▸ hCS)
    · exact Nat.lt_irrefl _ (q ▸ haS)
    · exact Nat.lt_irrefl _ (q ▸ (Nat.lt_trans hlx hCS))
    · exact Nat.lt_irrefl _ (Heap.lt_size (F.keep _ _ q))
    · exact absurd (show Value.type "list" = Value.type "list_iterator" from q) (by decide)
    · exact absurd (show Value.type "list" = Value.type "tuple" from q) (by decide)
  · intro S vs c h' gs tk hS F' N' hvs hb' hlt
    exact h S vs c h' gs tk F' N' hvs hb' hlt
end
section
variable {w : World} {s₁ s : Shared} {mg mb : Str → Option Value} {p : Program} {ls : List Str} {mean : ExcName → Option Value} {fa : Addr} {cd : Value} {ns : List Int} {L : Addr}
theorem s5iter {m : Str → Option Value} {Ly : Addr} {us : List Value} {c : Nat} {Q : Value → Shared → Prop} (X : (K w.params).In s₁.heap) (T : Top p ls mean mg mb s₁.heap) (B : Below callerA s₁.heap [] s₁.heap)
    (F : Fr s₁.heap L s.heap m) (hs : m (Str.ofString "layers") = some (.ref Ly)) (hD : Own s₁.heap L s.heap Ly (listOf us.toArray c)) (hlen : us.length ≤ 64)
    (h : ∀ h' tk Z d, Fr s₁.heap L h' m → Kp L s.heap h' → Fresh L s.heap Z → Own s₁.heap L h' Z (listOf us.reverse.toArray d) → Q (.ref Z) { s with heap := h', toks := tk }) :
    wpAny (model prog w) (lawA L fa cd) (eval (forIter (lawS 5)) (lawEnv L fa cd)) Q (fun _ _ => False) s := by
  have KN := fun y => kn1 hs y
  replace F := Fr.congr F (fun y => (KN y).symm)
  obtain ⟨oth, N, hoth, hfr, -⟩ := led4 F
  replace N := hD.news N
  clear hs hD
  have hrow : row = row := rfl
  have X' := X
  revert hrow X
  k_fill
  intro _ X
  show wpAny _ _ (eval (Expr.Subscript _ _ _) _) _ _ _
  w_on
  try k_fold
  k_steps
  rename_i h' F' N'
  have hO := Own.of N' (.head _)
  refine h h' _ _ 0 (Fr.congr F' KN) (hoth F' N' (by intro q hq; repeat (first | exact hq | apply List.mem_cons_of_mem))) (hfr hO.2.2 (fun q hq => Nat.lt_succ_of_lt (ltS N q (.tail _ hq)))) ?_
  rw [krv_pick] at hO
  exact hO
theorem c0 {m : Str → Option Value} {R : Addr} {wv : Value} {tag : Str} {vs : List Value} {xs : List Str} {c : Nat} {Q : Flow → Shared → Prop} (X : (K w.params).In s₁.heap) (T : Top p ls mean mg mb s₁.heap) (B : Below callerA s₁.heap [] s₁.heap)
    (F : Fr s₁.heap L s.heap m) (hr : m (Str.ofString "rows") = some (.ref R)) (hw : m (Str.ofString "wish") = some wv) (hR : Own s₁.heap L s.heap R (listOf vs.toArray c)) (hvs : StrsAre vs xs) (hmax : xs.length ≤ 400) (hsz : ∀ x ∈ xs, x.length ≤ 1000) (hb : AllBare s.gens) (hask : Asks w wv tag)
    (h : ∀ h' tk gs S ys c', Fr s₁.heap L h' (set1 m (Str.ofString "rows") (.ref S)) → Kp L s.heap h' → Fresh L s.heap S → Own s₁.heap L h' S (listOf ys.toArray c') → StrsAre ys (resOut tag xs) → AllBare gs → Q .next { s with heap := h', gens := gs, toks := tk }) :
    wpAny (model prog w) (lawA L fa cd) (exec (cS 0) (lawEnv L fa cd)) Q (fun _ _ => False) s := by
  have KN := fun y => kn2 hr hw y
  replace F := Fr.congr F (fun y => (KN y).symm)
  obtain ⟨oth, N, hoth, hfr, -⟩ := led4 F
  replace N := hR.news N
  clear hr hw hR
  have hrow : row = row := rfl
  have X' := X
  revert hrow X
  k_fill
  intro _ X
  show wpAny _ _ (exec (Stmt.Assign _ _ _) _) _ _ _
  w_on
  try k_fold
  k_steps
  refine res_call (A := lawA L fa cd) (tag := tag) X' (topRead_of T) lawA_h lawA_d F N (.head _) hvs (fun x hx => by have := hsz x hx; rw [PySem.sizeLine_eq]; omega) hask hb ?_
  intro C a h' gs tk hCa hsC hah keep F' N' hb' G
  k_steps
  try dsimp only
  have hLC : L < C := Nat.lt_of_lt_of_le F.ns.lt hsC
  have hnC : ∀ z ∈ ((R, listOf vs.toArray c) :: oth), z.1 < C := fun z hz => Nat.lt_of_lt_of_le (ltS N z hz) hsC
  refine list_res (A := lawA L fa cd) (topRead_of T) lawA_h lawA_d F' N' hb' (G _ rfl rfl) hLC hCa (hnC _ (.head _)) hnC (by rw [PySem.sizeLine_eq]; omega) ?_
  intro S ys c1 h1 gs1 tk1 F1 N1 hys hb1 hS
  clear F' N' G N F
  k_steps
  rename Fr _ _ _ _ => F4
  rename News _ _ _ _ => N4
  have hO := Own.of N4 (.head _)
  exact h _ _ _ S ys c1 (Fr.congr F4 (st1 KN)) (hoth F4 N4 (by intro q hq; repeat (first | exact hq | apply List.mem_cons_of_mem))) (hfr hO.2.2 (fun q hq => hS q (.tail _ hq))) hO hys hb1
end
end Mine
end
section
open PySem PySem.W PyProof.Rows PySem.Spec
set_option Elab.async false
set_option maxRecDepth 100000
set_option maxHeartbeats 1000000
namespace Mine
theorem ok_app (a b : Str) : PyData.strOk (a ++ b) = (PyData.strOk a && PyData.strOk b) := by
  show (a.cps ++ b.cps).all _ = _
  rw [Array.all_append]; rfl
theorem ok_ofString (s : String) : PyData.strOk (Str.ofString s) = true := by
  rw [Str.ofString_eq_toList]
  show Array.all (List.toArray _) _ = true
  rw [List.all_toArray, List.all_eq_true]
  intro n hn
  obtain ⟨c, _, rfl⟩ := List.mem_map.mp hn
  refine decide_eq_true ?_
  have := c.valid
  show c.val.toNat < 1114112
  rcases this with h | h
  · have : c.val.toNat < 55296 := h
    omega
  · exact h.2
theorem ok_mk {l : List Nat} (h : ∀ c ∈ l, c < 1114112) : PyData.strOk ⟨l.toArray⟩ = true := by
  show Array.all (List.toArray _) _ = true
  rw [List.all_toArray, List.all_eq_true]
  exact fun n hn => decide_eq_true (h n hn)
theorem ok_mem {x : Str} (h : PyData.strOk x = true) : ∀ c ∈ x.cps.toList, c < 1114112 := by
  unfold PyData.strOk at h
  rw [← Array.all_toList, List.all_eq_true] at h
  exact fun c hc => of_decide_eq_true (h c hc)
def oks (xs : List Str) : Prop := ∀ x ∈ xs, PyData.strOk x = true
theorem sameAll_strs : ∀ xs ys : List Str, sameAll (xs.map PyData.str) (ys.map PyData.str) = decide (xs = ys)
  | [], [] => by simp [PySem.Spec.sameAll]
  | [], _ :: _ => by simp [PySem.Spec.sameAll]
  | _ :: _, [] => by simp [PySem.Spec.sameAll]
  | a :: r, b :: t => by
    simp only [List.map_cons, PySem.Spec.sameAll, PySem.Spec.same, sameAll_strs r t]
    by_cases h : a = b <;> by_cases h' : r = t <;> simp [h, h']
theorem same_strs (xs ys : List Str) : PySem.Spec.same (.list (xs.map PyData.str)) (.list (ys.map PyData.str)) = decide (xs = ys) := by
  simp only [PySem.Spec.same]; exact sameAll_strs xs ys
theorem depth_strs : ∀ xs : List Str, PyData.depthAll (xs.map PyData.str) = 0
  | [] => rfl
  | _ :: r => by simp [PyData.depthAll, PyData.depth, depth_strs r]
theorem shaped_strs {xs : List Str} (h : oks xs) : SeqAt.shaped (.list (xs.map PyData.str)) = true := by
  have : xs.all PyData.strOk = true := List.all_eq_true.mpr h
  simp [SeqAt.shaped, PyData.canLay0, PyData.depth, canLayAll_strs', depth_strs]
  exact h
section
variable {prog : Program} {w : World} {A : Around} {E : Value → Shared → Prop} {s : Shared} {a b : Addr} {xs ys : List Value} {us vs : List Str} {Q : Value → Shared → Prop}
theorem eq_strs (ha : s.heap.IsList a xs.toArray) (hb : s.heap.IsList b ys.toArray) (hi : StrsAre xs us) (hj : StrsAre ys vs) (hu : oks us) (hv : oks vs) (hun : A.units + 64 < cLine) (h : Q (.bool (decide (us = vs))) s) :
    wpAny (model prog w) A (compareOp .Eq (.ref a) (.ref b)) Q E s :=
  eq_dataH_same (reads_newData ha hi.carried) (reads_newData hb hj.carried) (shaped_strs hu) (shaped_strs hv) hun (SeqAt.noMix_of_shape (.list .str) rfl _ _ (list_map_has fun _ => rfl) (list_map_has fun _ => rfl)) (by rw [same_strs]; exact h)
theorem ne_strs (ha : s.heap.IsList a xs.toArray) (hb : s.heap.IsList b ys.toArray) (hi : StrsAre xs us) (hj : StrsAre ys vs) (hu : oks us) (hv : oks vs) (hun : A.units + 64 < cLine) (h : Q (.bool (!decide (us = vs))) s) :
    wpAny (model prog w) A (compareOp .NotEq (.ref a) (.ref b)) Q E s :=
  ne_dataH_same (reads_newData ha hi.carried) (reads_newData hb hj.carried) (shaped_strs hu) (shaped_strs hv) hun (SeqAt.noMix_of_shape (.list .str) rfl _ _ (list_map_has fun _ => rfl) (list_map_has fun _ => rfl)) (by rw [same_strs]; exact h)
end
end Mine
end
section
open PySem PySem.W PyProof.Rows
set_option Elab.async false
set_option maxRecDepth 100000
set_option maxHeartbeats 4000000
namespace Mine
theorem oks_dump {c : Str} (hc : PyData.strOk c = true) {xs : List Str} (h : oks xs) (lo n : Nat) : oks (dumpOut c xs lo n) := by
  intro y hy
  unfold dumpOut at hy
  obtain ⟨z, hz, rfl⟩ := List.mem_map.mp hy
  rw [ok_app, ok_app, hc, ok_ofString, h z (List.mem_of_mem_drop (List.mem_of_mem_take hz))]; rfl
theorem oks_app {xs ys : List Str} (h : oks xs) (h' : oks ys) : oks (xs ++ ys) := fun y hy => by
  rcases List.mem_append.mp hy with q | q
  · exact h y q
  · exact h' y q
theorem ok_own (x : Int) : PyData.strOk (ownOf x) = true := by
  rcases own_cases x with ⟨e, _⟩ | ⟨e, _⟩ <;> rw [e] <;> exact ok_ofString _
theorem ok_foreign (x : Int) : PyData.strOk (foreignOf x) = true := by
  rcases foreign_cases x with e | e | e | e <;> rw [e]
  · rcases own_cases x with ⟨_, e⟩ | ⟨_, e⟩ <;> rw [e] <;> exact ok_ofString _
  · exact ok_ofString _
  · rw [ok_app, ok_own]; rfl
  · exact ok_ofString _
theorem ok_short (x : Int) : PyData.strOk (shortOf x) = true := by
  rcases short_cases x with e | e | e | e <;> rw [e] <;> exact ok_ofString _
theorem oks_next (x : Int) (xs : List Str) (h : oks xs) : oks (nextRows x xs) :=
  oks_app (oks_app (oks_app (oks_dump (ok_ofString _) h _ _) (fun y hy => by rw [List.mem_singleton] at hy; rw [hy]; exact ok_short x)) (oks_dump (ok_foreign x) h _ _)) (oks_dump (ok_own x) h _ _)
theorem oks_rowsAt (zs : List Int) (xs : List Str) (h : oks xs) : oks (rowsAt zs xs) := by
  induction zs generalizing xs with
  | nil => exact h
  | cons x r ih => exact ih _ (oks_next x xs h)
section
variable {w : World} {s₁ s : Shared} {mg mb : Str → Option Value} {p : Program} {ls : List Str} {mean : ExcName → Option Value} {fa : Addr} {cd : Value} {ns : List Int} {L : Addr}
theorem lawA_u : (lawA L fa cd).units + 64 < cLine := by show 4 + 3 + 64 < cLine; decide
theorem c1 {m : Str → Option Value} {R S : Addr} {vs ys : List Value} {xs : List Str} {c d : Nat} {Q : Flow → Shared → Prop}
    (F : Fr s₁.heap L s.heap m) (hr : m (Str.ofString "rows") = some (.ref R)) (hw : m (Str.ofString "due") = some (.ref S)) (hR : Own s₁.heap L s.heap R (listOf vs.toArray c)) (hvs : StrsAre vs xs) (hS : Own s₁.heap L s.heap S (listOf ys.toArray d)) (hys : StrsAre ys xs) (hok : oks xs)
    (h : Q .next s) :
    wpAny (model prog w) (lawA L fa cd) (exec (cS 1) (lawEnv L fa cd)) Q (fun _ _ => False) s := by
  show wpAny _ _ (exec (Stmt.If (Expr.Compare (Expr.Name (Str.ofString "rows") _) [CmpOp.NotEq] [Expr.Name (Str.ofString "due") _] _) _ [] _) _) _ _ _
  refine wpAny_If ?_
  refine wpAny_isTrue_Compare1 ?_
  refine ld F hr ?_
  refine ld F hw ?_
  refine ne_strs hR.isL hS.isL hvs hys hok hok lawA_u ?_
  rw [decide_eq_true rfl]
  refine wpAny_truthy_bool ?_
  exact wpAny_execs_nil h
/-- what holds between two turns of the second loop -/
def Inv5 (w : World) (s₁ : Shared) (L Ly I Z : Addr) (us : List Value) (dz : Nat) (zs : List Int) (xs0 : List Str) (i : Nat) (s : Shared) (m : Str → Option Value) : Prop :=
  i ≤ zs.length ∧ AllBare s.gens ∧ s.os = s₁.os ∧ Fr s₁.heap L s.heap m ∧ s.heap.IsListIter I Z i ∧ I ≠ L ∧ s₁.heap.get? I = none ∧ Own s₁.heap L s.heap Z (listOf us.reverse.toArray dz) ∧
  (∃ R vs c, m (Str.ofString "rows") = some (.ref R) ∧ Own s₁.heap L s.heap R (listOf vs.toArray c) ∧ StrsAre vs (rowsAt (zs.take (zs.length - i)) xs0)) ∧ LaysAt w s₁.heap L s.heap Ly us zs xs0
theorem s5 {m : Str → Option Value} {Ly R : Addr} {us vs : List Value} {c d : Nat} {xs0 : List Str} {zs : List Int} {Q : Flow → Shared → Prop} (X : (K w.params).In s₁.heap) (T : Top p ls mean mg mb s₁.heap) (B : Below callerA s₁.heap [] s₁.heap)
    (F : Fr s₁.heap L s.heap m) (hr : m (Str.ofString "rows") = some (.ref R)) (hly : m (Str.ofString "layers") = some (.ref Ly)) (hR : Own s₁.heap L s.heap R (listOf vs.toArray c)) (hvs : StrsAre vs (rowsAt zs xs0))
    (hL : Own s₁.heap L s.heap Ly (listOf us.toArray d)) (hul : us.length = zs.length) (hzl : zs.length ≤ 64) (hlays : LaysAt w s₁.heap L s.heap Ly us zs xs0)
    (hx0 : 0 < xs0.length) (hx1 : xs0.length ≤ 64) (hx2 : ∀ y ∈ xs0, y.length ≤ 20) (hok : oks xs0) (hb : AllBare s.gens) (hos : s.os = s₁.os)
    (h : ∀ s' m', AllBare s'.gens → s'.os = s₁.os → Fr s₁.heap L s'.heap m' → Q .next s') :
    wpAny (model prog w) (lawA L fa cd) (exec (lawS 5) (lawEnv L fa cd)) Q (fun _ _ => False) s := by
  show wpAny _ _ (exec (Stmt.For (.Tuple [.Name (Str.ofString "wish") _, .Name (Str.ofString "due") _] _ _) (forIter (lawS 5)) (forBody (lawS 5)) [] _) _) _ _ _
  refine wpAny_For (s5iter X T B F hly hL (by omega) ?_) (by intro _; rfl)
  intro h1 tk1 Z dz F1 k1 fr1 OZ
  refine wpAny_pyIter_list OZ.isL ?_
  dsimp only
  have up : ∀ b o, h1.get? b = some o → (h1.push { cls := Value.type "list_iterator", data := .fields #[.ref Z, .int 0 0] }).get? b = some o := fun b o e => Heap.get?_push_of_some _ e
  have F2 := F1.push { cls := Value.type "list_iterator", data := .fields #[.ref Z, .int 0 0] }
  have hIL : h1.objs.size ≠ L := fun q => by
    have := F1.ns.lt
    rw [q] at this
    exact absurd this (Nat.lt_irrefl _)
  have hI0 : s₁.heap.get? h1.objs.size = none := by
    cases e : s₁.heap.get? h1.objs.size with
    | none => rfl
    | some o => exact absurd (Heap.lt_size (F1.keep _ _ e)) (Nat.lt_irrefl _)
  have hrev : ∀ i v, us.reverse[i]? = some v → i < zs.length ∧ us[zs.length - 1 - i]? = some v := fun i v e => by
    have hi : i < us.reverse.length := by
      rcases Nat.lt_or_ge i us.reverse.length with q | q
      · exact q
      · rw [List.getElem?_eq_none q] at e; cases e
    rw [List.length_reverse] at hi
    rw [List.getElem?_reverse hi, hul] at e
    exact ⟨by omega, e⟩
  refine loop_pair (h₀ := s₁.heap) (l := Z) (env := lawEnv L fa cd) (items := us.reverse.toArray) lawA_h (by rfl) (by rfl) (by rfl) (Inv5 w s₁ L Ly h1.objs.size Z us dz zs xs0) ?_ ?_ ?_ ?_ (m := m) ?_
  · rintro i s m ⟨_, _, _, F, hit, hIL, hI0, OZ, _⟩
    exact ⟨F, hit, OZ.isL, hIL, hI0⟩
  · rintro i s m v ⟨_, _, _, F, hit, hIL, hI0, OZ, _, hlays⟩ hv
    obtain ⟨hi, hv'⟩ := hrev i v (by simpa using hv)
    obtain ⟨D, wv, R, vs, c, rfl, _, _, hD, _⟩ := hlays _ _ hv'
    exact ⟨D, wv, .ref R, rfl, iter_ne hit hD.1 (by show Value.type "tuple" ≠ _; decide), ⟨_, hD.1, rfl, _, rfl⟩⟩
  · rintro i s m D v0 v1 h' tk ⟨hi, hb, hos, F, hit, hIL, hI0, OZ, ⟨R, vs, c, hr, OR, hvs⟩, hlays⟩ hv htu F' hit' kB
    obtain ⟨hi, hv'⟩ := hrev i _ (by simpa using hv)
    obtain ⟨D', wv, R2, vs2, c2, hD', hDL, hRL, OD, OR2, hask, hvs2⟩ := hlays _ _ hv'
    obtain rfl : D = D' := by cases hD'; rfl
    obtain ⟨rfl, rfl⟩ : v0 = wv ∧ v1 = .ref R2 := by
      obtain ⟨o, ho, _, n, hdat⟩ := htu
      rw [OD.1] at ho
      cases ho
      cases hdat
      exact ⟨rfl, rfl⟩
    have hkeep : ∀ b o, b ≠ L → o.cls ≠ .type "list_iterator" → s.heap.get? b = some o → h'.get? b = some o := fun b o hb hc e => kB b o hb (iter_ne hit e hc) e
    have nl : ∀ {its : Array Value} {k : Nat}, (listOf its k).cls ≠ .type "list_iterator" := fun {its k} => by show Value.type "list" ≠ _; decide
    generalize hk : zs.length - 1 - i = k at *
    have hk1 : zs.length - i = k + 1 := by omega
    have hk2 : zs.length - (i + 1) = k := by omega
    have e1 : zs.take (k + 1) = zs.take k ++ [zs.getD k 0] := by
      have hkl : k < zs.length := by omega
      rw [List.take_add_one, List.getElem?_eq_getElem hkl]; simp [List.getD_eq_getElem?_getD, hkl]
    rw [hk1, e1, rowsAt_snoc] at hvs
    have hbd := rowsAt_bounds (zs.take k) xs0 hx0 hx1 hx2
    have htl : (zs.take k).length ≤ 63 := by rw [List.length_take]; omega
    have hnl := next_length (zs.getD k 0) _ hbd.1
    have hnb := next_len (zs.getD k 0) _ hbd.2.2
    have OR' : Own s₁.heap L h' R (listOf vs.toArray c) := ⟨hkeep _ _ OR.2.1 nl OR.1, OR.2⟩
    have OR2' : Own s₁.heap L h' R2 (listOf vs2.toArray c2) := ⟨hkeep _ _ OR2.2.1 nl OR2.1, OR2.2⟩
    have OZ' : Own s₁.heap L h' Z (listOf us.reverse.toArray dz) := ⟨hkeep _ _ OZ.2.1 nl OZ.1, OZ.2⟩
    show wpAny _ _ (execs (cS 0 :: cS 1 :: []) _) _ _ _
    refine wpAny_execs_cons (c0 (s := { s with heap := h', toks := tk }) X T B F' (lk (lk hr (by decide)) (by decide)) (lk lk0 (by decide)) OR' hvs (by omega) (fun y hy => by have := hnb y hy; omega) hb hask ?_)
    intro h2 tk2 gs2 S ys c3 F2 k2 fr2 OS sa hb2
    rw [res_next] at sa
    refine wpAny_execs_cons (c1 (s := { s with heap := h2, gens := gs2, toks := tk2 }) F2 lk0 (lk lk0 (by decide)) OS sa (OR2'.kp k2) hvs2 (oks_rowsAt _ _ hok) ?_)
    refine wpAny_execs_nil ⟨.inl rfl, _, by omega, hb2, hos, F2, hit'.at fun o e => k2 _ o hIL e, hIL, hI0, OZ'.kp k2, ⟨S, ys, c3, lk0, OS, by rw [hk2]; exact sa⟩, hlays.keep fun b o hb1 _ hc e => k2 b o hb1 (hkeep b o hb1 (by rcases hc with hc | hc <;> rw [hc] <;> decide) e)⟩
  · rintro s m h' ⟨hi, hb, hos, F, _⟩ F' kB
    exact h { s with heap := h' } m hb hos F'
  · have kO : ∀ {a : Addr} {o : Obj}, Own s₁.heap L s.heap a o → Own s₁.heap L (h1.push { cls := Value.type "list_iterator", data := .fields #[.ref Z, .int 0 0] }) a o := fun x => ⟨up _ _ (k1 _ _ x.2.1 x.1), x.2⟩
    exact ⟨Nat.zero_le _, hb, hos, F2, ⟨_, Heap.get?_push_size _ rfl, rfl, rfl⟩, hIL, hI0, ⟨up _ _ OZ.1, OZ.2⟩, ⟨R, vs, c, hr, kO hR, by rw [Nat.sub_zero, List.take_length]; exact hvs⟩, hlays.keep fun b o hb1 _ _ e => up b o (k1 b o hb1 e)⟩
end
end Mine
end
section
open PySem PySem.W PyProof.Rows
set_option Elab.async false
set_option maxRecDepth 100000
set_option maxHeartbeats 4000000
namespace Mine
theorem small_text : ∀ n : Fin 1000, (Str.ofString (toString ((n.val : Nat) : Int))).length ≤ 10 := by decide +kernel
theorem row_len (k : Int) : (rowOf k).length ≤ 20 := by
  have h0 := Int.fmod_nonneg_of_pos k (b := 1000) (by decide)
  have h1 := Int.fmod_lt_of_pos k (b := 1000) (by decide)
  have := small_text ⟨(k.fmod 1000).toNat, by omega⟩
  rw [show (((k.fmod 1000).toNat : Nat) : Int) = k.fmod 1000 by omega] at this
  unfold rowOf
  rw [len_app]
  have e : (Str.ofString "\n").length = 1 := by decide
  omega
theorem rows0_facts (ns : List Int) (h : ns.length ≤ 63) : 0 < (rows0 ns).length ∧ (rows0 ns).length ≤ 64 ∧ (∀ y ∈ rows0 ns, y.length ≤ 20) ∧ oks (rows0 ns) := by
  refine ⟨by simp [rows0], by simp [rows0]; omega, fun y hy => ?_, fun y hy => ?_⟩
  · rcases List.mem_append.mp hy with q | q
    · obtain ⟨k, _, rfl⟩ := List.mem_map.mp q; exact row_len k
    · rw [List.mem_singleton] at q; subst q; decide
  · rcases List.mem_append.mp hy with q | q
    · obtain ⟨k, _, rfl⟩ := List.mem_map.mp q
      unfold rowOf; rw [ok_app, ok_ofString, ok_ofString]; rfl
    · rw [List.mem_singleton] at q; subst q; exact ok_ofString _
theorem body : LawBody := by
  intro w s₁ mg mb p ls mean fa l cd vs ns h tk X T B hg hl hI hlen hlay F
  show wpAny _ _ (execs (lawS 0 :: lawS 1 :: lawS 2 :: lawS 3 :: lawS 4 :: lawS 5 :: lawS 6 :: []) _) _ _ _
  have hb0 : AllBare s₁.gens := by rw [hg]; intro z hz; simp at hz
  refine wpAny_execs_cons (s0 (s := { s₁ with heap := h, toks := tk }) X T hl hI hlen F rfl ?_)
  intro D ws h0 tk0 hI0 F0 N0
  refine wpAny_execs_cons (s1 (s := { s₁ with heap := h0, toks := tk0 }) X T B F0 N0 ?_)
  intro q x h1 tk1 _ F1 N1
  refine wpAny_execs_cons (s2 (s := { s₁ with heap := h1, toks := tk1 }) X T B F1 N1 (by rw [if_neg (by decide), if_pos rfl]) (.tail _ (.head _)) hI0 hlen ?_)
  intro R vs2 c2 h2 tk2 _ sa F2 N2
  refine wpAny_execs_cons (s3 (s := { s₁ with heap := h2, toks := tk2 }) X T B F2 ?_)
  intro h3 tk3 Ly F3 k3 fr3 OL
  have OR := Own.of N2 (.head _)
  have Oq := Own.of N2 (.tail _ (.head _))
  have OD := Own.of N2 (.tail _ (.tail _ (.head _)))
  obtain ⟨f1, f2, f3, f4⟩ := rows0_facts ns hlen
  refine wpAny_execs_cons (s4 (s := { s₁ with heap := h3, toks := tk3 }) X T B F3 (D := D) (q := q) (R := R) (Ly := Ly) (by dsimp only [set1]; rw [if_neg (by decide), if_neg (by decide), if_neg (by decide), if_pos rfl]) (OD.kp k3) hI0 hlen
    (by dsimp only [set1]; rw [if_neg (by decide), if_neg (by decide), if_pos rfl]) (by dsimp only [set1]; rw [if_neg (by decide), if_pos rfl]) (by dsimp only [set1]; rw [if_pos rfl]) (Oq.kp k3) (OR.kp k3) sa (fr3 R _ OR.2.1 OR.1) OL f1 f2 f3 hb0 rfl ?_)
  intro s4' m4' R4 vs4 c4 us d4 hb4 hos4 F4 hr4 hly4 OR4 sa4 OL4 hul _ hlays
  refine wpAny_execs_cons (s5 (s := s4') X T B F4 hr4 hly4 OR4 sa4 OL4 (by rw [hul]; simp) (by simp; omega) hlays f1 f2 f3 f4 hb4 hos4 ?_)
  intro s5' m5' hb5 hos5 F5
  refine wpAny_execs_cons ?_
  show wpAny _ _ (exec (Stmt.Return (some (Expr.Constant (Const.bool true) _ _)) _) _) _ _ _
  w_on
  walk1
  walk1
  exact ⟨rfl, F5.keep, hos5, hb5⟩
theorem law07_holds : PySem.Challenge.rw_dm0050_07.Holds := law07 body
end Mine
end
open PySem PySem.W PyProof.Rows
set_option maxRecDepth 100000 in
set_option maxHeartbeats 4000000 in
theorem PySem.Challenge.cw_dm0050_07_holds : PySem.Challenge.rw_dm0050_07.Holds := by
  exact Mine.law07_holds
