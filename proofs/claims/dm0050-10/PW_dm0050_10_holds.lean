import PyProof.Rows.All
import Wide.All
import OpenK.AllK
import Wide.FinOn
import Lean
import PySem.Challenge.RW_dm0050_10
set_option Elab.async false
section
open PySem PySem.W PyProof.Rows
set_option Elab.async false
set_option maxRecDepth 100000
namespace Mine
noncomputable def takeL {α : Type} : List α → Nat → List α
  | [], _ => []
  | a :: r, n => match n with
    | 0 => []
    | n + 1 => a :: takeL r n
theorem takeL_eq {α : Type} : ∀ (l : List α) (n : Nat), takeL l n = l.take n
  | [], n => by cases n <;> rfl
  | a :: r, 0 => rfl
  | a :: r, n + 1 => by rw [takeL]; simp [takeL_eq r n]
noncomputable def anyT {α : Type} (as : Array α) (p : α → Bool) (start : Nat := 0) (stop : Nat := as.size) : Bool := match start with
  | 0 => (takeL as.toList stop).any p
  | n + 1 => as.any p (n + 1) stop
theorem anyT_eq {α : Type} (as : Array α) (p : α → Bool) (start stop : Nat) : as.any p start stop = anyT as p start stop := by
  cases start with
  | succ n => rfl
  | zero =>
    show _ = (takeL as.toList stop).any p
    rw [takeL_eq, Bool.eq_iff_iff, Array.any_iff_exists, List.any_eq_true]
    constructor
    · rintro ⟨i, hi, _, h2, h3⟩
      refine ⟨as[i], ?_, h3⟩
      rw [List.mem_take_iff_getElem]
      exact ⟨i, by simp; omega, by simp⟩
    · rintro ⟨x, hx, hp⟩
      rw [List.mem_take_iff_getElem] at hx
      obtain ⟨i, hi, rfl⟩ := hx
      simp at hi
      exact ⟨i, by omega, Nat.zero_le _, by omega, by simpa using hp⟩
theorem any_eq : @Array.any.{0} = @anyT := by
  funext α as p start stop
  exact anyT_eq as p start stop
noncomputable def newL : Builtin := by
  refine (fun (f : Builtin) (_ : True) => f) ?f ((fun (_ : PySem.W.Fast.tw4202317264376624991 = ?f) => True.intro) ?h)
  case h =>
    delta PySem.W.Fast.tw4202317264376624991
    rw [any_eq]
theorem newL_tw : PySem.W.Fast.tw4202317264376624991 = newL := by
  delta PySem.W.Fast.tw4202317264376624991
  rw [any_eq]
  kernel_rfl
theorem newL_eq : PySem.Builtin.«type.__new__» = newL := PySem.W.Fast.te4202317264376624991.trans newL_tw
noncomputable def tableL (id : String) : Option Builtin := match Nat.beq (PySem.code id) (PySem.code "type.__new__") with
  | true => some newL
  | false => treeTable id
theorem table_new : entriesT.find (PySem.code "type.__new__") = some PySem.Builtin.«type.__new__» := by kernel_rfl
theorem table_eq : treeTable = tableL := by
  funext id
  unfold tableL
  cases h : Nat.beq (PySem.code id) (PySem.code "type.__new__") with
  | false => rfl
  | true =>
    have e := Nat.eq_of_beq_eq_true h
    show entriesT.find (PySem.code id) = some newL
    rw [e, table_new, newL_eq]
end Mine
end
section
open PySem PySem.W PyProof.Rows
set_option Elab.async false
set_option maxRecDepth 100000
set_option linter.unusedVariables false
namespace Mine
abbrev prog : Program := PySem.Challenge.pw_dm0050_10
def nth : List Stmt → Nat → Stmt
  | [], _ => .Pass ⟨0, 0, 0, 0⟩
  | s :: _, 0 => s
  | _ :: r, n + 1 => nth r n
def cBody : Stmt → List Stmt
  | .ClassDef _ _ _ b _ _ _ _ _ _ _ => b
  | _ => []
def fBody : Stmt → List Stmt
  | .FunctionDef _ _ b _ _ _ _ _ _ _ => b
  | _ => []
def fArgs : Stmt → Arguments
  | .FunctionDef _ a _ _ _ _ _ _ _ _ => a
  | _ => ⟨[], [], none, [], [], none, []⟩
def fScope : Stmt → Scope
  | .FunctionDef _ _ _ _ _ _ s _ _ _ => s
  | _ => ⟨.module, [], false, false, []⟩
def docOf : List Stmt → Str
  | .Expr (.Constant (.str s) _ _) _ :: _ => s
  | _ => ⟨#[]⟩
def st (i : Nat) : Stmt := nth PySem.Challenge.pw_dm0050_10.main.body i
def mt (i j : Nat) : Stmt := nth (cBody (st i)) j
def bootLife : Life := {}
noncomputable def o0x11 (P : Params) : Obj := ⟨(.type "tuple"), none, (.seq (List.toArray []) 0), List.toArray []⟩
noncomputable def o0x12 (P : Params) : Obj := ⟨.none, none, (.fields (List.toArray [])), List.toArray []⟩
noncomputable def o0x13 (P : Params) : Obj := ⟨(.type "code"), none, (.fields (List.toArray [(.str (Str.ofString "<module>") 182), (.str (Str.ofString "<module>") 183), (.str (Str.ofString "/claim/cut.py") 184), (.int (1) 0), (.int (0) 0), (.int (0) 0), (.int (0) 0), (.int (0) 0), (.ref 11), (.bool false), (.int (181) 0), (.ref 12), .none, .none, .none, .none, (.int (185) 0), (.int (1) 0), (.str (Str.ofString "/claim/cut.py") 186)])), List.toArray []⟩
noncomputable def o0x14 (P : Params) : Obj := ⟨(.type "frame"), none, .plain, List.toArray [(some (.ref 13)), (some (.ref 3)), (some (.ref 3)), none, (some (.str (Str.ofString "__main__") 164)), none, (some (.ref 0))]⟩
noncomputable def bt1 (P : Params) : BT := (.node (PySem.W.boot_o_7 P) .nil .nil)
noncomputable def bt2 (P : Params) : BT := (.node (o0x11 P) .nil .nil)
noncomputable def bt3 (P : Params) : BT := (.node (PySem.W.boot_o_9 P) .nil .nil)
noncomputable def bt4 (P : Params) : BT := (.node (o0x13 P) .nil .nil)
noncomputable def bt5 (P : Params) : BT := (.node (PySem.W.boot_o_8 P) .nil .nil)
noncomputable def bt6 (P : Params) : BT := (.node (o0x12 P) .nil .nil)
noncomputable def bt7 (P : Params) : BT := (.node (PySem.W.boot_o_10 P) .nil .nil)
noncomputable def bt8 (P : Params) : BT := (.node (o0x14 P) .nil .nil)
noncomputable def bt9 (P : Params) : BT := (.node (PySem.W.boot_o_0 P) (.node (PySem.W.boot_o_1 P) (.node (PySem.W.boot_o_3 P) (bt1 P) (bt2 P)) (.node (PySem.W.boot_o_5 P) (bt3 P) (bt4 P))) (.node (PySem.W.boot_o_2 P) (.node (PySem.W.boot_o_4 P) (bt5 P) (bt6 P)) (.node (PySem.W.boot_o_6 P) (bt7 P) (bt8 P))))
noncomputable def T0 (P : Params) : BT := bt9 P
noncomputable def S0 (w : World) (os : OsState) : SharedT := ⟨T0 w.params, 15, bootLife, #[], boot_drawn, 187, os⟩
noncomputable def o3x3 (P : Params) : Obj := ⟨(.type "dict"), none, (.dict (List.toArray [⟨PyData.keyHash P (Str.ofString "__name__"), (.str (Str.ofString "__name__") 165), (.str (Str.ofString "cpy313.difflib") 194)⟩, ⟨PyData.keyHash P (Str.ofString "__doc__"), (.str (Str.ofString "__doc__") 166), .none⟩, ⟨PyData.keyHash P (Str.ofString "__package__"), (.str (Str.ofString "__package__") 167), .none⟩, ⟨PyData.keyHash P (Str.ofString "__loader__"), (.str (Str.ofString "__loader__") 168), (.builtin "__main__.__loader__#opaque")⟩, ⟨PyData.keyHash P (Str.ofString "__spec__"), (.str (Str.ofString "__spec__") 169), .none⟩, ⟨PyData.keyHash P (Str.ofString "__annotations__"), (.str (Str.ofString "__annotations__") 170), (.ref 6)⟩, ⟨PyData.keyHash P (Str.ofString "__builtins__"), (.str (Str.ofString "__builtins__") 171), (.ref 4)⟩, ⟨PyData.keyHash P (Str.ofString "__file__"), (.str (Str.ofString "__file__") 173), (.str (Str.ofString "/claim/cut.py") 172)⟩, ⟨PyData.keyHash P (Str.ofString "__cached__"), (.str (Str.ofString "__cached__") 174), .none⟩, ⟨PyData.keyHash P (Str.ofString "_wall"), (.str (Str.ofString "_wall") 193), (.ref 21)⟩, ⟨PyData.keyHash P (Str.ofString "_tuplegetter"), (.str (Str.ofString "_tuplegetter") 252), (.ref 60)⟩]) 11), List.toArray []⟩
noncomputable def o3x12 (P : Params) : Obj := ⟨.none, none, (.fields (List.toArray [(.int (1) 0), (.int (0) 0), (.ref 20), (.int (5) 0), (.int (0) 0), (.ref 27)])), List.toArray []⟩
noncomputable def o3x15 (P : Params) : Obj := ⟨(.type "tuple"), none, (.seq (List.toArray []) 0), List.toArray []⟩
noncomputable def o3x16 (P : Params) : Obj := ⟨.none, none, (.fields (List.toArray [])), List.toArray []⟩
noncomputable def o3x17 (P : Params) : Obj := ⟨(.type "tuple"), none, (.seq (List.toArray [(.str (Str.ofString "k") 190)]) 0), List.toArray []⟩
noncomputable def o3x18 (P : Params) : Obj := ⟨(.type "tuple"), none, (.seq (List.toArray []) 0), List.toArray []⟩
noncomputable def o3x19 (P : Params) : Obj := ⟨.none, none, (.func ⟨(Str.ofString "_wall"), (Str.ofString "_wall"), fArgs (st 0), .stmts (fBody (st 0)), fScope (st 0), 0, [], .none, .none, .none, .none, none, .none, .none, 0⟩), List.toArray []⟩
noncomputable def o3x20 (P : Params) : Obj := ⟨(.type "code"), none, (.fields (List.toArray [(.str (Str.ofString "_wall") 187), (.str (Str.ofString "_wall") 188), (.str (Str.ofString "/claim/cut.py") 189), (.int (1) 0), (.int (1) 0), (.int (0) 0), (.int (0) 0), (.int (3) 0), (.ref 15), (.bool true), (.int (181) 0), (.ref 16), .none, (.ref 17), (.ref 18), (.ref 19), (.int (191) 0), (.int (1) 0), (.str (Str.ofString "/claim/cut.py") 192)])), List.toArray []⟩
noncomputable def o3x21 (P : Params) : Obj := ⟨(.type "function"), none, (.func ⟨(Str.ofString "_wall"), (Str.ofString "_wall"), fArgs (st 0), .stmts (fBody (st 0)), fScope (st 0), 3, [], .none, .none, .none, (.str (Str.ofString "__main__") 164), none, (.ref 20), .none, 0⟩), List.toArray []⟩
noncomputable def o3x22 (P : Params) : Obj := ⟨(.type "tuple"), none, (.seq (List.toArray []) 0), List.toArray []⟩
noncomputable def o3x23 (P : Params) : Obj := ⟨(.type "builtin_function_or_method"), none, (.fields (List.toArray [(.builtin "type.__prepare__"), (.type "type")])), List.toArray []⟩
noncomputable def o3x24 (P : Params) : Obj := ⟨(.type "dict"), none, (.dict (List.toArray [⟨PyData.keyHash P (Str.ofString "__module__"), (.str (Str.ofString "__module__") 203), (.str (Str.ofString "cpy313.difflib") 194)⟩, ⟨PyData.keyHash P (Str.ofString "__qualname__"), (.str (Str.ofString "__qualname__") 205), (.str (Str.ofString "_tuplegetter") 204)⟩, ⟨PyData.keyHash P (Str.ofString "__firstlineno__"), (.str (Str.ofString "__firstlineno__") 207), (.int (5) 206)⟩, ⟨PyData.keyHash P (Str.ofString "__init__"), (.str (Str.ofString "__init__") 216), (.ref 35)⟩, ⟨PyData.keyHash P (Str.ofString "__get__"), (.str (Str.ofString "__get__") 225), (.ref 43)⟩, ⟨PyData.keyHash P (Str.ofString "__set__"), (.str (Str.ofString "__set__") 234), (.ref 50)⟩, ⟨PyData.keyHash P (Str.ofString "__delete__"), (.str (Str.ofString "__delete__") 242), (.ref 57)⟩, ⟨PyData.keyHash P (Str.ofString "__static_attributes__"), (.str (Str.ofString "__static_attributes__") 245), (.ref 58)⟩]) 8), List.toArray []⟩
noncomputable def o3x25 (P : Params) : Obj := ⟨(.type "tuple"), none, (.seq (List.toArray []) 0), List.toArray []⟩
noncomputable def o3x26 (P : Params) : Obj := ⟨.none, none, (.fields (List.toArray [(.int (7) 0), (.int (4) 0), (.ref 34), (.int (11) 0), (.int (4) 0), (.ref 42), (.int (18) 0), (.int (4) 0), (.ref 49), (.int (21) 0), (.int (4) 0), (.ref 56)])), List.toArray []⟩
noncomputable def o3x27 (P : Params) : Obj := ⟨(.type "code"), none, (.fields (List.toArray [(.str (Str.ofString "_tuplegetter") 198), (.str (Str.ofString "_tuplegetter") 199), (.str (Str.ofString "/claim/cut.py") 200), (.int (5) 0), (.int (0) 0), (.int (0) 0), (.int (0) 0), (.int (0) 0), (.ref 25), (.bool false), (.int (181) 0), (.ref 26), .none, .none, .none, .none, (.int (201) 0), (.int (5) 0), (.str (Str.ofString "/claim/cut.py") 202)])), List.toArray []⟩
noncomputable def o3x28 (P : Params) : Obj := ⟨(.type "frame"), none, .plain, List.toArray [(some (.ref 27)), (some (.ref 3)), (some (.ref 24)), none, (some (.str (Str.ofString "cpy313.difflib") 194)), none, (some (.ref 0))]⟩
noncomputable def o3x29 (P : Params) : Obj := ⟨(.type "tuple"), none, (.seq (List.toArray []) 0), List.toArray []⟩
noncomputable def o3x30 (P : Params) : Obj := ⟨.none, none, (.fields (List.toArray [])), List.toArray []⟩
noncomputable def o3x31 (P : Params) : Obj := ⟨(.type "tuple"), none, (.seq (List.toArray [(.str (Str.ofString "self") 211), (.str (Str.ofString "index") 212), (.str (Str.ofString "doc") 213)]) 0), List.toArray []⟩
noncomputable def o3x32 (P : Params) : Obj := ⟨(.type "tuple"), none, (.seq (List.toArray []) 0), List.toArray []⟩
noncomputable def o3x33 (P : Params) : Obj := ⟨.none, none, (.func ⟨(Str.ofString "__init__"), (Str.ofString "_tuplegetter.__init__"), fArgs (mt 2 0), .stmts (fBody (mt 2 0)), fScope (mt 2 0), 0, [], .none, .none, .none, .none, none, .none, .none, 0⟩), List.toArray []⟩
noncomputable def o3x34 (P : Params) : Obj := ⟨(.type "code"), none, (.fields (List.toArray [(.str (Str.ofString "__init__") 208), (.str (Str.ofString "_tuplegetter.__init__") 209), (.str (Str.ofString "/claim/cut.py") 210), (.int (7) 0), (.int (3) 0), (.int (0) 0), (.int (0) 0), (.int (3) 0), (.ref 29), (.bool true), (.int (181) 0), (.ref 30), .none, (.ref 31), (.ref 32), (.ref 33), (.int (214) 0), (.int (7) 0), (.str (Str.ofString "/claim/cut.py") 215)])), List.toArray []⟩
noncomputable def o3x35 (P : Params) : Obj := ⟨(.type "function"), none, (.func ⟨(Str.ofString "__init__"), (Str.ofString "_tuplegetter.__init__"), fArgs (mt 2 0), .stmts (fBody (mt 2 0)), fScope (mt 2 0), 3, [], .none, .none, .none, (.str (Str.ofString "cpy313.difflib") 194), none, (.ref 34), .none, 0⟩), List.toArray []⟩
noncomputable def o3x36 (P : Params) : Obj := ⟨(.type "tuple"), none, (.seq (List.toArray [.none]) 0), List.toArray []⟩
noncomputable def o3x37 (P : Params) : Obj := ⟨(.type "tuple"), none, (.seq (List.toArray []) 0), List.toArray []⟩
noncomputable def o3x38 (P : Params) : Obj := ⟨.none, none, (.fields (List.toArray [])), List.toArray []⟩
noncomputable def o3x39 (P : Params) : Obj := ⟨(.type "tuple"), none, (.seq (List.toArray [(.str (Str.ofString "self") 220), (.str (Str.ofString "obj") 221), (.str (Str.ofString "objtype") 222)]) 0), List.toArray []⟩
noncomputable def o3x40 (P : Params) : Obj := ⟨(.type "tuple"), none, (.seq (List.toArray []) 0), List.toArray []⟩
noncomputable def o3x41 (P : Params) : Obj := ⟨.none, none, (.func ⟨(Str.ofString "__get__"), (Str.ofString "_tuplegetter.__get__"), fArgs (mt 2 1), .stmts (fBody (mt 2 1)), fScope (mt 2 1), 0, [], .none, .none, .none, .none, none, .none, .none, 0⟩), List.toArray []⟩
noncomputable def o3x42 (P : Params) : Obj := ⟨(.type "code"), none, (.fields (List.toArray [(.str (Str.ofString "__get__") 217), (.str (Str.ofString "_tuplegetter.__get__") 218), (.str (Str.ofString "/claim/cut.py") 219), (.int (11) 0), (.int (3) 0), (.int (0) 0), (.int (0) 0), (.int (3) 0), (.ref 37), (.bool true), (.int (181) 0), (.ref 38), .none, (.ref 39), (.ref 40), (.ref 41), (.int (223) 0), (.int (11) 0), (.str (Str.ofString "/claim/cut.py") 224)])), List.toArray []⟩
noncomputable def o3x43 (P : Params) : Obj := ⟨(.type "function"), none, (.func ⟨(Str.ofString "__get__"), (Str.ofString "_tuplegetter.__get__"), fArgs (mt 2 1), .stmts (fBody (mt 2 1)), fScope (mt 2 1), 3, [], (.ref 36), .none, .none, (.str (Str.ofString "cpy313.difflib") 194), none, (.ref 42), .none, 0⟩), List.toArray []⟩
noncomputable def o3x44 (P : Params) : Obj := ⟨(.type "tuple"), none, (.seq (List.toArray []) 0), List.toArray []⟩
noncomputable def o3x45 (P : Params) : Obj := ⟨.none, none, (.fields (List.toArray [])), List.toArray []⟩
noncomputable def o3x46 (P : Params) : Obj := ⟨(.type "tuple"), none, (.seq (List.toArray [(.str (Str.ofString "self") 229), (.str (Str.ofString "obj") 230), (.str (Str.ofString "value") 231)]) 0), List.toArray []⟩
noncomputable def o3x47 (P : Params) : Obj := ⟨(.type "tuple"), none, (.seq (List.toArray []) 0), List.toArray []⟩
noncomputable def o3x48 (P : Params) : Obj := ⟨.none, none, (.func ⟨(Str.ofString "__set__"), (Str.ofString "_tuplegetter.__set__"), fArgs (mt 2 2), .stmts (fBody (mt 2 2)), fScope (mt 2 2), 0, [], .none, .none, .none, .none, none, .none, .none, 0⟩), List.toArray []⟩
noncomputable def o3x49 (P : Params) : Obj := ⟨(.type "code"), none, (.fields (List.toArray [(.str (Str.ofString "__set__") 226), (.str (Str.ofString "_tuplegetter.__set__") 227), (.str (Str.ofString "/claim/cut.py") 228), (.int (18) 0), (.int (3) 0), (.int (0) 0), (.int (0) 0), (.int (3) 0), (.ref 44), (.bool true), (.int (181) 0), (.ref 45), .none, (.ref 46), (.ref 47), (.ref 48), (.int (232) 0), (.int (18) 0), (.str (Str.ofString "/claim/cut.py") 233)])), List.toArray []⟩
noncomputable def o3x50 (P : Params) : Obj := ⟨(.type "function"), none, (.func ⟨(Str.ofString "__set__"), (Str.ofString "_tuplegetter.__set__"), fArgs (mt 2 2), .stmts (fBody (mt 2 2)), fScope (mt 2 2), 3, [], .none, .none, .none, (.str (Str.ofString "cpy313.difflib") 194), none, (.ref 49), .none, 0⟩), List.toArray []⟩
noncomputable def o3x51 (P : Params) : Obj := ⟨(.type "tuple"), none, (.seq (List.toArray []) 0), List.toArray []⟩
noncomputable def o3x52 (P : Params) : Obj := ⟨.none, none, (.fields (List.toArray [])), List.toArray []⟩
noncomputable def o3x53 (P : Params) : Obj := ⟨(.type "tuple"), none, (.seq (List.toArray [(.str (Str.ofString "self") 238), (.str (Str.ofString "obj") 239)]) 0), List.toArray []⟩
noncomputable def o3x54 (P : Params) : Obj := ⟨(.type "tuple"), none, (.seq (List.toArray []) 0), List.toArray []⟩
noncomputable def o3x55 (P : Params) : Obj := ⟨.none, none, (.func ⟨(Str.ofString "__delete__"), (Str.ofString "_tuplegetter.__delete__"), fArgs (mt 2 3), .stmts (fBody (mt 2 3)), fScope (mt 2 3), 0, [], .none, .none, .none, .none, none, .none, .none, 0⟩), List.toArray []⟩
noncomputable def o3x56 (P : Params) : Obj := ⟨(.type "code"), none, (.fields (List.toArray [(.str (Str.ofString "__delete__") 235), (.str (Str.ofString "_tuplegetter.__delete__") 236), (.str (Str.ofString "/claim/cut.py") 237), (.int (21) 0), (.int (2) 0), (.int (0) 0), (.int (0) 0), (.int (3) 0), (.ref 51), (.bool true), (.int (181) 0), (.ref 52), .none, (.ref 53), (.ref 54), (.ref 55), (.int (240) 0), (.int (21) 0), (.str (Str.ofString "/claim/cut.py") 241)])), List.toArray []⟩
noncomputable def o3x57 (P : Params) : Obj := ⟨(.type "function"), none, (.func ⟨(Str.ofString "__delete__"), (Str.ofString "_tuplegetter.__delete__"), fArgs (mt 2 3), .stmts (fBody (mt 2 3)), fScope (mt 2 3), 3, [], .none, .none, .none, (.str (Str.ofString "cpy313.difflib") 194), none, (.ref 56), .none, 0⟩), List.toArray []⟩
noncomputable def o3x58 (P : Params) : Obj := ⟨(.type "tuple"), none, (.seq (List.toArray [(.str (Str.ofString "__doc__") 243), (.str (Str.ofString "index") 244)]) 0), List.toArray []⟩
noncomputable def o3x59 (P : Params) : Obj := ⟨(.type "dict"), none, (.dict (List.toArray [⟨PyData.keyHash P (Str.ofString "__module__"), (.str (Str.ofString "__module__") 203), (.str (Str.ofString "cpy313.difflib") 194)⟩, ⟨PyData.keyHash P (Str.ofString "__firstlineno__"), (.str (Str.ofString "__firstlineno__") 207), (.int (5) 206)⟩, ⟨PyData.keyHash P (Str.ofString "__init__"), (.str (Str.ofString "__init__") 216), (.ref 35)⟩, ⟨PyData.keyHash P (Str.ofString "__get__"), (.str (Str.ofString "__get__") 225), (.ref 43)⟩, ⟨PyData.keyHash P (Str.ofString "__set__"), (.str (Str.ofString "__set__") 234), (.ref 50)⟩, ⟨PyData.keyHash P (Str.ofString "__delete__"), (.str (Str.ofString "__delete__") 242), (.ref 57)⟩, ⟨PyData.keyHash P (Str.ofString "__static_attributes__"), (.str (Str.ofString "__static_attributes__") 245), (.ref 58)⟩, ⟨PyData.keyHash P (Str.ofString "__dict__"), (.str (Str.ofString "__dict__") 247), (.ref 61)⟩, ⟨PyData.keyHash P (Str.ofString "__weakref__"), (.str (Str.ofString "__weakref__") 249), (.ref 62)⟩, ⟨PyData.keyHash P (Str.ofString "__doc__"), (.str (Str.ofString "__doc__") 250), .none⟩]) 4), List.toArray []⟩
noncomputable def o3x60 (P : Params) : Obj := ⟨(.type "type"), none, (.cls ⟨(Str.ofString "_tuplegetter"), [(.type "object")], [(.ref 60), (.type "object")], 59, (Str.ofString "_tuplegetter"), true, [], [], false, none, false⟩), List.toArray [none, none, (some (.str (Str.ofString "_tuplegetter") 196)), (some (.str (Str.ofString "_tuplegetter") 204)), (some (.builtin "object.__new__")), (some (.bool true))]⟩
noncomputable def o3x61 (P : Params) : Obj := ⟨(.type "getset_descriptor"), none, (.fields (List.toArray [(.str (Str.ofString "__dict__") 246), (.ref 60), (.builtin "function.__dict__"), (.builtin "function.__dict__#set")])), List.toArray []⟩
noncomputable def o3x62 (P : Params) : Obj := ⟨(.type "getset_descriptor"), none, (.fields (List.toArray [(.str (Str.ofString "__weakref__") 248), (.ref 60), (.builtin "ExceptionGroup.__weakref__"), .none])), List.toArray []⟩
noncomputable def o3x63 (P : Params) : Obj := ⟨(.type "super"), none, (.fields (List.toArray [(.ref 60), (.ref 60), (.ref 60)])), List.toArray []⟩
noncomputable def o3x64 (P : Params) : Obj := ⟨(.type "builtin_function_or_method"), none, (.fields (List.toArray [(.builtin "object.__init_subclass__"), (.ref 60)])), List.toArray []⟩
noncomputable def bt10 (P : Params) : BT := (.node (o3x63 P) .nil .nil)
noncomputable def bt11 (P : Params) : BT := (.node (PySem.W.boot_o_7 P) (.node (o3x15 P) (.node (o3x31 P) (bt10 P) .nil) (.node (o3x47 P) .nil .nil)) (.node (o3x23 P) (.node (o3x39 P) .nil .nil) (.node (o3x55 P) .nil .nil)))
noncomputable def bt12 (P : Params) : BT := (.node (o0x11 P) (.node (o3x19 P) (.node (o3x35 P) .nil .nil) (.node (o3x51 P) .nil .nil)) (.node (o3x27 P) (.node (o3x43 P) .nil .nil) (.node (o3x59 P) .nil .nil)))
noncomputable def bt13 (P : Params) : BT := (.node (PySem.W.boot_o_9 P) (.node (o3x17 P) (.node (o3x33 P) .nil .nil) (.node (o3x49 P) .nil .nil)) (.node (o3x25 P) (.node (o3x41 P) .nil .nil) (.node (o3x57 P) .nil .nil)))
noncomputable def bt14 (P : Params) : BT := (.node (o0x13 P) (.node (o3x21 P) (.node (o3x37 P) .nil .nil) (.node (o3x53 P) .nil .nil)) (.node (o3x29 P) (.node (o3x45 P) .nil .nil) (.node (o3x61 P) .nil .nil)))
noncomputable def bt15 (P : Params) : BT := (.node (o3x64 P) .nil .nil)
noncomputable def bt16 (P : Params) : BT := (.node (PySem.W.boot_o_8 P) (.node (o3x16 P) (.node (o3x32 P) (bt15 P) .nil) (.node (o3x48 P) .nil .nil)) (.node (o3x24 P) (.node (o3x40 P) .nil .nil) (.node (o3x56 P) .nil .nil)))
noncomputable def bt17 (P : Params) : BT := (.node (o3x12 P) (.node (o3x20 P) (.node (o3x36 P) .nil .nil) (.node (o3x52 P) .nil .nil)) (.node (o3x28 P) (.node (o3x44 P) .nil .nil) (.node (o3x60 P) .nil .nil)))
noncomputable def bt18 (P : Params) : BT := (.node (PySem.W.boot_o_10 P) (.node (o3x18 P) (.node (o3x34 P) .nil .nil) (.node (o3x50 P) .nil .nil)) (.node (o3x26 P) (.node (o3x42 P) .nil .nil) (.node (o3x58 P) .nil .nil)))
noncomputable def bt19 (P : Params) : BT := (.node (o0x14 P) (.node (o3x22 P) (.node (o3x38 P) .nil .nil) (.node (o3x54 P) .nil .nil)) (.node (o3x30 P) (.node (o3x46 P) .nil .nil) (.node (o3x62 P) .nil .nil)))
noncomputable def bt20 (P : Params) : BT := (.node (PySem.W.boot_o_0 P) (.node (PySem.W.boot_o_1 P) (.node (o3x3 P) (bt11 P) (bt12 P)) (.node (PySem.W.boot_o_5 P) (bt13 P) (bt14 P))) (.node (PySem.W.boot_o_2 P) (.node (PySem.W.boot_o_4 P) (bt16 P) (bt17 P)) (.node (PySem.W.boot_o_6 P) (bt18 P) (bt19 P))))
noncomputable def T3 (P : Params) : BT := bt20 P
noncomputable def S3 (w : World) (os : OsState) : SharedT := ⟨T3 w.params, 65, bootLife, #[], boot_drawn, 253, os⟩
noncomputable def o4x3 (P : Params) : Obj := ⟨(.type "dict"), none, (.dict (List.toArray [⟨PyData.keyHash P (Str.ofString "__name__"), (.str (Str.ofString "__name__") 165), (.str (Str.ofString "cpy313.difflib") 194)⟩, ⟨PyData.keyHash P (Str.ofString "__doc__"), (.str (Str.ofString "__doc__") 166), .none⟩, ⟨PyData.keyHash P (Str.ofString "__package__"), (.str (Str.ofString "__package__") 167), .none⟩, ⟨PyData.keyHash P (Str.ofString "__loader__"), (.str (Str.ofString "__loader__") 168), (.builtin "__main__.__loader__#opaque")⟩, ⟨PyData.keyHash P (Str.ofString "__spec__"), (.str (Str.ofString "__spec__") 169), .none⟩, ⟨PyData.keyHash P (Str.ofString "__annotations__"), (.str (Str.ofString "__annotations__") 170), (.ref 6)⟩, ⟨PyData.keyHash P (Str.ofString "__builtins__"), (.str (Str.ofString "__builtins__") 171), (.ref 4)⟩, ⟨PyData.keyHash P (Str.ofString "__file__"), (.str (Str.ofString "__file__") 173), (.str (Str.ofString "/claim/cut.py") 172)⟩, ⟨PyData.keyHash P (Str.ofString "__cached__"), (.str (Str.ofString "__cached__") 174), .none⟩, ⟨PyData.keyHash P (Str.ofString "_wall"), (.str (Str.ofString "_wall") 193), (.ref 21)⟩, ⟨PyData.keyHash P (Str.ofString "_tuplegetter"), (.str (Str.ofString "_tuplegetter") 252), (.ref 60)⟩, ⟨PyData.keyHash P (Str.ofString "Match"), (.str (Str.ofString "Match") 380), (.ref 135)⟩]) 12), List.toArray []⟩
noncomputable def o4x12 (P : Params) : Obj := ⟨.none, none, (.fields (List.toArray [(.int (1) 0), (.int (0) 0), (.ref 20), (.int (5) 0), (.int (0) 0), (.ref 27), (.int (23) 0), (.int (0) 0), (.ref 71)])), List.toArray []⟩
noncomputable def o4x65 (P : Params) : Obj := ⟨(.type "tuple"), none, (.seq (List.toArray [(.type "tuple")]) 0), List.toArray []⟩
noncomputable def o4x66 (P : Params) : Obj := ⟨(.type "builtin_function_or_method"), none, (.fields (List.toArray [(.builtin "type.__prepare__"), (.type "type")])), List.toArray []⟩
noncomputable def o4x67 (P : Params) : Obj := ⟨(.type "dict"), none, (.dict (List.toArray [⟨PyData.keyHash P (Str.ofString "__module__"), (.str (Str.ofString "__module__") 260), (.str (Str.ofString "cpy313.difflib") 194)⟩, ⟨PyData.keyHash P (Str.ofString "__qualname__"), (.str (Str.ofString "__qualname__") 262), (.str (Str.ofString "Match") 261)⟩, ⟨PyData.keyHash P (Str.ofString "__firstlineno__"), (.str (Str.ofString "__firstlineno__") 264), (.int (23) 263)⟩, ⟨PyData.keyHash P (Str.ofString "__doc__"), (.str (Str.ofString "__doc__") 266), (.str (Str.ofString "Match(a, b, size)") 265)⟩, ⟨PyData.keyHash P (Str.ofString "__slots__"), (.str (Str.ofString "__slots__") 268), (.ref 73)⟩, ⟨PyData.keyHash P (Str.ofString "_fields"), (.str (Str.ofString "_fields") 272), (.ref 74)⟩, ⟨PyData.keyHash P (Str.ofString "_field_defaults"), (.str (Str.ofString "_field_defaults") 273), (.ref 75)⟩, ⟨PyData.keyHash P (Str.ofString "__new__"), (.str (Str.ofString "__new__") 284), (.ref 82)⟩, ⟨PyData.keyHash P (Str.ofString "_make"), (.str (Str.ofString "_make") 306), (.ref 91)⟩, ⟨PyData.keyHash P (Str.ofString "_replace"), (.str (Str.ofString "_replace") 317), (.ref 100)⟩, ⟨PyData.keyHash P (Str.ofString "__replace__"), (.str (Str.ofString "__replace__") 318), (.ref 100)⟩, ⟨PyData.keyHash P (Str.ofString "__repr__"), (.str (Str.ofString "__repr__") 326), (.ref 107)⟩, ⟨PyData.keyHash P (Str.ofString "_asdict"), (.str (Str.ofString "_asdict") 333), (.ref 114)⟩, ⟨PyData.keyHash P (Str.ofString "__getnewargs__"), (.str (Str.ofString "__getnewargs__") 341), (.ref 121)⟩, ⟨PyData.keyHash P (Str.ofString "__match_args__"), (.str (Str.ofString "__match_args__") 345), (.ref 122)⟩, ⟨PyData.keyHash P (Str.ofString "a"), (.str (Str.ofString "a") 355), (.ref 124)⟩, ⟨PyData.keyHash P (Str.ofString "b"), (.str (Str.ofString "b") 365), (.ref 127)⟩, ⟨PyData.keyHash P (Str.ofString "size"), (.str (Str.ofString "size") 375), (.ref 130)⟩, ⟨PyData.keyHash P (Str.ofString "__static_attributes__"), (.str (Str.ofString "__static_attributes__") 376), (.ref 132)⟩, ⟨PyData.keyHash P (Str.ofString "__classcell__"), (.str (Str.ofString "__classcell__") 377), (.ref 68)⟩]) 20), List.toArray []⟩
noncomputable def o4x68 (P : Params) : Obj := ⟨(.type "cell"), none, (.cell (some (.ref 135))), List.toArray []⟩
noncomputable def o4x69 (P : Params) : Obj := ⟨(.type "tuple"), none, (.seq (List.toArray []) 0), List.toArray []⟩
noncomputable def o4x70 (P : Params) : Obj := ⟨.none, none, (.fields (List.toArray [(.int (29) 0), (.int (4) 0), (.ref 81), (.int (34) 0), (.int (4) 0), (.ref 88), (.int (41) 0), (.int (4) 0), (.ref 99), (.int (52) 0), (.int (4) 0), (.ref 106), (.int (56) 0), (.int (4) 0), (.ref 113), (.int (59) 0), (.int (4) 0), (.ref 120)])), List.toArray []⟩
noncomputable def o4x71 (P : Params) : Obj := ⟨(.type "code"), none, (.fields (List.toArray [(.str (Str.ofString "Match") 255), (.str (Str.ofString "Match") 256), (.str (Str.ofString "/claim/cut.py") 257), (.int (23) 0), (.int (0) 0), (.int (0) 0), (.int (0) 0), (.int (0) 0), (.ref 69), (.bool false), (.int (181) 0), (.ref 70), .none, .none, .none, .none, (.int (258) 0), (.int (23) 0), (.str (Str.ofString "/claim/cut.py") 259)])), List.toArray []⟩
noncomputable def o4x72 (P : Params) : Obj := ⟨(.type "frame"), none, .plain, List.toArray [(some (.ref 71)), (some (.ref 3)), (some (.ref 67)), none, (some (.str (Str.ofString "cpy313.difflib") 194)), none, (some (.ref 0))]⟩
noncomputable def o4x73 (P : Params) : Obj := ⟨(.type "tuple"), none, (.seq (List.toArray []) 0), List.toArray []⟩
noncomputable def o4x74 (P : Params) : Obj := ⟨(.type "tuple"), none, (.seq (List.toArray [(.str (Str.ofString "a") 269), (.str (Str.ofString "b") 270), (.str (Str.ofString "size") 271)]) 0), List.toArray []⟩
noncomputable def o4x75 (P : Params) : Obj := ⟨(.type "dict"), none, (.dict (List.toArray []) 0), List.toArray []⟩
noncomputable def o4x76 (P : Params) : Obj := ⟨(.type "tuple"), none, (.seq (List.toArray []) 0), List.toArray []⟩
noncomputable def o4x77 (P : Params) : Obj := ⟨.none, none, (.fields (List.toArray [])), List.toArray []⟩
noncomputable def o4x78 (P : Params) : Obj := ⟨(.type "tuple"), none, (.seq (List.toArray [(.str (Str.ofString "_cls") 277), (.str (Str.ofString "a") 278), (.str (Str.ofString "b") 279), (.str (Str.ofString "size") 280)]) 0), List.toArray []⟩
noncomputable def o4x79 (P : Params) : Obj := ⟨(.type "tuple"), none, (.seq (List.toArray []) 0), List.toArray []⟩
noncomputable def o4x80 (P : Params) : Obj := ⟨.none, none, (.func ⟨(Str.ofString "__new__"), (Str.ofString "Match.__new__"), fArgs (mt 3 4), .stmts (fBody (mt 3 4)), fScope (mt 3 4), 0, [], .none, .none, .none, .none, none, .none, .none, 0⟩), List.toArray []⟩
noncomputable def o4x81 (P : Params) : Obj := ⟨(.type "code"), none, (.fields (List.toArray [(.str (Str.ofString "__new__") 274), (.str (Str.ofString "Match.__new__") 275), (.str (Str.ofString "/claim/cut.py") 276), (.int (29) 0), (.int (4) 0), (.int (0) 0), (.int (0) 0), (.int (3) 0), (.ref 76), (.bool true), (.int (181) 0), (.ref 77), .none, (.ref 78), (.ref 79), (.ref 80), (.int (281) 0), (.int (29) 0), (.str (Str.ofString "/claim/cut.py") 282)])), List.toArray []⟩
noncomputable def o4x82 (P : Params) : Obj := ⟨(.type "function"), none, (.func ⟨(Str.ofString "__new__"), (Str.ofString "Match.__new__"), fArgs (mt 3 4), .stmts (fBody (mt 3 4)), fScope (mt 3 4), 3, [], .none, .none, (.str (Str.ofString "Create new instance of Match(a, b, size)") 283), (.str (Str.ofString "cpy313.difflib") 194), none, (.ref 81), .none, 0⟩), List.toArray []⟩
noncomputable def o4x83 (P : Params) : Obj := ⟨(.type "tuple"), none, (.seq (List.toArray []) 0), List.toArray []⟩
noncomputable def o4x84 (P : Params) : Obj := ⟨.none, none, (.fields (List.toArray [])), List.toArray []⟩
noncomputable def o4x85 (P : Params) : Obj := ⟨(.type "tuple"), none, (.seq (List.toArray [(.str (Str.ofString "cls") 288), (.str (Str.ofString "iterable") 289), (.str (Str.ofString "result") 290)]) 0), List.toArray []⟩
noncomputable def o4x86 (P : Params) : Obj := ⟨(.type "tuple"), none, (.seq (List.toArray []) 0), List.toArray []⟩
noncomputable def o4x87 (P : Params) : Obj := ⟨.none, none, (.func ⟨(Str.ofString "_make"), (Str.ofString "Match._make"), fArgs (mt 3 5), .stmts (fBody (mt 3 5)), fScope (mt 3 5), 0, [], .none, .none, .none, .none, none, .none, .none, 0⟩), List.toArray []⟩
noncomputable def o4x88 (P : Params) : Obj := ⟨(.type "code"), none, (.fields (List.toArray [(.str (Str.ofString "_make") 285), (.str (Str.ofString "Match._make") 286), (.str (Str.ofString "/claim/cut.py") 287), (.int (33) 0), (.int (2) 0), (.int (0) 0), (.int (0) 0), (.int (3) 0), (.ref 83), (.bool true), (.int (181) 0), (.ref 84), .none, (.ref 85), (.ref 86), (.ref 87), (.int (291) 0), (.int (33) 0), (.str (Str.ofString "/claim/cut.py") 292)])), List.toArray []⟩
noncomputable def o4x89 (P : Params) : Obj := ⟨(.type "function"), none, (.func ⟨(Str.ofString "_make"), (Str.ofString "Match._make"), fArgs (mt 3 5), .stmts (fBody (mt 3 5)), fScope (mt 3 5), 3, [], .none, .none, (.str (Str.ofString "Make a new Match object from a sequence or iterable") 293), (.str (Str.ofString "cpy313.difflib") 194), (some 92), (.ref 88), .none, 0⟩), List.toArray []⟩
noncomputable def o4x90 (P : Params) : Obj := ⟨(.type "dict"), none, (.dict (List.toArray [⟨PyData.keyHash P (Str.ofString "__module__"), (.str (Str.ofString "__module__") 295), (.str (Str.ofString "cpy313.difflib") 194)⟩, ⟨PyData.keyHash P (Str.ofString "__name__"), (.str (Str.ofString "__name__") 298), (.str (Str.ofString "_make") 297)⟩, ⟨PyData.keyHash P (Str.ofString "__qualname__"), (.str (Str.ofString "__qualname__") 301), (.str (Str.ofString "Match._make") 300)⟩, ⟨PyData.keyHash P (Str.ofString "__doc__"), (.str (Str.ofString "__doc__") 303), (.str (Str.ofString "Make a new Match object from a sequence or iterable") 293)⟩, ⟨PyData.keyHash P (Str.ofString "__annotations__"), (.str (Str.ofString "__annotations__") 305), (.ref 92)⟩]) 5), List.toArray []⟩
noncomputable def o4x91 (P : Params) : Obj := ⟨(.type "classmethod"), (some 90), (.fields (List.toArray [(.ref 89), (.bool false)])), List.toArray []⟩
noncomputable def o4x92 (P : Params) : Obj := ⟨(.type "dict"), none, (.dict (List.toArray []) 0), List.toArray []⟩
noncomputable def o4x93 (P : Params) : Obj := ⟨(.type "tuple"), none, (.seq (List.toArray [(.ref 68)]) 0), List.toArray []⟩
noncomputable def o4x94 (P : Params) : Obj := ⟨(.type "tuple"), none, (.seq (List.toArray [(.str (Str.ofString "__class__") 310)]) 0), List.toArray []⟩
noncomputable def o4x95 (P : Params) : Obj := ⟨.none, none, (.fields (List.toArray [])), List.toArray []⟩
noncomputable def o4x96 (P : Params) : Obj := ⟨(.type "tuple"), none, (.seq (List.toArray [(.str (Str.ofString "self") 311), (.str (Str.ofString "kwds") 312), (.str (Str.ofString "result") 313)]) 0), List.toArray []⟩
noncomputable def o4x97 (P : Params) : Obj := ⟨(.type "tuple"), none, (.seq (List.toArray []) 0), List.toArray []⟩
noncomputable def o4x98 (P : Params) : Obj := ⟨.none, none, (.func ⟨(Str.ofString "_replace"), (Str.ofString "Match._replace"), fArgs (mt 3 6), .stmts (fBody (mt 3 6)), fScope (mt 3 6), 0, [], .none, .none, .none, .none, none, .none, .none, 0⟩), List.toArray []⟩
noncomputable def o4x99 (P : Params) : Obj := ⟨(.type "code"), none, (.fields (List.toArray [(.str (Str.ofString "_replace") 307), (.str (Str.ofString "Match._replace") 308), (.str (Str.ofString "/claim/cut.py") 309), (.int (41) 0), (.int (1) 0), (.int (1) 0), (.int (0) 0), (.int (11) 0), (.ref 94), (.bool true), (.int (181) 0), (.ref 95), .none, (.ref 96), (.ref 97), (.ref 98), (.int (314) 0), (.int (41) 0), (.str (Str.ofString "/claim/cut.py") 315)])), List.toArray []⟩
noncomputable def o4x100 (P : Params) : Obj := ⟨(.type "function"), none, (.func ⟨(Str.ofString "_replace"), (Str.ofString "Match._replace"), fArgs (mt 3 6), .stmts (fBody (mt 3 6)), fScope (mt 3 6), 3, [((Str.ofString "__class__"), 68)], .none, .none, (.str (docOf (fBody (mt 3 6))) 316), (.str (Str.ofString "cpy313.difflib") 194), none, (.ref 99), (.ref 93), 0⟩), List.toArray []⟩
noncomputable def o4x101 (P : Params) : Obj := ⟨(.type "tuple"), none, (.seq (List.toArray []) 0), List.toArray []⟩
noncomputable def o4x102 (P : Params) : Obj := ⟨.none, none, (.fields (List.toArray [])), List.toArray []⟩
noncomputable def o4x103 (P : Params) : Obj := ⟨(.type "tuple"), none, (.seq (List.toArray [(.str (Str.ofString "self") 322)]) 0), List.toArray []⟩
noncomputable def o4x104 (P : Params) : Obj := ⟨(.type "tuple"), none, (.seq (List.toArray []) 0), List.toArray []⟩
noncomputable def o4x105 (P : Params) : Obj := ⟨.none, none, (.func ⟨(Str.ofString "__repr__"), (Str.ofString "Match.__repr__"), fArgs (mt 3 8), .stmts (fBody (mt 3 8)), fScope (mt 3 8), 0, [], .none, .none, .none, .none, none, .none, .none, 0⟩), List.toArray []⟩
noncomputable def o4x106 (P : Params) : Obj := ⟨(.type "code"), none, (.fields (List.toArray [(.str (Str.ofString "__repr__") 319), (.str (Str.ofString "Match.__repr__") 320), (.str (Str.ofString "/claim/cut.py") 321), (.int (52) 0), (.int (1) 0), (.int (0) 0), (.int (0) 0), (.int (3) 0), (.ref 101), (.bool true), (.int (181) 0), (.ref 102), .none, (.ref 103), (.ref 104), (.ref 105), (.int (323) 0), (.int (52) 0), (.str (Str.ofString "/claim/cut.py") 324)])), List.toArray []⟩
noncomputable def o4x107 (P : Params) : Obj := ⟨(.type "function"), none, (.func ⟨(Str.ofString "__repr__"), (Str.ofString "Match.__repr__"), fArgs (mt 3 8), .stmts (fBody (mt 3 8)), fScope (mt 3 8), 3, [], .none, .none, (.str (Str.ofString "Return a nicely formatted representation string") 325), (.str (Str.ofString "cpy313.difflib") 194), none, (.ref 106), .none, 0⟩), List.toArray []⟩
noncomputable def o4x108 (P : Params) : Obj := ⟨(.type "tuple"), none, (.seq (List.toArray []) 0), List.toArray []⟩
noncomputable def o4x109 (P : Params) : Obj := ⟨.none, none, (.fields (List.toArray [])), List.toArray []⟩
noncomputable def o4x110 (P : Params) : Obj := ⟨(.type "tuple"), none, (.seq (List.toArray [(.str (Str.ofString "self") 330)]) 0), List.toArray []⟩
noncomputable def o4x111 (P : Params) : Obj := ⟨(.type "tuple"), none, (.seq (List.toArray []) 0), List.toArray []⟩
noncomputable def o4x112 (P : Params) : Obj := ⟨.none, none, (.func ⟨(Str.ofString "_asdict"), (Str.ofString "Match._asdict"), fArgs (mt 3 9), .stmts (fBody (mt 3 9)), fScope (mt 3 9), 0, [], .none, .none, .none, .none, none, .none, .none, 0⟩), List.toArray []⟩
noncomputable def o4x113 (P : Params) : Obj := ⟨(.type "code"), none, (.fields (List.toArray [(.str (Str.ofString "_asdict") 327), (.str (Str.ofString "Match._asdict") 328), (.str (Str.ofString "/claim/cut.py") 329), (.int (56) 0), (.int (1) 0), (.int (0) 0), (.int (0) 0), (.int (3) 0), (.ref 108), (.bool true), (.int (181) 0), (.ref 109), .none, (.ref 110), (.ref 111), (.ref 112), (.int (331) 0), (.int (56) 0), (.str (Str.ofString "/claim/cut.py") 332)])), List.toArray []⟩
noncomputable def o4x114 (P : Params) : Obj := ⟨(.type "function"), none, (.func ⟨(Str.ofString "_asdict"), (Str.ofString "Match._asdict"), fArgs (mt 3 9), .stmts (fBody (mt 3 9)), fScope (mt 3 9), 3, [], .none, .none, .none, (.str (Str.ofString "cpy313.difflib") 194), none, (.ref 113), .none, 0⟩), List.toArray []⟩
noncomputable def o4x115 (P : Params) : Obj := ⟨(.type "tuple"), none, (.seq (List.toArray []) 0), List.toArray []⟩
noncomputable def o4x116 (P : Params) : Obj := ⟨.none, none, (.fields (List.toArray [])), List.toArray []⟩
noncomputable def o4x117 (P : Params) : Obj := ⟨(.type "tuple"), none, (.seq (List.toArray [(.str (Str.ofString "self") 337)]) 0), List.toArray []⟩
noncomputable def o4x118 (P : Params) : Obj := ⟨(.type "tuple"), none, (.seq (List.toArray []) 0), List.toArray []⟩
noncomputable def o4x119 (P : Params) : Obj := ⟨.none, none, (.func ⟨(Str.ofString "__getnewargs__"), (Str.ofString "Match.__getnewargs__"), fArgs (mt 3 10), .stmts (fBody (mt 3 10)), fScope (mt 3 10), 0, [], .none, .none, .none, .none, none, .none, .none, 0⟩), List.toArray []⟩
noncomputable def o4x120 (P : Params) : Obj := ⟨(.type "code"), none, (.fields (List.toArray [(.str (Str.ofString "__getnewargs__") 334), (.str (Str.ofString "Match.__getnewargs__") 335), (.str (Str.ofString "/claim/cut.py") 336), (.int (59) 0), (.int (1) 0), (.int (0) 0), (.int (0) 0), (.int (3) 0), (.ref 115), (.bool true), (.int (181) 0), (.ref 116), .none, (.ref 117), (.ref 118), (.ref 119), (.int (338) 0), (.int (59) 0), (.str (Str.ofString "/claim/cut.py") 339)])), List.toArray []⟩
noncomputable def o4x121 (P : Params) : Obj := ⟨(.type "function"), none, (.func ⟨(Str.ofString "__getnewargs__"), (Str.ofString "Match.__getnewargs__"), fArgs (mt 3 10), .stmts (fBody (mt 3 10)), fScope (mt 3 10), 3, [], .none, .none, (.str (Str.ofString "Return self as a plain tuple.  Used by copy and pickle.") 340), (.str (Str.ofString "cpy313.difflib") 194), none, (.ref 120), .none, 0⟩), List.toArray []⟩
noncomputable def o4x122 (P : Params) : Obj := ⟨(.type "tuple"), none, (.seq (List.toArray [(.str (Str.ofString "a") 342), (.str (Str.ofString "b") 343), (.str (Str.ofString "size") 344)]) 0), List.toArray []⟩
noncomputable def o4x123 (P : Params) : Obj := ⟨(.type "dict"), none, (.dict (List.toArray [⟨PyData.keyHash P (Str.ofString "index"), (.str (Str.ofString "index") 352), (.int (0) 346)⟩, ⟨PyData.keyHash P (Str.ofString "__doc__"), (.str (Str.ofString "__doc__") 354), (.str (Str.ofString "Alias for field number 0") 347)⟩]) 2), List.toArray []⟩
noncomputable def o4x124 (P : Params) : Obj := ⟨(.ref 60), (some 123), .plain, List.toArray []⟩
noncomputable def o4x125 (P : Params) : Obj := ⟨(.type "frame"), none, (.dict (List.toArray [⟨PyData.keyHash P (Str.ofString "self"), (.str (Str.ofString "self") 348), (.ref 124)⟩, ⟨PyData.keyHash P (Str.ofString "index"), (.str (Str.ofString "index") 349), (.int (0) 346)⟩, ⟨PyData.keyHash P (Str.ofString "doc"), (.str (Str.ofString "doc") 350), (.str (Str.ofString "Alias for field number 0") 347)⟩]) 3), List.toArray []⟩
noncomputable def o4x126 (P : Params) : Obj := ⟨(.type "dict"), none, (.dict (List.toArray [⟨PyData.keyHash P (Str.ofString "index"), (.str (Str.ofString "index") 362), (.int (1) 356)⟩, ⟨PyData.keyHash P (Str.ofString "__doc__"), (.str (Str.ofString "__doc__") 364), (.str (Str.ofString "Alias for field number 1") 357)⟩]) 2), List.toArray []⟩
noncomputable def o4x127 (P : Params) : Obj := ⟨(.ref 60), (some 126), .plain, List.toArray []⟩
noncomputable def o4x128 (P : Params) : Obj := ⟨(.type "frame"), none, (.dict (List.toArray [⟨PyData.keyHash P (Str.ofString "self"), (.str (Str.ofString "self") 358), (.ref 127)⟩, ⟨PyData.keyHash P (Str.ofString "index"), (.str (Str.ofString "index") 359), (.int (1) 356)⟩, ⟨PyData.keyHash P (Str.ofString "doc"), (.str (Str.ofString "doc") 360), (.str (Str.ofString "Alias for field number 1") 357)⟩]) 3), List.toArray []⟩
noncomputable def o4x129 (P : Params) : Obj := ⟨(.type "dict"), none, (.dict (List.toArray [⟨PyData.keyHash P (Str.ofString "index"), (.str (Str.ofString "index") 372), (.int (2) 366)⟩, ⟨PyData.keyHash P (Str.ofString "__doc__"), (.str (Str.ofString "__doc__") 374), (.str (Str.ofString "Alias for field number 2") 367)⟩]) 2), List.toArray []⟩
noncomputable def o4x130 (P : Params) : Obj := ⟨(.ref 60), (some 129), .plain, List.toArray []⟩
noncomputable def o4x131 (P : Params) : Obj := ⟨(.type "frame"), none, (.dict (List.toArray [⟨PyData.keyHash P (Str.ofString "self"), (.str (Str.ofString "self") 368), (.ref 130)⟩, ⟨PyData.keyHash P (Str.ofString "index"), (.str (Str.ofString "index") 369), (.int (2) 366)⟩, ⟨PyData.keyHash P (Str.ofString "doc"), (.str (Str.ofString "doc") 370), (.str (Str.ofString "Alias for field number 2") 367)⟩]) 3), List.toArray []⟩
noncomputable def o4x132 (P : Params) : Obj := ⟨(.type "tuple"), none, (.seq (List.toArray []) 0), List.toArray []⟩
noncomputable def o4x133 (P : Params) : Obj := ⟨(.type "list"), none, (.seq (List.toArray []) 0), List.toArray []⟩
noncomputable def o4x134 (P : Params) : Obj := ⟨(.type "dict"), none, (.dict (List.toArray [⟨PyData.keyHash P (Str.ofString "__module__"), (.str (Str.ofString "__module__") 260), (.str (Str.ofString "cpy313.difflib") 194)⟩, ⟨PyData.keyHash P (Str.ofString "__firstlineno__"), (.str (Str.ofString "__firstlineno__") 264), (.int (23) 263)⟩, ⟨PyData.keyHash P (Str.ofString "__doc__"), (.str (Str.ofString "__doc__") 266), (.str (Str.ofString "Match(a, b, size)") 265)⟩, ⟨PyData.keyHash P (Str.ofString "__slots__"), (.str (Str.ofString "__slots__") 268), (.ref 73)⟩, ⟨PyData.keyHash P (Str.ofString "_fields"), (.str (Str.ofString "_fields") 272), (.ref 74)⟩, ⟨PyData.keyHash P (Str.ofString "_field_defaults"), (.str (Str.ofString "_field_defaults") 273), (.ref 75)⟩, ⟨PyData.keyHash P (Str.ofString "__new__"), (.str (Str.ofString "__new__") 284), (.ref 136)⟩, ⟨PyData.keyHash P (Str.ofString "_make"), (.str (Str.ofString "_make") 306), (.ref 91)⟩, ⟨PyData.keyHash P (Str.ofString "_replace"), (.str (Str.ofString "_replace") 317), (.ref 100)⟩, ⟨PyData.keyHash P (Str.ofString "__replace__"), (.str (Str.ofString "__replace__") 318), (.ref 100)⟩, ⟨PyData.keyHash P (Str.ofString "__repr__"), (.str (Str.ofString "__repr__") 326), (.ref 107)⟩, ⟨PyData.keyHash P (Str.ofString "_asdict"), (.str (Str.ofString "_asdict") 333), (.ref 114)⟩, ⟨PyData.keyHash P (Str.ofString "__getnewargs__"), (.str (Str.ofString "__getnewargs__") 341), (.ref 121)⟩, ⟨PyData.keyHash P (Str.ofString "__match_args__"), (.str (Str.ofString "__match_args__") 345), (.ref 122)⟩, ⟨PyData.keyHash P (Str.ofString "a"), (.str (Str.ofString "a") 355), (.ref 124)⟩, ⟨PyData.keyHash P (Str.ofString "b"), (.str (Str.ofString "b") 365), (.ref 127)⟩, ⟨PyData.keyHash P (Str.ofString "size"), (.str (Str.ofString "size") 375), (.ref 130)⟩, ⟨PyData.keyHash P (Str.ofString "__static_attributes__"), (.str (Str.ofString "__static_attributes__") 376), (.ref 132)⟩]) 2), List.toArray []⟩
noncomputable def o4x135 (P : Params) : Obj := ⟨(.type "type"), none, (.cls ⟨(Str.ofString "Match"), [(.type "tuple")], [(.ref 135), (.type "tuple"), (.type "object")], 134, (Str.ofString "Match"), false, [], [], false, none, false⟩), List.toArray [(some (.ref 65)), none, (some (.str (Str.ofString "Match") 253)), (some (.str (Str.ofString "Match") 261)), (some .none), (some (.bool false))]⟩
noncomputable def o4x136 (P : Params) : Obj := ⟨(.type "staticmethod"), none, (.fields (List.toArray [(.ref 82)])), List.toArray []⟩
noncomputable def o4x137 (P : Params) : Obj := ⟨(.type "super"), none, (.fields (List.toArray [(.ref 135), (.ref 135), (.ref 135)])), List.toArray []⟩
noncomputable def o4x138 (P : Params) : Obj := ⟨(.type "builtin_function_or_method"), none, (.fields (List.toArray [(.builtin "object.__init_subclass__"), (.ref 135)])), List.toArray []⟩
noncomputable def bt21 (P : Params) : BT := (.node (o3x63 P) (.node (o4x127 P) .nil .nil) .nil)
noncomputable def bt22 (P : Params) : BT := (.node (o4x95 P) .nil .nil)
noncomputable def bt23 (P : Params) : BT := (.node (o4x79 P) .nil .nil)
noncomputable def bt24 (P : Params) : BT := (.node (o4x111 P) .nil .nil)
noncomputable def bt25 (P : Params) : BT := (.node (o4x71 P) (.node (o4x135 P) .nil .nil) .nil)
noncomputable def bt26 (P : Params) : BT := (.node (o4x103 P) .nil .nil)
noncomputable def bt27 (P : Params) : BT := (.node (o4x87 P) .nil .nil)
noncomputable def bt28 (P : Params) : BT := (.node (o4x119 P) .nil .nil)
noncomputable def bt29 (P : Params) : BT := (.node (PySem.W.boot_o_7 P) (.node (o3x15 P) (.node (o3x31 P) (bt21 P) (bt22 P)) (.node (o3x47 P) (bt23 P) (bt24 P))) (.node (o3x23 P) (.node (o3x39 P) (bt25 P) (bt26 P)) (.node (o3x55 P) (bt27 P) (bt28 P))))
noncomputable def bt30 (P : Params) : BT := (.node (o4x67 P) (.node (o4x131 P) .nil .nil) .nil)
noncomputable def bt31 (P : Params) : BT := (.node (o4x99 P) .nil .nil)
noncomputable def bt32 (P : Params) : BT := (.node (o4x83 P) .nil .nil)
noncomputable def bt33 (P : Params) : BT := (.node (o4x115 P) .nil .nil)
noncomputable def bt34 (P : Params) : BT := (.node (o4x75 P) .nil .nil)
noncomputable def bt35 (P : Params) : BT := (.node (o4x107 P) .nil .nil)
noncomputable def bt36 (P : Params) : BT := (.node (o4x91 P) .nil .nil)
noncomputable def bt37 (P : Params) : BT := (.node (o4x123 P) .nil .nil)
noncomputable def bt38 (P : Params) : BT := (.node (o0x11 P) (.node (o3x19 P) (.node (o3x35 P) (bt30 P) (bt31 P)) (.node (o3x51 P) (bt32 P) (bt33 P))) (.node (o3x27 P) (.node (o3x43 P) (bt34 P) (bt35 P)) (.node (o3x59 P) (bt36 P) (bt37 P))))
noncomputable def bt39 (P : Params) : BT := (.node (o4x65 P) (.node (o4x129 P) .nil .nil) .nil)
noncomputable def bt40 (P : Params) : BT := (.node (o4x97 P) .nil .nil)
noncomputable def bt41 (P : Params) : BT := (.node (o4x81 P) .nil .nil)
noncomputable def bt42 (P : Params) : BT := (.node (o4x113 P) .nil .nil)
noncomputable def bt43 (P : Params) : BT := (.node (o4x73 P) (.node (o4x137 P) .nil .nil) .nil)
noncomputable def bt44 (P : Params) : BT := (.node (o4x105 P) .nil .nil)
noncomputable def bt45 (P : Params) : BT := (.node (o4x89 P) .nil .nil)
noncomputable def bt46 (P : Params) : BT := (.node (o4x121 P) .nil .nil)
noncomputable def bt47 (P : Params) : BT := (.node (PySem.W.boot_o_9 P) (.node (o3x17 P) (.node (o3x33 P) (bt39 P) (bt40 P)) (.node (o3x49 P) (bt41 P) (bt42 P))) (.node (o3x25 P) (.node (o3x41 P) (bt43 P) (bt44 P)) (.node (o3x57 P) (bt45 P) (bt46 P))))
noncomputable def bt48 (P : Params) : BT := (.node (o4x69 P) (.node (o4x133 P) .nil .nil) .nil)
noncomputable def bt49 (P : Params) : BT := (.node (o4x101 P) .nil .nil)
noncomputable def bt50 (P : Params) : BT := (.node (o4x85 P) .nil .nil)
noncomputable def bt51 (P : Params) : BT := (.node (o4x117 P) .nil .nil)
noncomputable def bt52 (P : Params) : BT := (.node (o4x77 P) .nil .nil)
noncomputable def bt53 (P : Params) : BT := (.node (o4x109 P) .nil .nil)
noncomputable def bt54 (P : Params) : BT := (.node (o4x93 P) .nil .nil)
noncomputable def bt55 (P : Params) : BT := (.node (o4x125 P) .nil .nil)
noncomputable def bt56 (P : Params) : BT := (.node (o0x13 P) (.node (o3x21 P) (.node (o3x37 P) (bt48 P) (bt49 P)) (.node (o3x53 P) (bt50 P) (bt51 P))) (.node (o3x29 P) (.node (o3x45 P) (bt52 P) (bt53 P)) (.node (o3x61 P) (bt54 P) (bt55 P))))
noncomputable def bt57 (P : Params) : BT := (.node (o3x64 P) (.node (o4x128 P) .nil .nil) .nil)
noncomputable def bt58 (P : Params) : BT := (.node (o4x96 P) .nil .nil)
noncomputable def bt59 (P : Params) : BT := (.node (o4x80 P) .nil .nil)
noncomputable def bt60 (P : Params) : BT := (.node (o4x112 P) .nil .nil)
noncomputable def bt61 (P : Params) : BT := (.node (o4x72 P) (.node (o4x136 P) .nil .nil) .nil)
noncomputable def bt62 (P : Params) : BT := (.node (o4x104 P) .nil .nil)
noncomputable def bt63 (P : Params) : BT := (.node (o4x88 P) .nil .nil)
noncomputable def bt64 (P : Params) : BT := (.node (o4x120 P) .nil .nil)
noncomputable def bt65 (P : Params) : BT := (.node (PySem.W.boot_o_8 P) (.node (o3x16 P) (.node (o3x32 P) (bt57 P) (bt58 P)) (.node (o3x48 P) (bt59 P) (bt60 P))) (.node (o3x24 P) (.node (o3x40 P) (bt61 P) (bt62 P)) (.node (o3x56 P) (bt63 P) (bt64 P))))
noncomputable def bt66 (P : Params) : BT := (.node (o4x68 P) (.node (o4x132 P) .nil .nil) .nil)
noncomputable def bt67 (P : Params) : BT := (.node (o4x100 P) .nil .nil)
noncomputable def bt68 (P : Params) : BT := (.node (o4x84 P) .nil .nil)
noncomputable def bt69 (P : Params) : BT := (.node (o4x116 P) .nil .nil)
noncomputable def bt70 (P : Params) : BT := (.node (o4x76 P) .nil .nil)
noncomputable def bt71 (P : Params) : BT := (.node (o4x108 P) .nil .nil)
noncomputable def bt72 (P : Params) : BT := (.node (o4x92 P) .nil .nil)
noncomputable def bt73 (P : Params) : BT := (.node (o4x124 P) .nil .nil)
noncomputable def bt74 (P : Params) : BT := (.node (o4x12 P) (.node (o3x20 P) (.node (o3x36 P) (bt66 P) (bt67 P)) (.node (o3x52 P) (bt68 P) (bt69 P))) (.node (o3x28 P) (.node (o3x44 P) (bt70 P) (bt71 P)) (.node (o3x60 P) (bt72 P) (bt73 P))))
noncomputable def bt75 (P : Params) : BT := (.node (o4x66 P) (.node (o4x130 P) .nil .nil) .nil)
noncomputable def bt76 (P : Params) : BT := (.node (o4x98 P) .nil .nil)
noncomputable def bt77 (P : Params) : BT := (.node (o4x82 P) .nil .nil)
noncomputable def bt78 (P : Params) : BT := (.node (o4x114 P) .nil .nil)
noncomputable def bt79 (P : Params) : BT := (.node (o4x74 P) (.node (o4x138 P) .nil .nil) .nil)
noncomputable def bt80 (P : Params) : BT := (.node (o4x106 P) .nil .nil)
noncomputable def bt81 (P : Params) : BT := (.node (o4x90 P) .nil .nil)
noncomputable def bt82 (P : Params) : BT := (.node (o4x122 P) .nil .nil)
noncomputable def bt83 (P : Params) : BT := (.node (PySem.W.boot_o_10 P) (.node (o3x18 P) (.node (o3x34 P) (bt75 P) (bt76 P)) (.node (o3x50 P) (bt77 P) (bt78 P))) (.node (o3x26 P) (.node (o3x42 P) (bt79 P) (bt80 P)) (.node (o3x58 P) (bt81 P) (bt82 P))))
noncomputable def bt84 (P : Params) : BT := (.node (o4x70 P) (.node (o4x134 P) .nil .nil) .nil)
noncomputable def bt85 (P : Params) : BT := (.node (o4x102 P) .nil .nil)
noncomputable def bt86 (P : Params) : BT := (.node (o4x86 P) .nil .nil)
noncomputable def bt87 (P : Params) : BT := (.node (o4x118 P) .nil .nil)
noncomputable def bt88 (P : Params) : BT := (.node (o4x78 P) .nil .nil)
noncomputable def bt89 (P : Params) : BT := (.node (o4x110 P) .nil .nil)
noncomputable def bt90 (P : Params) : BT := (.node (o4x94 P) .nil .nil)
noncomputable def bt91 (P : Params) : BT := (.node (o4x126 P) .nil .nil)
noncomputable def bt92 (P : Params) : BT := (.node (o0x14 P) (.node (o3x22 P) (.node (o3x38 P) (bt84 P) (bt85 P)) (.node (o3x54 P) (bt86 P) (bt87 P))) (.node (o3x30 P) (.node (o3x46 P) (bt88 P) (bt89 P)) (.node (o3x62 P) (bt90 P) (bt91 P))))
noncomputable def bt93 (P : Params) : BT := (.node (PySem.W.boot_o_0 P) (.node (PySem.W.boot_o_1 P) (.node (o4x3 P) (bt29 P) (bt38 P)) (.node (PySem.W.boot_o_5 P) (bt47 P) (bt56 P))) (.node (PySem.W.boot_o_2 P) (.node (PySem.W.boot_o_4 P) (bt65 P) (bt74 P)) (.node (PySem.W.boot_o_6 P) (bt83 P) (bt92 P))))
noncomputable def T4 (P : Params) : BT := bt93 P
noncomputable def S4 (w : World) (os : OsState) : SharedT := ⟨T4 w.params, 139, bootLife, #[], boot_drawn, 381, os⟩
noncomputable def o5x3 (P : Params) : Obj := ⟨(.type "dict"), none, (.dict (List.toArray [⟨PyData.keyHash P (Str.ofString "__name__"), (.str (Str.ofString "__name__") 165), (.str (Str.ofString "cpy313.difflib") 194)⟩, ⟨PyData.keyHash P (Str.ofString "__doc__"), (.str (Str.ofString "__doc__") 166), .none⟩, ⟨PyData.keyHash P (Str.ofString "__package__"), (.str (Str.ofString "__package__") 167), .none⟩, ⟨PyData.keyHash P (Str.ofString "__loader__"), (.str (Str.ofString "__loader__") 168), (.builtin "__main__.__loader__#opaque")⟩, ⟨PyData.keyHash P (Str.ofString "__spec__"), (.str (Str.ofString "__spec__") 169), .none⟩, ⟨PyData.keyHash P (Str.ofString "__annotations__"), (.str (Str.ofString "__annotations__") 170), (.ref 6)⟩, ⟨PyData.keyHash P (Str.ofString "__builtins__"), (.str (Str.ofString "__builtins__") 171), (.ref 4)⟩, ⟨PyData.keyHash P (Str.ofString "__file__"), (.str (Str.ofString "__file__") 173), (.str (Str.ofString "/claim/cut.py") 172)⟩, ⟨PyData.keyHash P (Str.ofString "__cached__"), (.str (Str.ofString "__cached__") 174), .none⟩, ⟨PyData.keyHash P (Str.ofString "_wall"), (.str (Str.ofString "_wall") 193), (.ref 21)⟩, ⟨PyData.keyHash P (Str.ofString "_tuplegetter"), (.str (Str.ofString "_tuplegetter") 252), (.ref 60)⟩, ⟨PyData.keyHash P (Str.ofString "Match"), (.str (Str.ofString "Match") 380), (.ref 135)⟩, ⟨PyData.keyHash P (Str.ofString "_calculate_ratio"), (.str (Str.ofString "_calculate_ratio") 388), (.ref 145)⟩]) 13), List.toArray []⟩
noncomputable def o5x12 (P : Params) : Obj := ⟨.none, none, (.fields (List.toArray [(.int (1) 0), (.int (0) 0), (.ref 20), (.int (5) 0), (.int (0) 0), (.ref 27), (.int (23) 0), (.int (0) 0), (.ref 71), (.int (66) 0), (.int (0) 0), (.ref 144)])), List.toArray []⟩
noncomputable def o5x139 (P : Params) : Obj := ⟨(.type "tuple"), none, (.seq (List.toArray []) 0), List.toArray []⟩
noncomputable def o5x140 (P : Params) : Obj := ⟨.none, none, (.fields (List.toArray [])), List.toArray []⟩
noncomputable def o5x141 (P : Params) : Obj := ⟨(.type "tuple"), none, (.seq (List.toArray [(.str (Str.ofString "matches") 384), (.str (Str.ofString "length") 385)]) 0), List.toArray []⟩
noncomputable def o5x142 (P : Params) : Obj := ⟨(.type "tuple"), none, (.seq (List.toArray []) 0), List.toArray []⟩
noncomputable def o5x143 (P : Params) : Obj := ⟨.none, none, (.func ⟨(Str.ofString "_calculate_ratio"), (Str.ofString "_calculate_ratio"), fArgs (st 4), .stmts (fBody (st 4)), fScope (st 4), 0, [], .none, .none, .none, .none, none, .none, .none, 0⟩), List.toArray []⟩
noncomputable def o5x144 (P : Params) : Obj := ⟨(.type "code"), none, (.fields (List.toArray [(.str (Str.ofString "_calculate_ratio") 381), (.str (Str.ofString "_calculate_ratio") 382), (.str (Str.ofString "/claim/cut.py") 383), (.int (66) 0), (.int (2) 0), (.int (0) 0), (.int (0) 0), (.int (3) 0), (.ref 139), (.bool true), (.int (181) 0), (.ref 140), .none, (.ref 141), (.ref 142), (.ref 143), (.int (386) 0), (.int (66) 0), (.str (Str.ofString "/claim/cut.py") 387)])), List.toArray []⟩
noncomputable def o5x145 (P : Params) : Obj := ⟨(.type "function"), none, (.func ⟨(Str.ofString "_calculate_ratio"), (Str.ofString "_calculate_ratio"), fArgs (st 4), .stmts (fBody (st 4)), fScope (st 4), 3, [], .none, .none, .none, (.str (Str.ofString "cpy313.difflib") 194), none, (.ref 144), .none, 0⟩), List.toArray []⟩
noncomputable def bt94 (P : Params) : BT := (.node (o4x79 P) (.node (o5x143 P) .nil .nil) .nil)
noncomputable def bt95 (P : Params) : BT := (.node (PySem.W.boot_o_7 P) (.node (o3x15 P) (.node (o3x31 P) (bt21 P) (bt22 P)) (.node (o3x47 P) (bt94 P) (bt24 P))) (.node (o3x23 P) (.node (o3x39 P) (bt25 P) (bt26 P)) (.node (o3x55 P) (bt27 P) (bt28 P))))
noncomputable def bt96 (P : Params) : BT := (.node (o4x75 P) (.node (o5x139 P) .nil .nil) .nil)
noncomputable def bt97 (P : Params) : BT := (.node (o0x11 P) (.node (o3x19 P) (.node (o3x35 P) (bt30 P) (bt31 P)) (.node (o3x51 P) (bt32 P) (bt33 P))) (.node (o3x27 P) (.node (o3x43 P) (bt96 P) (bt35 P)) (.node (o3x59 P) (bt36 P) (bt37 P))))
noncomputable def bt98 (P : Params) : BT := (.node (o4x81 P) (.node (o5x145 P) .nil .nil) .nil)
noncomputable def bt99 (P : Params) : BT := (.node (PySem.W.boot_o_9 P) (.node (o3x17 P) (.node (o3x33 P) (bt39 P) (bt40 P)) (.node (o3x49 P) (bt98 P) (bt42 P))) (.node (o3x25 P) (.node (o3x41 P) (bt43 P) (bt44 P)) (.node (o3x57 P) (bt45 P) (bt46 P))))
noncomputable def bt100 (P : Params) : BT := (.node (o4x77 P) (.node (o5x141 P) .nil .nil) .nil)
noncomputable def bt101 (P : Params) : BT := (.node (o0x13 P) (.node (o3x21 P) (.node (o3x37 P) (bt48 P) (bt49 P)) (.node (o3x53 P) (bt50 P) (bt51 P))) (.node (o3x29 P) (.node (o3x45 P) (bt100 P) (bt53 P)) (.node (o3x61 P) (bt54 P) (bt55 P))))
noncomputable def bt102 (P : Params) : BT := (.node (o4x80 P) (.node (o5x144 P) .nil .nil) .nil)
noncomputable def bt103 (P : Params) : BT := (.node (PySem.W.boot_o_8 P) (.node (o3x16 P) (.node (o3x32 P) (bt57 P) (bt58 P)) (.node (o3x48 P) (bt102 P) (bt60 P))) (.node (o3x24 P) (.node (o3x40 P) (bt61 P) (bt62 P)) (.node (o3x56 P) (bt63 P) (bt64 P))))
noncomputable def bt104 (P : Params) : BT := (.node (o4x76 P) (.node (o5x140 P) .nil .nil) .nil)
noncomputable def bt105 (P : Params) : BT := (.node (o5x12 P) (.node (o3x20 P) (.node (o3x36 P) (bt66 P) (bt67 P)) (.node (o3x52 P) (bt68 P) (bt69 P))) (.node (o3x28 P) (.node (o3x44 P) (bt104 P) (bt71 P)) (.node (o3x60 P) (bt72 P) (bt73 P))))
noncomputable def bt106 (P : Params) : BT := (.node (o4x78 P) (.node (o5x142 P) .nil .nil) .nil)
noncomputable def bt107 (P : Params) : BT := (.node (o0x14 P) (.node (o3x22 P) (.node (o3x38 P) (bt84 P) (bt85 P)) (.node (o3x54 P) (bt86 P) (bt87 P))) (.node (o3x30 P) (.node (o3x46 P) (bt106 P) (bt89 P)) (.node (o3x62 P) (bt90 P) (bt91 P))))
noncomputable def bt108 (P : Params) : BT := (.node (PySem.W.boot_o_0 P) (.node (PySem.W.boot_o_1 P) (.node (o5x3 P) (bt95 P) (bt97 P)) (.node (PySem.W.boot_o_5 P) (bt99 P) (bt101 P))) (.node (PySem.W.boot_o_2 P) (.node (PySem.W.boot_o_4 P) (bt103 P) (bt105 P)) (.node (PySem.W.boot_o_6 P) (bt83 P) (bt107 P))))
noncomputable def T5 (P : Params) : BT := bt108 P
noncomputable def S5 (w : World) (os : OsState) : SharedT := ⟨T5 w.params, 146, bootLife, #[], boot_drawn, 389, os⟩
noncomputable def o6x3 (P : Params) : Obj := ⟨(.type "dict"), none, (.dict (List.toArray [⟨PyData.keyHash P (Str.ofString "__name__"), (.str (Str.ofString "__name__") 165), (.str (Str.ofString "cpy313.difflib") 194)⟩, ⟨PyData.keyHash P (Str.ofString "__doc__"), (.str (Str.ofString "__doc__") 166), .none⟩, ⟨PyData.keyHash P (Str.ofString "__package__"), (.str (Str.ofString "__package__") 167), .none⟩, ⟨PyData.keyHash P (Str.ofString "__loader__"), (.str (Str.ofString "__loader__") 168), (.builtin "__main__.__loader__#opaque")⟩, ⟨PyData.keyHash P (Str.ofString "__spec__"), (.str (Str.ofString "__spec__") 169), .none⟩, ⟨PyData.keyHash P (Str.ofString "__annotations__"), (.str (Str.ofString "__annotations__") 170), (.ref 6)⟩, ⟨PyData.keyHash P (Str.ofString "__builtins__"), (.str (Str.ofString "__builtins__") 171), (.ref 4)⟩, ⟨PyData.keyHash P (Str.ofString "__file__"), (.str (Str.ofString "__file__") 173), (.str (Str.ofString "/claim/cut.py") 172)⟩, ⟨PyData.keyHash P (Str.ofString "__cached__"), (.str (Str.ofString "__cached__") 174), .none⟩, ⟨PyData.keyHash P (Str.ofString "_wall"), (.str (Str.ofString "_wall") 193), (.ref 21)⟩, ⟨PyData.keyHash P (Str.ofString "_tuplegetter"), (.str (Str.ofString "_tuplegetter") 252), (.ref 60)⟩, ⟨PyData.keyHash P (Str.ofString "Match"), (.str (Str.ofString "Match") 380), (.ref 135)⟩, ⟨PyData.keyHash P (Str.ofString "_calculate_ratio"), (.str (Str.ofString "_calculate_ratio") 388), (.ref 145)⟩, ⟨PyData.keyHash P (Str.ofString "SequenceMatcher"), (.str (Str.ofString "SequenceMatcher") 592), (.ref 242)⟩]) 14), List.toArray []⟩
noncomputable def o6x12 (P : Params) : Obj := ⟨.none, none, (.fields (List.toArray [(.int (1) 0), (.int (0) 0), (.ref 20), (.int (5) 0), (.int (0) 0), (.ref 27), (.int (23) 0), (.int (0) 0), (.ref 71), (.int (66) 0), (.int (0) 0), (.ref 144), (.int (70) 0), (.int (0) 0), (.ref 151)])), List.toArray []⟩
noncomputable def o6x146 (P : Params) : Obj := ⟨(.type "tuple"), none, (.seq (List.toArray []) 0), List.toArray []⟩
noncomputable def o6x147 (P : Params) : Obj := ⟨(.type "builtin_function_or_method"), none, (.fields (List.toArray [(.builtin "type.__prepare__"), (.type "type")])), List.toArray []⟩
noncomputable def o6x148 (P : Params) : Obj := ⟨(.type "dict"), none, (.dict (List.toArray [⟨PyData.keyHash P (Str.ofString "__module__"), (.str (Str.ofString "__module__") 396), (.str (Str.ofString "cpy313.difflib") 194)⟩, ⟨PyData.keyHash P (Str.ofString "__qualname__"), (.str (Str.ofString "__qualname__") 398), (.str (Str.ofString "SequenceMatcher") 397)⟩, ⟨PyData.keyHash P (Str.ofString "__firstlineno__"), (.str (Str.ofString "__firstlineno__") 400), (.int (70) 399)⟩, ⟨PyData.keyHash P (Str.ofString "__doc__"), (.str (Str.ofString "__doc__") 402), (.str (docOf (cBody (st 5))) 401)⟩, ⟨PyData.keyHash P (Str.ofString "__init__"), (.str (Str.ofString "__init__") 417), (.ref 160)⟩, ⟨PyData.keyHash P (Str.ofString "set_seqs"), (.str (Str.ofString "set_seqs") 427), (.ref 167)⟩, ⟨PyData.keyHash P (Str.ofString "set_seq1"), (.str (Str.ofString "set_seq1") 436), (.ref 174)⟩, ⟨PyData.keyHash P (Str.ofString "set_seq2"), (.str (Str.ofString "set_seq2") 445), (.ref 181)⟩, ⟨PyData.keyHash P (Str.ofString "_SequenceMatcher__chain_b"), (.str (Str.ofString "_SequenceMatcher__chain_b") 463), (.ref 188)⟩, ⟨PyData.keyHash P (Str.ofString "find_longest_match"), (.str (Str.ofString "find_longest_match") 491), (.ref 196)⟩, ⟨PyData.keyHash P (Str.ofString "get_matching_blocks"), (.str (Str.ofString "get_matching_blocks") 518), (.ref 203)⟩, ⟨PyData.keyHash P (Str.ofString "get_opcodes"), (.str (Str.ofString "get_opcodes") 533), (.ref 210)⟩, ⟨PyData.keyHash P (Str.ofString "get_grouped_opcodes"), (.str (Str.ofString "get_grouped_opcodes") 542), (.ref 218)⟩, ⟨PyData.keyHash P (Str.ofString "ratio"), (.str (Str.ofString "ratio") 551), (.ref 225)⟩, ⟨PyData.keyHash P (Str.ofString "quick_ratio"), (.str (Str.ofString "quick_ratio") 565), (.ref 232)⟩, ⟨PyData.keyHash P (Str.ofString "real_quick_ratio"), (.str (Str.ofString "real_quick_ratio") 575), (.ref 239)⟩, ⟨PyData.keyHash P (Str.ofString "__static_attributes__"), (.str (Str.ofString "__static_attributes__") 586), (.ref 240)⟩]) 17), List.toArray []⟩
noncomputable def o6x149 (P : Params) : Obj := ⟨(.type "tuple"), none, (.seq (List.toArray []) 0), List.toArray []⟩
noncomputable def o6x150 (P : Params) : Obj := ⟨.none, none, (.fields (List.toArray [(.int (145) 0), (.int (4) 0), (.ref 159), (.int (173) 0), (.int (4) 0), (.ref 166), (.int (184) 0), (.int (4) 0), (.ref 173), (.int (209) 0), (.int (4) 0), (.ref 180), (.int (236) 0), (.int (4) 0), (.ref 187), (.int (260) 0), (.int (4) 0), (.ref 195), (.int (335) 0), (.int (4) 0), (.ref 202), (.int (383) 0), (.int (4) 0), (.ref 209), (.int (430) 0), (.int (4) 0), (.ref 217), (.int (433) 0), (.int (4) 0), (.ref 224), (.int (457) 0), (.int (4) 0), (.ref 231), (.int (480) 0), (.int (4) 0), (.ref 238)])), List.toArray []⟩
noncomputable def o6x151 (P : Params) : Obj := ⟨(.type "code"), none, (.fields (List.toArray [(.str (Str.ofString "SequenceMatcher") 391), (.str (Str.ofString "SequenceMatcher") 392), (.str (Str.ofString "/claim/cut.py") 393), (.int (70) 0), (.int (0) 0), (.int (0) 0), (.int (0) 0), (.int (0) 0), (.ref 149), (.bool false), (.int (181) 0), (.ref 150), .none, .none, .none, .none, (.int (394) 0), (.int (70) 0), (.str (Str.ofString "/claim/cut.py") 395)])), List.toArray []⟩
noncomputable def o6x152 (P : Params) : Obj := ⟨(.type "frame"), none, .plain, List.toArray [(some (.ref 151)), (some (.ref 3)), (some (.ref 148)), none, (some (.str (Str.ofString "cpy313.difflib") 194)), none, (some (.ref 0))]⟩
noncomputable def o6x153 (P : Params) : Obj := ⟨(.type "tuple"), none, (.seq (List.toArray [.none, (.str (Str.ofString "") 404), (.str (Str.ofString "") 405), (.bool true)]) 0), List.toArray []⟩
noncomputable def o6x154 (P : Params) : Obj := ⟨(.type "tuple"), none, (.seq (List.toArray []) 0), List.toArray []⟩
noncomputable def o6x155 (P : Params) : Obj := ⟨.none, none, (.fields (List.toArray [])), List.toArray []⟩
noncomputable def o6x156 (P : Params) : Obj := ⟨(.type "tuple"), none, (.seq (List.toArray [(.str (Str.ofString "self") 409), (.str (Str.ofString "isjunk") 410), (.str (Str.ofString "a") 411), (.str (Str.ofString "b") 412), (.str (Str.ofString "autojunk") 413)]) 0), List.toArray []⟩
noncomputable def o6x157 (P : Params) : Obj := ⟨(.type "tuple"), none, (.seq (List.toArray []) 0), List.toArray []⟩
noncomputable def o6x158 (P : Params) : Obj := ⟨.none, none, (.func ⟨(Str.ofString "__init__"), (Str.ofString "SequenceMatcher.__init__"), fArgs (mt 5 1), .stmts (fBody (mt 5 1)), fScope (mt 5 1), 0, [], .none, .none, .none, .none, none, .none, .none, 0⟩), List.toArray []⟩
noncomputable def o6x159 (P : Params) : Obj := ⟨(.type "code"), none, (.fields (List.toArray [(.str (Str.ofString "__init__") 406), (.str (Str.ofString "SequenceMatcher.__init__") 407), (.str (Str.ofString "/claim/cut.py") 408), (.int (145) 0), (.int (5) 0), (.int (0) 0), (.int (0) 0), (.int (3) 0), (.ref 154), (.bool true), (.int (181) 0), (.ref 155), .none, (.ref 156), (.ref 157), (.ref 158), (.int (414) 0), (.int (145) 0), (.str (Str.ofString "/claim/cut.py") 415)])), List.toArray []⟩
noncomputable def o6x160 (P : Params) : Obj := ⟨(.type "function"), none, (.func ⟨(Str.ofString "__init__"), (Str.ofString "SequenceMatcher.__init__"), fArgs (mt 5 1), .stmts (fBody (mt 5 1)), fScope (mt 5 1), 3, [], (.ref 153), .none, (.str (docOf (fBody (mt 5 1))) 416), (.str (Str.ofString "cpy313.difflib") 194), none, (.ref 159), .none, 0⟩), List.toArray []⟩
noncomputable def o6x161 (P : Params) : Obj := ⟨(.type "tuple"), none, (.seq (List.toArray []) 0), List.toArray []⟩
noncomputable def o6x162 (P : Params) : Obj := ⟨.none, none, (.fields (List.toArray [])), List.toArray []⟩
noncomputable def o6x163 (P : Params) : Obj := ⟨(.type "tuple"), none, (.seq (List.toArray [(.str (Str.ofString "self") 421), (.str (Str.ofString "a") 422), (.str (Str.ofString "b") 423)]) 0), List.toArray []⟩
noncomputable def o6x164 (P : Params) : Obj := ⟨(.type "tuple"), none, (.seq (List.toArray []) 0), List.toArray []⟩
noncomputable def o6x165 (P : Params) : Obj := ⟨.none, none, (.func ⟨(Str.ofString "set_seqs"), (Str.ofString "SequenceMatcher.set_seqs"), fArgs (mt 5 2), .stmts (fBody (mt 5 2)), fScope (mt 5 2), 0, [], .none, .none, .none, .none, none, .none, .none, 0⟩), List.toArray []⟩
noncomputable def o6x166 (P : Params) : Obj := ⟨(.type "code"), none, (.fields (List.toArray [(.str (Str.ofString "set_seqs") 418), (.str (Str.ofString "SequenceMatcher.set_seqs") 419), (.str (Str.ofString "/claim/cut.py") 420), (.int (173) 0), (.int (3) 0), (.int (0) 0), (.int (0) 0), (.int (3) 0), (.ref 161), (.bool true), (.int (181) 0), (.ref 162), .none, (.ref 163), (.ref 164), (.ref 165), (.int (424) 0), (.int (173) 0), (.str (Str.ofString "/claim/cut.py") 425)])), List.toArray []⟩
noncomputable def o6x167 (P : Params) : Obj := ⟨(.type "function"), none, (.func ⟨(Str.ofString "set_seqs"), (Str.ofString "SequenceMatcher.set_seqs"), fArgs (mt 5 2), .stmts (fBody (mt 5 2)), fScope (mt 5 2), 3, [], .none, .none, (.str (docOf (fBody (mt 5 2))) 426), (.str (Str.ofString "cpy313.difflib") 194), none, (.ref 166), .none, 0⟩), List.toArray []⟩
noncomputable def o6x168 (P : Params) : Obj := ⟨(.type "tuple"), none, (.seq (List.toArray []) 0), List.toArray []⟩
noncomputable def o6x169 (P : Params) : Obj := ⟨.none, none, (.fields (List.toArray [])), List.toArray []⟩
noncomputable def o6x170 (P : Params) : Obj := ⟨(.type "tuple"), none, (.seq (List.toArray [(.str (Str.ofString "self") 431), (.str (Str.ofString "a") 432)]) 0), List.toArray []⟩
noncomputable def o6x171 (P : Params) : Obj := ⟨(.type "tuple"), none, (.seq (List.toArray []) 0), List.toArray []⟩
noncomputable def o6x172 (P : Params) : Obj := ⟨.none, none, (.func ⟨(Str.ofString "set_seq1"), (Str.ofString "SequenceMatcher.set_seq1"), fArgs (mt 5 3), .stmts (fBody (mt 5 3)), fScope (mt 5 3), 0, [], .none, .none, .none, .none, none, .none, .none, 0⟩), List.toArray []⟩
noncomputable def o6x173 (P : Params) : Obj := ⟨(.type "code"), none, (.fields (List.toArray [(.str (Str.ofString "set_seq1") 428), (.str (Str.ofString "SequenceMatcher.set_seq1") 429), (.str (Str.ofString "/claim/cut.py") 430), (.int (184) 0), (.int (2) 0), (.int (0) 0), (.int (0) 0), (.int (3) 0), (.ref 168), (.bool true), (.int (181) 0), (.ref 169), .none, (.ref 170), (.ref 171), (.ref 172), (.int (433) 0), (.int (184) 0), (.str (Str.ofString "/claim/cut.py") 434)])), List.toArray []⟩
noncomputable def o6x174 (P : Params) : Obj := ⟨(.type "function"), none, (.func ⟨(Str.ofString "set_seq1"), (Str.ofString "SequenceMatcher.set_seq1"), fArgs (mt 5 3), .stmts (fBody (mt 5 3)), fScope (mt 5 3), 3, [], .none, .none, (.str (docOf (fBody (mt 5 3))) 435), (.str (Str.ofString "cpy313.difflib") 194), none, (.ref 173), .none, 0⟩), List.toArray []⟩
noncomputable def o6x175 (P : Params) : Obj := ⟨(.type "tuple"), none, (.seq (List.toArray []) 0), List.toArray []⟩
noncomputable def o6x176 (P : Params) : Obj := ⟨.none, none, (.fields (List.toArray [])), List.toArray []⟩
noncomputable def o6x177 (P : Params) : Obj := ⟨(.type "tuple"), none, (.seq (List.toArray [(.str (Str.ofString "self") 440), (.str (Str.ofString "b") 441)]) 0), List.toArray []⟩
noncomputable def o6x178 (P : Params) : Obj := ⟨(.type "tuple"), none, (.seq (List.toArray []) 0), List.toArray []⟩
noncomputable def o6x179 (P : Params) : Obj := ⟨.none, none, (.func ⟨(Str.ofString "set_seq2"), (Str.ofString "SequenceMatcher.set_seq2"), fArgs (mt 5 4), .stmts (fBody (mt 5 4)), fScope (mt 5 4), 0, [], .none, .none, .none, .none, none, .none, .none, 0⟩), List.toArray []⟩
noncomputable def o6x180 (P : Params) : Obj := ⟨(.type "code"), none, (.fields (List.toArray [(.str (Str.ofString "set_seq2") 437), (.str (Str.ofString "SequenceMatcher.set_seq2") 438), (.str (Str.ofString "/claim/cut.py") 439), (.int (209) 0), (.int (2) 0), (.int (0) 0), (.int (0) 0), (.int (3) 0), (.ref 175), (.bool true), (.int (181) 0), (.ref 176), .none, (.ref 177), (.ref 178), (.ref 179), (.int (442) 0), (.int (209) 0), (.str (Str.ofString "/claim/cut.py") 443)])), List.toArray []⟩
noncomputable def o6x181 (P : Params) : Obj := ⟨(.type "function"), none, (.func ⟨(Str.ofString "set_seq2"), (Str.ofString "SequenceMatcher.set_seq2"), fArgs (mt 5 4), .stmts (fBody (mt 5 4)), fScope (mt 5 4), 3, [], .none, .none, (.str (docOf (fBody (mt 5 4))) 444), (.str (Str.ofString "cpy313.difflib") 194), none, (.ref 180), .none, 0⟩), List.toArray []⟩
noncomputable def o6x182 (P : Params) : Obj := ⟨(.type "tuple"), none, (.seq (List.toArray []) 0), List.toArray []⟩
noncomputable def o6x183 (P : Params) : Obj := ⟨.none, none, (.fields (List.toArray [])), List.toArray []⟩
noncomputable def o6x184 (P : Params) : Obj := ⟨(.type "tuple"), none, (.seq (List.toArray [(.str (Str.ofString "self") 449), (.str (Str.ofString "b") 450), (.str (Str.ofString "b2j") 451), (.str (Str.ofString "i") 452), (.str (Str.ofString "elt") 453), (.str (Str.ofString "indices") 454), (.str (Str.ofString "junk") 455), (.str (Str.ofString "isjunk") 456), (.str (Str.ofString "popular") 457), (.str (Str.ofString "n") 458), (.str (Str.ofString "ntest") 459), (.str (Str.ofString "idxs") 460)]) 0), List.toArray []⟩
noncomputable def o6x185 (P : Params) : Obj := ⟨(.type "tuple"), none, (.seq (List.toArray []) 0), List.toArray []⟩
noncomputable def o6x186 (P : Params) : Obj := ⟨.none, none, (.func ⟨(Str.ofString "__chain_b"), (Str.ofString "SequenceMatcher.__chain_b"), fArgs (mt 5 5), .stmts (fBody (mt 5 5)), fScope (mt 5 5), 0, [], .none, .none, .none, .none, none, .none, .none, 0⟩), List.toArray []⟩
noncomputable def o6x187 (P : Params) : Obj := ⟨(.type "code"), none, (.fields (List.toArray [(.str (Str.ofString "__chain_b") 446), (.str (Str.ofString "SequenceMatcher.__chain_b") 447), (.str (Str.ofString "/claim/cut.py") 448), (.int (236) 0), (.int (1) 0), (.int (0) 0), (.int (0) 0), (.int (3) 0), (.ref 182), (.bool true), (.int (181) 0), (.ref 183), .none, (.ref 184), (.ref 185), (.ref 186), (.int (461) 0), (.int (236) 0), (.str (Str.ofString "/claim/cut.py") 462)])), List.toArray []⟩
noncomputable def o6x188 (P : Params) : Obj := ⟨(.type "function"), none, (.func ⟨(Str.ofString "__chain_b"), (Str.ofString "SequenceMatcher.__chain_b"), fArgs (mt 5 5), .stmts (fBody (mt 5 5)), fScope (mt 5 5), 3, [], .none, .none, .none, (.str (Str.ofString "cpy313.difflib") 194), none, (.ref 187), .none, 0⟩), List.toArray []⟩
noncomputable def o6x189 (P : Params) : Obj := ⟨(.type "tuple"), none, (.seq (List.toArray [(.int (0) 464), .none, (.int (0) 465), .none]) 0), List.toArray []⟩
noncomputable def o6x190 (P : Params) : Obj := ⟨(.type "tuple"), none, (.seq (List.toArray []) 0), List.toArray []⟩
noncomputable def o6x191 (P : Params) : Obj := ⟨.none, none, (.fields (List.toArray [])), List.toArray []⟩
noncomputable def o6x192 (P : Params) : Obj := ⟨(.type "tuple"), none, (.seq (List.toArray [(.str (Str.ofString "self") 469), (.str (Str.ofString "alo") 470), (.str (Str.ofString "ahi") 471), (.str (Str.ofString "blo") 472), (.str (Str.ofString "bhi") 473), (.str (Str.ofString "a") 474), (.str (Str.ofString "b") 475), (.str (Str.ofString "b2j") 476), (.str (Str.ofString "isbjunk") 477), (.str (Str.ofString "besti") 478), (.str (Str.ofString "bestj") 479), (.str (Str.ofString "bestsize") 480), (.str (Str.ofString "j2len") 481), (.str (Str.ofString "nothing") 482), (.str (Str.ofString "i") 483), (.str (Str.ofString "j2lenget") 484), (.str (Str.ofString "newj2len") 485), (.str (Str.ofString "j") 486), (.str (Str.ofString "k") 487)]) 0), List.toArray []⟩
noncomputable def o6x193 (P : Params) : Obj := ⟨(.type "tuple"), none, (.seq (List.toArray []) 0), List.toArray []⟩
noncomputable def o6x194 (P : Params) : Obj := ⟨.none, none, (.func ⟨(Str.ofString "find_longest_match"), (Str.ofString "SequenceMatcher.find_longest_match"), fArgs (mt 5 6), .stmts (fBody (mt 5 6)), fScope (mt 5 6), 0, [], .none, .none, .none, .none, none, .none, .none, 0⟩), List.toArray []⟩
noncomputable def o6x195 (P : Params) : Obj := ⟨(.type "code"), none, (.fields (List.toArray [(.str (Str.ofString "find_longest_match") 466), (.str (Str.ofString "SequenceMatcher.find_longest_match") 467), (.str (Str.ofString "/claim/cut.py") 468), (.int (260) 0), (.int (5) 0), (.int (0) 0), (.int (0) 0), (.int (3) 0), (.ref 190), (.bool true), (.int (181) 0), (.ref 191), .none, (.ref 192), (.ref 193), (.ref 194), (.int (488) 0), (.int (260) 0), (.str (Str.ofString "/claim/cut.py") 489)])), List.toArray []⟩
noncomputable def o6x196 (P : Params) : Obj := ⟨(.type "function"), none, (.func ⟨(Str.ofString "find_longest_match"), (Str.ofString "SequenceMatcher.find_longest_match"), fArgs (mt 5 6), .stmts (fBody (mt 5 6)), fScope (mt 5 6), 3, [], (.ref 189), .none, (.str (docOf (fBody (mt 5 6))) 490), (.str (Str.ofString "cpy313.difflib") 194), none, (.ref 195), .none, 0⟩), List.toArray []⟩
noncomputable def o6x197 (P : Params) : Obj := ⟨(.type "tuple"), none, (.seq (List.toArray []) 0), List.toArray []⟩
noncomputable def o6x198 (P : Params) : Obj := ⟨.none, none, (.fields (List.toArray [])), List.toArray []⟩
noncomputable def o6x199 (P : Params) : Obj := ⟨(.type "tuple"), none, (.seq (List.toArray [(.str (Str.ofString "self") 495), (.str (Str.ofString "la") 496), (.str (Str.ofString "lb") 497), (.str (Str.ofString "queue") 498), (.str (Str.ofString "matching_blocks") 499), (.str (Str.ofString "alo") 500), (.str (Str.ofString "ahi") 501), (.str (Str.ofString "blo") 502), (.str (Str.ofString "bhi") 503), (.str (Str.ofString "i") 504), (.str (Str.ofString "j") 505), (.str (Str.ofString "k") 506), (.str (Str.ofString "x") 507), (.str (Str.ofString "i1") 508), (.str (Str.ofString "j1") 509), (.str (Str.ofString "k1") 510), (.str (Str.ofString "non_adjacent") 511), (.str (Str.ofString "i2") 512), (.str (Str.ofString "j2") 513), (.str (Str.ofString "k2") 514)]) 0), List.toArray []⟩
noncomputable def o6x200 (P : Params) : Obj := ⟨(.type "tuple"), none, (.seq (List.toArray []) 0), List.toArray []⟩
noncomputable def o6x201 (P : Params) : Obj := ⟨.none, none, (.func ⟨(Str.ofString "get_matching_blocks"), (Str.ofString "SequenceMatcher.get_matching_blocks"), fArgs (mt 5 7), .stmts (fBody (mt 5 7)), fScope (mt 5 7), 0, [], .none, .none, .none, .none, none, .none, .none, 0⟩), List.toArray []⟩
noncomputable def o6x202 (P : Params) : Obj := ⟨(.type "code"), none, (.fields (List.toArray [(.str (Str.ofString "get_matching_blocks") 492), (.str (Str.ofString "SequenceMatcher.get_matching_blocks") 493), (.str (Str.ofString "/claim/cut.py") 494), (.int (335) 0), (.int (1) 0), (.int (0) 0), (.int (0) 0), (.int (3) 0), (.ref 197), (.bool true), (.int (181) 0), (.ref 198), .none, (.ref 199), (.ref 200), (.ref 201), (.int (515) 0), (.int (335) 0), (.str (Str.ofString "/claim/cut.py") 516)])), List.toArray []⟩
noncomputable def o6x203 (P : Params) : Obj := ⟨(.type "function"), none, (.func ⟨(Str.ofString "get_matching_blocks"), (Str.ofString "SequenceMatcher.get_matching_blocks"), fArgs (mt 5 7), .stmts (fBody (mt 5 7)), fScope (mt 5 7), 3, [], .none, .none, (.str (docOf (fBody (mt 5 7))) 517), (.str (Str.ofString "cpy313.difflib") 194), none, (.ref 202), .none, 0⟩), List.toArray []⟩
noncomputable def o6x204 (P : Params) : Obj := ⟨(.type "tuple"), none, (.seq (List.toArray []) 0), List.toArray []⟩
noncomputable def o6x205 (P : Params) : Obj := ⟨.none, none, (.fields (List.toArray [])), List.toArray []⟩
noncomputable def o6x206 (P : Params) : Obj := ⟨(.type "tuple"), none, (.seq (List.toArray [(.str (Str.ofString "self") 522), (.str (Str.ofString "i") 523), (.str (Str.ofString "j") 524), (.str (Str.ofString "answer") 525), (.str (Str.ofString "ai") 526), (.str (Str.ofString "bj") 527), (.str (Str.ofString "size") 528), (.str (Str.ofString "tag") 529)]) 0), List.toArray []⟩
noncomputable def o6x207 (P : Params) : Obj := ⟨(.type "tuple"), none, (.seq (List.toArray []) 0), List.toArray []⟩
noncomputable def o6x208 (P : Params) : Obj := ⟨.none, none, (.func ⟨(Str.ofString "get_opcodes"), (Str.ofString "SequenceMatcher.get_opcodes"), fArgs (mt 5 8), .stmts (fBody (mt 5 8)), fScope (mt 5 8), 0, [], .none, .none, .none, .none, none, .none, .none, 0⟩), List.toArray []⟩
noncomputable def o6x209 (P : Params) : Obj := ⟨(.type "code"), none, (.fields (List.toArray [(.str (Str.ofString "get_opcodes") 519), (.str (Str.ofString "SequenceMatcher.get_opcodes") 520), (.str (Str.ofString "/claim/cut.py") 521), (.int (383) 0), (.int (1) 0), (.int (0) 0), (.int (0) 0), (.int (3) 0), (.ref 204), (.bool true), (.int (181) 0), (.ref 205), .none, (.ref 206), (.ref 207), (.ref 208), (.int (530) 0), (.int (383) 0), (.str (Str.ofString "/claim/cut.py") 531)])), List.toArray []⟩
noncomputable def o6x210 (P : Params) : Obj := ⟨(.type "function"), none, (.func ⟨(Str.ofString "get_opcodes"), (Str.ofString "SequenceMatcher.get_opcodes"), fArgs (mt 5 8), .stmts (fBody (mt 5 8)), fScope (mt 5 8), 3, [], .none, .none, (.str (docOf (fBody (mt 5 8))) 532), (.str (Str.ofString "cpy313.difflib") 194), none, (.ref 209), .none, 0⟩), List.toArray []⟩
noncomputable def o6x211 (P : Params) : Obj := ⟨(.type "tuple"), none, (.seq (List.toArray [(.int (3) 534)]) 0), List.toArray []⟩
noncomputable def o6x212 (P : Params) : Obj := ⟨(.type "tuple"), none, (.seq (List.toArray []) 0), List.toArray []⟩
noncomputable def o6x213 (P : Params) : Obj := ⟨.none, none, (.fields (List.toArray [])), List.toArray []⟩
noncomputable def o6x214 (P : Params) : Obj := ⟨(.type "tuple"), none, (.seq (List.toArray [(.str (Str.ofString "self") 538), (.str (Str.ofString "n") 539)]) 0), List.toArray []⟩
noncomputable def o6x215 (P : Params) : Obj := ⟨(.type "tuple"), none, (.seq (List.toArray []) 0), List.toArray []⟩
noncomputable def o6x216 (P : Params) : Obj := ⟨.none, none, (.func ⟨(Str.ofString "get_grouped_opcodes"), (Str.ofString "SequenceMatcher.get_grouped_opcodes"), fArgs (mt 5 9), .stmts (fBody (mt 5 9)), fScope (mt 5 9), 0, [], .none, .none, .none, .none, none, .none, .none, 0⟩), List.toArray []⟩
noncomputable def o6x217 (P : Params) : Obj := ⟨(.type "code"), none, (.fields (List.toArray [(.str (Str.ofString "get_grouped_opcodes") 535), (.str (Str.ofString "SequenceMatcher.get_grouped_opcodes") 536), (.str (Str.ofString "/claim/cut.py") 537), (.int (430) 0), (.int (2) 0), (.int (0) 0), (.int (0) 0), (.int (3) 0), (.ref 212), (.bool true), (.int (181) 0), (.ref 213), .none, (.ref 214), (.ref 215), (.ref 216), (.int (540) 0), (.int (430) 0), (.str (Str.ofString "/claim/cut.py") 541)])), List.toArray []⟩
noncomputable def o6x218 (P : Params) : Obj := ⟨(.type "function"), none, (.func ⟨(Str.ofString "get_grouped_opcodes"), (Str.ofString "SequenceMatcher.get_grouped_opcodes"), fArgs (mt 5 9), .stmts (fBody (mt 5 9)), fScope (mt 5 9), 3, [], (.ref 211), .none, .none, (.str (Str.ofString "cpy313.difflib") 194), none, (.ref 217), .none, 0⟩), List.toArray []⟩
noncomputable def o6x219 (P : Params) : Obj := ⟨(.type "tuple"), none, (.seq (List.toArray []) 0), List.toArray []⟩
noncomputable def o6x220 (P : Params) : Obj := ⟨.none, none, (.fields (List.toArray [])), List.toArray []⟩
noncomputable def o6x221 (P : Params) : Obj := ⟨(.type "tuple"), none, (.seq (List.toArray [(.str (Str.ofString "self") 546), (.str (Str.ofString "matches") 547)]) 0), List.toArray []⟩
noncomputable def o6x222 (P : Params) : Obj := ⟨(.type "tuple"), none, (.seq (List.toArray []) 0), List.toArray []⟩
noncomputable def o6x223 (P : Params) : Obj := ⟨.none, none, (.func ⟨(Str.ofString "ratio"), (Str.ofString "SequenceMatcher.ratio"), fArgs (mt 5 10), .stmts (fBody (mt 5 10)), fScope (mt 5 10), 0, [], .none, .none, .none, .none, none, .none, .none, 0⟩), List.toArray []⟩
noncomputable def o6x224 (P : Params) : Obj := ⟨(.type "code"), none, (.fields (List.toArray [(.str (Str.ofString "ratio") 543), (.str (Str.ofString "SequenceMatcher.ratio") 544), (.str (Str.ofString "/claim/cut.py") 545), (.int (433) 0), (.int (1) 0), (.int (0) 0), (.int (0) 0), (.int (3) 0), (.ref 219), (.bool true), (.int (181) 0), (.ref 220), .none, (.ref 221), (.ref 222), (.ref 223), (.int (548) 0), (.int (433) 0), (.str (Str.ofString "/claim/cut.py") 549)])), List.toArray []⟩
noncomputable def o6x225 (P : Params) : Obj := ⟨(.type "function"), none, (.func ⟨(Str.ofString "ratio"), (Str.ofString "SequenceMatcher.ratio"), fArgs (mt 5 10), .stmts (fBody (mt 5 10)), fScope (mt 5 10), 3, [], .none, .none, (.str (docOf (fBody (mt 5 10))) 550), (.str (Str.ofString "cpy313.difflib") 194), none, (.ref 224), .none, 0⟩), List.toArray []⟩
noncomputable def o6x226 (P : Params) : Obj := ⟨(.type "tuple"), none, (.seq (List.toArray []) 0), List.toArray []⟩
noncomputable def o6x227 (P : Params) : Obj := ⟨.none, none, (.fields (List.toArray [])), List.toArray []⟩
noncomputable def o6x228 (P : Params) : Obj := ⟨(.type "tuple"), none, (.seq (List.toArray [(.str (Str.ofString "self") 555), (.str (Str.ofString "fullbcount") 556), (.str (Str.ofString "elt") 557), (.str (Str.ofString "avail") 558), (.str (Str.ofString "availhas") 559), (.str (Str.ofString "matches") 560), (.str (Str.ofString "numb") 561)]) 0), List.toArray []⟩
noncomputable def o6x229 (P : Params) : Obj := ⟨(.type "tuple"), none, (.seq (List.toArray []) 0), List.toArray []⟩
noncomputable def o6x230 (P : Params) : Obj := ⟨.none, none, (.func ⟨(Str.ofString "quick_ratio"), (Str.ofString "SequenceMatcher.quick_ratio"), fArgs (mt 5 11), .stmts (fBody (mt 5 11)), fScope (mt 5 11), 0, [], .none, .none, .none, .none, none, .none, .none, 0⟩), List.toArray []⟩
noncomputable def o6x231 (P : Params) : Obj := ⟨(.type "code"), none, (.fields (List.toArray [(.str (Str.ofString "quick_ratio") 552), (.str (Str.ofString "SequenceMatcher.quick_ratio") 553), (.str (Str.ofString "/claim/cut.py") 554), (.int (457) 0), (.int (1) 0), (.int (0) 0), (.int (0) 0), (.int (3) 0), (.ref 226), (.bool true), (.int (181) 0), (.ref 227), .none, (.ref 228), (.ref 229), (.ref 230), (.int (562) 0), (.int (457) 0), (.str (Str.ofString "/claim/cut.py") 563)])), List.toArray []⟩
noncomputable def o6x232 (P : Params) : Obj := ⟨(.type "function"), none, (.func ⟨(Str.ofString "quick_ratio"), (Str.ofString "SequenceMatcher.quick_ratio"), fArgs (mt 5 11), .stmts (fBody (mt 5 11)), fScope (mt 5 11), 3, [], .none, .none, (.str (docOf (fBody (mt 5 11))) 564), (.str (Str.ofString "cpy313.difflib") 194), none, (.ref 231), .none, 0⟩), List.toArray []⟩
noncomputable def o6x233 (P : Params) : Obj := ⟨(.type "tuple"), none, (.seq (List.toArray []) 0), List.toArray []⟩
noncomputable def o6x234 (P : Params) : Obj := ⟨.none, none, (.fields (List.toArray [])), List.toArray []⟩
noncomputable def o6x235 (P : Params) : Obj := ⟨(.type "tuple"), none, (.seq (List.toArray [(.str (Str.ofString "self") 569), (.str (Str.ofString "la") 570), (.str (Str.ofString "lb") 571)]) 0), List.toArray []⟩
noncomputable def o6x236 (P : Params) : Obj := ⟨(.type "tuple"), none, (.seq (List.toArray []) 0), List.toArray []⟩
noncomputable def o6x237 (P : Params) : Obj := ⟨.none, none, (.func ⟨(Str.ofString "real_quick_ratio"), (Str.ofString "SequenceMatcher.real_quick_ratio"), fArgs (mt 5 12), .stmts (fBody (mt 5 12)), fScope (mt 5 12), 0, [], .none, .none, .none, .none, none, .none, .none, 0⟩), List.toArray []⟩
noncomputable def o6x238 (P : Params) : Obj := ⟨(.type "code"), none, (.fields (List.toArray [(.str (Str.ofString "real_quick_ratio") 566), (.str (Str.ofString "SequenceMatcher.real_quick_ratio") 567), (.str (Str.ofString "/claim/cut.py") 568), (.int (480) 0), (.int (1) 0), (.int (0) 0), (.int (0) 0), (.int (3) 0), (.ref 233), (.bool true), (.int (181) 0), (.ref 234), .none, (.ref 235), (.ref 236), (.ref 237), (.int (572) 0), (.int (480) 0), (.str (Str.ofString "/claim/cut.py") 573)])), List.toArray []⟩
noncomputable def o6x239 (P : Params) : Obj := ⟨(.type "function"), none, (.func ⟨(Str.ofString "real_quick_ratio"), (Str.ofString "SequenceMatcher.real_quick_ratio"), fArgs (mt 5 12), .stmts (fBody (mt 5 12)), fScope (mt 5 12), 3, [], .none, .none, (.str (docOf (fBody (mt 5 12))) 574), (.str (Str.ofString "cpy313.difflib") 194), none, (.ref 238), .none, 0⟩), List.toArray []⟩
noncomputable def o6x240 (P : Params) : Obj := ⟨(.type "tuple"), none, (.seq (List.toArray [(.str (Str.ofString "a") 576), (.str (Str.ofString "autojunk") 577), (.str (Str.ofString "b") 578), (.str (Str.ofString "b2j") 579), (.str (Str.ofString "bjunk") 580), (.str (Str.ofString "bpopular") 581), (.str (Str.ofString "fullbcount") 582), (.str (Str.ofString "isjunk") 583), (.str (Str.ofString "matching_blocks") 584), (.str (Str.ofString "opcodes") 585)]) 0), List.toArray []⟩
noncomputable def o6x241 (P : Params) : Obj := ⟨(.type "dict"), none, (.dict (List.toArray [⟨PyData.keyHash P (Str.ofString "__module__"), (.str (Str.ofString "__module__") 396), (.str (Str.ofString "cpy313.difflib") 194)⟩, ⟨PyData.keyHash P (Str.ofString "__firstlineno__"), (.str (Str.ofString "__firstlineno__") 400), (.int (70) 399)⟩, ⟨PyData.keyHash P (Str.ofString "__doc__"), (.str (Str.ofString "__doc__") 402), (.str (docOf (cBody (st 5))) 401)⟩, ⟨PyData.keyHash P (Str.ofString "__init__"), (.str (Str.ofString "__init__") 417), (.ref 160)⟩, ⟨PyData.keyHash P (Str.ofString "set_seqs"), (.str (Str.ofString "set_seqs") 427), (.ref 167)⟩, ⟨PyData.keyHash P (Str.ofString "set_seq1"), (.str (Str.ofString "set_seq1") 436), (.ref 174)⟩, ⟨PyData.keyHash P (Str.ofString "set_seq2"), (.str (Str.ofString "set_seq2") 445), (.ref 181)⟩, ⟨PyData.keyHash P (Str.ofString "_SequenceMatcher__chain_b"), (.str (Str.ofString "_SequenceMatcher__chain_b") 463), (.ref 188)⟩, ⟨PyData.keyHash P (Str.ofString "find_longest_match"), (.str (Str.ofString "find_longest_match") 491), (.ref 196)⟩, ⟨PyData.keyHash P (Str.ofString "get_matching_blocks"), (.str (Str.ofString "get_matching_blocks") 518), (.ref 203)⟩, ⟨PyData.keyHash P (Str.ofString "get_opcodes"), (.str (Str.ofString "get_opcodes") 533), (.ref 210)⟩, ⟨PyData.keyHash P (Str.ofString "get_grouped_opcodes"), (.str (Str.ofString "get_grouped_opcodes") 542), (.ref 218)⟩, ⟨PyData.keyHash P (Str.ofString "ratio"), (.str (Str.ofString "ratio") 551), (.ref 225)⟩, ⟨PyData.keyHash P (Str.ofString "quick_ratio"), (.str (Str.ofString "quick_ratio") 565), (.ref 232)⟩, ⟨PyData.keyHash P (Str.ofString "real_quick_ratio"), (.str (Str.ofString "real_quick_ratio") 575), (.ref 239)⟩, ⟨PyData.keyHash P (Str.ofString "__static_attributes__"), (.str (Str.ofString "__static_attributes__") 586), (.ref 240)⟩, ⟨PyData.keyHash P (Str.ofString "__dict__"), (.str (Str.ofString "__dict__") 588), (.ref 243)⟩, ⟨PyData.keyHash P (Str.ofString "__weakref__"), (.str (Str.ofString "__weakref__") 590), (.ref 244)⟩]) 3), List.toArray []⟩
noncomputable def o6x242 (P : Params) : Obj := ⟨(.type "type"), none, (.cls ⟨(Str.ofString "SequenceMatcher"), [(.type "object")], [(.ref 242), (.type "object")], 241, (Str.ofString "SequenceMatcher"), true, [], [], false, none, false⟩), List.toArray [none, none, (some (.str (Str.ofString "SequenceMatcher") 389)), (some (.str (Str.ofString "SequenceMatcher") 397)), (some (.builtin "object.__new__")), (some (.bool true))]⟩
noncomputable def o6x243 (P : Params) : Obj := ⟨(.type "getset_descriptor"), none, (.fields (List.toArray [(.str (Str.ofString "__dict__") 587), (.ref 242), (.builtin "function.__dict__"), (.builtin "function.__dict__#set")])), List.toArray []⟩
noncomputable def o6x244 (P : Params) : Obj := ⟨(.type "getset_descriptor"), none, (.fields (List.toArray [(.str (Str.ofString "__weakref__") 589), (.ref 242), (.builtin "ExceptionGroup.__weakref__"), .none])), List.toArray []⟩
noncomputable def o6x245 (P : Params) : Obj := ⟨(.type "super"), none, (.fields (List.toArray [(.ref 242), (.ref 242), (.ref 242)])), List.toArray []⟩
noncomputable def o6x246 (P : Params) : Obj := ⟨(.type "builtin_function_or_method"), none, (.fields (List.toArray [(.builtin "object.__init_subclass__"), (.ref 242)])), List.toArray []⟩
noncomputable def bt109 (P : Params) : BT := (.node (o3x63 P) (.node (o4x127 P) .nil .nil) (.node (o6x191 P) .nil .nil))
noncomputable def bt110 (P : Params) : BT := (.node (o4x95 P) (.node (o6x159 P) .nil .nil) (.node (o6x223 P) .nil .nil))
noncomputable def bt111 (P : Params) : BT := (.node (o4x79 P) (.node (o5x143 P) .nil .nil) (.node (o6x207 P) .nil .nil))
noncomputable def bt112 (P : Params) : BT := (.node (o4x111 P) (.node (o6x175 P) .nil .nil) (.node (o6x239 P) .nil .nil))
noncomputable def bt113 (P : Params) : BT := (.node (o4x71 P) (.node (o4x135 P) .nil .nil) (.node (o6x199 P) .nil .nil))
noncomputable def bt114 (P : Params) : BT := (.node (o4x103 P) (.node (o6x167 P) .nil .nil) (.node (o6x231 P) .nil .nil))
noncomputable def bt115 (P : Params) : BT := (.node (o4x87 P) (.node (o6x151 P) .nil .nil) (.node (o6x215 P) .nil .nil))
noncomputable def bt116 (P : Params) : BT := (.node (o4x119 P) (.node (o6x183 P) .nil .nil) .nil)
noncomputable def bt117 (P : Params) : BT := (.node (PySem.W.boot_o_7 P) (.node (o3x15 P) (.node (o3x31 P) (bt109 P) (bt110 P)) (.node (o3x47 P) (bt111 P) (bt112 P))) (.node (o3x23 P) (.node (o3x39 P) (bt113 P) (bt114 P)) (.node (o3x55 P) (bt115 P) (bt116 P))))
noncomputable def bt118 (P : Params) : BT := (.node (o4x67 P) (.node (o4x131 P) .nil .nil) (.node (o6x195 P) .nil .nil))
noncomputable def bt119 (P : Params) : BT := (.node (o4x99 P) (.node (o6x163 P) .nil .nil) (.node (o6x227 P) .nil .nil))
noncomputable def bt120 (P : Params) : BT := (.node (o4x83 P) (.node (o6x147 P) .nil .nil) (.node (o6x211 P) .nil .nil))
noncomputable def bt121 (P : Params) : BT := (.node (o4x115 P) (.node (o6x179 P) .nil .nil) (.node (o6x243 P) .nil .nil))
noncomputable def bt122 (P : Params) : BT := (.node (o4x75 P) (.node (o5x139 P) .nil .nil) (.node (o6x203 P) .nil .nil))
noncomputable def bt123 (P : Params) : BT := (.node (o4x107 P) (.node (o6x171 P) .nil .nil) (.node (o6x235 P) .nil .nil))
noncomputable def bt124 (P : Params) : BT := (.node (o4x91 P) (.node (o6x155 P) .nil .nil) (.node (o6x219 P) .nil .nil))
noncomputable def bt125 (P : Params) : BT := (.node (o4x123 P) (.node (o6x187 P) .nil .nil) .nil)
noncomputable def bt126 (P : Params) : BT := (.node (o0x11 P) (.node (o3x19 P) (.node (o3x35 P) (bt118 P) (bt119 P)) (.node (o3x51 P) (bt120 P) (bt121 P))) (.node (o3x27 P) (.node (o3x43 P) (bt122 P) (bt123 P)) (.node (o3x59 P) (bt124 P) (bt125 P))))
noncomputable def bt127 (P : Params) : BT := (.node (o4x65 P) (.node (o4x129 P) .nil .nil) (.node (o6x193 P) .nil .nil))
noncomputable def bt128 (P : Params) : BT := (.node (o4x97 P) (.node (o6x161 P) .nil .nil) (.node (o6x225 P) .nil .nil))
noncomputable def bt129 (P : Params) : BT := (.node (o4x81 P) (.node (o5x145 P) .nil .nil) (.node (o6x209 P) .nil .nil))
noncomputable def bt130 (P : Params) : BT := (.node (o4x113 P) (.node (o6x177 P) .nil .nil) (.node (o6x241 P) .nil .nil))
noncomputable def bt131 (P : Params) : BT := (.node (o4x73 P) (.node (o4x137 P) .nil .nil) (.node (o6x201 P) .nil .nil))
noncomputable def bt132 (P : Params) : BT := (.node (o4x105 P) (.node (o6x169 P) .nil .nil) (.node (o6x233 P) .nil .nil))
noncomputable def bt133 (P : Params) : BT := (.node (o4x89 P) (.node (o6x153 P) .nil .nil) (.node (o6x217 P) .nil .nil))
noncomputable def bt134 (P : Params) : BT := (.node (o4x121 P) (.node (o6x185 P) .nil .nil) .nil)
noncomputable def bt135 (P : Params) : BT := (.node (PySem.W.boot_o_9 P) (.node (o3x17 P) (.node (o3x33 P) (bt127 P) (bt128 P)) (.node (o3x49 P) (bt129 P) (bt130 P))) (.node (o3x25 P) (.node (o3x41 P) (bt131 P) (bt132 P)) (.node (o3x57 P) (bt133 P) (bt134 P))))
noncomputable def bt136 (P : Params) : BT := (.node (o4x69 P) (.node (o4x133 P) .nil .nil) (.node (o6x197 P) .nil .nil))
noncomputable def bt137 (P : Params) : BT := (.node (o4x101 P) (.node (o6x165 P) .nil .nil) (.node (o6x229 P) .nil .nil))
noncomputable def bt138 (P : Params) : BT := (.node (o4x85 P) (.node (o6x149 P) .nil .nil) (.node (o6x213 P) .nil .nil))
noncomputable def bt139 (P : Params) : BT := (.node (o4x117 P) (.node (o6x181 P) .nil .nil) (.node (o6x245 P) .nil .nil))
noncomputable def bt140 (P : Params) : BT := (.node (o4x77 P) (.node (o5x141 P) .nil .nil) (.node (o6x205 P) .nil .nil))
noncomputable def bt141 (P : Params) : BT := (.node (o4x109 P) (.node (o6x173 P) .nil .nil) (.node (o6x237 P) .nil .nil))
noncomputable def bt142 (P : Params) : BT := (.node (o4x93 P) (.node (o6x157 P) .nil .nil) (.node (o6x221 P) .nil .nil))
noncomputable def bt143 (P : Params) : BT := (.node (o4x125 P) (.node (o6x189 P) .nil .nil) .nil)
noncomputable def bt144 (P : Params) : BT := (.node (o0x13 P) (.node (o3x21 P) (.node (o3x37 P) (bt136 P) (bt137 P)) (.node (o3x53 P) (bt138 P) (bt139 P))) (.node (o3x29 P) (.node (o3x45 P) (bt140 P) (bt141 P)) (.node (o3x61 P) (bt142 P) (bt143 P))))
noncomputable def bt145 (P : Params) : BT := (.node (o3x64 P) (.node (o4x128 P) .nil .nil) (.node (o6x192 P) .nil .nil))
noncomputable def bt146 (P : Params) : BT := (.node (o4x96 P) (.node (o6x160 P) .nil .nil) (.node (o6x224 P) .nil .nil))
noncomputable def bt147 (P : Params) : BT := (.node (o4x80 P) (.node (o5x144 P) .nil .nil) (.node (o6x208 P) .nil .nil))
noncomputable def bt148 (P : Params) : BT := (.node (o4x112 P) (.node (o6x176 P) .nil .nil) (.node (o6x240 P) .nil .nil))
noncomputable def bt149 (P : Params) : BT := (.node (o4x72 P) (.node (o4x136 P) .nil .nil) (.node (o6x200 P) .nil .nil))
noncomputable def bt150 (P : Params) : BT := (.node (o4x104 P) (.node (o6x168 P) .nil .nil) (.node (o6x232 P) .nil .nil))
noncomputable def bt151 (P : Params) : BT := (.node (o4x88 P) (.node (o6x152 P) .nil .nil) (.node (o6x216 P) .nil .nil))
noncomputable def bt152 (P : Params) : BT := (.node (o4x120 P) (.node (o6x184 P) .nil .nil) .nil)
noncomputable def bt153 (P : Params) : BT := (.node (PySem.W.boot_o_8 P) (.node (o3x16 P) (.node (o3x32 P) (bt145 P) (bt146 P)) (.node (o3x48 P) (bt147 P) (bt148 P))) (.node (o3x24 P) (.node (o3x40 P) (bt149 P) (bt150 P)) (.node (o3x56 P) (bt151 P) (bt152 P))))
noncomputable def bt154 (P : Params) : BT := (.node (o4x68 P) (.node (o4x132 P) .nil .nil) (.node (o6x196 P) .nil .nil))
noncomputable def bt155 (P : Params) : BT := (.node (o4x100 P) (.node (o6x164 P) .nil .nil) (.node (o6x228 P) .nil .nil))
noncomputable def bt156 (P : Params) : BT := (.node (o4x84 P) (.node (o6x148 P) .nil .nil) (.node (o6x212 P) .nil .nil))
noncomputable def bt157 (P : Params) : BT := (.node (o4x116 P) (.node (o6x180 P) .nil .nil) (.node (o6x244 P) .nil .nil))
noncomputable def bt158 (P : Params) : BT := (.node (o4x76 P) (.node (o5x140 P) .nil .nil) (.node (o6x204 P) .nil .nil))
noncomputable def bt159 (P : Params) : BT := (.node (o4x108 P) (.node (o6x172 P) .nil .nil) (.node (o6x236 P) .nil .nil))
noncomputable def bt160 (P : Params) : BT := (.node (o4x92 P) (.node (o6x156 P) .nil .nil) (.node (o6x220 P) .nil .nil))
noncomputable def bt161 (P : Params) : BT := (.node (o4x124 P) (.node (o6x188 P) .nil .nil) .nil)
noncomputable def bt162 (P : Params) : BT := (.node (o6x12 P) (.node (o3x20 P) (.node (o3x36 P) (bt154 P) (bt155 P)) (.node (o3x52 P) (bt156 P) (bt157 P))) (.node (o3x28 P) (.node (o3x44 P) (bt158 P) (bt159 P)) (.node (o3x60 P) (bt160 P) (bt161 P))))
noncomputable def bt163 (P : Params) : BT := (.node (o4x66 P) (.node (o4x130 P) .nil .nil) (.node (o6x194 P) .nil .nil))
noncomputable def bt164 (P : Params) : BT := (.node (o4x98 P) (.node (o6x162 P) .nil .nil) (.node (o6x226 P) .nil .nil))
noncomputable def bt165 (P : Params) : BT := (.node (o4x82 P) (.node (o6x146 P) .nil .nil) (.node (o6x210 P) .nil .nil))
noncomputable def bt166 (P : Params) : BT := (.node (o4x114 P) (.node (o6x178 P) .nil .nil) (.node (o6x242 P) .nil .nil))
noncomputable def bt167 (P : Params) : BT := (.node (o4x74 P) (.node (o4x138 P) .nil .nil) (.node (o6x202 P) .nil .nil))
noncomputable def bt168 (P : Params) : BT := (.node (o4x106 P) (.node (o6x170 P) .nil .nil) (.node (o6x234 P) .nil .nil))
noncomputable def bt169 (P : Params) : BT := (.node (o4x90 P) (.node (o6x154 P) .nil .nil) (.node (o6x218 P) .nil .nil))
noncomputable def bt170 (P : Params) : BT := (.node (o4x122 P) (.node (o6x186 P) .nil .nil) .nil)
noncomputable def bt171 (P : Params) : BT := (.node (PySem.W.boot_o_10 P) (.node (o3x18 P) (.node (o3x34 P) (bt163 P) (bt164 P)) (.node (o3x50 P) (bt165 P) (bt166 P))) (.node (o3x26 P) (.node (o3x42 P) (bt167 P) (bt168 P)) (.node (o3x58 P) (bt169 P) (bt170 P))))
noncomputable def bt172 (P : Params) : BT := (.node (o4x70 P) (.node (o4x134 P) .nil .nil) (.node (o6x198 P) .nil .nil))
noncomputable def bt173 (P : Params) : BT := (.node (o4x102 P) (.node (o6x166 P) .nil .nil) (.node (o6x230 P) .nil .nil))
noncomputable def bt174 (P : Params) : BT := (.node (o4x86 P) (.node (o6x150 P) .nil .nil) (.node (o6x214 P) .nil .nil))
noncomputable def bt175 (P : Params) : BT := (.node (o4x118 P) (.node (o6x182 P) .nil .nil) (.node (o6x246 P) .nil .nil))
noncomputable def bt176 (P : Params) : BT := (.node (o4x78 P) (.node (o5x142 P) .nil .nil) (.node (o6x206 P) .nil .nil))
noncomputable def bt177 (P : Params) : BT := (.node (o4x110 P) (.node (o6x174 P) .nil .nil) (.node (o6x238 P) .nil .nil))
noncomputable def bt178 (P : Params) : BT := (.node (o4x94 P) (.node (o6x158 P) .nil .nil) (.node (o6x222 P) .nil .nil))
noncomputable def bt179 (P : Params) : BT := (.node (o4x126 P) (.node (o6x190 P) .nil .nil) .nil)
noncomputable def bt180 (P : Params) : BT := (.node (o0x14 P) (.node (o3x22 P) (.node (o3x38 P) (bt172 P) (bt173 P)) (.node (o3x54 P) (bt174 P) (bt175 P))) (.node (o3x30 P) (.node (o3x46 P) (bt176 P) (bt177 P)) (.node (o3x62 P) (bt178 P) (bt179 P))))
noncomputable def bt181 (P : Params) : BT := (.node (PySem.W.boot_o_0 P) (.node (PySem.W.boot_o_1 P) (.node (o6x3 P) (bt117 P) (bt126 P)) (.node (PySem.W.boot_o_5 P) (bt135 P) (bt144 P))) (.node (PySem.W.boot_o_2 P) (.node (PySem.W.boot_o_4 P) (bt153 P) (bt162 P)) (.node (PySem.W.boot_o_6 P) (bt171 P) (bt180 P))))
noncomputable def T6 (P : Params) : BT := bt181 P
noncomputable def S6 (w : World) (os : OsState) : SharedT := ⟨T6 w.params, 247, bootLife, #[], boot_drawn, 593, os⟩
noncomputable def o7x3 (P : Params) : Obj := ⟨(.type "dict"), none, (.dict (List.toArray [⟨PyData.keyHash P (Str.ofString "__name__"), (.str (Str.ofString "__name__") 165), (.str (Str.ofString "cpy313.difflib") 194)⟩, ⟨PyData.keyHash P (Str.ofString "__doc__"), (.str (Str.ofString "__doc__") 166), .none⟩, ⟨PyData.keyHash P (Str.ofString "__package__"), (.str (Str.ofString "__package__") 167), .none⟩, ⟨PyData.keyHash P (Str.ofString "__loader__"), (.str (Str.ofString "__loader__") 168), (.builtin "__main__.__loader__#opaque")⟩, ⟨PyData.keyHash P (Str.ofString "__spec__"), (.str (Str.ofString "__spec__") 169), .none⟩, ⟨PyData.keyHash P (Str.ofString "__annotations__"), (.str (Str.ofString "__annotations__") 170), (.ref 6)⟩, ⟨PyData.keyHash P (Str.ofString "__builtins__"), (.str (Str.ofString "__builtins__") 171), (.ref 4)⟩, ⟨PyData.keyHash P (Str.ofString "__file__"), (.str (Str.ofString "__file__") 173), (.str (Str.ofString "/claim/cut.py") 172)⟩, ⟨PyData.keyHash P (Str.ofString "__cached__"), (.str (Str.ofString "__cached__") 174), .none⟩, ⟨PyData.keyHash P (Str.ofString "_wall"), (.str (Str.ofString "_wall") 193), (.ref 21)⟩, ⟨PyData.keyHash P (Str.ofString "_tuplegetter"), (.str (Str.ofString "_tuplegetter") 252), (.ref 60)⟩, ⟨PyData.keyHash P (Str.ofString "Match"), (.str (Str.ofString "Match") 380), (.ref 135)⟩, ⟨PyData.keyHash P (Str.ofString "_calculate_ratio"), (.str (Str.ofString "_calculate_ratio") 388), (.ref 145)⟩, ⟨PyData.keyHash P (Str.ofString "SequenceMatcher"), (.str (Str.ofString "SequenceMatcher") 592), (.ref 242)⟩, ⟨PyData.keyHash P (Str.ofString "_keep_original_ws"), (.str (Str.ofString "_keep_original_ws") 601), (.ref 253)⟩]) 15), List.toArray []⟩
noncomputable def o7x12 (P : Params) : Obj := ⟨.none, none, (.fields (List.toArray [(.int (1) 0), (.int (0) 0), (.ref 20), (.int (5) 0), (.int (0) 0), (.ref 27), (.int (23) 0), (.int (0) 0), (.ref 71), (.int (66) 0), (.int (0) 0), (.ref 144), (.int (70) 0), (.int (0) 0), (.ref 151), (.int (488) 0), (.int (0) 0), (.ref 252)])), List.toArray []⟩
noncomputable def o7x247 (P : Params) : Obj := ⟨(.type "tuple"), none, (.seq (List.toArray []) 0), List.toArray []⟩
noncomputable def o7x248 (P : Params) : Obj := ⟨.none, none, (.fields (List.toArray [])), List.toArray []⟩
noncomputable def o7x249 (P : Params) : Obj := ⟨(.type "tuple"), none, (.seq (List.toArray [(.str (Str.ofString "s") 596), (.str (Str.ofString "tag_s") 597)]) 0), List.toArray []⟩
noncomputable def o7x250 (P : Params) : Obj := ⟨(.type "tuple"), none, (.seq (List.toArray []) 0), List.toArray []⟩
noncomputable def o7x251 (P : Params) : Obj := ⟨.none, none, (.func ⟨(Str.ofString "_keep_original_ws"), (Str.ofString "_keep_original_ws"), fArgs (st 6), .stmts (fBody (st 6)), fScope (st 6), 0, [], .none, .none, .none, .none, none, .none, .none, 0⟩), List.toArray []⟩
noncomputable def o7x252 (P : Params) : Obj := ⟨(.type "code"), none, (.fields (List.toArray [(.str (Str.ofString "_keep_original_ws") 593), (.str (Str.ofString "_keep_original_ws") 594), (.str (Str.ofString "/claim/cut.py") 595), (.int (488) 0), (.int (2) 0), (.int (0) 0), (.int (0) 0), (.int (3) 0), (.ref 247), (.bool true), (.int (181) 0), (.ref 248), .none, (.ref 249), (.ref 250), (.ref 251), (.int (598) 0), (.int (488) 0), (.str (Str.ofString "/claim/cut.py") 599)])), List.toArray []⟩
noncomputable def o7x253 (P : Params) : Obj := ⟨(.type "function"), none, (.func ⟨(Str.ofString "_keep_original_ws"), (Str.ofString "_keep_original_ws"), fArgs (st 6), .stmts (fBody (st 6)), fScope (st 6), 3, [], .none, .none, (.str (docOf (fBody (st 6))) 600), (.str (Str.ofString "cpy313.difflib") 194), none, (.ref 252), .none, 0⟩), List.toArray []⟩
noncomputable def bt182 (P : Params) : BT := (.node (o4x119 P) (.node (o6x183 P) .nil .nil) (.node (o7x247 P) .nil .nil))
noncomputable def bt183 (P : Params) : BT := (.node (PySem.W.boot_o_7 P) (.node (o3x15 P) (.node (o3x31 P) (bt109 P) (bt110 P)) (.node (o3x47 P) (bt111 P) (bt112 P))) (.node (o3x23 P) (.node (o3x39 P) (bt113 P) (bt114 P)) (.node (o3x55 P) (bt115 P) (bt182 P))))
noncomputable def bt184 (P : Params) : BT := (.node (o4x123 P) (.node (o6x187 P) .nil .nil) (.node (o7x251 P) .nil .nil))
noncomputable def bt185 (P : Params) : BT := (.node (o0x11 P) (.node (o3x19 P) (.node (o3x35 P) (bt118 P) (bt119 P)) (.node (o3x51 P) (bt120 P) (bt121 P))) (.node (o3x27 P) (.node (o3x43 P) (bt122 P) (bt123 P)) (.node (o3x59 P) (bt124 P) (bt184 P))))
noncomputable def bt186 (P : Params) : BT := (.node (o4x121 P) (.node (o6x185 P) .nil .nil) (.node (o7x249 P) .nil .nil))
noncomputable def bt187 (P : Params) : BT := (.node (PySem.W.boot_o_9 P) (.node (o3x17 P) (.node (o3x33 P) (bt127 P) (bt128 P)) (.node (o3x49 P) (bt129 P) (bt130 P))) (.node (o3x25 P) (.node (o3x41 P) (bt131 P) (bt132 P)) (.node (o3x57 P) (bt133 P) (bt186 P))))
noncomputable def bt188 (P : Params) : BT := (.node (o4x125 P) (.node (o6x189 P) .nil .nil) (.node (o7x253 P) .nil .nil))
noncomputable def bt189 (P : Params) : BT := (.node (o0x13 P) (.node (o3x21 P) (.node (o3x37 P) (bt136 P) (bt137 P)) (.node (o3x53 P) (bt138 P) (bt139 P))) (.node (o3x29 P) (.node (o3x45 P) (bt140 P) (bt141 P)) (.node (o3x61 P) (bt142 P) (bt188 P))))
noncomputable def bt190 (P : Params) : BT := (.node (o4x120 P) (.node (o6x184 P) .nil .nil) (.node (o7x248 P) .nil .nil))
noncomputable def bt191 (P : Params) : BT := (.node (PySem.W.boot_o_8 P) (.node (o3x16 P) (.node (o3x32 P) (bt145 P) (bt146 P)) (.node (o3x48 P) (bt147 P) (bt148 P))) (.node (o3x24 P) (.node (o3x40 P) (bt149 P) (bt150 P)) (.node (o3x56 P) (bt151 P) (bt190 P))))
noncomputable def bt192 (P : Params) : BT := (.node (o4x124 P) (.node (o6x188 P) .nil .nil) (.node (o7x252 P) .nil .nil))
noncomputable def bt193 (P : Params) : BT := (.node (o7x12 P) (.node (o3x20 P) (.node (o3x36 P) (bt154 P) (bt155 P)) (.node (o3x52 P) (bt156 P) (bt157 P))) (.node (o3x28 P) (.node (o3x44 P) (bt158 P) (bt159 P)) (.node (o3x60 P) (bt160 P) (bt192 P))))
noncomputable def bt194 (P : Params) : BT := (.node (o4x122 P) (.node (o6x186 P) .nil .nil) (.node (o7x250 P) .nil .nil))
noncomputable def bt195 (P : Params) : BT := (.node (PySem.W.boot_o_10 P) (.node (o3x18 P) (.node (o3x34 P) (bt163 P) (bt164 P)) (.node (o3x50 P) (bt165 P) (bt166 P))) (.node (o3x26 P) (.node (o3x42 P) (bt167 P) (bt168 P)) (.node (o3x58 P) (bt169 P) (bt194 P))))
noncomputable def bt196 (P : Params) : BT := (.node (PySem.W.boot_o_0 P) (.node (PySem.W.boot_o_1 P) (.node (o7x3 P) (bt183 P) (bt185 P)) (.node (PySem.W.boot_o_5 P) (bt187 P) (bt189 P))) (.node (PySem.W.boot_o_2 P) (.node (PySem.W.boot_o_4 P) (bt191 P) (bt193 P)) (.node (PySem.W.boot_o_6 P) (bt195 P) (bt180 P))))
noncomputable def T7 (P : Params) : BT := bt196 P
noncomputable def S7 (w : World) (os : OsState) : SharedT := ⟨T7 w.params, 254, bootLife, #[], boot_drawn, 602, os⟩
noncomputable def o8x3 (P : Params) : Obj := ⟨(.type "dict"), none, (.dict (List.toArray [⟨PyData.keyHash P (Str.ofString "__name__"), (.str (Str.ofString "__name__") 165), (.str (Str.ofString "cpy313.difflib") 194)⟩, ⟨PyData.keyHash P (Str.ofString "__doc__"), (.str (Str.ofString "__doc__") 166), .none⟩, ⟨PyData.keyHash P (Str.ofString "__package__"), (.str (Str.ofString "__package__") 167), .none⟩, ⟨PyData.keyHash P (Str.ofString "__loader__"), (.str (Str.ofString "__loader__") 168), (.builtin "__main__.__loader__#opaque")⟩, ⟨PyData.keyHash P (Str.ofString "__spec__"), (.str (Str.ofString "__spec__") 169), .none⟩, ⟨PyData.keyHash P (Str.ofString "__annotations__"), (.str (Str.ofString "__annotations__") 170), (.ref 6)⟩, ⟨PyData.keyHash P (Str.ofString "__builtins__"), (.str (Str.ofString "__builtins__") 171), (.ref 4)⟩, ⟨PyData.keyHash P (Str.ofString "__file__"), (.str (Str.ofString "__file__") 173), (.str (Str.ofString "/claim/cut.py") 172)⟩, ⟨PyData.keyHash P (Str.ofString "__cached__"), (.str (Str.ofString "__cached__") 174), .none⟩, ⟨PyData.keyHash P (Str.ofString "_wall"), (.str (Str.ofString "_wall") 193), (.ref 21)⟩, ⟨PyData.keyHash P (Str.ofString "_tuplegetter"), (.str (Str.ofString "_tuplegetter") 252), (.ref 60)⟩, ⟨PyData.keyHash P (Str.ofString "Match"), (.str (Str.ofString "Match") 380), (.ref 135)⟩, ⟨PyData.keyHash P (Str.ofString "_calculate_ratio"), (.str (Str.ofString "_calculate_ratio") 388), (.ref 145)⟩, ⟨PyData.keyHash P (Str.ofString "SequenceMatcher"), (.str (Str.ofString "SequenceMatcher") 592), (.ref 242)⟩, ⟨PyData.keyHash P (Str.ofString "_keep_original_ws"), (.str (Str.ofString "_keep_original_ws") 601), (.ref 253)⟩, ⟨PyData.keyHash P (Str.ofString "Differ"), (.str (Str.ofString "Differ") 743), (.ref 313)⟩]) 16), List.toArray []⟩
noncomputable def o8x12 (P : Params) : Obj := ⟨.none, none, (.fields (List.toArray [(.int (1) 0), (.int (0) 0), (.ref 20), (.int (5) 0), (.int (0) 0), (.ref 27), (.int (23) 0), (.int (0) 0), (.ref 71), (.int (66) 0), (.int (0) 0), (.ref 144), (.int (70) 0), (.int (0) 0), (.ref 151), (.int (488) 0), (.int (0) 0), (.ref 252), (.int (491) 0), (.int (0) 0), (.ref 259)])), List.toArray []⟩
noncomputable def o8x254 (P : Params) : Obj := ⟨(.type "tuple"), none, (.seq (List.toArray []) 0), List.toArray []⟩
noncomputable def o8x255 (P : Params) : Obj := ⟨(.type "builtin_function_or_method"), none, (.fields (List.toArray [(.builtin "type.__prepare__"), (.type "type")])), List.toArray []⟩
noncomputable def o8x256 (P : Params) : Obj := ⟨(.type "dict"), none, (.dict (List.toArray [⟨PyData.keyHash P (Str.ofString "__module__"), (.str (Str.ofString "__module__") 609), (.str (Str.ofString "cpy313.difflib") 194)⟩, ⟨PyData.keyHash P (Str.ofString "__qualname__"), (.str (Str.ofString "__qualname__") 611), (.str (Str.ofString "Differ") 610)⟩, ⟨PyData.keyHash P (Str.ofString "__firstlineno__"), (.str (Str.ofString "__firstlineno__") 613), (.int (491) 612)⟩, ⟨PyData.keyHash P (Str.ofString "__doc__"), (.str (Str.ofString "__doc__") 615), (.str (docOf (cBody (st 7))) 614)⟩, ⟨PyData.keyHash P (Str.ofString "__init__"), (.str (Str.ofString "__init__") 626), (.ref 268)⟩, ⟨PyData.keyHash P (Str.ofString "compare"), (.str (Str.ofString "compare") 643), (.ref 275)⟩, ⟨PyData.keyHash P (Str.ofString "_dump"), (.str (Str.ofString "_dump") 656), (.ref 282)⟩, ⟨PyData.keyHash P (Str.ofString "_plain_replace"), (.str (Str.ofString "_plain_replace") 672), (.ref 289)⟩, ⟨PyData.keyHash P (Str.ofString "_fancy_replace"), (.str (Str.ofString "_fancy_replace") 708), (.ref 296)⟩, ⟨PyData.keyHash P (Str.ofString "_fancy_helper"), (.str (Str.ofString "_fancy_helper") 722), (.ref 303)⟩, ⟨PyData.keyHash P (Str.ofString "_qformat"), (.str (Str.ofString "_qformat") 734), (.ref 310)⟩, ⟨PyData.keyHash P (Str.ofString "__static_attributes__"), (.str (Str.ofString "__static_attributes__") 737), (.ref 311)⟩]) 12), List.toArray []⟩
noncomputable def o8x257 (P : Params) : Obj := ⟨(.type "tuple"), none, (.seq (List.toArray []) 0), List.toArray []⟩
noncomputable def o8x258 (P : Params) : Obj := ⟨.none, none, (.fields (List.toArray [(.int (577) 0), (.int (4) 0), (.ref 267), (.int (599) 0), (.int (4) 0), (.ref 274), (.int (638) 0), (.int (4) 0), (.ref 281), (.int (643) 0), (.int (4) 0), (.ref 288), (.int (654) 0), (.int (4) 0), (.ref 295), (.int (718) 0), (.int (4) 0), (.ref 302), (.int (729) 0), (.int (4) 0), (.ref 309)])), List.toArray []⟩
noncomputable def o8x259 (P : Params) : Obj := ⟨(.type "code"), none, (.fields (List.toArray [(.str (Str.ofString "Differ") 604), (.str (Str.ofString "Differ") 605), (.str (Str.ofString "/claim/cut.py") 606), (.int (491) 0), (.int (0) 0), (.int (0) 0), (.int (0) 0), (.int (0) 0), (.ref 257), (.bool false), (.int (181) 0), (.ref 258), .none, .none, .none, .none, (.int (607) 0), (.int (491) 0), (.str (Str.ofString "/claim/cut.py") 608)])), List.toArray []⟩
noncomputable def o8x260 (P : Params) : Obj := ⟨(.type "frame"), none, .plain, List.toArray [(some (.ref 259)), (some (.ref 3)), (some (.ref 256)), none, (some (.str (Str.ofString "cpy313.difflib") 194)), none, (some (.ref 0))]⟩
noncomputable def o8x261 (P : Params) : Obj := ⟨(.type "tuple"), none, (.seq (List.toArray [.none, .none]) 0), List.toArray []⟩
noncomputable def o8x262 (P : Params) : Obj := ⟨(.type "tuple"), none, (.seq (List.toArray []) 0), List.toArray []⟩
noncomputable def o8x263 (P : Params) : Obj := ⟨.none, none, (.fields (List.toArray [])), List.toArray []⟩
noncomputable def o8x264 (P : Params) : Obj := ⟨(.type "tuple"), none, (.seq (List.toArray [(.str (Str.ofString "self") 620), (.str (Str.ofString "linejunk") 621), (.str (Str.ofString "charjunk") 622)]) 0), List.toArray []⟩
noncomputable def o8x265 (P : Params) : Obj := ⟨(.type "tuple"), none, (.seq (List.toArray []) 0), List.toArray []⟩
noncomputable def o8x266 (P : Params) : Obj := ⟨.none, none, (.func ⟨(Str.ofString "__init__"), (Str.ofString "Differ.__init__"), fArgs (mt 7 1), .stmts (fBody (mt 7 1)), fScope (mt 7 1), 0, [], .none, .none, .none, .none, none, .none, .none, 0⟩), List.toArray []⟩
noncomputable def o8x267 (P : Params) : Obj := ⟨(.type "code"), none, (.fields (List.toArray [(.str (Str.ofString "__init__") 617), (.str (Str.ofString "Differ.__init__") 618), (.str (Str.ofString "/claim/cut.py") 619), (.int (577) 0), (.int (3) 0), (.int (0) 0), (.int (0) 0), (.int (3) 0), (.ref 262), (.bool true), (.int (181) 0), (.ref 263), .none, (.ref 264), (.ref 265), (.ref 266), (.int (623) 0), (.int (577) 0), (.str (Str.ofString "/claim/cut.py") 624)])), List.toArray []⟩
noncomputable def o8x268 (P : Params) : Obj := ⟨(.type "function"), none, (.func ⟨(Str.ofString "__init__"), (Str.ofString "Differ.__init__"), fArgs (mt 7 1), .stmts (fBody (mt 7 1)), fScope (mt 7 1), 3, [], (.ref 261), .none, (.str (docOf (fBody (mt 7 1))) 625), (.str (Str.ofString "cpy313.difflib") 194), none, (.ref 267), .none, 0⟩), List.toArray []⟩
noncomputable def o8x269 (P : Params) : Obj := ⟨(.type "tuple"), none, (.seq (List.toArray []) 0), List.toArray []⟩
noncomputable def o8x270 (P : Params) : Obj := ⟨.none, none, (.fields (List.toArray [])), List.toArray []⟩
noncomputable def o8x271 (P : Params) : Obj := ⟨(.type "tuple"), none, (.seq (List.toArray [(.str (Str.ofString "self") 630), (.str (Str.ofString "a") 631), (.str (Str.ofString "b") 632), (.str (Str.ofString "cruncher") 633), (.str (Str.ofString "tag") 634), (.str (Str.ofString "alo") 635), (.str (Str.ofString "ahi") 636), (.str (Str.ofString "blo") 637), (.str (Str.ofString "bhi") 638), (.str (Str.ofString "g") 639)]) 0), List.toArray []⟩
noncomputable def o8x272 (P : Params) : Obj := ⟨(.type "tuple"), none, (.seq (List.toArray []) 0), List.toArray []⟩
noncomputable def o8x273 (P : Params) : Obj := ⟨.none, none, (.func ⟨(Str.ofString "compare"), (Str.ofString "Differ.compare"), fArgs (mt 7 2), .stmts (fBody (mt 7 2)), fScope (mt 7 2), 0, [], .none, .none, .none, .none, none, .none, .none, 0⟩), List.toArray []⟩
noncomputable def o8x274 (P : Params) : Obj := ⟨(.type "code"), none, (.fields (List.toArray [(.str (Str.ofString "compare") 627), (.str (Str.ofString "Differ.compare") 628), (.str (Str.ofString "/claim/cut.py") 629), (.int (599) 0), (.int (3) 0), (.int (0) 0), (.int (0) 0), (.int (35) 0), (.ref 269), (.bool true), (.int (181) 0), (.ref 270), .none, (.ref 271), (.ref 272), (.ref 273), (.int (640) 0), (.int (599) 0), (.str (Str.ofString "/claim/cut.py") 641)])), List.toArray []⟩
noncomputable def o8x275 (P : Params) : Obj := ⟨(.type "function"), none, (.func ⟨(Str.ofString "compare"), (Str.ofString "Differ.compare"), fArgs (mt 7 2), .stmts (fBody (mt 7 2)), fScope (mt 7 2), 3, [], .none, .none, (.str (docOf (fBody (mt 7 2))) 642), (.str (Str.ofString "cpy313.difflib") 194), none, (.ref 274), .none, 0⟩), List.toArray []⟩
noncomputable def o8x276 (P : Params) : Obj := ⟨(.type "tuple"), none, (.seq (List.toArray []) 0), List.toArray []⟩
noncomputable def o8x277 (P : Params) : Obj := ⟨.none, none, (.fields (List.toArray [])), List.toArray []⟩
noncomputable def o8x278 (P : Params) : Obj := ⟨(.type "tuple"), none, (.seq (List.toArray [(.str (Str.ofString "self") 647), (.str (Str.ofString "tag") 648), (.str (Str.ofString "x") 649), (.str (Str.ofString "lo") 650), (.str (Str.ofString "hi") 651), (.str (Str.ofString "i") 652)]) 0), List.toArray []⟩
noncomputable def o8x279 (P : Params) : Obj := ⟨(.type "tuple"), none, (.seq (List.toArray []) 0), List.toArray []⟩
noncomputable def o8x280 (P : Params) : Obj := ⟨.none, none, (.func ⟨(Str.ofString "_dump"), (Str.ofString "Differ._dump"), fArgs (mt 7 3), .stmts (fBody (mt 7 3)), fScope (mt 7 3), 0, [], .none, .none, .none, .none, none, .none, .none, 0⟩), List.toArray []⟩
noncomputable def o8x281 (P : Params) : Obj := ⟨(.type "code"), none, (.fields (List.toArray [(.str (Str.ofString "_dump") 644), (.str (Str.ofString "Differ._dump") 645), (.str (Str.ofString "/claim/cut.py") 646), (.int (638) 0), (.int (5) 0), (.int (0) 0), (.int (0) 0), (.int (35) 0), (.ref 276), (.bool true), (.int (181) 0), (.ref 277), .none, (.ref 278), (.ref 279), (.ref 280), (.int (653) 0), (.int (638) 0), (.str (Str.ofString "/claim/cut.py") 654)])), List.toArray []⟩
noncomputable def o8x282 (P : Params) : Obj := ⟨(.type "function"), none, (.func ⟨(Str.ofString "_dump"), (Str.ofString "Differ._dump"), fArgs (mt 7 3), .stmts (fBody (mt 7 3)), fScope (mt 7 3), 3, [], .none, .none, (.str (Str.ofString "Generate comparison results for a same-tagged range.") 655), (.str (Str.ofString "cpy313.difflib") 194), none, (.ref 281), .none, 0⟩), List.toArray []⟩
noncomputable def o8x283 (P : Params) : Obj := ⟨(.type "tuple"), none, (.seq (List.toArray []) 0), List.toArray []⟩
noncomputable def o8x284 (P : Params) : Obj := ⟨.none, none, (.fields (List.toArray [])), List.toArray []⟩
noncomputable def o8x285 (P : Params) : Obj := ⟨(.type "tuple"), none, (.seq (List.toArray [(.str (Str.ofString "self") 660), (.str (Str.ofString "a") 661), (.str (Str.ofString "alo") 662), (.str (Str.ofString "ahi") 663), (.str (Str.ofString "b") 664), (.str (Str.ofString "blo") 665), (.str (Str.ofString "bhi") 666), (.str (Str.ofString "first") 667), (.str (Str.ofString "second") 668), (.str (Str.ofString "g") 669)]) 0), List.toArray []⟩
noncomputable def o8x286 (P : Params) : Obj := ⟨(.type "tuple"), none, (.seq (List.toArray []) 0), List.toArray []⟩
noncomputable def o8x287 (P : Params) : Obj := ⟨.none, none, (.func ⟨(Str.ofString "_plain_replace"), (Str.ofString "Differ._plain_replace"), fArgs (mt 7 4), .stmts (fBody (mt 7 4)), fScope (mt 7 4), 0, [], .none, .none, .none, .none, none, .none, .none, 0⟩), List.toArray []⟩
noncomputable def o8x288 (P : Params) : Obj := ⟨(.type "code"), none, (.fields (List.toArray [(.str (Str.ofString "_plain_replace") 657), (.str (Str.ofString "Differ._plain_replace") 658), (.str (Str.ofString "/claim/cut.py") 659), (.int (643) 0), (.int (7) 0), (.int (0) 0), (.int (0) 0), (.int (35) 0), (.ref 283), (.bool true), (.int (181) 0), (.ref 284), .none, (.ref 285), (.ref 286), (.ref 287), (.int (670) 0), (.int (643) 0), (.str (Str.ofString "/claim/cut.py") 671)])), List.toArray []⟩
noncomputable def o8x289 (P : Params) : Obj := ⟨(.type "function"), none, (.func ⟨(Str.ofString "_plain_replace"), (Str.ofString "Differ._plain_replace"), fArgs (mt 7 4), .stmts (fBody (mt 7 4)), fScope (mt 7 4), 3, [], .none, .none, .none, (.str (Str.ofString "cpy313.difflib") 194), none, (.ref 288), .none, 0⟩), List.toArray []⟩
noncomputable def o8x290 (P : Params) : Obj := ⟨(.type "tuple"), none, (.seq (List.toArray []) 0), List.toArray []⟩
noncomputable def o8x291 (P : Params) : Obj := ⟨.none, none, (.fields (List.toArray [])), List.toArray []⟩
noncomputable def o8x292 (P : Params) : Obj := ⟨(.type "tuple"), none, (.seq (List.toArray [(.str (Str.ofString "self") 676), (.str (Str.ofString "a") 677), (.str (Str.ofString "alo") 678), (.str (Str.ofString "ahi") 679), (.str (Str.ofString "b") 680), (.str (Str.ofString "blo") 681), (.str (Str.ofString "bhi") 682), (.str (Str.ofString "best_ratio") 683), (.str (Str.ofString "cutoff") 684), (.str (Str.ofString "cruncher") 685), (.str (Str.ofString "eqi") 686), (.str (Str.ofString "eqj") 687), (.str (Str.ofString "j") 688), (.str (Str.ofString "bj") 689), (.str (Str.ofString "i") 690), (.str (Str.ofString "ai") 691), (.str (Str.ofString "best_i") 692), (.str (Str.ofString "best_j") 693), (.str (Str.ofString "aelt") 694), (.str (Str.ofString "belt") 695), (.str (Str.ofString "atags") 696), (.str (Str.ofString "btags") 697), (.str (Str.ofString "tag") 698), (.str (Str.ofString "ai1") 699), (.str (Str.ofString "ai2") 700), (.str (Str.ofString "bj1") 701), (.str (Str.ofString "bj2") 702), (.str (Str.ofString "la") 703), (.str (Str.ofString "lb") 704)]) 0), List.toArray []⟩
noncomputable def o8x293 (P : Params) : Obj := ⟨(.type "tuple"), none, (.seq (List.toArray []) 0), List.toArray []⟩
noncomputable def o8x294 (P : Params) : Obj := ⟨.none, none, (.func ⟨(Str.ofString "_fancy_replace"), (Str.ofString "Differ._fancy_replace"), fArgs (mt 7 5), .stmts (fBody (mt 7 5)), fScope (mt 7 5), 0, [], .none, .none, .none, .none, none, .none, .none, 0⟩), List.toArray []⟩
noncomputable def o8x295 (P : Params) : Obj := ⟨(.type "code"), none, (.fields (List.toArray [(.str (Str.ofString "_fancy_replace") 673), (.str (Str.ofString "Differ._fancy_replace") 674), (.str (Str.ofString "/claim/cut.py") 675), (.int (654) 0), (.int (7) 0), (.int (0) 0), (.int (0) 0), (.int (35) 0), (.ref 290), (.bool true), (.int (181) 0), (.ref 291), .none, (.ref 292), (.ref 293), (.ref 294), (.int (705) 0), (.int (654) 0), (.str (Str.ofString "/claim/cut.py") 706)])), List.toArray []⟩
noncomputable def o8x296 (P : Params) : Obj := ⟨(.type "function"), none, (.func ⟨(Str.ofString "_fancy_replace"), (Str.ofString "Differ._fancy_replace"), fArgs (mt 7 5), .stmts (fBody (mt 7 5)), fScope (mt 7 5), 3, [], .none, .none, (.str (docOf (fBody (mt 7 5))) 707), (.str (Str.ofString "cpy313.difflib") 194), none, (.ref 295), .none, 0⟩), List.toArray []⟩
noncomputable def o8x297 (P : Params) : Obj := ⟨(.type "tuple"), none, (.seq (List.toArray []) 0), List.toArray []⟩
noncomputable def o8x298 (P : Params) : Obj := ⟨.none, none, (.fields (List.toArray [])), List.toArray []⟩
noncomputable def o8x299 (P : Params) : Obj := ⟨(.type "tuple"), none, (.seq (List.toArray [(.str (Str.ofString "self") 712), (.str (Str.ofString "a") 713), (.str (Str.ofString "alo") 714), (.str (Str.ofString "ahi") 715), (.str (Str.ofString "b") 716), (.str (Str.ofString "blo") 717), (.str (Str.ofString "bhi") 718), (.str (Str.ofString "g") 719)]) 0), List.toArray []⟩
noncomputable def o8x300 (P : Params) : Obj := ⟨(.type "tuple"), none, (.seq (List.toArray []) 0), List.toArray []⟩
noncomputable def o8x301 (P : Params) : Obj := ⟨.none, none, (.func ⟨(Str.ofString "_fancy_helper"), (Str.ofString "Differ._fancy_helper"), fArgs (mt 7 6), .stmts (fBody (mt 7 6)), fScope (mt 7 6), 0, [], .none, .none, .none, .none, none, .none, .none, 0⟩), List.toArray []⟩
noncomputable def o8x302 (P : Params) : Obj := ⟨(.type "code"), none, (.fields (List.toArray [(.str (Str.ofString "_fancy_helper") 709), (.str (Str.ofString "Differ._fancy_helper") 710), (.str (Str.ofString "/claim/cut.py") 711), (.int (718) 0), (.int (7) 0), (.int (0) 0), (.int (0) 0), (.int (35) 0), (.ref 297), (.bool true), (.int (181) 0), (.ref 298), .none, (.ref 299), (.ref 300), (.ref 301), (.int (720) 0), (.int (718) 0), (.str (Str.ofString "/claim/cut.py") 721)])), List.toArray []⟩
noncomputable def o8x303 (P : Params) : Obj := ⟨(.type "function"), none, (.func ⟨(Str.ofString "_fancy_helper"), (Str.ofString "Differ._fancy_helper"), fArgs (mt 7 6), .stmts (fBody (mt 7 6)), fScope (mt 7 6), 3, [], .none, .none, .none, (.str (Str.ofString "cpy313.difflib") 194), none, (.ref 302), .none, 0⟩), List.toArray []⟩
noncomputable def o8x304 (P : Params) : Obj := ⟨(.type "tuple"), none, (.seq (List.toArray []) 0), List.toArray []⟩
noncomputable def o8x305 (P : Params) : Obj := ⟨.none, none, (.fields (List.toArray [])), List.toArray []⟩
noncomputable def o8x306 (P : Params) : Obj := ⟨(.type "tuple"), none, (.seq (List.toArray [(.str (Str.ofString "self") 726), (.str (Str.ofString "aline") 727), (.str (Str.ofString "bline") 728), (.str (Str.ofString "atags") 729), (.str (Str.ofString "btags") 730)]) 0), List.toArray []⟩
noncomputable def o8x307 (P : Params) : Obj := ⟨(.type "tuple"), none, (.seq (List.toArray []) 0), List.toArray []⟩
noncomputable def o8x308 (P : Params) : Obj := ⟨.none, none, (.func ⟨(Str.ofString "_qformat"), (Str.ofString "Differ._qformat"), fArgs (mt 7 7), .stmts (fBody (mt 7 7)), fScope (mt 7 7), 0, [], .none, .none, .none, .none, none, .none, .none, 0⟩), List.toArray []⟩
noncomputable def o8x309 (P : Params) : Obj := ⟨(.type "code"), none, (.fields (List.toArray [(.str (Str.ofString "_qformat") 723), (.str (Str.ofString "Differ._qformat") 724), (.str (Str.ofString "/claim/cut.py") 725), (.int (729) 0), (.int (5) 0), (.int (0) 0), (.int (0) 0), (.int (35) 0), (.ref 304), (.bool true), (.int (181) 0), (.ref 305), .none, (.ref 306), (.ref 307), (.ref 308), (.int (731) 0), (.int (729) 0), (.str (Str.ofString "/claim/cut.py") 732)])), List.toArray []⟩
noncomputable def o8x310 (P : Params) : Obj := ⟨(.type "function"), none, (.func ⟨(Str.ofString "_qformat"), (Str.ofString "Differ._qformat"), fArgs (mt 7 7), .stmts (fBody (mt 7 7)), fScope (mt 7 7), 3, [], .none, .none, (.str (docOf (fBody (mt 7 7))) 733), (.str (Str.ofString "cpy313.difflib") 194), none, (.ref 309), .none, 0⟩), List.toArray []⟩
noncomputable def o8x311 (P : Params) : Obj := ⟨(.type "tuple"), none, (.seq (List.toArray [(.str (Str.ofString "charjunk") 735), (.str (Str.ofString "linejunk") 736)]) 0), List.toArray []⟩
noncomputable def o8x312 (P : Params) : Obj := ⟨(.type "dict"), none, (.dict (List.toArray [⟨PyData.keyHash P (Str.ofString "__module__"), (.str (Str.ofString "__module__") 609), (.str (Str.ofString "cpy313.difflib") 194)⟩, ⟨PyData.keyHash P (Str.ofString "__firstlineno__"), (.str (Str.ofString "__firstlineno__") 613), (.int (491) 612)⟩, ⟨PyData.keyHash P (Str.ofString "__doc__"), (.str (Str.ofString "__doc__") 615), (.str (docOf (cBody (st 7))) 614)⟩, ⟨PyData.keyHash P (Str.ofString "__init__"), (.str (Str.ofString "__init__") 626), (.ref 268)⟩, ⟨PyData.keyHash P (Str.ofString "compare"), (.str (Str.ofString "compare") 643), (.ref 275)⟩, ⟨PyData.keyHash P (Str.ofString "_dump"), (.str (Str.ofString "_dump") 656), (.ref 282)⟩, ⟨PyData.keyHash P (Str.ofString "_plain_replace"), (.str (Str.ofString "_plain_replace") 672), (.ref 289)⟩, ⟨PyData.keyHash P (Str.ofString "_fancy_replace"), (.str (Str.ofString "_fancy_replace") 708), (.ref 296)⟩, ⟨PyData.keyHash P (Str.ofString "_fancy_helper"), (.str (Str.ofString "_fancy_helper") 722), (.ref 303)⟩, ⟨PyData.keyHash P (Str.ofString "_qformat"), (.str (Str.ofString "_qformat") 734), (.ref 310)⟩, ⟨PyData.keyHash P (Str.ofString "__static_attributes__"), (.str (Str.ofString "__static_attributes__") 737), (.ref 311)⟩, ⟨PyData.keyHash P (Str.ofString "__dict__"), (.str (Str.ofString "__dict__") 739), (.ref 314)⟩, ⟨PyData.keyHash P (Str.ofString "__weakref__"), (.str (Str.ofString "__weakref__") 741), (.ref 315)⟩]) 3), List.toArray []⟩
noncomputable def o8x313 (P : Params) : Obj := ⟨(.type "type"), none, (.cls ⟨(Str.ofString "Differ"), [(.type "object")], [(.ref 313), (.type "object")], 312, (Str.ofString "Differ"), true, [], [], false, none, false⟩), List.toArray [none, none, (some (.str (Str.ofString "Differ") 602)), (some (.str (Str.ofString "Differ") 610)), (some (.builtin "object.__new__")), (some (.bool true))]⟩
noncomputable def o8x314 (P : Params) : Obj := ⟨(.type "getset_descriptor"), none, (.fields (List.toArray [(.str (Str.ofString "__dict__") 738), (.ref 313), (.builtin "function.__dict__"), (.builtin "function.__dict__#set")])), List.toArray []⟩
noncomputable def o8x315 (P : Params) : Obj := ⟨(.type "getset_descriptor"), none, (.fields (List.toArray [(.str (Str.ofString "__weakref__") 740), (.ref 313), (.builtin "ExceptionGroup.__weakref__"), .none])), List.toArray []⟩
noncomputable def o8x316 (P : Params) : Obj := ⟨(.type "super"), none, (.fields (List.toArray [(.ref 313), (.ref 313), (.ref 313)])), List.toArray []⟩
noncomputable def o8x317 (P : Params) : Obj := ⟨(.type "builtin_function_or_method"), none, (.fields (List.toArray [(.builtin "object.__init_subclass__"), (.ref 313)])), List.toArray []⟩
noncomputable def bt197 (P : Params) : BT := (.node (o3x63 P) (.node (o4x127 P) (.node (o8x255 P) .nil .nil) .nil) (.node (o6x191 P) .nil .nil))
noncomputable def bt198 (P : Params) : BT := (.node (o4x95 P) (.node (o6x159 P) (.node (o8x287 P) .nil .nil) .nil) (.node (o6x223 P) .nil .nil))
noncomputable def bt199 (P : Params) : BT := (.node (o4x79 P) (.node (o5x143 P) (.node (o8x271 P) .nil .nil) .nil) (.node (o6x207 P) .nil .nil))
noncomputable def bt200 (P : Params) : BT := (.node (o4x111 P) (.node (o6x175 P) (.node (o8x303 P) .nil .nil) .nil) (.node (o6x239 P) .nil .nil))
noncomputable def bt201 (P : Params) : BT := (.node (o4x71 P) (.node (o4x135 P) (.node (o8x263 P) .nil .nil) .nil) (.node (o6x199 P) .nil .nil))
noncomputable def bt202 (P : Params) : BT := (.node (o4x103 P) (.node (o6x167 P) (.node (o8x295 P) .nil .nil) .nil) (.node (o6x231 P) .nil .nil))
noncomputable def bt203 (P : Params) : BT := (.node (o4x87 P) (.node (o6x151 P) (.node (o8x279 P) .nil .nil) .nil) (.node (o6x215 P) .nil .nil))
noncomputable def bt204 (P : Params) : BT := (.node (o4x119 P) (.node (o6x183 P) (.node (o8x311 P) .nil .nil) .nil) (.node (o7x247 P) .nil .nil))
noncomputable def bt205 (P : Params) : BT := (.node (PySem.W.boot_o_7 P) (.node (o3x15 P) (.node (o3x31 P) (bt197 P) (bt198 P)) (.node (o3x47 P) (bt199 P) (bt200 P))) (.node (o3x23 P) (.node (o3x39 P) (bt201 P) (bt202 P)) (.node (o3x55 P) (bt203 P) (bt204 P))))
noncomputable def bt206 (P : Params) : BT := (.node (o4x67 P) (.node (o4x131 P) (.node (o8x259 P) .nil .nil) .nil) (.node (o6x195 P) .nil .nil))
noncomputable def bt207 (P : Params) : BT := (.node (o4x99 P) (.node (o6x163 P) (.node (o8x291 P) .nil .nil) .nil) (.node (o6x227 P) .nil .nil))
noncomputable def bt208 (P : Params) : BT := (.node (o4x83 P) (.node (o6x147 P) (.node (o8x275 P) .nil .nil) .nil) (.node (o6x211 P) .nil .nil))
noncomputable def bt209 (P : Params) : BT := (.node (o4x115 P) (.node (o6x179 P) (.node (o8x307 P) .nil .nil) .nil) (.node (o6x243 P) .nil .nil))
noncomputable def bt210 (P : Params) : BT := (.node (o4x75 P) (.node (o5x139 P) (.node (o8x267 P) .nil .nil) .nil) (.node (o6x203 P) .nil .nil))
noncomputable def bt211 (P : Params) : BT := (.node (o4x107 P) (.node (o6x171 P) (.node (o8x299 P) .nil .nil) .nil) (.node (o6x235 P) .nil .nil))
noncomputable def bt212 (P : Params) : BT := (.node (o4x91 P) (.node (o6x155 P) (.node (o8x283 P) .nil .nil) .nil) (.node (o6x219 P) .nil .nil))
noncomputable def bt213 (P : Params) : BT := (.node (o4x123 P) (.node (o6x187 P) (.node (o8x315 P) .nil .nil) .nil) (.node (o7x251 P) .nil .nil))
noncomputable def bt214 (P : Params) : BT := (.node (o0x11 P) (.node (o3x19 P) (.node (o3x35 P) (bt206 P) (bt207 P)) (.node (o3x51 P) (bt208 P) (bt209 P))) (.node (o3x27 P) (.node (o3x43 P) (bt210 P) (bt211 P)) (.node (o3x59 P) (bt212 P) (bt213 P))))
noncomputable def bt215 (P : Params) : BT := (.node (o4x65 P) (.node (o4x129 P) (.node (o8x257 P) .nil .nil) .nil) (.node (o6x193 P) .nil .nil))
noncomputable def bt216 (P : Params) : BT := (.node (o4x97 P) (.node (o6x161 P) (.node (o8x289 P) .nil .nil) .nil) (.node (o6x225 P) .nil .nil))
noncomputable def bt217 (P : Params) : BT := (.node (o4x81 P) (.node (o5x145 P) (.node (o8x273 P) .nil .nil) .nil) (.node (o6x209 P) .nil .nil))
noncomputable def bt218 (P : Params) : BT := (.node (o4x113 P) (.node (o6x177 P) (.node (o8x305 P) .nil .nil) .nil) (.node (o6x241 P) .nil .nil))
noncomputable def bt219 (P : Params) : BT := (.node (o4x73 P) (.node (o4x137 P) (.node (o8x265 P) .nil .nil) .nil) (.node (o6x201 P) .nil .nil))
noncomputable def bt220 (P : Params) : BT := (.node (o4x105 P) (.node (o6x169 P) (.node (o8x297 P) .nil .nil) .nil) (.node (o6x233 P) .nil .nil))
noncomputable def bt221 (P : Params) : BT := (.node (o4x89 P) (.node (o6x153 P) (.node (o8x281 P) .nil .nil) .nil) (.node (o6x217 P) .nil .nil))
noncomputable def bt222 (P : Params) : BT := (.node (o4x121 P) (.node (o6x185 P) (.node (o8x313 P) .nil .nil) .nil) (.node (o7x249 P) .nil .nil))
noncomputable def bt223 (P : Params) : BT := (.node (PySem.W.boot_o_9 P) (.node (o3x17 P) (.node (o3x33 P) (bt215 P) (bt216 P)) (.node (o3x49 P) (bt217 P) (bt218 P))) (.node (o3x25 P) (.node (o3x41 P) (bt219 P) (bt220 P)) (.node (o3x57 P) (bt221 P) (bt222 P))))
noncomputable def bt224 (P : Params) : BT := (.node (o4x69 P) (.node (o4x133 P) (.node (o8x261 P) .nil .nil) .nil) (.node (o6x197 P) .nil .nil))
noncomputable def bt225 (P : Params) : BT := (.node (o4x101 P) (.node (o6x165 P) (.node (o8x293 P) .nil .nil) .nil) (.node (o6x229 P) .nil .nil))
noncomputable def bt226 (P : Params) : BT := (.node (o4x85 P) (.node (o6x149 P) (.node (o8x277 P) .nil .nil) .nil) (.node (o6x213 P) .nil .nil))
noncomputable def bt227 (P : Params) : BT := (.node (o4x117 P) (.node (o6x181 P) (.node (o8x309 P) .nil .nil) .nil) (.node (o6x245 P) .nil .nil))
noncomputable def bt228 (P : Params) : BT := (.node (o4x77 P) (.node (o5x141 P) (.node (o8x269 P) .nil .nil) .nil) (.node (o6x205 P) .nil .nil))
noncomputable def bt229 (P : Params) : BT := (.node (o4x109 P) (.node (o6x173 P) (.node (o8x301 P) .nil .nil) .nil) (.node (o6x237 P) .nil .nil))
noncomputable def bt230 (P : Params) : BT := (.node (o4x93 P) (.node (o6x157 P) (.node (o8x285 P) .nil .nil) .nil) (.node (o6x221 P) .nil .nil))
noncomputable def bt231 (P : Params) : BT := (.node (o4x125 P) (.node (o6x189 P) (.node (o8x317 P) .nil .nil) .nil) (.node (o7x253 P) .nil .nil))
noncomputable def bt232 (P : Params) : BT := (.node (o0x13 P) (.node (o3x21 P) (.node (o3x37 P) (bt224 P) (bt225 P)) (.node (o3x53 P) (bt226 P) (bt227 P))) (.node (o3x29 P) (.node (o3x45 P) (bt228 P) (bt229 P)) (.node (o3x61 P) (bt230 P) (bt231 P))))
noncomputable def bt233 (P : Params) : BT := (.node (o3x64 P) (.node (o4x128 P) (.node (o8x256 P) .nil .nil) .nil) (.node (o6x192 P) .nil .nil))
noncomputable def bt234 (P : Params) : BT := (.node (o4x96 P) (.node (o6x160 P) (.node (o8x288 P) .nil .nil) .nil) (.node (o6x224 P) .nil .nil))
noncomputable def bt235 (P : Params) : BT := (.node (o4x80 P) (.node (o5x144 P) (.node (o8x272 P) .nil .nil) .nil) (.node (o6x208 P) .nil .nil))
noncomputable def bt236 (P : Params) : BT := (.node (o4x112 P) (.node (o6x176 P) (.node (o8x304 P) .nil .nil) .nil) (.node (o6x240 P) .nil .nil))
noncomputable def bt237 (P : Params) : BT := (.node (o4x72 P) (.node (o4x136 P) (.node (o8x264 P) .nil .nil) .nil) (.node (o6x200 P) .nil .nil))
noncomputable def bt238 (P : Params) : BT := (.node (o4x104 P) (.node (o6x168 P) (.node (o8x296 P) .nil .nil) .nil) (.node (o6x232 P) .nil .nil))
noncomputable def bt239 (P : Params) : BT := (.node (o4x88 P) (.node (o6x152 P) (.node (o8x280 P) .nil .nil) .nil) (.node (o6x216 P) .nil .nil))
noncomputable def bt240 (P : Params) : BT := (.node (o4x120 P) (.node (o6x184 P) (.node (o8x312 P) .nil .nil) .nil) (.node (o7x248 P) .nil .nil))
noncomputable def bt241 (P : Params) : BT := (.node (PySem.W.boot_o_8 P) (.node (o3x16 P) (.node (o3x32 P) (bt233 P) (bt234 P)) (.node (o3x48 P) (bt235 P) (bt236 P))) (.node (o3x24 P) (.node (o3x40 P) (bt237 P) (bt238 P)) (.node (o3x56 P) (bt239 P) (bt240 P))))
noncomputable def bt242 (P : Params) : BT := (.node (o4x68 P) (.node (o4x132 P) (.node (o8x260 P) .nil .nil) .nil) (.node (o6x196 P) .nil .nil))
noncomputable def bt243 (P : Params) : BT := (.node (o4x100 P) (.node (o6x164 P) (.node (o8x292 P) .nil .nil) .nil) (.node (o6x228 P) .nil .nil))
noncomputable def bt244 (P : Params) : BT := (.node (o4x84 P) (.node (o6x148 P) (.node (o8x276 P) .nil .nil) .nil) (.node (o6x212 P) .nil .nil))
noncomputable def bt245 (P : Params) : BT := (.node (o4x116 P) (.node (o6x180 P) (.node (o8x308 P) .nil .nil) .nil) (.node (o6x244 P) .nil .nil))
noncomputable def bt246 (P : Params) : BT := (.node (o4x76 P) (.node (o5x140 P) (.node (o8x268 P) .nil .nil) .nil) (.node (o6x204 P) .nil .nil))
noncomputable def bt247 (P : Params) : BT := (.node (o4x108 P) (.node (o6x172 P) (.node (o8x300 P) .nil .nil) .nil) (.node (o6x236 P) .nil .nil))
noncomputable def bt248 (P : Params) : BT := (.node (o4x92 P) (.node (o6x156 P) (.node (o8x284 P) .nil .nil) .nil) (.node (o6x220 P) .nil .nil))
noncomputable def bt249 (P : Params) : BT := (.node (o4x124 P) (.node (o6x188 P) (.node (o8x316 P) .nil .nil) .nil) (.node (o7x252 P) .nil .nil))
noncomputable def bt250 (P : Params) : BT := (.node (o8x12 P) (.node (o3x20 P) (.node (o3x36 P) (bt242 P) (bt243 P)) (.node (o3x52 P) (bt244 P) (bt245 P))) (.node (o3x28 P) (.node (o3x44 P) (bt246 P) (bt247 P)) (.node (o3x60 P) (bt248 P) (bt249 P))))
noncomputable def bt251 (P : Params) : BT := (.node (o4x66 P) (.node (o4x130 P) (.node (o8x258 P) .nil .nil) .nil) (.node (o6x194 P) .nil .nil))
noncomputable def bt252 (P : Params) : BT := (.node (o4x98 P) (.node (o6x162 P) (.node (o8x290 P) .nil .nil) .nil) (.node (o6x226 P) .nil .nil))
noncomputable def bt253 (P : Params) : BT := (.node (o4x82 P) (.node (o6x146 P) (.node (o8x274 P) .nil .nil) .nil) (.node (o6x210 P) .nil .nil))
noncomputable def bt254 (P : Params) : BT := (.node (o4x114 P) (.node (o6x178 P) (.node (o8x306 P) .nil .nil) .nil) (.node (o6x242 P) .nil .nil))
noncomputable def bt255 (P : Params) : BT := (.node (o4x74 P) (.node (o4x138 P) (.node (o8x266 P) .nil .nil) .nil) (.node (o6x202 P) .nil .nil))
noncomputable def bt256 (P : Params) : BT := (.node (o4x106 P) (.node (o6x170 P) (.node (o8x298 P) .nil .nil) .nil) (.node (o6x234 P) .nil .nil))
noncomputable def bt257 (P : Params) : BT := (.node (o4x90 P) (.node (o6x154 P) (.node (o8x282 P) .nil .nil) .nil) (.node (o6x218 P) .nil .nil))
noncomputable def bt258 (P : Params) : BT := (.node (o4x122 P) (.node (o6x186 P) (.node (o8x314 P) .nil .nil) .nil) (.node (o7x250 P) .nil .nil))
noncomputable def bt259 (P : Params) : BT := (.node (PySem.W.boot_o_10 P) (.node (o3x18 P) (.node (o3x34 P) (bt251 P) (bt252 P)) (.node (o3x50 P) (bt253 P) (bt254 P))) (.node (o3x26 P) (.node (o3x42 P) (bt255 P) (bt256 P)) (.node (o3x58 P) (bt257 P) (bt258 P))))
noncomputable def bt260 (P : Params) : BT := (.node (o4x70 P) (.node (o4x134 P) (.node (o8x262 P) .nil .nil) .nil) (.node (o6x198 P) .nil .nil))
noncomputable def bt261 (P : Params) : BT := (.node (o4x102 P) (.node (o6x166 P) (.node (o8x294 P) .nil .nil) .nil) (.node (o6x230 P) .nil .nil))
noncomputable def bt262 (P : Params) : BT := (.node (o4x86 P) (.node (o6x150 P) (.node (o8x278 P) .nil .nil) .nil) (.node (o6x214 P) .nil .nil))
noncomputable def bt263 (P : Params) : BT := (.node (o4x118 P) (.node (o6x182 P) (.node (o8x310 P) .nil .nil) .nil) (.node (o6x246 P) .nil .nil))
noncomputable def bt264 (P : Params) : BT := (.node (o4x78 P) (.node (o5x142 P) (.node (o8x270 P) .nil .nil) .nil) (.node (o6x206 P) .nil .nil))
noncomputable def bt265 (P : Params) : BT := (.node (o4x110 P) (.node (o6x174 P) (.node (o8x302 P) .nil .nil) .nil) (.node (o6x238 P) .nil .nil))
noncomputable def bt266 (P : Params) : BT := (.node (o4x94 P) (.node (o6x158 P) (.node (o8x286 P) .nil .nil) .nil) (.node (o6x222 P) .nil .nil))
noncomputable def bt267 (P : Params) : BT := (.node (o4x126 P) (.node (o6x190 P) .nil .nil) (.node (o8x254 P) .nil .nil))
noncomputable def bt268 (P : Params) : BT := (.node (o0x14 P) (.node (o3x22 P) (.node (o3x38 P) (bt260 P) (bt261 P)) (.node (o3x54 P) (bt262 P) (bt263 P))) (.node (o3x30 P) (.node (o3x46 P) (bt264 P) (bt265 P)) (.node (o3x62 P) (bt266 P) (bt267 P))))
noncomputable def bt269 (P : Params) : BT := (.node (PySem.W.boot_o_0 P) (.node (PySem.W.boot_o_1 P) (.node (o8x3 P) (bt205 P) (bt214 P)) (.node (PySem.W.boot_o_5 P) (bt223 P) (bt232 P))) (.node (PySem.W.boot_o_2 P) (.node (PySem.W.boot_o_4 P) (bt241 P) (bt250 P)) (.node (PySem.W.boot_o_6 P) (bt259 P) (bt268 P))))
noncomputable def T8 (P : Params) : BT := bt269 P
noncomputable def S8 (w : World) (os : OsState) : SharedT := ⟨T8 w.params, 318, bootLife, #[], boot_drawn, 744, os⟩
noncomputable def o12x3 (P : Params) : Obj := ⟨(.type "dict"), none, (.dict (List.toArray [⟨PyData.keyHash P (Str.ofString "__name__"), (.str (Str.ofString "__name__") 165), (.str (Str.ofString "law_dm0050_10") 756)⟩, ⟨PyData.keyHash P (Str.ofString "__doc__"), (.str (Str.ofString "__doc__") 166), .none⟩, ⟨PyData.keyHash P (Str.ofString "__package__"), (.str (Str.ofString "__package__") 167), .none⟩, ⟨PyData.keyHash P (Str.ofString "__loader__"), (.str (Str.ofString "__loader__") 168), (.builtin "__main__.__loader__#opaque")⟩, ⟨PyData.keyHash P (Str.ofString "__spec__"), (.str (Str.ofString "__spec__") 169), .none⟩, ⟨PyData.keyHash P (Str.ofString "__annotations__"), (.str (Str.ofString "__annotations__") 170), (.ref 6)⟩, ⟨PyData.keyHash P (Str.ofString "__builtins__"), (.str (Str.ofString "__builtins__") 171), (.ref 4)⟩, ⟨PyData.keyHash P (Str.ofString "__file__"), (.str (Str.ofString "__file__") 173), (.str (Str.ofString "/claim/cut.py") 172)⟩, ⟨PyData.keyHash P (Str.ofString "__cached__"), (.str (Str.ofString "__cached__") 174), .none⟩, ⟨PyData.keyHash P (Str.ofString "_wall"), (.str (Str.ofString "_wall") 193), (.ref 21)⟩, ⟨PyData.keyHash P (Str.ofString "_tuplegetter"), (.str (Str.ofString "_tuplegetter") 252), (.ref 60)⟩, ⟨PyData.keyHash P (Str.ofString "Match"), (.str (Str.ofString "Match") 380), (.ref 135)⟩, ⟨PyData.keyHash P (Str.ofString "_calculate_ratio"), (.str (Str.ofString "_calculate_ratio") 388), (.ref 145)⟩, ⟨PyData.keyHash P (Str.ofString "SequenceMatcher"), (.str (Str.ofString "SequenceMatcher") 592), (.ref 242)⟩, ⟨PyData.keyHash P (Str.ofString "_keep_original_ws"), (.str (Str.ofString "_keep_original_ws") 601), (.ref 253)⟩, ⟨PyData.keyHash P (Str.ofString "Differ"), (.str (Str.ofString "Differ") 743), (.ref 313)⟩, ⟨PyData.keyHash P (Str.ofString "restore"), (.str (Str.ofString "restore") 755), (.ref 324)⟩, ⟨PyData.keyHash P (Str.ofString "_law_blocks"), (.str (Str.ofString "_law_blocks") 767), (.ref 331)⟩, ⟨PyData.keyHash P (Str.ofString "law"), (.str (Str.ofString "law") 773), (.ref 336)⟩]) 19), List.toArray []⟩
noncomputable def o12x12 (P : Params) : Obj := ⟨.none, none, (.fields (List.toArray [(.int (1) 0), (.int (0) 0), (.ref 20), (.int (5) 0), (.int (0) 0), (.ref 27), (.int (23) 0), (.int (0) 0), (.ref 71), (.int (66) 0), (.int (0) 0), (.ref 144), (.int (70) 0), (.int (0) 0), (.ref 151), (.int (488) 0), (.int (0) 0), (.ref 252), (.int (491) 0), (.int (0) 0), (.ref 259), (.int (753) 0), (.int (0) 0), (.ref 323), (.int (784) 0), (.int (0) 0), (.ref 330), (.int (790) 0), (.int (0) 0), (.ref 335)])), List.toArray []⟩
noncomputable def o12x318 (P : Params) : Obj := ⟨(.type "tuple"), none, (.seq (List.toArray []) 0), List.toArray []⟩
noncomputable def o12x319 (P : Params) : Obj := ⟨.none, none, (.fields (List.toArray [])), List.toArray []⟩
noncomputable def o12x320 (P : Params) : Obj := ⟨(.type "tuple"), none, (.seq (List.toArray [(.str (Str.ofString "delta") 747), (.str (Str.ofString "which") 748), (.str (Str.ofString "tag") 749), (.str (Str.ofString "prefixes") 750), (.str (Str.ofString "line") 751)]) 0), List.toArray []⟩
noncomputable def o12x321 (P : Params) : Obj := ⟨(.type "tuple"), none, (.seq (List.toArray []) 0), List.toArray []⟩
noncomputable def o12x322 (P : Params) : Obj := ⟨.none, none, (.func ⟨(Str.ofString "restore"), (Str.ofString "restore"), fArgs (st 8), .stmts (fBody (st 8)), fScope (st 8), 0, [], .none, .none, .none, .none, none, .none, .none, 0⟩), List.toArray []⟩
noncomputable def o12x323 (P : Params) : Obj := ⟨(.type "code"), none, (.fields (List.toArray [(.str (Str.ofString "restore") 744), (.str (Str.ofString "restore") 745), (.str (Str.ofString "/claim/cut.py") 746), (.int (753) 0), (.int (2) 0), (.int (0) 0), (.int (0) 0), (.int (35) 0), (.ref 318), (.bool true), (.int (181) 0), (.ref 319), .none, (.ref 320), (.ref 321), (.ref 322), (.int (752) 0), (.int (753) 0), (.str (Str.ofString "/claim/cut.py") 753)])), List.toArray []⟩
noncomputable def o12x324 (P : Params) : Obj := ⟨(.type "function"), none, (.func ⟨(Str.ofString "restore"), (Str.ofString "restore"), fArgs (st 8), .stmts (fBody (st 8)), fScope (st 8), 3, [], .none, .none, (.str (docOf (fBody (st 8))) 754), (.str (Str.ofString "cpy313.difflib") 194), none, (.ref 323), .none, 0⟩), List.toArray []⟩
noncomputable def o12x325 (P : Params) : Obj := ⟨(.type "tuple"), none, (.seq (List.toArray []) 0), List.toArray []⟩
noncomputable def o12x326 (P : Params) : Obj := ⟨.none, none, (.fields (List.toArray [])), List.toArray []⟩
noncomputable def o12x327 (P : Params) : Obj := ⟨(.type "tuple"), none, (.seq (List.toArray [(.str (Str.ofString "script") 761), (.str (Str.ofString "blocks") 762), (.str (Str.ofString "heads") 763), (.str (Str.ofString "x") 764)]) 0), List.toArray []⟩
noncomputable def o12x328 (P : Params) : Obj := ⟨(.type "tuple"), none, (.seq (List.toArray []) 0), List.toArray []⟩
noncomputable def o12x329 (P : Params) : Obj := ⟨.none, none, (.func ⟨(Str.ofString "_law_blocks"), (Str.ofString "_law_blocks"), fArgs (st 10), .stmts (fBody (st 10)), fScope (st 10), 0, [], .none, .none, .none, .none, none, .none, .none, 0⟩), List.toArray []⟩
noncomputable def o12x330 (P : Params) : Obj := ⟨(.type "code"), none, (.fields (List.toArray [(.str (Str.ofString "_law_blocks") 758), (.str (Str.ofString "_law_blocks") 759), (.str (Str.ofString "/claim/cut.py") 760), (.int (784) 0), (.int (1) 0), (.int (0) 0), (.int (0) 0), (.int (3) 0), (.ref 325), (.bool true), (.int (181) 0), (.ref 326), .none, (.ref 327), (.ref 328), (.ref 329), (.int (765) 0), (.int (784) 0), (.str (Str.ofString "/claim/cut.py") 766)])), List.toArray []⟩
noncomputable def o12x331 (P : Params) : Obj := ⟨(.type "function"), none, (.func ⟨(Str.ofString "_law_blocks"), (Str.ofString "_law_blocks"), fArgs (st 10), .stmts (fBody (st 10)), fScope (st 10), 3, [], .none, .none, .none, (.str (Str.ofString "law_dm0050_10") 756), none, (.ref 330), .none, 0⟩), List.toArray []⟩
noncomputable def o12x332 (P : Params) : Obj := ⟨(.type "tuple"), none, (.seq (List.toArray []) 0), List.toArray []⟩
noncomputable def o12x333 (P : Params) : Obj := ⟨.none, none, (.fields (List.toArray [])), List.toArray []⟩
noncomputable def o12x334 (P : Params) : Obj := ⟨.none, none, (.func ⟨(Str.ofString "law"), (Str.ofString "law"), fArgs (st 11), .stmts (fBody (st 11)), fScope (st 11), 0, [], .none, .none, .none, .none, none, .none, .none, 0⟩), List.toArray []⟩
noncomputable def o12x335 (P : Params) : Obj := ⟨(.type "code"), none, (.fields (List.toArray [(.str (Str.ofString "law") 768), (.str (Str.ofString "law") 769), (.str (Str.ofString "/claim/cut.py") 770), (.int (790) 0), (.int (1) 0), (.int (0) 0), (.int (0) 0), (.int (3) 0), (.ref 332), (.bool true), (.int (181) 0), (.ref 333), .none, .none, .none, (.ref 334), (.int (771) 0), (.int (790) 0), (.str (Str.ofString "/claim/cut.py") 772)])), List.toArray []⟩
noncomputable def o12x336 (P : Params) : Obj := ⟨(.type "function"), none, (.func ⟨(Str.ofString "law"), (Str.ofString "law"), fArgs (st 11), .stmts (fBody (st 11)), fScope (st 11), 3, [], .none, .none, .none, (.str (Str.ofString "law_dm0050_10") 756), none, (.ref 335), .none, 0⟩), List.toArray []⟩
noncomputable def bt270 (P : Params) : BT := (.node (o3x63 P) (.node (o4x127 P) (.node (o8x255 P) .nil .nil) .nil) (.node (o6x191 P) (.node (o12x319 P) .nil .nil) .nil))
noncomputable def bt271 (P : Params) : BT := (.node (o4x79 P) (.node (o5x143 P) (.node (o8x271 P) .nil .nil) .nil) (.node (o6x207 P) (.node (o12x335 P) .nil .nil) .nil))
noncomputable def bt272 (P : Params) : BT := (.node (o4x71 P) (.node (o4x135 P) (.node (o8x263 P) .nil .nil) .nil) (.node (o6x199 P) (.node (o12x327 P) .nil .nil) .nil))
noncomputable def bt273 (P : Params) : BT := (.node (PySem.W.boot_o_7 P) (.node (o3x15 P) (.node (o3x31 P) (bt270 P) (bt198 P)) (.node (o3x47 P) (bt271 P) (bt200 P))) (.node (o3x23 P) (.node (o3x39 P) (bt272 P) (bt202 P)) (.node (o3x55 P) (bt203 P) (bt204 P))))
noncomputable def bt274 (P : Params) : BT := (.node (o4x67 P) (.node (o4x131 P) (.node (o8x259 P) .nil .nil) .nil) (.node (o6x195 P) (.node (o12x323 P) .nil .nil) .nil))
noncomputable def bt275 (P : Params) : BT := (.node (o4x75 P) (.node (o5x139 P) (.node (o8x267 P) .nil .nil) .nil) (.node (o6x203 P) (.node (o12x331 P) .nil .nil) .nil))
noncomputable def bt276 (P : Params) : BT := (.node (o0x11 P) (.node (o3x19 P) (.node (o3x35 P) (bt274 P) (bt207 P)) (.node (o3x51 P) (bt208 P) (bt209 P))) (.node (o3x27 P) (.node (o3x43 P) (bt275 P) (bt211 P)) (.node (o3x59 P) (bt212 P) (bt213 P))))
noncomputable def bt277 (P : Params) : BT := (.node (o4x65 P) (.node (o4x129 P) (.node (o8x257 P) .nil .nil) .nil) (.node (o6x193 P) (.node (o12x321 P) .nil .nil) .nil))
noncomputable def bt278 (P : Params) : BT := (.node (o4x73 P) (.node (o4x137 P) (.node (o8x265 P) .nil .nil) .nil) (.node (o6x201 P) (.node (o12x329 P) .nil .nil) .nil))
noncomputable def bt279 (P : Params) : BT := (.node (PySem.W.boot_o_9 P) (.node (o3x17 P) (.node (o3x33 P) (bt277 P) (bt216 P)) (.node (o3x49 P) (bt217 P) (bt218 P))) (.node (o3x25 P) (.node (o3x41 P) (bt278 P) (bt220 P)) (.node (o3x57 P) (bt221 P) (bt222 P))))
noncomputable def bt280 (P : Params) : BT := (.node (o4x69 P) (.node (o4x133 P) (.node (o8x261 P) .nil .nil) .nil) (.node (o6x197 P) (.node (o12x325 P) .nil .nil) .nil))
noncomputable def bt281 (P : Params) : BT := (.node (o4x77 P) (.node (o5x141 P) (.node (o8x269 P) .nil .nil) .nil) (.node (o6x205 P) (.node (o12x333 P) .nil .nil) .nil))
noncomputable def bt282 (P : Params) : BT := (.node (o0x13 P) (.node (o3x21 P) (.node (o3x37 P) (bt280 P) (bt225 P)) (.node (o3x53 P) (bt226 P) (bt227 P))) (.node (o3x29 P) (.node (o3x45 P) (bt281 P) (bt229 P)) (.node (o3x61 P) (bt230 P) (bt231 P))))
noncomputable def bt283 (P : Params) : BT := (.node (o3x64 P) (.node (o4x128 P) (.node (o8x256 P) .nil .nil) .nil) (.node (o6x192 P) (.node (o12x320 P) .nil .nil) .nil))
noncomputable def bt284 (P : Params) : BT := (.node (o4x80 P) (.node (o5x144 P) (.node (o8x272 P) .nil .nil) .nil) (.node (o6x208 P) (.node (o12x336 P) .nil .nil) .nil))
noncomputable def bt285 (P : Params) : BT := (.node (o4x72 P) (.node (o4x136 P) (.node (o8x264 P) .nil .nil) .nil) (.node (o6x200 P) (.node (o12x328 P) .nil .nil) .nil))
noncomputable def bt286 (P : Params) : BT := (.node (PySem.W.boot_o_8 P) (.node (o3x16 P) (.node (o3x32 P) (bt283 P) (bt234 P)) (.node (o3x48 P) (bt284 P) (bt236 P))) (.node (o3x24 P) (.node (o3x40 P) (bt285 P) (bt238 P)) (.node (o3x56 P) (bt239 P) (bt240 P))))
noncomputable def bt287 (P : Params) : BT := (.node (o4x68 P) (.node (o4x132 P) (.node (o8x260 P) .nil .nil) .nil) (.node (o6x196 P) (.node (o12x324 P) .nil .nil) .nil))
noncomputable def bt288 (P : Params) : BT := (.node (o4x76 P) (.node (o5x140 P) (.node (o8x268 P) .nil .nil) .nil) (.node (o6x204 P) (.node (o12x332 P) .nil .nil) .nil))
noncomputable def bt289 (P : Params) : BT := (.node (o12x12 P) (.node (o3x20 P) (.node (o3x36 P) (bt287 P) (bt243 P)) (.node (o3x52 P) (bt244 P) (bt245 P))) (.node (o3x28 P) (.node (o3x44 P) (bt288 P) (bt247 P)) (.node (o3x60 P) (bt248 P) (bt249 P))))
noncomputable def bt290 (P : Params) : BT := (.node (o4x66 P) (.node (o4x130 P) (.node (o8x258 P) .nil .nil) .nil) (.node (o6x194 P) (.node (o12x322 P) .nil .nil) .nil))
noncomputable def bt291 (P : Params) : BT := (.node (o4x74 P) (.node (o4x138 P) (.node (o8x266 P) .nil .nil) .nil) (.node (o6x202 P) (.node (o12x330 P) .nil .nil) .nil))
noncomputable def bt292 (P : Params) : BT := (.node (PySem.W.boot_o_10 P) (.node (o3x18 P) (.node (o3x34 P) (bt290 P) (bt252 P)) (.node (o3x50 P) (bt253 P) (bt254 P))) (.node (o3x26 P) (.node (o3x42 P) (bt291 P) (bt256 P)) (.node (o3x58 P) (bt257 P) (bt258 P))))
noncomputable def bt293 (P : Params) : BT := (.node (o4x70 P) (.node (o4x134 P) (.node (o8x262 P) .nil .nil) .nil) (.node (o6x198 P) (.node (o12x326 P) .nil .nil) .nil))
noncomputable def bt294 (P : Params) : BT := (.node (o4x78 P) (.node (o5x142 P) (.node (o8x270 P) .nil .nil) .nil) (.node (o6x206 P) (.node (o12x334 P) .nil .nil) .nil))
noncomputable def bt295 (P : Params) : BT := (.node (o4x126 P) (.node (o6x190 P) (.node (o12x318 P) .nil .nil) .nil) (.node (o8x254 P) .nil .nil))
noncomputable def bt296 (P : Params) : BT := (.node (o0x14 P) (.node (o3x22 P) (.node (o3x38 P) (bt293 P) (bt261 P)) (.node (o3x54 P) (bt262 P) (bt263 P))) (.node (o3x30 P) (.node (o3x46 P) (bt294 P) (bt265 P)) (.node (o3x62 P) (bt266 P) (bt295 P))))
noncomputable def bt297 (P : Params) : BT := (.node (PySem.W.boot_o_0 P) (.node (PySem.W.boot_o_1 P) (.node (o12x3 P) (bt273 P) (bt276 P)) (.node (PySem.W.boot_o_5 P) (bt279 P) (bt282 P))) (.node (PySem.W.boot_o_2 P) (.node (PySem.W.boot_o_4 P) (bt286 P) (bt289 P)) (.node (PySem.W.boot_o_6 P) (bt292 P) (bt296 P))))
noncomputable def T12 (P : Params) : BT := bt297 P
noncomputable def S12 (w : World) (os : OsState) : SharedT := ⟨T12 w.params, 337, bootLife, #[], boot_drawn, 774, os⟩
noncomputable def hp0 (P : Params) (r : List Obj) : List Obj := PySem.W.boot_o_0 P :: PySem.W.boot_o_1 P :: PySem.W.boot_o_2 P :: o12x3 P :: PySem.W.boot_o_4 P :: PySem.W.boot_o_5 P :: PySem.W.boot_o_6 P :: PySem.W.boot_o_7 P :: PySem.W.boot_o_8 P :: PySem.W.boot_o_9 P :: PySem.W.boot_o_10 P :: o0x11 P :: r
noncomputable def hp1 (P : Params) (r : List Obj) : List Obj := o12x12 P :: o0x13 P :: o0x14 P :: o3x15 P :: o3x16 P :: o3x17 P :: o3x18 P :: o3x19 P :: o3x20 P :: o3x21 P :: o3x22 P :: o3x23 P :: r
noncomputable def hp2 (P : Params) (r : List Obj) : List Obj := o3x24 P :: o3x25 P :: o3x26 P :: o3x27 P :: o3x28 P :: o3x29 P :: o3x30 P :: o3x31 P :: o3x32 P :: o3x33 P :: o3x34 P :: o3x35 P :: r
noncomputable def hp3 (P : Params) (r : List Obj) : List Obj := o3x36 P :: o3x37 P :: o3x38 P :: o3x39 P :: o3x40 P :: o3x41 P :: o3x42 P :: o3x43 P :: o3x44 P :: o3x45 P :: o3x46 P :: o3x47 P :: r
noncomputable def hp4 (P : Params) (r : List Obj) : List Obj := o3x48 P :: o3x49 P :: o3x50 P :: o3x51 P :: o3x52 P :: o3x53 P :: o3x54 P :: o3x55 P :: o3x56 P :: o3x57 P :: o3x58 P :: o3x59 P :: r
noncomputable def hp5 (P : Params) (r : List Obj) : List Obj := o3x60 P :: o3x61 P :: o3x62 P :: o3x63 P :: o3x64 P :: o4x65 P :: o4x66 P :: o4x67 P :: o4x68 P :: o4x69 P :: o4x70 P :: o4x71 P :: r
noncomputable def hp6 (P : Params) (r : List Obj) : List Obj := o4x72 P :: o4x73 P :: o4x74 P :: o4x75 P :: o4x76 P :: o4x77 P :: o4x78 P :: o4x79 P :: o4x80 P :: o4x81 P :: o4x82 P :: o4x83 P :: r
noncomputable def hp7 (P : Params) (r : List Obj) : List Obj := o4x84 P :: o4x85 P :: o4x86 P :: o4x87 P :: o4x88 P :: o4x89 P :: o4x90 P :: o4x91 P :: o4x92 P :: o4x93 P :: o4x94 P :: o4x95 P :: r
noncomputable def hp8 (P : Params) (r : List Obj) : List Obj := o4x96 P :: o4x97 P :: o4x98 P :: o4x99 P :: o4x100 P :: o4x101 P :: o4x102 P :: o4x103 P :: o4x104 P :: o4x105 P :: o4x106 P :: o4x107 P :: r
noncomputable def hp9 (P : Params) (r : List Obj) : List Obj := o4x108 P :: o4x109 P :: o4x110 P :: o4x111 P :: o4x112 P :: o4x113 P :: o4x114 P :: o4x115 P :: o4x116 P :: o4x117 P :: o4x118 P :: o4x119 P :: r
noncomputable def hp10 (P : Params) (r : List Obj) : List Obj := o4x120 P :: o4x121 P :: o4x122 P :: o4x123 P :: o4x124 P :: o4x125 P :: o4x126 P :: o4x127 P :: o4x128 P :: o4x129 P :: o4x130 P :: o4x131 P :: r
noncomputable def hp11 (P : Params) (r : List Obj) : List Obj := o4x132 P :: o4x133 P :: o4x134 P :: o4x135 P :: o4x136 P :: o4x137 P :: o4x138 P :: o5x139 P :: o5x140 P :: o5x141 P :: o5x142 P :: o5x143 P :: r
noncomputable def hp12 (P : Params) (r : List Obj) : List Obj := o5x144 P :: o5x145 P :: o6x146 P :: o6x147 P :: o6x148 P :: o6x149 P :: o6x150 P :: o6x151 P :: o6x152 P :: o6x153 P :: o6x154 P :: o6x155 P :: r
noncomputable def hp13 (P : Params) (r : List Obj) : List Obj := o6x156 P :: o6x157 P :: o6x158 P :: o6x159 P :: o6x160 P :: o6x161 P :: o6x162 P :: o6x163 P :: o6x164 P :: o6x165 P :: o6x166 P :: o6x167 P :: r
noncomputable def hp14 (P : Params) (r : List Obj) : List Obj := o6x168 P :: o6x169 P :: o6x170 P :: o6x171 P :: o6x172 P :: o6x173 P :: o6x174 P :: o6x175 P :: o6x176 P :: o6x177 P :: o6x178 P :: o6x179 P :: r
noncomputable def hp15 (P : Params) (r : List Obj) : List Obj := o6x180 P :: o6x181 P :: o6x182 P :: o6x183 P :: o6x184 P :: o6x185 P :: o6x186 P :: o6x187 P :: o6x188 P :: o6x189 P :: o6x190 P :: o6x191 P :: r
noncomputable def hp16 (P : Params) (r : List Obj) : List Obj := o6x192 P :: o6x193 P :: o6x194 P :: o6x195 P :: o6x196 P :: o6x197 P :: o6x198 P :: o6x199 P :: o6x200 P :: o6x201 P :: o6x202 P :: o6x203 P :: r
noncomputable def hp17 (P : Params) (r : List Obj) : List Obj := o6x204 P :: o6x205 P :: o6x206 P :: o6x207 P :: o6x208 P :: o6x209 P :: o6x210 P :: o6x211 P :: o6x212 P :: o6x213 P :: o6x214 P :: o6x215 P :: r
noncomputable def hp18 (P : Params) (r : List Obj) : List Obj := o6x216 P :: o6x217 P :: o6x218 P :: o6x219 P :: o6x220 P :: o6x221 P :: o6x222 P :: o6x223 P :: o6x224 P :: o6x225 P :: o6x226 P :: o6x227 P :: r
noncomputable def hp19 (P : Params) (r : List Obj) : List Obj := o6x228 P :: o6x229 P :: o6x230 P :: o6x231 P :: o6x232 P :: o6x233 P :: o6x234 P :: o6x235 P :: o6x236 P :: o6x237 P :: o6x238 P :: o6x239 P :: r
noncomputable def hp20 (P : Params) (r : List Obj) : List Obj := o6x240 P :: o6x241 P :: o6x242 P :: o6x243 P :: o6x244 P :: o6x245 P :: o6x246 P :: o7x247 P :: o7x248 P :: o7x249 P :: o7x250 P :: o7x251 P :: r
noncomputable def hp21 (P : Params) (r : List Obj) : List Obj := o7x252 P :: o7x253 P :: o8x254 P :: o8x255 P :: o8x256 P :: o8x257 P :: o8x258 P :: o8x259 P :: o8x260 P :: o8x261 P :: o8x262 P :: o8x263 P :: r
noncomputable def hp22 (P : Params) (r : List Obj) : List Obj := o8x264 P :: o8x265 P :: o8x266 P :: o8x267 P :: o8x268 P :: o8x269 P :: o8x270 P :: o8x271 P :: o8x272 P :: o8x273 P :: o8x274 P :: o8x275 P :: r
noncomputable def hp23 (P : Params) (r : List Obj) : List Obj := o8x276 P :: o8x277 P :: o8x278 P :: o8x279 P :: o8x280 P :: o8x281 P :: o8x282 P :: o8x283 P :: o8x284 P :: o8x285 P :: o8x286 P :: o8x287 P :: r
noncomputable def hp24 (P : Params) (r : List Obj) : List Obj := o8x288 P :: o8x289 P :: o8x290 P :: o8x291 P :: o8x292 P :: o8x293 P :: o8x294 P :: o8x295 P :: o8x296 P :: o8x297 P :: o8x298 P :: o8x299 P :: r
noncomputable def hp25 (P : Params) (r : List Obj) : List Obj := o8x300 P :: o8x301 P :: o8x302 P :: o8x303 P :: o8x304 P :: o8x305 P :: o8x306 P :: o8x307 P :: o8x308 P :: o8x309 P :: o8x310 P :: o8x311 P :: r
noncomputable def hp26 (P : Params) (r : List Obj) : List Obj := o8x312 P :: o8x313 P :: o8x314 P :: o8x315 P :: o8x316 P :: o8x317 P :: o12x318 P :: o12x319 P :: o12x320 P :: o12x321 P :: o12x322 P :: o12x323 P :: r
noncomputable def hp27 (P : Params) (r : List Obj) : List Obj := o12x324 P :: o12x325 P :: o12x326 P :: o12x327 P :: o12x328 P :: o12x329 P :: o12x330 P :: o12x331 P :: o12x332 P :: o12x333 P :: o12x334 P :: o12x335 P :: r
noncomputable def hp28 (P : Params) (r : List Obj) : List Obj := o12x336 P :: r
noncomputable def hq4 (P : Params) (r : List Obj) : List Obj := (hp24 P (hp25 P (hp26 P (hp27 P (hp28 P r)))))
noncomputable def hq3 (P : Params) (r : List Obj) : List Obj := (hp18 P (hp19 P (hp20 P (hp21 P (hp22 P (hp23 P r))))))
noncomputable def hq2 (P : Params) (r : List Obj) : List Obj := (hp12 P (hp13 P (hp14 P (hp15 P (hp16 P (hp17 P r))))))
noncomputable def hq1 (P : Params) (r : List Obj) : List Obj := (hp6 P (hp7 P (hp8 P (hp9 P (hp10 P (hp11 P r))))))
noncomputable def hq0 (P : Params) (r : List Obj) : List Obj := (hp0 P (hp1 P (hp2 P (hp3 P (hp4 P (hp5 P r))))))
noncomputable def heapF (P : Params) : Heap := ⟨Array.mk (hq0 P (hq1 P (hq2 P (hq3 P (hq4 P []))))), bootLife⟩
end Mine
end
section
open PySem PySem.W PyProof.Rows
set_option Elab.async false
set_option maxRecDepth 100000
set_option maxHeartbeats 0
namespace PySem.W.Fast
theorem kq16Str {α : Type} {F G : Str → Str → Str → Str → Str → Str → Str → Str → Str → Str → Str → Str → Str → Str → Str → Str → α} (h : F = G) {x0 x1 x2 x3 x4 x5 x6 x7 x8 x9 x10 x11 x12 x13 x14 x15 b0 b1 b2 b3 b4 b5 b6 b7 b8 b9 b10 b11 b12 b13 b14 b15 : Str} (e0 : x0 = b0) (e1 : x1 = b1) (e2 : x2 = b2) (e3 : x3 = b3) (e4 : x4 = b4) (e5 : x5 = b5) (e6 : x6 = b6) (e7 : x7 = b7) (e8 : x8 = b8) (e9 : x9 = b9) (e10 : x10 = b10) (e11 : x11 = b11) (e12 : x12 = b12) (e13 : x13 = b13) (e14 : x14 = b14) (e15 : x15 = b15) : F x0 x1 x2 x3 x4 x5 x6 x7 x8 x9 x10 x11 x12 x13 x14 x15 = G b0 b1 b2 b3 b4 b5 b6 b7 b8 b9 b10 b11 b12 b13 b14 b15 := congr (congr (congr (congr (congr (congr (congr (congr (congr (congr (congr (congr (congr (congr (congr (congr (h) e0) e1) e2) e3) e4) e5) e6) e7) e8) e9) e10) e11) e12) e13) e14) e15
theorem kq16String {α : Type} {F G : String → String → String → String → String → String → String → String → String → String → String → String → String → String → String → String → α} (h : F = G) {x0 x1 x2 x3 x4 x5 x6 x7 x8 x9 x10 x11 x12 x13 x14 x15 b0 b1 b2 b3 b4 b5 b6 b7 b8 b9 b10 b11 b12 b13 b14 b15 : String} (e0 : x0 = b0) (e1 : x1 = b1) (e2 : x2 = b2) (e3 : x3 = b3) (e4 : x4 = b4) (e5 : x5 = b5) (e6 : x6 = b6) (e7 : x7 = b7) (e8 : x8 = b8) (e9 : x9 = b9) (e10 : x10 = b10) (e11 : x11 = b11) (e12 : x12 = b12) (e13 : x13 = b13) (e14 : x14 = b14) (e15 : x15 = b15) : F x0 x1 x2 x3 x4 x5 x6 x7 x8 x9 x10 x11 x12 x13 x14 x15 = G b0 b1 b2 b3 b4 b5 b6 b7 b8 b9 b10 b11 b12 b13 b14 b15 := congr (congr (congr (congr (congr (congr (congr (congr (congr (congr (congr (congr (congr (congr (congr (congr (h) e0) e1) e2) e3) e4) e5) e6) e7) e8) e9) e10) e11) e12) e13) e14) e15
theorem oS (s : String) (ns : List Nat) (h : s = String.ofList (ns.map Char.ofNat)) (k : (ns.map Char.ofNat).map Char.toNat = ns) : Str.ofString s = Str.mk (Array.mk ns) := by rw [h, ofString_ofList, k]
noncomputable def kq1G : Str → Str → Str → Str → Str → Str → Str → Str → Str → Str → Str → Str → Str → Str → Str → Str → Str → Str → Str → Str → Str → Str → Str → Str → Str → Str → Str → Str → Str → Str → Str → Str → Str → Str → Str → Str → Str → Str → Str → Str → Str → Str → Str → Str → Str → Str → Str → Str → Str → Str → Str → Str → Str → Str → Str → Str → Str → Str → Str → Str → Str → Str → Str → Str → Str → Str → Str → Str → Str → Str → Str → Str → Str → Str → Str → Str → Str → Str → Str → Str → Str → Str → Str → Str → Str → Str → Str → Str → Str → Str → Str → Str → Str → Str → Str → Str → Str → Str → Str → Str → Str → Str → Str → Str → Str → Str → Str → Str → Str → Str → Str → Str → Str → Str → Str → Str → Str → Str → Str → Str → Str → Str → Str → Str → Str → Str → Str → Str → Str → Str → Str → Str → Str → Str → Str → Str → Str → Str → Str → Str → Str → Str → Str → Str → Str → Str → Str → Str → Str → Str → Str → Str → Str → Str → Str → Str → Str → Str → Str → Str → Str → Str → Str → Str → Str → Str → Str → Str → Str → Str → Str → Str → Str → Str → Str → Str → Str → Str → Str → Str → Str → Str → Str → Str → Str → Str → Str → Str → Str → Str → Str → Str → Str → Str → Str → Str → Str → Str → Str → Str → Str → Str → Str → Str → Str → Program := by
  refine (?f : (G : Str → Str → Str → Str → Str → Str → Str → Str → Str → Str → Str → Str → Str → Str → Str → Str → Str → Str → Str → Str → Str → Str → Str → Str → Str → Str → Str → Str → Str → Str → Str → Str → Str → Str → Str → Str → Str → Str → Str → Str → Str → Str → Str → Str → Str → Str → Str → Str → Str → Str → Str → Str → Str → Str → Str → Str → Str → Str → Str → Str → Str → Str → Str → Str → Str → Str → Str → Str → Str → Str → Str → Str → Str → Str → Str → Str → Str → Str → Str → Str → Str → Str → Str → Str → Str → Str → Str → Str → Str → Str → Str → Str → Str → Str → Str → Str → Str → Str → Str → Str → Str → Str → Str → Str → Str → Str → Str → Str → Str → Str → Str → Str → Str → Str → Str → Str → Str → Str → Str → Str → Str → Str → Str → Str → Str → Str → Str → Str → Str → Str → Str → Str → Str → Str → Str → Str → Str → Str → Str → Str → Str → Str → Str → Str → Str → Str → Str → Str → Str → Str → Str → Str → Str → Str → Str → Str → Str → Str → Str → Str → Str → Str → Str → Str → Str → Str → Str → Str → Str → Str → Str → Str → Str → Str → Str → Str → Str → Str → Str → Str → Str → Str → Str → Str → Str → Str → Str → Str → Str → Str → Str → Str → Str → Str → Str → Str → Str → Str → Str → Str → Str → Str → Str → Str → Str → Program) → G (Str.ofString "_wall") (Str.ofString "k") (Str.ofString "__name__") (Str.ofString "cpy313.difflib") (Str.ofString "_tuplegetter") (Str.ofString "__init__") (Str.ofString "self") (Str.ofString "index") (Str.ofString "doc") (Str.ofString "__doc__") (Str.ofString "__get__") (Str.ofString "obj") (Str.ofString "objtype") (Str.ofString "issubclass") (Str.ofString "type") (Str.ofString "tuple") (Str.ofString "__getitem__") (Str.ofString "__set__") (Str.ofString "value") (Str.ofString "AttributeError") (Str.ofString "__delete__") (Str.ofString "Match") (Str.ofString "__slots__") (Str.ofString "_fields") (Str.ofString "a") (Str.ofString "b") (Str.ofString "size") (Str.ofString "_field_defaults") (Str.ofString "__new__") (Str.ofString "_cls") (Str.ofString "_make") (Str.ofString "cls") (Str.ofString "iterable") (Str.ofString "result") (Str.ofString "len") (Str.ofString "TypeError") (Str.ofString "classmethod") (Str.ofString "_replace") (Str.ofString "kwds") (Str.ofString "__class__") (Str.ofString "__len__") (Str.ofString "pop") (Str.ofString "map") (Str.ofString "list") (Str.ofString "__replace__") (Str.ofString "__repr__") (Str.ofString "_asdict") (Str.ofString "__getnewargs__") (Str.ofString "__match_args__") (Str.ofString "_calculate_ratio") (Str.ofString "matches") (Str.ofString "length") (Str.ofString "SequenceMatcher") (Str.ofString "isjunk") (Str.ofString "autojunk") (Str.ofString "") (Str.ofString "set_seqs") (Str.ofString "set_seq1") (Str.ofString "set_seq2") (Str.ofString "matching_blocks") (Str.ofString "opcodes") (Str.ofString "fullbcount") (Str.ofString "_SequenceMatcher__chain_b") (Str.ofString "__chain_b") (Str.ofString "b2j") (Str.ofString "i") (Str.ofString "elt") (Str.ofString "enumerate") (Str.ofString "indices") (Str.ofString "setdefault") (Str.ofString "append") (Str.ofString "bjunk") (Str.ofString "junk") (Str.ofString "set") (Str.ofString "keys") (Str.ofString "add") (Str.ofString "bpopular") (Str.ofString "popular") (Str.ofString "n") (Str.ofString "ntest") (Str.ofString "idxs") (Str.ofString "items") (Str.ofString "find_longest_match") (Str.ofString "alo") (Str.ofString "ahi") (Str.ofString "blo") (Str.ofString "bhi") (Str.ofString "isbjunk") (Str.ofString "__contains__") (Str.ofString "besti") (Str.ofString "bestj") (Str.ofString "bestsize") (Str.ofString "j2len") (Str.ofString "nothing") (Str.ofString "range") (Str.ofString "j2lenget") (Str.ofString "get") (Str.ofString "newj2len") (Str.ofString "j") (Str.ofString "get_matching_blocks") (Str.ofString "la") (Str.ofString "lb") (Str.ofString "queue") (Str.ofString "x") (Str.ofString "sort") (Str.ofString "i1") (Str.ofString "j1") (Str.ofString "k1") (Str.ofString "non_adjacent") (Str.ofString "i2") (Str.ofString "j2") (Str.ofString "k2") (Str.ofString "get_opcodes") (Str.ofString "answer") (Str.ofString "ai") (Str.ofString "bj") (Str.ofString "tag") (Str.ofString "replace") (Str.ofString "delete") (Str.ofString "insert") (Str.ofString "equal") (Str.ofString "get_grouped_opcodes") (Str.ofString "ratio") (Str.ofString "sum") (Str.ofString "triple") (Str.ofString ".0") (Str.ofString "quick_ratio") (Str.ofString "avail") (Str.ofString "availhas") (Str.ofString "numb") (Str.ofString "real_quick_ratio") (Str.ofString "min") (Str.ofString "_keep_original_ws") (Str.ofString "s") (Str.ofString "tag_s") (Str.ofString "join") (Str.ofString "tag_c") (Str.ofString "c") (Str.ofString "isspace") (Str.ofString "zip") (Str.ofString "Differ") (Str.ofString "linejunk") (Str.ofString "charjunk") (Str.ofString "compare") (Str.ofString "cruncher") (Str.ofString "g") (Str.ofString "_fancy_replace") (Str.ofString "_dump") (Str.ofString "ValueError") (Str.ofString "lo") (Str.ofString "hi") (Str.ofString "_plain_replace") (Str.ofString "first") (Str.ofString "second") (Str.ofString "best_ratio") (Str.ofString "cutoff") (Str.ofString "eqi") (Str.ofString "eqj") (Str.ofString "best_i") (Str.ofString "best_j") (Str.ofString "_fancy_helper") (Str.ofString "aelt") (Str.ofString "belt") (Str.ofString "atags") (Str.ofString "btags") (Str.ofString "ai1") (Str.ofString "ai2") (Str.ofString "bj1") (Str.ofString "bj2") (Str.ofString "_qformat") (Str.ofString "aline") (Str.ofString "bline") (Str.ofString "rstrip") (Str.ofString "restore") (Str.ofString "delta") (Str.ofString "which") (Str.ofString "int") (Str.ofString "KeyError") (Str.ofString "prefixes") (Str.ofString "line") (Str.ofString "law_dm0050_10") (Str.ofString "_law_blocks") (Str.ofString "script") (Str.ofString "blocks") (Str.ofString "0") (Str.ofString "1") (Str.ofString "3") (Str.ofString "heads") (Str.ofString "str") (Str.ofString "law") (Str.ofString "rows") (Str.ofString "ends") (Str.ofString "block") (Str.ofString "differ") (Str.ofString "last") (Str.ofString "low") (Str.ofString "middle") (Str.ofString "high") (Str.ofString "left") (Str.ofString "right") (Str.ofString "behind") (Str.ofString "told") (Str.ofString "row") (Str.ofString "due") (Str.ofString "fast") = PySem.Challenge.pw_dm0050_10 → Str → Str → Str → Str → Str → Str → Str → Str → Str → Str → Str → Str → Str → Str → Str → Str → Str → Str → Str → Str → Str → Str → Str → Str → Str → Str → Str → Str → Str → Str → Str → Str → Str → Str → Str → Str → Str → Str → Str → Str → Str → Str → Str → Str → Str → Str → Str → Str → Str → Str → Str → Str → Str → Str → Str → Str → Str → Str → Str → Str → Str → Str → Str → Str → Str → Str → Str → Str → Str → Str → Str → Str → Str → Str → Str → Str → Str → Str → Str → Str → Str → Str → Str → Str → Str → Str → Str → Str → Str → Str → Str → Str → Str → Str → Str → Str → Str → Str → Str → Str → Str → Str → Str → Str → Str → Str → Str → Str → Str → Str → Str → Str → Str → Str → Str → Str → Str → Str → Str → Str → Str → Str → Str → Str → Str → Str → Str → Str → Str → Str → Str → Str → Str → Str → Str → Str → Str → Str → Str → Str → Str → Str → Str → Str → Str → Str → Str → Str → Str → Str → Str → Str → Str → Str → Str → Str → Str → Str → Str → Str → Str → Str → Str → Str → Str → Str → Str → Str → Str → Str → Str → Str → Str → Str → Str → Str → Str → Str → Str → Str → Str → Str → Str → Str → Str → Str → Str → Str → Str → Str → Str → Str → Str → Str → Str → Str → Str → Str → Str → Str → Str → Str → Str → Str → Str → Program) ?G ?h
  case h =>
    delta PySem.Challenge.pw_dm0050_10
    generalize (Str.ofString "_wall") = x0, (Str.ofString "k") = x1, (Str.ofString "__name__") = x2, (Str.ofString "cpy313.difflib") = x3, (Str.ofString "_tuplegetter") = x4, (Str.ofString "__init__") = x5, (Str.ofString "self") = x6, (Str.ofString "index") = x7, (Str.ofString "doc") = x8, (Str.ofString "__doc__") = x9, (Str.ofString "__get__") = x10, (Str.ofString "obj") = x11, (Str.ofString "objtype") = x12, (Str.ofString "issubclass") = x13, (Str.ofString "type") = x14, (Str.ofString "tuple") = x15, (Str.ofString "__getitem__") = x16, (Str.ofString "__set__") = x17, (Str.ofString "value") = x18, (Str.ofString "AttributeError") = x19, (Str.ofString "__delete__") = x20, (Str.ofString "Match") = x21, (Str.ofString "__slots__") = x22, (Str.ofString "_fields") = x23, (Str.ofString "a") = x24, (Str.ofString "b") = x25, (Str.ofString "size") = x26, (Str.ofString "_field_defaults") = x27, (Str.ofString "__new__") = x28, (Str.ofString "_cls") = x29, (Str.ofString "_make") = x30, (Str.ofString "cls") = x31, (Str.ofString "iterable") = x32, (Str.ofString "result") = x33, (Str.ofString "len") = x34, (Str.ofString "TypeError") = x35, (Str.ofString "classmethod") = x36, (Str.ofString "_replace") = x37, (Str.ofString "kwds") = x38, (Str.ofString "__class__") = x39, (Str.ofString "__len__") = x40, (Str.ofString "pop") = x41, (Str.ofString "map") = x42, (Str.ofString "list") = x43, (Str.ofString "__replace__") = x44, (Str.ofString "__repr__") = x45, (Str.ofString "_asdict") = x46, (Str.ofString "__getnewargs__") = x47, (Str.ofString "__match_args__") = x48, (Str.ofString "_calculate_ratio") = x49, (Str.ofString "matches") = x50, (Str.ofString "length") = x51, (Str.ofString "SequenceMatcher") = x52, (Str.ofString "isjunk") = x53, (Str.ofString "autojunk") = x54, (Str.ofString "") = x55, (Str.ofString "set_seqs") = x56, (Str.ofString "set_seq1") = x57, (Str.ofString "set_seq2") = x58, (Str.ofString "matching_blocks") = x59, (Str.ofString "opcodes") = x60, (Str.ofString "fullbcount") = x61, (Str.ofString "_SequenceMatcher__chain_b") = x62, (Str.ofString "__chain_b") = x63, (Str.ofString "b2j") = x64, (Str.ofString "i") = x65, (Str.ofString "elt") = x66, (Str.ofString "enumerate") = x67, (Str.ofString "indices") = x68, (Str.ofString "setdefault") = x69, (Str.ofString "append") = x70, (Str.ofString "bjunk") = x71, (Str.ofString "junk") = x72, (Str.ofString "set") = x73, (Str.ofString "keys") = x74, (Str.ofString "add") = x75, (Str.ofString "bpopular") = x76, (Str.ofString "popular") = x77, (Str.ofString "n") = x78, (Str.ofString "ntest") = x79, (Str.ofString "idxs") = x80, (Str.ofString "items") = x81, (Str.ofString "find_longest_match") = x82, (Str.ofString "alo") = x83, (Str.ofString "ahi") = x84, (Str.ofString "blo") = x85, (Str.ofString "bhi") = x86, (Str.ofString "isbjunk") = x87, (Str.ofString "__contains__") = x88, (Str.ofString "besti") = x89, (Str.ofString "bestj") = x90, (Str.ofString "bestsize") = x91, (Str.ofString "j2len") = x92, (Str.ofString "nothing") = x93, (Str.ofString "range") = x94, (Str.ofString "j2lenget") = x95, (Str.ofString "get") = x96, (Str.ofString "newj2len") = x97, (Str.ofString "j") = x98, (Str.ofString "get_matching_blocks") = x99, (Str.ofString "la") = x100, (Str.ofString "lb") = x101, (Str.ofString "queue") = x102, (Str.ofString "x") = x103, (Str.ofString "sort") = x104, (Str.ofString "i1") = x105, (Str.ofString "j1") = x106, (Str.ofString "k1") = x107, (Str.ofString "non_adjacent") = x108, (Str.ofString "i2") = x109, (Str.ofString "j2") = x110, (Str.ofString "k2") = x111, (Str.ofString "get_opcodes") = x112, (Str.ofString "answer") = x113, (Str.ofString "ai") = x114, (Str.ofString "bj") = x115, (Str.ofString "tag") = x116, (Str.ofString "replace") = x117, (Str.ofString "delete") = x118, (Str.ofString "insert") = x119, (Str.ofString "equal") = x120, (Str.ofString "get_grouped_opcodes") = x121, (Str.ofString "ratio") = x122, (Str.ofString "sum") = x123, (Str.ofString "triple") = x124, (Str.ofString ".0") = x125, (Str.ofString "quick_ratio") = x126, (Str.ofString "avail") = x127, (Str.ofString "availhas") = x128, (Str.ofString "numb") = x129, (Str.ofString "real_quick_ratio") = x130, (Str.ofString "min") = x131, (Str.ofString "_keep_original_ws") = x132, (Str.ofString "s") = x133, (Str.ofString "tag_s") = x134, (Str.ofString "join") = x135, (Str.ofString "tag_c") = x136, (Str.ofString "c") = x137, (Str.ofString "isspace") = x138, (Str.ofString "zip") = x139, (Str.ofString "Differ") = x140, (Str.ofString "linejunk") = x141, (Str.ofString "charjunk") = x142, (Str.ofString "compare") = x143, (Str.ofString "cruncher") = x144, (Str.ofString "g") = x145, (Str.ofString "_fancy_replace") = x146, (Str.ofString "_dump") = x147, (Str.ofString "ValueError") = x148, (Str.ofString "lo") = x149, (Str.ofString "hi") = x150, (Str.ofString "_plain_replace") = x151, (Str.ofString "first") = x152, (Str.ofString "second") = x153, (Str.ofString "best_ratio") = x154, (Str.ofString "cutoff") = x155, (Str.ofString "eqi") = x156, (Str.ofString "eqj") = x157, (Str.ofString "best_i") = x158, (Str.ofString "best_j") = x159, (Str.ofString "_fancy_helper") = x160, (Str.ofString "aelt") = x161, (Str.ofString "belt") = x162, (Str.ofString "atags") = x163, (Str.ofString "btags") = x164, (Str.ofString "ai1") = x165, (Str.ofString "ai2") = x166, (Str.ofString "bj1") = x167, (Str.ofString "bj2") = x168, (Str.ofString "_qformat") = x169, (Str.ofString "aline") = x170, (Str.ofString "bline") = x171, (Str.ofString "rstrip") = x172, (Str.ofString "restore") = x173, (Str.ofString "delta") = x174, (Str.ofString "which") = x175, (Str.ofString "int") = x176, (Str.ofString "KeyError") = x177, (Str.ofString "prefixes") = x178, (Str.ofString "line") = x179, (Str.ofString "law_dm0050_10") = x180, (Str.ofString "_law_blocks") = x181, (Str.ofString "script") = x182, (Str.ofString "blocks") = x183, (Str.ofString "0") = x184, (Str.ofString "1") = x185, (Str.ofString "3") = x186, (Str.ofString "heads") = x187, (Str.ofString "str") = x188, (Str.ofString "law") = x189, (Str.ofString "rows") = x190, (Str.ofString "ends") = x191, (Str.ofString "block") = x192, (Str.ofString "differ") = x193, (Str.ofString "last") = x194, (Str.ofString "low") = x195, (Str.ofString "middle") = x196, (Str.ofString "high") = x197, (Str.ofString "left") = x198, (Str.ofString "right") = x199, (Str.ofString "behind") = x200, (Str.ofString "told") = x201, (Str.ofString "row") = x202, (Str.ofString "due") = x203, (Str.ofString "fast") = x204
    exact rfl
  case f => exact fun G _ => G
noncomputable def kq1F := congr (congr (congr (congr (congr (congr (congr (congr (congr (congr (congr (congr (congr (kq16Str (kq16Str (kq16Str (kq16Str (kq16Str (kq16Str (kq16Str (kq16Str (kq16Str (kq16Str (kq16Str (kq16Str ((rfl : kq1G = kq1G))
    (oS "_wall" [95,119,97,108,108] (by kernel_rfl) (by kernel_rfl))
    (oS "k" [107] (by kernel_rfl) (by kernel_rfl))
    (oS "__name__" [95,95,110,97,109,101,95,95] (by kernel_rfl) (by kernel_rfl))
    (oS "cpy313.difflib" [99,112,121,51,49,51,46,100,105,102,102,108,105,98] (by kernel_rfl) (by kernel_rfl))
    (oS "_tuplegetter" [95,116,117,112,108,101,103,101,116,116,101,114] (by kernel_rfl) (by kernel_rfl))
    (oS "__init__" [95,95,105,110,105,116,95,95] (by kernel_rfl) (by kernel_rfl))
    (oS "self" [115,101,108,102] (by kernel_rfl) (by kernel_rfl))
    (oS "index" [105,110,100,101,120] (by kernel_rfl) (by kernel_rfl))
    (oS "doc" [100,111,99] (by kernel_rfl) (by kernel_rfl))
    (oS "__doc__" [95,95,100,111,99,95,95] (by kernel_rfl) (by kernel_rfl))
    (oS "__get__" [95,95,103,101,116,95,95] (by kernel_rfl) (by kernel_rfl))
    (oS "obj" [111,98,106] (by kernel_rfl) (by kernel_rfl))
    (oS "objtype" [111,98,106,116,121,112,101] (by kernel_rfl) (by kernel_rfl))
    (oS "issubclass" [105,115,115,117,98,99,108,97,115,115] (by kernel_rfl) (by kernel_rfl))
    (oS "type" [116,121,112,101] (by kernel_rfl) (by kernel_rfl))
    (oS "tuple" [116,117,112,108,101] (by kernel_rfl) (by kernel_rfl)))
    (oS "__getitem__" [95,95,103,101,116,105,116,101,109,95,95] (by kernel_rfl) (by kernel_rfl))
    (oS "__set__" [95,95,115,101,116,95,95] (by kernel_rfl) (by kernel_rfl))
    (oS "value" [118,97,108,117,101] (by kernel_rfl) (by kernel_rfl))
    (oS "AttributeError" [65,116,116,114,105,98,117,116,101,69,114,114,111,114] (by kernel_rfl) (by kernel_rfl))
    (oS "__delete__" [95,95,100,101,108,101,116,101,95,95] (by kernel_rfl) (by kernel_rfl))
    (oS "Match" [77,97,116,99,104] (by kernel_rfl) (by kernel_rfl))
    (oS "__slots__" [95,95,115,108,111,116,115,95,95] (by kernel_rfl) (by kernel_rfl))
    (oS "_fields" [95,102,105,101,108,100,115] (by kernel_rfl) (by kernel_rfl))
    (oS "a" [97] (by kernel_rfl) (by kernel_rfl))
    (oS "b" [98] (by kernel_rfl) (by kernel_rfl))
    (oS "size" [115,105,122,101] (by kernel_rfl) (by kernel_rfl))
    (oS "_field_defaults" [95,102,105,101,108,100,95,100,101,102,97,117,108,116,115] (by kernel_rfl) (by kernel_rfl))
    (oS "__new__" [95,95,110,101,119,95,95] (by kernel_rfl) (by kernel_rfl))
    (oS "_cls" [95,99,108,115] (by kernel_rfl) (by kernel_rfl))
    (oS "_make" [95,109,97,107,101] (by kernel_rfl) (by kernel_rfl))
    (oS "cls" [99,108,115] (by kernel_rfl) (by kernel_rfl)))
    (oS "iterable" [105,116,101,114,97,98,108,101] (by kernel_rfl) (by kernel_rfl))
    (oS "result" [114,101,115,117,108,116] (by kernel_rfl) (by kernel_rfl))
    (oS "len" [108,101,110] (by kernel_rfl) (by kernel_rfl))
    (oS "TypeError" [84,121,112,101,69,114,114,111,114] (by kernel_rfl) (by kernel_rfl))
    (oS "classmethod" [99,108,97,115,115,109,101,116,104,111,100] (by kernel_rfl) (by kernel_rfl))
    (oS "_replace" [95,114,101,112,108,97,99,101] (by kernel_rfl) (by kernel_rfl))
    (oS "kwds" [107,119,100,115] (by kernel_rfl) (by kernel_rfl))
    (oS "__class__" [95,95,99,108,97,115,115,95,95] (by kernel_rfl) (by kernel_rfl))
    (oS "__len__" [95,95,108,101,110,95,95] (by kernel_rfl) (by kernel_rfl))
    (oS "pop" [112,111,112] (by kernel_rfl) (by kernel_rfl))
    (oS "map" [109,97,112] (by kernel_rfl) (by kernel_rfl))
    (oS "list" [108,105,115,116] (by kernel_rfl) (by kernel_rfl))
    (oS "__replace__" [95,95,114,101,112,108,97,99,101,95,95] (by kernel_rfl) (by kernel_rfl))
    (oS "__repr__" [95,95,114,101,112,114,95,95] (by kernel_rfl) (by kernel_rfl))
    (oS "_asdict" [95,97,115,100,105,99,116] (by kernel_rfl) (by kernel_rfl))
    (oS "__getnewargs__" [95,95,103,101,116,110,101,119,97,114,103,115,95,95] (by kernel_rfl) (by kernel_rfl)))
    (oS "__match_args__" [95,95,109,97,116,99,104,95,97,114,103,115,95,95] (by kernel_rfl) (by kernel_rfl))
    (oS "_calculate_ratio" [95,99,97,108,99,117,108,97,116,101,95,114,97,116,105,111] (by kernel_rfl) (by kernel_rfl))
    (oS "matches" [109,97,116,99,104,101,115] (by kernel_rfl) (by kernel_rfl))
    (oS "length" [108,101,110,103,116,104] (by kernel_rfl) (by kernel_rfl))
    (oS "SequenceMatcher" [83,101,113,117,101,110,99,101,77,97,116,99,104,101,114] (by kernel_rfl) (by kernel_rfl))
    (oS "isjunk" [105,115,106,117,110,107] (by kernel_rfl) (by kernel_rfl))
    (oS "autojunk" [97,117,116,111,106,117,110,107] (by kernel_rfl) (by kernel_rfl))
    (oS "" [] (by kernel_rfl) (by kernel_rfl))
    (oS "set_seqs" [115,101,116,95,115,101,113,115] (by kernel_rfl) (by kernel_rfl))
    (oS "set_seq1" [115,101,116,95,115,101,113,49] (by kernel_rfl) (by kernel_rfl))
    (oS "set_seq2" [115,101,116,95,115,101,113,50] (by kernel_rfl) (by kernel_rfl))
    (oS "matching_blocks" [109,97,116,99,104,105,110,103,95,98,108,111,99,107,115] (by kernel_rfl) (by kernel_rfl))
    (oS "opcodes" [111,112,99,111,100,101,115] (by kernel_rfl) (by kernel_rfl))
    (oS "fullbcount" [102,117,108,108,98,99,111,117,110,116] (by kernel_rfl) (by kernel_rfl))
    (oS "_SequenceMatcher__chain_b" [95,83,101,113,117,101,110,99,101,77,97,116,99,104,101,114,95,95,99,104,97,105,110,95,98] (by kernel_rfl) (by kernel_rfl))
    (oS "__chain_b" [95,95,99,104,97,105,110,95,98] (by kernel_rfl) (by kernel_rfl)))
    (oS "b2j" [98,50,106] (by kernel_rfl) (by kernel_rfl))
    (oS "i" [105] (by kernel_rfl) (by kernel_rfl))
    (oS "elt" [101,108,116] (by kernel_rfl) (by kernel_rfl))
    (oS "enumerate" [101,110,117,109,101,114,97,116,101] (by kernel_rfl) (by kernel_rfl))
    (oS "indices" [105,110,100,105,99,101,115] (by kernel_rfl) (by kernel_rfl))
    (oS "setdefault" [115,101,116,100,101,102,97,117,108,116] (by kernel_rfl) (by kernel_rfl))
    (oS "append" [97,112,112,101,110,100] (by kernel_rfl) (by kernel_rfl))
    (oS "bjunk" [98,106,117,110,107] (by kernel_rfl) (by kernel_rfl))
    (oS "junk" [106,117,110,107] (by kernel_rfl) (by kernel_rfl))
    (oS "set" [115,101,116] (by kernel_rfl) (by kernel_rfl))
    (oS "keys" [107,101,121,115] (by kernel_rfl) (by kernel_rfl))
    (oS "add" [97,100,100] (by kernel_rfl) (by kernel_rfl))
    (oS "bpopular" [98,112,111,112,117,108,97,114] (by kernel_rfl) (by kernel_rfl))
    (oS "popular" [112,111,112,117,108,97,114] (by kernel_rfl) (by kernel_rfl))
    (oS "n" [110] (by kernel_rfl) (by kernel_rfl))
    (oS "ntest" [110,116,101,115,116] (by kernel_rfl) (by kernel_rfl)))
    (oS "idxs" [105,100,120,115] (by kernel_rfl) (by kernel_rfl))
    (oS "items" [105,116,101,109,115] (by kernel_rfl) (by kernel_rfl))
    (oS "find_longest_match" [102,105,110,100,95,108,111,110,103,101,115,116,95,109,97,116,99,104] (by kernel_rfl) (by kernel_rfl))
    (oS "alo" [97,108,111] (by kernel_rfl) (by kernel_rfl))
    (oS "ahi" [97,104,105] (by kernel_rfl) (by kernel_rfl))
    (oS "blo" [98,108,111] (by kernel_rfl) (by kernel_rfl))
    (oS "bhi" [98,104,105] (by kernel_rfl) (by kernel_rfl))
    (oS "isbjunk" [105,115,98,106,117,110,107] (by kernel_rfl) (by kernel_rfl))
    (oS "__contains__" [95,95,99,111,110,116,97,105,110,115,95,95] (by kernel_rfl) (by kernel_rfl))
    (oS "besti" [98,101,115,116,105] (by kernel_rfl) (by kernel_rfl))
    (oS "bestj" [98,101,115,116,106] (by kernel_rfl) (by kernel_rfl))
    (oS "bestsize" [98,101,115,116,115,105,122,101] (by kernel_rfl) (by kernel_rfl))
    (oS "j2len" [106,50,108,101,110] (by kernel_rfl) (by kernel_rfl))
    (oS "nothing" [110,111,116,104,105,110,103] (by kernel_rfl) (by kernel_rfl))
    (oS "range" [114,97,110,103,101] (by kernel_rfl) (by kernel_rfl))
    (oS "j2lenget" [106,50,108,101,110,103,101,116] (by kernel_rfl) (by kernel_rfl)))
    (oS "get" [103,101,116] (by kernel_rfl) (by kernel_rfl))
    (oS "newj2len" [110,101,119,106,50,108,101,110] (by kernel_rfl) (by kernel_rfl))
    (oS "j" [106] (by kernel_rfl) (by kernel_rfl))
    (oS "get_matching_blocks" [103,101,116,95,109,97,116,99,104,105,110,103,95,98,108,111,99,107,115] (by kernel_rfl) (by kernel_rfl))
    (oS "la" [108,97] (by kernel_rfl) (by kernel_rfl))
    (oS "lb" [108,98] (by kernel_rfl) (by kernel_rfl))
    (oS "queue" [113,117,101,117,101] (by kernel_rfl) (by kernel_rfl))
    (oS "x" [120] (by kernel_rfl) (by kernel_rfl))
    (oS "sort" [115,111,114,116] (by kernel_rfl) (by kernel_rfl))
    (oS "i1" [105,49] (by kernel_rfl) (by kernel_rfl))
    (oS "j1" [106,49] (by kernel_rfl) (by kernel_rfl))
    (oS "k1" [107,49] (by kernel_rfl) (by kernel_rfl))
    (oS "non_adjacent" [110,111,110,95,97,100,106,97,99,101,110,116] (by kernel_rfl) (by kernel_rfl))
    (oS "i2" [105,50] (by kernel_rfl) (by kernel_rfl))
    (oS "j2" [106,50] (by kernel_rfl) (by kernel_rfl))
    (oS "k2" [107,50] (by kernel_rfl) (by kernel_rfl)))
    (oS "get_opcodes" [103,101,116,95,111,112,99,111,100,101,115] (by kernel_rfl) (by kernel_rfl))
    (oS "answer" [97,110,115,119,101,114] (by kernel_rfl) (by kernel_rfl))
    (oS "ai" [97,105] (by kernel_rfl) (by kernel_rfl))
    (oS "bj" [98,106] (by kernel_rfl) (by kernel_rfl))
    (oS "tag" [116,97,103] (by kernel_rfl) (by kernel_rfl))
    (oS "replace" [114,101,112,108,97,99,101] (by kernel_rfl) (by kernel_rfl))
    (oS "delete" [100,101,108,101,116,101] (by kernel_rfl) (by kernel_rfl))
    (oS "insert" [105,110,115,101,114,116] (by kernel_rfl) (by kernel_rfl))
    (oS "equal" [101,113,117,97,108] (by kernel_rfl) (by kernel_rfl))
    (oS "get_grouped_opcodes" [103,101,116,95,103,114,111,117,112,101,100,95,111,112,99,111,100,101,115] (by kernel_rfl) (by kernel_rfl))
    (oS "ratio" [114,97,116,105,111] (by kernel_rfl) (by kernel_rfl))
    (oS "sum" [115,117,109] (by kernel_rfl) (by kernel_rfl))
    (oS "triple" [116,114,105,112,108,101] (by kernel_rfl) (by kernel_rfl))
    (oS ".0" [46,48] (by kernel_rfl) (by kernel_rfl))
    (oS "quick_ratio" [113,117,105,99,107,95,114,97,116,105,111] (by kernel_rfl) (by kernel_rfl))
    (oS "avail" [97,118,97,105,108] (by kernel_rfl) (by kernel_rfl)))
    (oS "availhas" [97,118,97,105,108,104,97,115] (by kernel_rfl) (by kernel_rfl))
    (oS "numb" [110,117,109,98] (by kernel_rfl) (by kernel_rfl))
    (oS "real_quick_ratio" [114,101,97,108,95,113,117,105,99,107,95,114,97,116,105,111] (by kernel_rfl) (by kernel_rfl))
    (oS "min" [109,105,110] (by kernel_rfl) (by kernel_rfl))
    (oS "_keep_original_ws" [95,107,101,101,112,95,111,114,105,103,105,110,97,108,95,119,115] (by kernel_rfl) (by kernel_rfl))
    (oS "s" [115] (by kernel_rfl) (by kernel_rfl))
    (oS "tag_s" [116,97,103,95,115] (by kernel_rfl) (by kernel_rfl))
    (oS "join" [106,111,105,110] (by kernel_rfl) (by kernel_rfl))
    (oS "tag_c" [116,97,103,95,99] (by kernel_rfl) (by kernel_rfl))
    (oS "c" [99] (by kernel_rfl) (by kernel_rfl))
    (oS "isspace" [105,115,115,112,97,99,101] (by kernel_rfl) (by kernel_rfl))
    (oS "zip" [122,105,112] (by kernel_rfl) (by kernel_rfl))
    (oS "Differ" [68,105,102,102,101,114] (by kernel_rfl) (by kernel_rfl))
    (oS "linejunk" [108,105,110,101,106,117,110,107] (by kernel_rfl) (by kernel_rfl))
    (oS "charjunk" [99,104,97,114,106,117,110,107] (by kernel_rfl) (by kernel_rfl))
    (oS "compare" [99,111,109,112,97,114,101] (by kernel_rfl) (by kernel_rfl)))
    (oS "cruncher" [99,114,117,110,99,104,101,114] (by kernel_rfl) (by kernel_rfl))
    (oS "g" [103] (by kernel_rfl) (by kernel_rfl))
    (oS "_fancy_replace" [95,102,97,110,99,121,95,114,101,112,108,97,99,101] (by kernel_rfl) (by kernel_rfl))
    (oS "_dump" [95,100,117,109,112] (by kernel_rfl) (by kernel_rfl))
    (oS "ValueError" [86,97,108,117,101,69,114,114,111,114] (by kernel_rfl) (by kernel_rfl))
    (oS "lo" [108,111] (by kernel_rfl) (by kernel_rfl))
    (oS "hi" [104,105] (by kernel_rfl) (by kernel_rfl))
    (oS "_plain_replace" [95,112,108,97,105,110,95,114,101,112,108,97,99,101] (by kernel_rfl) (by kernel_rfl))
    (oS "first" [102,105,114,115,116] (by kernel_rfl) (by kernel_rfl))
    (oS "second" [115,101,99,111,110,100] (by kernel_rfl) (by kernel_rfl))
    (oS "best_ratio" [98,101,115,116,95,114,97,116,105,111] (by kernel_rfl) (by kernel_rfl))
    (oS "cutoff" [99,117,116,111,102,102] (by kernel_rfl) (by kernel_rfl))
    (oS "eqi" [101,113,105] (by kernel_rfl) (by kernel_rfl))
    (oS "eqj" [101,113,106] (by kernel_rfl) (by kernel_rfl))
    (oS "best_i" [98,101,115,116,95,105] (by kernel_rfl) (by kernel_rfl))
    (oS "best_j" [98,101,115,116,95,106] (by kernel_rfl) (by kernel_rfl)))
    (oS "_fancy_helper" [95,102,97,110,99,121,95,104,101,108,112,101,114] (by kernel_rfl) (by kernel_rfl))
    (oS "aelt" [97,101,108,116] (by kernel_rfl) (by kernel_rfl))
    (oS "belt" [98,101,108,116] (by kernel_rfl) (by kernel_rfl))
    (oS "atags" [97,116,97,103,115] (by kernel_rfl) (by kernel_rfl))
    (oS "btags" [98,116,97,103,115] (by kernel_rfl) (by kernel_rfl))
    (oS "ai1" [97,105,49] (by kernel_rfl) (by kernel_rfl))
    (oS "ai2" [97,105,50] (by kernel_rfl) (by kernel_rfl))
    (oS "bj1" [98,106,49] (by kernel_rfl) (by kernel_rfl))
    (oS "bj2" [98,106,50] (by kernel_rfl) (by kernel_rfl))
    (oS "_qformat" [95,113,102,111,114,109,97,116] (by kernel_rfl) (by kernel_rfl))
    (oS "aline" [97,108,105,110,101] (by kernel_rfl) (by kernel_rfl))
    (oS "bline" [98,108,105,110,101] (by kernel_rfl) (by kernel_rfl))
    (oS "rstrip" [114,115,116,114,105,112] (by kernel_rfl) (by kernel_rfl))
    (oS "restore" [114,101,115,116,111,114,101] (by kernel_rfl) (by kernel_rfl))
    (oS "delta" [100,101,108,116,97] (by kernel_rfl) (by kernel_rfl))
    (oS "which" [119,104,105,99,104] (by kernel_rfl) (by kernel_rfl)))
    (oS "int" [105,110,116] (by kernel_rfl) (by kernel_rfl))
    (oS "KeyError" [75,101,121,69,114,114,111,114] (by kernel_rfl) (by kernel_rfl))
    (oS "prefixes" [112,114,101,102,105,120,101,115] (by kernel_rfl) (by kernel_rfl))
    (oS "line" [108,105,110,101] (by kernel_rfl) (by kernel_rfl))
    (oS "law_dm0050_10" [108,97,119,95,100,109,48,48,53,48,95,49,48] (by kernel_rfl) (by kernel_rfl))
    (oS "_law_blocks" [95,108,97,119,95,98,108,111,99,107,115] (by kernel_rfl) (by kernel_rfl))
    (oS "script" [115,99,114,105,112,116] (by kernel_rfl) (by kernel_rfl))
    (oS "blocks" [98,108,111,99,107,115] (by kernel_rfl) (by kernel_rfl))
    (oS "0" [48] (by kernel_rfl) (by kernel_rfl))
    (oS "1" [49] (by kernel_rfl) (by kernel_rfl))
    (oS "3" [51] (by kernel_rfl) (by kernel_rfl))
    (oS "heads" [104,101,97,100,115] (by kernel_rfl) (by kernel_rfl))
    (oS "str" [115,116,114] (by kernel_rfl) (by kernel_rfl))
    (oS "law" [108,97,119] (by kernel_rfl) (by kernel_rfl))
    (oS "rows" [114,111,119,115] (by kernel_rfl) (by kernel_rfl))
    (oS "ends" [101,110,100,115] (by kernel_rfl) (by kernel_rfl))) (oS "block" [98,108,111,99,107] (by kernel_rfl) (by kernel_rfl))) (oS "differ" [100,105,102,102,101,114] (by kernel_rfl) (by kernel_rfl))) (oS "last" [108,97,115,116] (by kernel_rfl) (by kernel_rfl))) (oS "low" [108,111,119] (by kernel_rfl) (by kernel_rfl))) (oS "middle" [109,105,100,100,108,101] (by kernel_rfl) (by kernel_rfl))) (oS "high" [104,105,103,104] (by kernel_rfl) (by kernel_rfl))) (oS "left" [108,101,102,116] (by kernel_rfl) (by kernel_rfl))) (oS "right" [114,105,103,104,116] (by kernel_rfl) (by kernel_rfl))) (oS "behind" [98,101,104,105,110,100] (by kernel_rfl) (by kernel_rfl))) (oS "told" [116,111,108,100] (by kernel_rfl) (by kernel_rfl))) (oS "row" [114,111,119] (by kernel_rfl) (by kernel_rfl))) (oS "due" [100,117,101] (by kernel_rfl) (by kernel_rfl))) (oS "fast" [102,97,115,116] (by kernel_rfl) (by kernel_rfl))
noncomputable def kq1A : Program := by
  refine (?f : (l r p : Program) → l = r → r = p → Program) _ _ ?p kq1F ?h
  case h => delta kq1G; exact rfl
  case f => exact fun _ _ p _ _ => p
theorem kq1E : PySem.Challenge.pw_dm0050_10 = kq1A := Eq.trans (by kernel_rfl) kq1F
lay_quick kq1A
noncomputable abbrev tw12267461674747561428 : Program := tw16366158876241114083
theorem te12267461674747561428 : PySem.Challenge.pw_dm0050_10 = tw12267461674747561428 := kq1E.trans te16366158876241114083
end PySem.W.Fast
end
section
open PySem PySem.W PyProof.Rows
set_option Elab.async false
set_option maxRecDepth 100000
set_option maxHeartbeats 0
namespace Mine
noncomputable def env : Env := { scope := prog.main.scope, locals := mainNs, globals := mainNs, cells := [], code := .ref 13, frame := some 14 }
noncomputable def cE : Code := .body (behindTheImports prog) env
noncomputable def B : List Frame := [topFrame ⟨0, 0, 0, 0⟩]
noncomputable def ePre : Prop := ∀ (w : World) (os : OsState), topGo tableL prog w 11 (some (.ref 6)) 12 ⟨boot_heap w.params, #[], boot_drawn, boot_toks, os⟩ (topStub prog) = some ((S0 w os).abs, ⟨denote tableL cE, cE, ⟨0, 0, 0, 0⟩, B⟩)
theorem noTwin : (fun (_ _ _ _ _ _ _ _ _ _ _ : Params → Obj) => true) PySem.W.boot_o_0 PySem.W.boot_o_1 PySem.W.boot_o_2 PySem.W.boot_o_3 PySem.W.boot_o_4 PySem.W.boot_o_5 PySem.W.boot_o_6 PySem.W.boot_o_7 PySem.W.boot_o_8 PySem.W.boot_o_9 PySem.W.boot_o_10 = true := by first | k_qdec | rfl
lay_quick ePre
theorem pPre : ePre := by rw [PySem.W.Fast.te9180895667377596671]; intro w os; kernel_rfl
noncomputable def eBlock : Prop := ∀ (w : World) (os : OsState), segRun tableL prog w 11 (some (.ref 6)) 1 1 (S0 w os).abs (blockOf (behindTheImports prog) env cE ⟨0, 0, 0, 0⟩ B) = some (.next, (S0 w os).abs, cE, ⟨0, 0, 0, 0⟩)
lay_quick eBlock
theorem pBlock : eBlock := by rw [PySem.W.Fast.te11210240287184410953]; intro w os; kernel_rfl
noncomputable def g3 : List Stmt := [st 0, st 1, st 2]
noncomputable def e3 : Prop := ∀ (w : World) (os : OsState), segRunT tableL prog w 11 (some (.ref 6)) 1 362 (S0 w os) (piecesOf g3 env cE ⟨0, 0, 0, 0⟩ B) = some (.next, S3 w os, cE, ⟨5, 0, 22, 54⟩)
lay_quick e3
theorem p3 : e3 := by rw [PySem.W.Fast.te133392957147307173]; intro w os; kernel_rfl
noncomputable def g4 : List Stmt := [st 3]
noncomputable def e4 : Prop := ∀ (w : World) (os : OsState), segRunT tableL prog w 11 (some (.ref 6)) 1 1047 (S3 w os) (piecesOf g4 env cE ⟨5, 0, 22, 54⟩ B) = some (.next, S4 w os, cE, ⟨23, 0, 65, 54⟩)
lay_quick e4
theorem p4 : e4 := by rw [PySem.W.Fast.te8441420125603298618]; intro w os; kernel_rfl
noncomputable def g5 : List Stmt := [st 4]
noncomputable def e5 : Prop := ∀ (w : World) (os : OsState), segRunT tableL prog w 11 (some (.ref 6)) 1 31 (S4 w os) (piecesOf g5 env cE ⟨23, 0, 65, 54⟩ B) = some (.next, S5 w os, cE, ⟨66, 0, 69, 14⟩)
lay_quick e5
theorem p5 : e5 := by rw [PySem.W.Fast.te3026065901257255642]; intro w os; kernel_rfl
noncomputable def g6 : List Stmt := [st 5]
noncomputable def e6 : Prop := ∀ (w : World) (os : OsState), segRunT tableL prog w 11 (some (.ref 6)) 1 667 (S5 w os) (piecesOf g6 env cE ⟨66, 0, 69, 14⟩ B) = some (.next, S6 w os, cE, ⟨70, 0, 487, 53⟩)
lay_quick e6
theorem p6 : e6 := by rw [PySem.W.Fast.te8035552493404043078]; intro w os; kernel_rfl
noncomputable def g7 : List Stmt := [st 6]
noncomputable def e7 : Prop := ∀ (w : World) (os : OsState), segRunT tableL prog w 11 (some (.ref 6)) 1 32 (S6 w os) (piecesOf g7 env cE ⟨70, 0, 487, 53⟩ B) = some (.next, S7 w os, cE, ⟨488, 0, 490, 96⟩)
lay_quick e7
theorem p7 : e7 := by rw [PySem.W.Fast.te18097334487791328804]; intro w os; kernel_rfl
noncomputable def g8 : List Stmt := [st 7]
noncomputable def e8 : Prop := ∀ (w : World) (os : OsState), segRunT tableL prog w 11 (some (.ref 6)) 1 483 (S7 w os) (piecesOf g8 env cE ⟨488, 0, 490, 96⟩ B) = some (.next, S8 w os, cE, ⟨491, 0, 752, 32⟩)
lay_quick e8
theorem p8 : e8 := by rw [PySem.W.Fast.te11772204471832787405]; intro w os; kernel_rfl
noncomputable def g12 : List Stmt := [st 8, st 9, st 10, st 11]
noncomputable def e12 : Prop := ∀ (w : World) (os : OsState), segRunT tableL prog w 11 (some (.ref 6)) 1 102 (S8 w os) (piecesOf g12 env cE ⟨491, 0, 752, 32⟩ B) = some (.next, S12 w os, cE, ⟨790, 0, 813, 22⟩)
lay_quick e12
theorem p12 : e12 := by rw [PySem.W.Fast.te2048193636685466242]; intro w os; kernel_rfl
end Mine
end
section
open PySem PySem.W PyProof.Rows
set_option Elab.async false
set_option maxRecDepth 100000
set_option maxHeartbeats 0
namespace Mine
noncomputable def eFin : Prop := ∀ (w : World) (os : OsState), topRun tableL prog w 11 (some (.ref 6)) 2 (S12 w os).abs ⟨doneF .next, cE, ⟨790, 0, 813, 22⟩, B⟩ = some ⟨heapF w.params, #[], boot_drawn, 774, os⟩
lay_quick eFin
theorem pFin : eFin := by rw [PySem.W.Fast.te6097259074420145996]; intro w os; kernel_rfl
theorem body_eq : behindTheImports prog = (g3 ++ (g4 ++ (g5 ++ (g6 ++ (g7 ++ (g8 ++ (g12 ++ []))))))) := by kernel_rfl
theorem runL (w : World) (os : OsState) : topRun tableL prog w 11 (some (.ref 6)) (12 + (1 + (362 + (1047 + (31 + (667 + (32 + (483 + (102 + 2))))))))) ⟨boot_heap w.params, #[], boot_drawn, boot_toks, os⟩ (topStub prog) = some ⟨heapF w.params, #[], boot_drawn, 774, os⟩ := by
  have k := piece_nil (env := env) (q := ⟨0, 0, 0, 0⟩) (pFin w os)
  replace k := piece_app (env := env) (q := ⟨0, 0, 0, 0⟩) (segRun_of (p12 w os)) k
  replace k := piece_app (env := env) (q := ⟨0, 0, 0, 0⟩) (segRun_of (p8 w os)) k
  replace k := piece_app (env := env) (q := ⟨0, 0, 0, 0⟩) (segRun_of (p7 w os)) k
  replace k := piece_app (env := env) (q := ⟨0, 0, 0, 0⟩) (segRun_of (p6 w os)) k
  replace k := piece_app (env := env) (q := ⟨0, 0, 0, 0⟩) (segRun_of (p5 w os)) k
  replace k := piece_app (env := env) (q := ⟨0, 0, 0, 0⟩) (segRun_of (p4 w os)) k
  replace k := piece_app (env := env) (q := ⟨0, 0, 0, 0⟩) (segRun_of (p3 w os)) k
  rw [← body_eq] at k
  exact go_top (pPre w os) (piece_block (env := env) (q := ⟨0, 0, 0, 0⟩) (pBlock w os) k)
theorem run0 (w : World) (os : OsState) : topRun treeTable prog w 11 (some (.ref 6)) 2739 ⟨boot_heap w.params, #[], boot_drawn, boot_toks, os⟩ (topStub prog) = some ⟨heapF w.params, #[], boot_drawn, 774, os⟩ := by
  rw [table_eq]; exact runL w os
theorem open0 : ∀ w : World, (fencedOpening treeTable prog w 5748).map (fun s => (s.heap, s.gens, s.drawn, s.toks)) = some (boot_heap w.params, Array.mk [], boot_drawn, boot_toks) :=
  boot_open (by kernel_rfl) (by rfl) (fun s => by kernel_rfl)
noncomputable def eSize : Prop := ∀ w : World, ((boot_heap w.params).isNs mainGlobals && (Array.mk ([] : List GenState)).size == 0, (boot_heap w.params).objs.size, (boot_heap w.params).nsMap mainGlobals "__annotations__") = (true, 11, some (Value.ref 6))
lay_quick eSize
theorem pSize : eSize := by rw [PySem.W.Fast.te10159770440577813370]; intro w; kernel_rfl
noncomputable def qv : Program := { prog with main := { prog.main with body := [st 11] } }
noncomputable def loose : List Str := [Str.ofString "_wall", Str.ofString "_tuplegetter", Str.ofString "Match", Str.ofString "_calculate_ratio", Str.ofString "SequenceMatcher", Str.ofString "_keep_original_ws", Str.ofString "Differ", Str.ofString "restore", Str.ofString "_law_blocks"]
noncomputable def K (P : Params) : Frag := (nat_lit 2, PySem.W.boot_o_2 P) :: (nat_lit 3, o12x3 P) :: (nat_lit 247, o7x247 P) :: (nat_lit 248, o7x248 P) :: (nat_lit 249, o7x249 P) :: (nat_lit 250, o7x250 P) :: (nat_lit 251, o7x251 P) :: (nat_lit 252, o7x252 P) :: (nat_lit 253, o7x253 P) :: (nat_lit 261, o8x261 P) :: (nat_lit 262, o8x262 P) :: (nat_lit 263, o8x263 P) :: (nat_lit 264, o8x264 P) :: (nat_lit 265, o8x265 P) :: (nat_lit 266, o8x266 P) :: (nat_lit 267, o8x267 P) :: (nat_lit 268, o8x268 P) :: (nat_lit 269, o8x269 P) :: (nat_lit 270, o8x270 P) :: (nat_lit 271, o8x271 P) :: (nat_lit 272, o8x272 P) :: (nat_lit 273, o8x273 P) :: (nat_lit 274, o8x274 P) :: (nat_lit 275, o8x275 P) :: (nat_lit 276, o8x276 P) :: (nat_lit 277, o8x277 P) :: (nat_lit 278, o8x278 P) :: (nat_lit 279, o8x279 P) :: (nat_lit 280, o8x280 P) :: (nat_lit 281, o8x281 P) :: (nat_lit 282, o8x282 P) :: (nat_lit 283, o8x283 P) :: (nat_lit 284, o8x284 P) :: (nat_lit 285, o8x285 P) :: (nat_lit 286, o8x286 P) :: (nat_lit 287, o8x287 P) :: (nat_lit 288, o8x288 P) :: (nat_lit 289, o8x289 P) :: (nat_lit 290, o8x290 P) :: (nat_lit 291, o8x291 P) :: (nat_lit 292, o8x292 P) :: (nat_lit 293, o8x293 P) :: (nat_lit 294, o8x294 P) :: (nat_lit 295, o8x295 P) :: (nat_lit 296, o8x296 P) :: (nat_lit 297, o8x297 P) :: (nat_lit 298, o8x298 P) :: (nat_lit 299, o8x299 P) :: (nat_lit 300, o8x300 P) :: (nat_lit 301, o8x301 P) :: (nat_lit 302, o8x302 P) :: (nat_lit 303, o8x303 P) :: (nat_lit 304, o8x304 P) :: (nat_lit 305, o8x305 P) :: (nat_lit 306, o8x306 P) :: (nat_lit 307, o8x307 P) :: (nat_lit 308, o8x308 P) :: (nat_lit 309, o8x309 P) :: (nat_lit 310, o8x310 P) :: (nat_lit 311, o8x311 P) :: (nat_lit 312, o8x312 P) :: (nat_lit 313, o8x313 P) :: (nat_lit 314, o8x314 P) :: (nat_lit 315, o8x315 P) :: (nat_lit 318, o12x318 P) :: (nat_lit 319, o12x319 P) :: (nat_lit 320, o12x320 P) :: (nat_lit 321, o12x321 P) :: (nat_lit 322, o12x322 P) :: (nat_lit 323, o12x323 P) :: (nat_lit 324, o12x324 P) :: (nat_lit 325, o12x325 P) :: (nat_lit 326, o12x326 P) :: (nat_lit 327, o12x327 P) :: (nat_lit 328, o12x328 P) :: (nat_lit 329, o12x329 P) :: (nat_lit 330, o12x330 P) :: (nat_lit 331, o12x331 P) :: (nat_lit 332, o12x332 P) :: (nat_lit 333, o12x333 P) :: (nat_lit 334, o12x334 P) :: (nat_lit 335, o12x335 P) :: (nat_lit 336, o12x336 P) :: []
def as : List Addr := nat_lit 2 :: nat_lit 3 :: nat_lit 247 :: nat_lit 248 :: nat_lit 249 :: nat_lit 250 :: nat_lit 251 :: nat_lit 252 :: nat_lit 253 :: nat_lit 261 :: nat_lit 262 :: nat_lit 263 :: nat_lit 264 :: nat_lit 265 :: nat_lit 266 :: nat_lit 267 :: nat_lit 268 :: nat_lit 269 :: nat_lit 270 :: nat_lit 271 :: nat_lit 272 :: nat_lit 273 :: nat_lit 274 :: nat_lit 275 :: nat_lit 276 :: nat_lit 277 :: nat_lit 278 :: nat_lit 279 :: nat_lit 280 :: nat_lit 281 :: nat_lit 282 :: nat_lit 283 :: nat_lit 284 :: nat_lit 285 :: nat_lit 286 :: nat_lit 287 :: nat_lit 288 :: nat_lit 289 :: nat_lit 290 :: nat_lit 291 :: nat_lit 292 :: nat_lit 293 :: nat_lit 294 :: nat_lit 295 :: nat_lit 296 :: nat_lit 297 :: nat_lit 298 :: nat_lit 299 :: nat_lit 300 :: nat_lit 301 :: nat_lit 302 :: nat_lit 303 :: nat_lit 304 :: nat_lit 305 :: nat_lit 306 :: nat_lit 307 :: nat_lit 308 :: nat_lit 309 :: nat_lit 310 :: nat_lit 311 :: nat_lit 312 :: nat_lit 313 :: nat_lit 314 :: nat_lit 315 :: nat_lit 318 :: nat_lit 319 :: nat_lit 320 :: nat_lit 321 :: nat_lit 322 :: nat_lit 323 :: nat_lit 324 :: nat_lit 325 :: nat_lit 326 :: nat_lit 327 :: nat_lit 328 :: nat_lit 329 :: nat_lit 330 :: nat_lit 331 :: nat_lit 332 :: nat_lit 333 :: nat_lit 334 :: nat_lit 335 :: nat_lit 336 :: []
noncomputable def hook : Hook := kHook K as (fun _ => by kernel_rfl)
abbrev row : OpenRow := PySem.Challenge.rw_dm0050_10.row
noncomputable def Xt (s : Shared) : Bool := xlAt qv [] s && recOk (RowW.records row.toRowW) s
noncomputable def sF (w : World) (os : OsState) : Shared := ⟨heapF w.params, Array.mk [], boot_drawn, 774, os⟩
noncomputable def eL1 : Prop := ∀ (w : World) (os : OsState), (staticsOk (importedModules prog.main.body) (boot_heap w.params) (heapF w.params) && namesBound prog (heapF w.params) && gensDone (sF w os) && laidKept (boot_heap w.params) (heapF w.params)) = true
lay_quick eL1
theorem pL1 : eL1 := by rw [PySem.W.Fast.te916417627720882613]; intro w os; kernel_rfl
noncomputable def eL2 : Prop := ∀ (w : World) (os : OsState), openSeen qv loose (importedModules prog.main.body) Xt true (sF w os) = openGood qv loose
lay_quick eL2
theorem pL2 : eL2 := by rw [PySem.W.Fast.te6703831594060808801]; intro w os; kernel_rfl
theorem pL3 (w : World) (os : OsState) : Hook.obs hook (sF w os) = Hook.val hook w := by kernel_rfl
theorem three {α β γ : Type} {a a' : α} {b b' : β} {c c' : γ} (x : a = a') (y : b = b') (z : c = c') : (a, b, c) = (a', b', c') := by rw [x, y, z]
theorem left : LeftO prog qv loose Xt (Hook.obs hook) (Hook.val hook) 5748 :=
  LeftO.of_pieces open0 pSize run0 (by rfl) (fun w => funext fun os => three (pL1 w os) (pL2 w os) (pL3 w os))
end Mine
end
section
open PySem PySem.W PyProof.Rows
set_option Elab.async false
set_option linter.unusedVariables false
set_option maxRecDepth 100000
namespace Mine
/-- a yield whose cleanup nobody sees -/
def tame (s : Shared) (t : Thread) : Bool := match t.cur with
  | .yield _ g _ _ => (match splitAtGen t.stack with
    | some (frames, _, _) => !closingShows s frames t.code g
    | none => false)
  | _ => false
def calmL (s : Shared) (t : Thread) : Bool := t.calm || tame s t
section
variable (den : Code → Sem Fin) (prog : Program) (w : World)
theorem pick_tame (s : Shared) (v : Value) (g : Bool) (l : List Value) (k : Resume → Sem Fin) (c : Code) (p : Pos) (st : List Frame) (hr : s.heap.life.registered = []) :
    (Config.single s ⟨.yield v g l k, c, p, st⟩).pick w = .ok (.run 0, .single s ⟨.yield v g l k, c, p, st⟩) := by
  have h1 : (Config.single s ⟨.yield v g l k, c, p, st⟩).collect? w.params = none := by
    simp [Config.collect?, Config.single, (nothing_to_collect _ _ _ s _ hr).1]
  have h2 : (Config.single s ⟨.yield v g l k, c, p, st⟩).collectable = [] := by
    simp [Config.collectable, Config.single, (nothing_to_collect w.params _ _ s _ hr).2]
  have h3 : ∀ pr, (Config.single s ⟨.yield v g l k, c, p, st⟩).moves pr = [.run 0] := fun pr => by
    simp [Config.moves, Config.single, movesFrom, Thread.moves, Thread.atomic, Thread.rests, Thread.tells]
  simp only [Config.pick, h1, h2, Config.pickThread, h3]
  cases w.params.lifetimes <;> simp
theorem life_tame (others : List Value) (s : Shared) (v : Value) (g : Bool) (l : List Value) (k : Resume → Sem Fin) (c : Code) (p : Pos) (st : List Frame) (h : tame s ⟨.yield v g l k, c, p, st⟩ = true) (hz : s.asleep) :
    lifeStep den prog w others s ⟨.yield v g l k, c, p, st⟩ = step den prog w s ⟨.yield v g l k, c, p, st⟩ := by
  obtain ⟨hr, hc⟩ := hz
  simp only [tame] at h
  cases hs : splitAtGen st with
  | none => rw [hs] at h; cases h
  | some x =>
    obtain ⟨frames, b, rest⟩ := x
    rw [hs] at h
    have h' : closingShows s frames c g = false := by simpa using h
    unfold lifeStep
    simp only [collectorTurn?, hs, h', Thread.atItsEnd, stepCounting, hc]
    split <;> simp [hc]
theorem run_tame (s : Shared) (v : Value) (g : Bool) (l : List Value) (k : Resume → Sem Fin) (c : Code) (p : Pos) (st : List Frame)
    (hl : ∀ others, lifeStep den prog w others s ⟨.yield v g l k, c, p, st⟩ = step den prog w s ⟨.yield v g l k, c, p, st⟩) :
    (Config.single s ⟨.yield v g l k, c, p, st⟩).run den prog w 0 = (step den prog w s ⟨.yield v g l k, c, p, st⟩).lift := by
  simp only [Config.run, Config.single]
  first
    | rfl
    | (simp [hl, others_single, frozenBadly, ThreadState.insideWrite]; split <;> simp_all [Step.lift, Config.single]; done)
    | (simp [hl, others_single, frozenBadly, ThreadState.insideWrite]; split <;> simp_all [Step.lift, Config.single] <;> split <;> simp; done)
    | (simp [hl, others_single, frozenBadly, ThreadState.insideWrite, Thread.finalizes]; split <;> simp_all [Step.lift, Config.single]; done)
    | (simp [hl, others_single, frozenBadly, ThreadState.insideWrite, Thread.finalizes]; split <;> simp_all [Step.lift, Config.single] <;> split <;> simp; done)
theorem sstep_tame (s : Shared) (t : Thread) (h : tame s t = true) (hz : s.asleep) : sstep den prog w (.single s t) = (step den prog w s t).lift := by
  obtain ⟨cur, c, p, st⟩ := t
  cases cur with
  | yield v g l k => simp only [sstep, pick_tame w s v g l k c p st hz.1, Config.move, run_tame den prog w s v g l k c p st fun o => life_tame den prog w o s v g l k c p st h hz]
  | _ => cases h
theorem sstep_L (s : Shared) (t : Thread) (h : calmL s t = true) (hz : s.asleep) :
    sstep den prog w (.single s t) = (step den prog w s t).lift ∨ step den prog w s t = .halt (.unsupported "lifetime:generator-with-cleanup-left-suspended") s := by
  rcases (Bool.or_eq_true _ _ ▸ h : t.calm = true ∨ tame s t = true) with h | h
  · exact sstep_single den prog w s t h hz
  · exact .inl (sstep_tame den prog w s t h hz)
theorem schedN_L (n : Nat) (s : Shared) (t : Thread) (hz : s.asleep) (h : ∀ k s' t', runN den prog w k s t = .running s' t' → calmL s' t' = true)
    (hx : ∀ k s', runN den prog w k s t ≠ .halted (.unsupported "lifetime:generator-with-cleanup-left-suspended") s') :
    schedN den prog w n (.single s t) = (runN den prog w n s t).lift := by
  induction n generalizing s t with
  | zero => rfl
  | succ n ih =>
    rcases sstep_L den prog w s t (h 0 s t rfl) hz with e | e
    · simp only [schedN, runN, e]
      cases hs : step den prog w s t with
      | go s' t' =>
        exact ih s' t' (by simp only [Shared.asleep, step_life den prog w s s' t t' hs]; exact hz) (fun k s'' t'' hk => h (k + 1) s'' t'' (by simp only [runN, hs]; exact hk)) fun k s'' hk => hx (k + 1) s'' (by simp only [runN, hs]; exact hk)
      | halt o s' => rfl
    · exact absurd (by simp only [runN, e]) (hx 1 s)
/-- a step that also lets a tame yield by -/
def stepL (s : Shared) (t : Thread) : Step := if (t.loud && !tame s t) = true then .halt (.stuck "proof:loud") s else stepK den prog w s t
def runT : Nat → Shared → Thread → Run
  | 0, s, t => .running s t
  | n + 1, s, t =>
    match stepL den prog w s t with
    | .go s' t' => runT n s' t'
    | .halt o s' => .halted o s'
theorem calmL_of {s : Shared} {t : Thread} (h : ¬ (t.loud && !tame s t) = true) (hr : t.refused = false) : calmL s t = true := by
  unfold calmL
  rw [Thread.calm_eq, hr]
  cases hl : t.loud with
  | false => rfl
  | true =>
    cases ht : tame s t with
    | true => simp
    | false => rw [hl, ht] at h; exact absurd rfl h
theorem runT_runNK {n : Nat} {s : Shared} {t : Thread} {o : Outcome} {s' : Shared} (h : runT den prog w n s t = .halted o s') (ho : o.ends = true) :
    runNK den prog w n s t = .halted o s' ∧ ∀ k s₁ t₁, runNK den prog w k s t = .running s₁ t₁ → calmL s₁ t₁ = true := by
  induction n generalizing s t with
  | zero => cases h
  | succ n ih =>
    simp only [runT] at h
    by_cases hl : (t.loud && !tame s t) = true
    · simp only [stepL, if_pos hl] at h
      injection h with h1 _; subst h1; exact absurd ho (by simp [Outcome.ends])
    · simp only [stepL, if_neg hl] at h
      have hcalm : calmL s t = true := by
        refine calmL_of hl ?_
        cases hr : t.refused with
        | false => rfl
        | true =>
          obtain ⟨what, e⟩ := stepK_refused den prog w (s := s) hr
          simp only [e] at h
          injection h with h1 _; subst h1; exact absurd ho (by simp [Outcome.ends])
      cases hs : stepK den prog w s t with
      | go s₂ t₂ =>
        simp only [hs] at h
        obtain ⟨a, b⟩ := ih h
        refine ⟨by simp only [runNK, hs]; exact a, fun k s₁ t₁ hk => ?_⟩
        cases k with
        | zero => injection hk with e1 e2; exact e1 ▸ e2 ▸ hcalm
        | succ k => simp only [runNK, hs] at hk; exact b k s₁ t₁ hk
      | halt o₂ s₂ =>
        simp only [hs] at h
        refine ⟨by simp only [runNK, hs]; exact h, fun k s₁ t₁ hk => ?_⟩
        cases k with
        | zero => injection hk with e1 e2; exact e1 ▸ e2 ▸ hcalm
        | succ k => simp only [runNK, hs] at hk; cases hk
theorem tame_forget (s : Shared) (t : Thread) : tame s.forget t.forget = tame s t := by
  obtain ⟨cur, c, p, st⟩ := t
  cases cur with
  | yield v g l k =>
    simp only [tame, Thread.forget, splitAtGen_forgetAll]
    cases splitAtGen st with
    | none => rfl
    | some x =>
      obtain ⟨frames, b, rest⟩ := x
      simp only [Option.map_some, closingShows, any_guarded_forgetAll]
      rfl
  | _ => rfl
theorem calmL_forget (s : Shared) (t : Thread) : calmL s.forget t.forget = calmL s t := by unfold calmL; rw [tame_forget, Thread.calm_forget]
theorem calmL_runN {s : Shared} {t : Thread} (hc : ∀ k s₁ t₁, runNK den prog w k s t = .running s₁ t₁ → calmL s₁ t₁ = true) : ∀ k s₁ t₁, runN den prog w k s t = .running s₁ t₁ → calmL s₁ t₁ = true := by
  intro k s₁ t₁ hk
  have e := runNK_same den prog w k (s₁ := s) (s₂ := s) (t₁ := t) (t₂ := t) rfl rfl
  rw [hk] at e
  cases hr : runNK den prog w k s t with
  | halted o₂ s₂ => rw [hr] at e; cases e
  | running s₂ t₂ =>
    rw [hr] at e; simp only [Run.forget] at e; injection e with e1 e2
    rw [← calmL_forget s₁ t₁, ← e1, ← e2, calmL_forget]; exact hc k s₂ t₂ hr
theorem runT_full {n : Nat} {s : Shared} {t : Thread} {o : Outcome} {s' : Shared} (h : runT den prog w n s t = .halted o s') (ho : o.ends = true) (hz : s.asleep) :
    ∃ s'', schedN den prog w n (.single s t) = .halted o s'' ∧ runN den prog w n s t = .halted o s'' ∧ s''.forget = s'.forget := by
  obtain ⟨hk, hc⟩ := runT_runNK den prog w h ho
  obtain ⟨s'', hn, hf⟩ := runNK_halted den prog w hk
  have hne : ∀ k s₂, runN den prog w k s t ≠ .halted (.unsupported "lifetime:generator-with-cleanup-left-suspended") s₂ := by
    intro k s₂ hk
    have a := runN_mono den prog w n k s t o s'' hn
    have b := runN_mono den prog w k n s t _ s₂ hk
    rw [Nat.add_comm, b] at a
    injection a with a1 _
    subst a1; exact absurd ho (by simp [Outcome.ends])
  exact ⟨s'', (schedN_L den prog w n s t hz (calmL_runN den prog w hc) hne).trans (congrArg Run.lift hn), hn, hf⟩
end
end Mine
end
section
open PySem PySem.W PyProof.Rows
set_option Elab.async false
set_option linter.unusedVariables false
set_option maxRecDepth 100000
namespace Mine
open Sem (wp)
/-- a run by steps that let a tame yield by -/
inductive Go (M : Model) : Shared → Thread → Shared → Thread → Prop
  | here {s t} : Go M s t s t
  | step {s t s₁ t₁ s' t'} : stepL M.den M.prog M.w s t = .go s₁ t₁ → Go M s₁ t₁ s' t' → Go M s t s' t'
variable {M : Model}
theorem Go.trans {s t s₁ t₁ s' t'} (h : Go M s t s₁ t₁) (h' : Go M s₁ t₁ s' t') : Go M s t s' t' := by
  induction h with
  | here => exact h'
  | step hs _ ih => exact .step hs (ih h')
theorem stepL_of {s t s₁ t₁} (h : M.step s t = .go s₁ t₁) : stepL M.den M.prog M.w s t = .go s₁ t₁ := by
  cases hl : t.loud with
  | true => rw [M.step_loud hl] at h; cases h
  | false => rw [M.step_quiet hl] at h; simp only [stepL, hl, Bool.false_and, Bool.false_eq_true, if_false]; exact h
theorem Go.of {s t s₁ t₁ s' t'} (h : M.step s t = .go s₁ t₁) (h' : Go M s₁ t₁ s' t') : Go M s t s' t' := .step (stepL_of h) h'
theorem Go.runT {s t s' t'} (h : Go M s t s' t') : ∃ n, ∀ m, runT M.den M.prog M.w (n + m) s t = runT M.den M.prog M.w m s' t' := by
  induction h with
  | here => exact ⟨0, fun m => by rw [Nat.zero_add]⟩
  | step hs _ ih =>
    obtain ⟨n, hn⟩ := ih
    refine ⟨n + 1, fun m => ?_⟩
    rw [show n + 1 + m = (n + m) + 1 by omega]
    simp only [Mine.runT, hs]; exact hn m
theorem go_of_reach {base s t c p pre s' e} (h : Reach M base s t c p pre s' e) : ∃ t' c' p' pre', Exits e t' c' p' pre' ∧ Go M s ⟨t, c, p, pre ++ base⟩ s' ⟨t', c', p', pre' ++ base⟩ := by
  induction h with
  | exit hx => exact ⟨_, _, _, _, hx, .here⟩
  | step hs _ ih =>
    obtain ⟨t', c', p', pre', hx, hg⟩ := ih
    exact ⟨t', c', p', pre', hx, .of hs hg⟩
theorem stepL_life {s t s₁ t₁} (h : stepL M.den M.prog M.w s t = .go s₁ t₁) : s₁.heap.life = s.heap.life := by
  unfold stepL at h
  split at h
  · cases h
  · unfold PySem.stepK at h
    split at h
    · injection h with h1 _; subst h1; rfl
    · injection h with h1 _; subst h1; rfl
    · exact step_life _ _ _ _ _ _ _ h
theorem Go.life {s t s' t'} (h : Go M s t s' t') : s'.heap.life = s.heap.life := by
  induction h with
  | here => rfl
  | step hs _ ih => exact ih.trans (stepL_life hs)
theorem step_lf {s t s₁ t₁} (h : M.step s t = .go s₁ t₁) : s₁.heap.life = s.heap.life := stepL_life (stepL_of h)
/-- a tame yield's step -/
theorem stepL_yield {s v g l k c p fs g₁ k₁ l₁ c₁ p₁ rest} (hfs : splitAtGen fs = none) (hc : closingShows s fs c g = false) :
    stepL M.den M.prog M.w s ⟨.yield v g l k, c, p, fs ++ .gen g₁ k₁ l₁ c₁ p₁ :: rest⟩ =
      .go (s.setGen g₁ (End.susp v g l k c p fs).genState) ⟨k₁ (.yielded v), c₁, p₁, rest⟩ := by
  have h : splitAtGen (fs ++ .gen g₁ k₁ l₁ c₁ p₁ :: rest) = some (fs, (g₁, k₁, c₁, p₁), rest) := by
    rw [splitAtGen_append_none _ hfs, splitAtGen_gen]; simp
  have ht : tame s ⟨.yield v g l k, c, p, fs ++ .gen g₁ k₁ l₁ c₁ p₁ :: rest⟩ = true := by
    simp only [tame, h, hc]; rfl
  simp only [stepL, ht, Bool.not_true, Bool.and_false, Bool.false_eq_true, if_false, PySem.stepK, PySem.step, h]; rfl
/-- where a wrapped run goes on -/
theorem go_wrap {α : Type} {L : Life} {Γ : Ctx} {fs base : List Frame} {Φ : Shared → Thread → Prop} (K : α → Sem Fin) (H : Value → Sem Fin) (gd lv) (hf : (Γ.over fs).Fits (fs ++ base)) (m : Sem α) :
    ∀ {Q : α → Pos → Shared → Prop} {E : Value → Pos → Shared → Prop} {p : Pos} {s : Shared}, s.heap.life = L → wp M (Γ.over fs) m Q E p s →
      (∀ a p' s', Q a p' s' → s'.heap.life = L → ∃ s'' t'', Go M s' ⟨K a, Γ.code, p', fs ++ base⟩ s'' t'' ∧ Φ s'' t'') →
      (∀ x p' s', E x p' s' → s'.heap.life = L → ∃ s'' t'', Go M s' ⟨H x, Γ.code, p', fs ++ base⟩ s'' t'' ∧ Φ s'' t'') →
      ∃ s'' t'', Go M s ⟨m.wrap K H gd lv, Γ.code, p, fs ++ base⟩ s'' t'' ∧ Φ s'' t'' := by
  induction m with
  | pure a => intro Q E p s hL h hQ _; exact hQ a p s h hL
  | raise x => intro Q E p s hL h _ hE; exact hE x p s h hL
  | unsupported what => intro Q E p s hL h; exact h.elim
  | finish x => intro Q E p s hL h; exact h.elim
  | register a k => intro Q E p s hL h; exact h.elim
  | yield v g l k => intro Q E p s hL h; exact h.elim
  | fork c k => intro Q E p s hL h; exact h.elim
  | await a f d l k => intro Q E p s hL h; exact h.elim
  | rule tag k ih => intro Q E p s hL h hQ hE; obtain ⟨s'', t'', hr, hΦ⟩ := ih () (by exact hL) h hQ hE; exact ⟨s'', t'', .of (step_rule ..) hr, hΦ⟩
  | «at» p' k ih => intro Q E p s hL h hQ hE; obtain ⟨s'', t'', hr, hΦ⟩ := ih () (by exact hL) h hQ hE; exact ⟨s'', t'', .of (step_at ..) hr, hΦ⟩
  | load a part k ih =>
    intro Q E p s hL h hQ hE; obtain ⟨o, ho, h⟩ := h
    obtain ⟨s'', t'', hr, hΦ⟩ := ih o (by exact hL) h hQ hE; exact ⟨s'', t'', .of (step_load _ _ _ _ _ _ _ ho) hr, hΦ⟩
  | update a part f k ih =>
    intro Q E p s hL h hQ hE; obtain ⟨ha, h⟩ := h
    obtain ⟨s'', t'', hr, hΦ⟩ := ih () (by exact hL) h hQ hE; exact ⟨s'', t'', .of (step_update _ _ _ _ _ _ _ _ ha) hr, hΦ⟩
  | alloc o k ih => intro Q E p s hL h hQ hE; obtain ⟨s'', t'', hr, hΦ⟩ := ih _ (by exact hL) h hQ hE; exact ⟨s'', t'', .of (step_alloc ..) hr, hΦ⟩
  | loadIfAlive a k ih => intro Q E p s hL h hQ hE; obtain ⟨s'', t'', hr, hΦ⟩ := ih _ (by exact hL) h hQ hE; exact ⟨s'', t'', .of (step_loadIfAlive ..) hr, hΦ⟩
  | point l k ih => intro Q E p s hL h hQ hE; obtain ⟨s'', t'', hr, hΦ⟩ := ih () (by exact hL) h hQ hE; exact ⟨s'', t'', .of (step_point ..) hr, hΦ⟩
  | fresh k ih => intro Q E p s hL h hQ hE; obtain ⟨s'', t'', hr, hΦ⟩ := ih _ (by exact hL) h hQ hE; exact ⟨s'', t'', .of (step_fresh ..) hr, hΦ⟩
  | ask k ih => intro Q E p s hL h hQ hE; obtain ⟨s'', t'', hr, hΦ⟩ := ih _ (by exact hL) h hQ hE; exact ⟨s'', t'', .of (step_ask ..) hr, hΦ⟩
  | choose src n k ih =>
    intro Q E p s hL h hQ hE; obtain ⟨hn, h⟩ := h
    obtain ⟨s'', t'', hr, hΦ⟩ := ih _ (by exact hL) h hQ hE; exact ⟨s'', t'', .of (step_choose _ _ _ _ _ _ _ hn) hr, hΦ⟩
  | os q l k ih => intro Q E p s hL h hQ hE; obtain ⟨s'', t'', hr, hΦ⟩ := ih _ (by exact hL) h hQ hE; exact ⟨s'', t'', .of (step_os ..) hr, hΦ⟩
  | call c h g l k ih =>
    intro Q E p s hL hw hQ hE; obtain ⟨r, s₁, hret, hw⟩ := hw
    obtain ⟨t', c', p', pre', hx, hg⟩ := go_of_reach (runs_reach hret (.ret (fun r => (k r).wrap K H gd lv) h (gd g) (lv l) Γ.code p [] :: (fs ++ base)) (hf.enter c _ h _ _ p []))
    obtain ⟨rfl, rfl⟩ := hx
    obtain ⟨s'', t'', hr, hΦ⟩ := ih r (hg.life.trans hL) hw hQ hE
    exact ⟨s'', t'', .of (step_call ..) (hg.trans (.of (step_leaf_ret ..) hr)), hΦ⟩
  | handled own k ih =>
    intro Q E p s hL h hQ hE; obtain ⟨s'', t'', hr, hΦ⟩ := ih _ (by exact hL) h hQ hE
    refine ⟨s'', t'', .of ?_ hr, hΦ⟩
    show M.step s ⟨.handled own _, _, _, _⟩ = _
    rw [step_handled]
    cases own
    · rw [hf.handled]; rfl
    · rw [hf.own]; rfl
  | newGen c k ih => intro Q E p s hL h hQ hE; obtain ⟨s'', t'', hr, hΦ⟩ := ih _ (by exact hL) h hQ hE; exact ⟨s'', t'', .of (step_newGen ..) hr, hΦ⟩
  | genState g k ih =>
    intro Q E p s hL h hQ hE; obtain ⟨st, hg, h⟩ := h
    obtain ⟨s'', t'', hr, hΦ⟩ := ih _ (by exact hL) h hQ hE; exact ⟨s'', t'', .of (step_genState _ _ _ _ _ _ hg) hr, hΦ⟩
  | resume g r l k ih =>
    intro Q E p s hL h hQ hE; obtain ⟨res, s₁, hwk, h⟩ := h
    have hlast : s₁.heap.life = L → (∀ s'' t'', Go M s₁ ⟨(k res).wrap K H gd lv, Γ.code, p, fs ++ base⟩ s'' t'' → Go M s ⟨(Sem.resume g r l k).wrap K H gd lv, Γ.code, p, fs ++ base⟩ s'' t'') →
        ∃ s'' t'', Go M s ⟨(Sem.resume g r l k).wrap K H gd lv, Γ.code, p, fs ++ base⟩ s'' t'' ∧ Φ s'' t'' := fun hl hgo => by
      obtain ⟨s'', t'', hr, hΦ⟩ := ih res hl h hQ hE
      exact ⟨s'', t'', hgo _ _ hr, hΦ⟩
    unfold Wakes at hwk
    cases hg : s.gens[g]? with
    | none => rw [hg] at hwk; exact hwk.elim
    | some gs =>
      rw [hg] at hwk
      cases gs with
      | running => obtain ⟨rfl, rfl⟩ := hwk; exact hlast hL fun _ _ hr => .of (step_resume_running _ _ _ _ _ _ _ _ hg) hr
      | finished => obtain ⟨rfl, rfl⟩ := hwk; exact hlast hL fun _ _ hr => .of (step_resume_finished _ _ _ _ _ _ _ _ hg) hr
      | suspended k₀ l₀ c₀ p₀ fs₀ cl =>
        obtain ⟨e₁, s₂, hrun, hq, rfl, rfl⟩ := hwk
        obtain ⟨t', c', p', pre', hx, hgo⟩ := go_of_reach (runs_reach hrun (.gen g (fun r => (k r).wrap K H gd lv) (lv l) Γ.code p :: (fs ++ base)) (hf.wake c₀ g _ _ p))
        exact hlast (hgo.life.trans hL) fun _ _ hr => .of (step_resume_suspended _ _ _ _ _ _ _ _ hg) (hgo.trans (.of (step_exit_gen _ _ _ _ _ _ _ hx hq) hr))
      | fresh c =>
        cases r with
        | throw x => obtain ⟨rfl, rfl⟩ := hwk; exact hlast hL fun _ _ hr => .of (step_resume_throwFresh _ _ _ _ _ _ _ _ hg) hr
        | send v =>
          by_cases hv : v = .none
          · subst hv
            obtain ⟨e₁, s₂, hrun, hq, rfl, rfl⟩ := hwk
            obtain ⟨t', c', p', pre', hx, hgo⟩ := go_of_reach (runs_reach hrun (.gen g (fun r => (k r).wrap K H gd lv) (lv l) Γ.code p :: (fs ++ base)) (hf.wake c g _ _ p))
            exact hlast (hgo.life.trans hL) fun _ _ hr => .of (step_resume_fresh _ _ _ _ _ _ _ hg) (hgo.trans (.of (step_exit_gen _ _ _ _ _ _ _ hx hq) hr))
          · have hw : res = .justStarted ∧ s₁ = s := by
              cases v <;> first | exact absurd rfl hv | exact hwk
            obtain ⟨rfl, rfl⟩ := hw
            exact hlast hL fun _ _ hr => .of (step_resume_justStarted _ _ _ _ _ _ _ hg hv) hr
  | stack k ih =>
    intro Q E p s hL h hQ hE; obtain ⟨s'', t'', hr, hΦ⟩ := ih _ (by exact hL) h hQ hE
    refine ⟨s'', t'', .of ?_ hr, hΦ⟩
    have := hf.below
    show M.step s ⟨.stack _, _, _, _⟩ = _
    rw [this]; exact step_stack ..
  | thread k ih => intro Q E p s hL h hQ hE; obtain ⟨s'', t'', hr, hΦ⟩ := ih _ (by exact hL) h hQ hE; exact ⟨s'', t'', .of (step_thread ..) hr, hΦ⟩
end Mine
end
section
open PySem PySem.W PyProof.Rows
set_option Elab.async false
set_option linter.unusedVariables false
set_option maxRecDepth 100000
namespace Mine
open Sem (wp)
variable {M : Model}
/-- how a segment ends: at its end, or at a yield whose cleanup nobody sees -/
def SegEndL (R : GenEnd) (Y : Protocol) (n : Nat) (go : Code → Sem Fin → List Frame → Shared → Prop) (s₀ : Shared) (e : End) (s' : Shared) : Prop :=
  match e with
  | .ret r => R n s₀ r s'
  | .susp v g l k c p fs => closingShows s' fs c g = false ∧ Y (n - 1) s₀ v s' fun r s'' => go c (k r) fs s''
/-- from here a segment's end is reached -/
def AtL (M : Model) (Φ : End → Shared → Prop) (c : Code) (fs base : List Frame) (p : Pos) (t : Sem Fin) (s : Shared) : Prop :=
  ∃ s' t', Go M s ⟨t, c, p, fs ++ base⟩ s' t' ∧ ∃ e t₁ c' p' pre', t' = ⟨t₁, c', p', pre' ++ base⟩ ∧ Exits e t₁ c' p' pre' ∧ Φ e s'
def SegL (M : Model) (A : Around) (R : GenEnd) (Y : Protocol) : Nat → Shared → Code → Sem Fin → List Frame → Shared → Prop
  | 0 => fun s₀ c t fs s => ∀ (Γ : Ctx) (p : Pos) (base : List Frame), Γ.code = c → Γ.Fits base → Γ.Woken A → s.heap.life.registered = [] → AtL M (SegEndL R Y 0 (fun _ _ _ _ => False) s₀) c fs base p t s
  | n + 1 => fun s₀ c t fs s => ∀ (Γ : Ctx) (p : Pos) (base : List Frame), Γ.code = c → Γ.Fits base → Γ.Woken A → s.heap.life.registered = [] →
      AtL M (SegEndL R Y (n + 1) (fun c' t' fs' s'' => SegL M A R Y n s'' c' t' fs' s'') s₀) c fs base p t s
def SegL.next (M : Model) (A : Around) (R : GenEnd) (Y : Protocol) : Nat → Code → Sem Fin → List Frame → Shared → Prop
  | 0 => fun _ _ _ _ => False
  | n + 1 => fun c t fs s'' => SegL M A R Y n s'' c t fs s''
theorem segL_iff {A : Around} {R : GenEnd} {Y : Protocol} {n : Nat} {s₀ c t fs s} :
    SegL M A R Y n s₀ c t fs s ↔ ∀ (Γ : Ctx) (p : Pos) (base : List Frame), Γ.code = c → Γ.Fits base → Γ.Woken A → s.heap.life.registered = [] → AtL M (SegEndL R Y n (SegL.next M A R Y n) s₀) c fs base p t s := by
  cases n <;> rfl
section
variable {A : Around} {R : GenEnd} {Y : Protocol} {n : Nat} {s₀ : Shared} {c : Code} {fs : List Frame} {s : Shared}
theorem AtL.of {Φ : End → Shared → Prop} {base p t s c₁ fs₁ p₁ t₁ s₁} (h : M.step s ⟨t, c, p, fs ++ base⟩ = .go s₁ ⟨t₁, c₁, p₁, fs₁ ++ base⟩) (h' : AtL M Φ c₁ fs₁ base p₁ t₁ s₁) :
    AtL M Φ c fs base p t s := by
  obtain ⟨s', t', hg, hx⟩ := h'
  exact ⟨s', t', .of h hg, hx⟩
theorem segL_wrap {α : Type} {m : Sem α} {K : α → Sem Fin} {H : Value → Sem Fin} {gd lv}
    (h : wpAny M (A.over c fs) m (fun a s' => SegL M A R Y n s₀ c (K a) fs s') (fun x s' => SegL M A R Y n s₀ c (H x) fs s') s) :
    SegL M A R Y n s₀ c (m.wrap K H gd lv) fs s := by
  rw [segL_iff]
  rintro Γ p base rfl hf hΓ hz
  exact go_wrap K H gd lv (hf.over fs) m rfl (h (Γ.over fs) p (hΓ.over fs)) (fun a p' s' h' hl => segL_iff.mp h' Γ p' base rfl hf hΓ (hl ▸ hz))
    (fun x p' s' h' hl => segL_iff.mp h' Γ p' base rfl hf hΓ (hl ▸ hz))
theorem segL_bind {α : Type} {m : Sem α} {K : α → Sem Fin}
    (h : wpAny M (A.over c fs) m (fun a s' => SegL M A R Y n s₀ c (K a) fs s') (fun x s' => SegL M A R Y n s₀ c (.raise x) fs s') s) :
    SegL M A R Y n s₀ c (m >>= K) fs s := by
  rw [Sem.bind_eq_wrap']; exact segL_wrap h
theorem segL_at {p' : Pos} {k : Unit → Sem Fin} (h : SegL M A R Y n s₀ c (k ()) fs s) : SegL M A R Y n s₀ c (.at p' k) fs s :=
  segL_wrap (m := standAt p') (K := k) (H := .raise) (gd := id) (lv := id) (wpAny_standAt h)
theorem segL_point {l : List Value} {k : Unit → Sem Fin} (h : SegL M A R Y n s₀ c (k ()) fs s) : SegL M A R Y n s₀ c (.point l k) fs s :=
  segL_wrap (m := point) (K := k) (H := .raise) (gd := id) (lv := fun _ => l) (wpAny_point h)
theorem segL_rule {tag : String} {k : Unit → Sem Fin} (h : SegL M A R Y n s₀ c (k ()) fs s) : SegL M A R Y n s₀ c (.rule tag k) fs s :=
  segL_wrap (m := rule tag) (K := k) (H := .raise) (gd := id) (lv := id) (wpAny_rule h)
theorem segL_call {c' : Code} {h g l} {k : Result → Sem Fin} (hc : ∀ p, SegL M A R Y n s₀ c' (M.den c') (.ret k h g l c p [] :: fs) s) :
    SegL M A R Y n s₀ c (.call c' h g l k) fs s := by
  rw [segL_iff]
  rintro Γ p base rfl hf hΓ hz
  exact AtL.of (step_call ..) (segL_iff.mp (hc p) (Γ.goto c') p base rfl (hf.goto c') (hΓ.goto c') hz)
theorem segL_leaf {k h g l c₁ p₁ kp} (r : Result) (hk : SegL M A R Y n s₀ c₁ (k r) fs s) : SegL M A R Y n s₀ c (leafOf r) (.ret k h g l c₁ p₁ kp :: fs) s := by
  rw [segL_iff]
  rintro Γ p base rfl hf hΓ hz
  exact AtL.of (step_leaf_ret ..) (segL_iff.mp hk (Γ.goto c₁) p₁ base rfl (hf.goto c₁) (hΓ.goto c₁) hz)
theorem segL_again {c' : Code} (hq : c'.quiet = true) (hc : SegL M A R Y n s₀ c' (M.den c') fs s) : SegL M A R Y n s₀ c (.pure (.again c')) fs s := by
  rw [segL_iff]
  rintro Γ p base rfl hf hΓ hz
  exact AtL.of (step_again _ _ _ _ _ _ hq) (segL_iff.mp hc (Γ.goto c') p base rfl (hf.goto c') (hΓ.goto c') hz)
theorem segL_end (r : Result) (h : R n s₀ r s) : SegL M A R Y n s₀ c (leafOf r) [] s := by
  rw [segL_iff]
  rintro Γ p base rfl _ _ _
  exact ⟨_, _, .here, .ret r, _, _, _, [], rfl, ⟨rfl, rfl⟩, h⟩
theorem segL_yield {v g l} {k : Resume → Sem Fin} (hfs : splitAtGen fs = none) (hg : s.heap.life.registered = [] → closingShows s fs c g = false)
    (h : Y n s₀ v s fun r s'' => SegL M A R Y n s'' c (k r) fs s'') : SegL M A R Y (n + 1) s₀ c (.yield v g l k) fs s := by
  rintro Γ p base rfl _ _ hz
  exact ⟨_, _, .here, .susp v g l k Γ.code p fs, _, _, _, fs, rfl, ⟨rfl, rfl, rfl, rfl, hfs⟩, hg hz, h⟩
/-- a generator's turn in the wider sense -/
def GoesL (M : Model) (A : Around) (R : GenEnd) (Y : Protocol) (n : Nat) (gs : GenState) (r : Resume) (s : Shared) : Prop :=
  match gs with
  | .fresh c => r = .send .none ∧ SegL M A R Y n s c (M.den c) [] s
  | .suspended k _ c _ fs _ => SegL M A R Y n s c (k r) fs s
  | _ => False
theorem segL_resume {R' : GenEnd} {Y' : Protocol} {n' : Nat} {g : Nat} {gs : GenState} {r : Resume} {l : List Value} {k : GenResult → Sem Fin} (hg : s.gens[g]? = some gs)
    (hgo : GoesL M (A.over c fs) R' Y' n' gs r (s.setGen g .running))
    (hR : ∀ x s₁, R' n' (s.setGen g .running) x s₁ → SegL M A R Y n s₀ c (k (End.ret x).result) fs (s₁.setGen g .finished))
    (hY : ∀ v s₁ gs', Y' (n' - 1) (s.setGen g .running) v s₁ (fun r' s'' => match n' with | 0 => False | m + 1 => GoesL M (A.over c fs) R' Y' m gs' r' s'') →
      SegL M A R Y n s₀ c (k (.yielded v)) fs (s₁.setGen g gs')) :
    SegL M A R Y n s₀ c (.resume g r l k) fs s := by
  rw [segL_iff]
  rintro Γ p base rfl hf hΓ hz
  have hB : ∀ c', ((Γ.over fs).wake c' p).Woken (A.over Γ.code fs) := fun c' => (hΓ.over fs).wake c' p
  have fin : ∀ c₁ p₁ t₁ fs₁, AtL M (SegEndL R' Y' n' (SegL.next M (A.over Γ.code fs) R' Y' n') (s.setGen g .running)) c₁ fs₁ (.gen g k l Γ.code p :: (fs ++ base)) p₁ t₁ (s.setGen g .running) →
      M.step s ⟨.resume g r l k, Γ.code, p, fs ++ base⟩ = .go (s.setGen g .running) ⟨t₁, c₁, p₁, fs₁ ++ .gen g k l Γ.code p :: (fs ++ base)⟩ →
      AtL M (SegEndL R Y n (SegL.next M A R Y n) s₀) Γ.code fs base p (.resume g r l k) s := by
    intro c₁ p₁ t₁ fs₁ hat hstep
    obtain ⟨s₁, t', hgo', e, t₂, c₂, p₂, pre₂, rfl, hx, hΦ⟩ := hat
    cases e with
    | ret x =>
      obtain ⟨rfl, rfl⟩ := hx
      obtain ⟨s', t', h1, h2⟩ := segL_iff.mp (hR x s₁ hΦ) Γ p base rfl hf hΓ (show s₁.heap.life.registered = [] from hgo'.life ▸ hz)
      exact ⟨s', t', .of hstep (hgo'.trans (.of (step_leaf_gen ..) h1)), h2⟩
    | susp v g₀ l₀ k₀ c₀ p₀ fs₀ =>
      obtain ⟨rfl, rfl, rfl, rfl, hfs⟩ := hx
      obtain ⟨hc, hy⟩ := hΦ
      obtain ⟨s', t', h1, h2⟩ := segL_iff.mp (hY v s₁ (End.susp v g₀ l₀ k₀ c₂ p₂ pre₂).genState (by
        cases n' with
        | zero => exact hy
        | succ m => exact hy)) Γ p base rfl hf hΓ (show s₁.heap.life.registered = [] from hgo'.life ▸ hz)
      exact ⟨s', t', .of hstep (hgo'.trans (.step (stepL_yield hfs hc) h1)), h2⟩
  cases gs with
  | fresh c₁ =>
    obtain ⟨rfl, hs⟩ := hgo
    exact fin c₁ p (M.den c₁) [] (segL_iff.mp hs ((Γ.over fs).wake c₁ p) p _ rfl ((hf.over fs).wake c₁ g k l p) (hB c₁) hz) (step_resume_fresh _ _ _ _ _ _ _ hg)
  | suspended k₀ l₀ c₀ p₀ fs₀ cl =>
    exact fin c₀ p₀ (k₀ r) fs₀ (segL_iff.mp hgo ((Γ.over fs).wake c₀ p) p₀ _ rfl ((hf.over fs).wake c₀ g k l p) (hB c₀) hz) (step_resume_suspended _ _ _ _ _ _ _ _ hg)
  | running => exact hgo.elim
  | finished => exact hgo.elim
end
end Mine
end
section
open PySem PySem.W PyProof.Rows
set_option Elab.async false
set_option maxRecDepth 100000
namespace Mine
open Sem (wp)

/-- what a step of an iterator leaves as it was -/
structure Kept (Wr : Addr → Obj → Prop) (Gp : Nat → Prop) (s s' : Shared) : Prop where
  heap : ∀ b o, ¬ Wr b o → s.heap.get? b = some o → s'.heap.get? b = some o
  gsize : s.gens.size ≤ s'.gens.size
  gens : ∀ k, ¬ Gp k → k < s.gens.size → s'.gens[k]? = s.gens[k]?
  bare : AllBare s.gens → AllBare s'.gens
  drawn : s'.drawn = s.drawn
  os : s'.os = s.os
  toks : s.toks ≤ s'.toks

namespace Kept
variable {Wr : Addr → Obj → Prop} {Gp : Nat → Prop} {s s' s'' : Shared}
theorem refl : Kept Wr Gp s s := ⟨fun _ _ _ e => e, Nat.le_refl _, fun _ _ _ => rfl, id, rfl, rfl, Nat.le_refl _⟩
theorem trans (x : Kept Wr Gp s s') (y : Kept Wr Gp s' s'') : Kept Wr Gp s s'' :=
  ⟨fun b o hb e => y.heap b o hb (x.heap b o hb e), Nat.le_trans x.gsize y.gsize, fun k hk hl => (y.gens k hk (Nat.lt_of_lt_of_le hl x.gsize)).trans (x.gens k hk hl),
    fun h => y.bare (x.bare h), y.drawn.trans x.drawn, y.os.trans x.os, Nat.le_trans x.toks y.toks⟩
theorem mono {Wr' : Addr → Obj → Prop} {Gp' : Nat → Prop} (x : Kept Wr Gp s s') (h : ∀ b o, Wr b o → Wr' b o) (hg : ∀ k, Gp k → Gp' k) : Kept Wr' Gp' s s' :=
  ⟨fun b o hb e => x.heap b o (fun q => hb (h b o q)) e, x.gsize, fun k hk hl => x.gens k (fun q => hk (hg k q)) hl, x.bare, x.drawn, x.os, x.toks⟩
theorem pre {h' : Heap} (hk : ∀ b o, ¬ Wr b o → s.heap.get? b = some o → h'.get? b = some o) (y : Kept Wr Gp { s with heap := h' } s'') : Kept Wr Gp s s'' :=
  ⟨fun b o hb e => y.heap b o hb (hk b o hb e), y.gsize, y.gens, y.bare, y.drawn, y.os, y.toks⟩
theorem of_heap {h' : Heap} {tk : Nat} (hk : ∀ b o, ¬ Wr b o → s.heap.get? b = some o → h'.get? b = some o) (ht : s.toks ≤ tk) : Kept Wr Gp s { s with heap := h', toks := tk } :=
  ⟨hk, Nat.le_refl _, fun _ _ _ => rfl, id, rfl, rfl, ht⟩
end Kept

/-- what an iterator asks of its surroundings between two steps -/
structure Still (Fp : Addr → Obj → Prop) (Gp : Nat → Prop) (s s' : Shared) : Prop where
  heap : ∀ b o, Fp b o → s.heap.get? b = some o → s'.heap.get? b = some o
  gens : ∀ k, Gp k → k < s.gens.size → s'.gens[k]? = s.gens[k]?
  gsize : s.gens.size ≤ s'.gens.size
theorem Still.refl {Fp : Addr → Obj → Prop} {Gp : Nat → Prop} {s : Shared} : Still Fp Gp s s := ⟨fun _ _ _ e => e, fun _ _ _ => rfl, Nat.le_refl _⟩
theorem Still.trans {Fp : Addr → Obj → Prop} {Gp : Nat → Prop} {s s' s'' : Shared} (x : Still Fp Gp s s') (y : Still Fp Gp s' s'') : Still Fp Gp s s'' :=
  ⟨fun b o hb e => y.heap b o hb (x.heap b o hb e), fun k hk hl => (y.gens k hk (Nat.lt_of_lt_of_le hl x.gsize)).trans (x.gens k hk hl), Nat.le_trans x.gsize y.gsize⟩

/-- an iterator that hands out these texts -/
structure WalksP (prog : Program) (w : World) (A : Around) (I : Addr) (Fp Wr : Addr → Obj → Prop) (Gp : Nat → Prop) (outs : List Str) (St : Nat → Shared → Prop) : Prop where
  frame : ∀ i s s', St i s → Still Fp Gp s s' → St i s'
  item : ∀ i (s : Shared) (x : Str) (Q : Option Value → Shared → Prop) (E : Value → Shared → Prop), outs[i]? = some x → St i s →
    (∀ t s', St (i + 1) s' → Kept Wr Gp s s' → Q (some (.str x t)) s') → wpAny (model prog w) A (pyNext (.ref I)) Q E s
  done : ∀ (s : Shared) (Q : Option Value → Shared → Prop) (E : Value → Shared → Prop), St outs.length s → (∀ s', Kept Wr Gp s s' → Q none s') → wpAny (model prog w) A (pyNext (.ref I)) Q E s

theorem strsAre_snoc {vs : List Value} {xs : List Str} {x : Str} {t : Tok} (h : StrsAre vs xs) : StrsAre (vs ++ [.str x t]) (xs ++ [x]) := by
  induction h with
  | nil => exact .cons _ _ .nil
  | cons y t _ ih => exact .cons _ _ ih
theorem strsAre_length {vs : List Value} {xs : List Str} (h : StrsAre vs xs) : vs.length = xs.length := by
  induction h with
  | nil => rfl
  | cons y t _ ih => simp [ih]

section
variable {prog : Program} {w : World} {A : Around} {R : Result → Shared → Prop} {I : Addr} {Fp Wr : Addr → Obj → Prop} {Gp : Nat → Prop} {outs : List Str} {St : Nat → Shared → Prop}

theorem extend_loop (W : WalksP prog w A.in1 I Fp Wr Gp outs St) (hn : outs.length ≤ sizeLine) (S : Addr) (hSf : ∀ its c, ¬ Fp S (listOf its c)) (hSw : ∀ its c, ¬ Wr S (listOf its c)) (res : Value) :
    ∀ (k i : Nat) (s : Shared) (acc : List Value) (c : Nat), outs.length - i = k → i ≤ outs.length → St i s → s.heap.get? S = some (listOf acc.toArray c) → StrsAre acc (outs.take i) →
    (∀ s' acc' c', Kept (fun b o => b = S ∨ Wr b o) Gp s s' → s'.heap.get? S = some (listOf acc'.toArray c') → StrsAre acc' outs → R (.ok (.ret res)) s') →
    codeAny (model prog w) A (.builtin "list.extend.loop" ⟨[.ref S, .ref I, res], []⟩) R s := by
  intro k
  induction k with
  | zero =>
    intro i s acc c hk hi hst hS hacc hR
    have hin : i = outs.length := by omega
    subst hin
    refine codeAny_builtin F.entry_extend_loop ?_
    rw [Around.under_plainId F.plain_extend_loop _]
    show wpAny _ A.in1 (pyNext (.ref I) >>= _) _ _ s
    refine wpAny_bind (W.done s _ _ hst fun s' hm => ?_)
    refine wpAny_pure (hR s' acc c (hm.mono (fun _ _ => .inr) fun _ => id) (hm.heap S _ (hSw _ _) hS) ?_)
    rwa [List.take_length] at hacc
  | succ k ih =>
    intro i s acc c hk hi hst hS hacc hR
    have hlt : i < outs.length := by omega
    refine codeAny_builtin F.entry_extend_loop ?_
    rw [Around.under_plainId F.plain_extend_loop _]
    show wpAny _ A.in1 (pyNext (.ref I) >>= _) _ _ s
    refine wpAny_bind (W.item i s outs[i] _ _ (by simp [hlt]) hst fun t s' hst' hm => ?_)
    have hS' := hm.heap S _ (hSw _ _) hS
    have hlen : acc.length = i := by rw [strsAre_length hacc, List.length_take]; omega
    show wpAny _ A.in1 (updateSeq S (·.push (.str outs[i] t)) >>= _) _ _ _
    refine wpAny_bind ?_
    have hS2 : (s'.heap.update S (Obj.mapSeq (·.push (Value.str outs[i] t)))).get? S = some (listOf (acc ++ [Value.str outs[i] t]).toArray (c + 1)) := by
      have := Heap.get?_update_self (Obj.mapSeq (·.push (Value.str outs[i] t))) hS' rfl
      rw [this]
      simp [Obj.mapSeq]
    have oth : ∀ b o, b ≠ S → s'.heap.get? b = some o → (s'.heap.update S (Obj.mapSeq (·.push (Value.str outs[i] t)))).get? b = some o :=
      fun b o hb e => (Heap.get?_update_other _ _ (Ne.symm hb)).trans e
    refine wpAny_updateSeq hS' rfl (wpAny_pure ⟨plainId_quiet F.plain_extend_loop _, ih (i + 1) _ (acc ++ [Value.str outs[i] t]) (c + 1) (by omega) hlt (W.frame _ s' _ hst' ⟨fun b o hb e => ?_, fun _ _ _ => rfl, Nat.le_refl _⟩) hS2 ?_ fun s'' acc' c' hm'' hS'' hacc' => ?_⟩)
      (by simp [hlen]; omega) (by show (acc.toArray.push _).size ≤ sizeLine + 1; simp [hlen]; omega)
    · by_cases hbS : b = S
      · subst hbS
        rw [hS'] at e
        cases e
        exact absurd hb (hSf _ _)
      · exact oth b o hbS e
    · rw [List.take_add_one, List.getElem?_eq_getElem hlt]
      exact strsAre_snoc hacc
    · refine hR s'' acc' c' (Kept.trans ((hm.mono (fun _ _ => .inr) fun _ => id).trans ?_) hm'') hS'' hacc'
      exact ⟨fun b o hb e => oth b o (fun q => hb (.inl q)) e, Nat.le_refl _, fun _ _ _ => rfl, id, rfl, rfl, Nat.le_refl _⟩
end

section
variable {prog : Program} {w : World} {A : Around} {E : Value → Shared → Prop} {s : Shared} {R : Result → Shared → Prop} {I : Addr} {Fp Wr : Addr → Obj → Prop} {Gp : Nat → Prop} {outs : List Str} {St : Nat → Shared → Prop}

/-- a list's own changes are let by -/
theorem still_list {S : Addr} {its : Array Value} {c : Nat} {h' : Heap} (hSf : ∀ its c, ¬ Fp S (listOf its c)) (hS : s.heap.get? S = some (listOf its c)) (oth : ∀ b o, b ≠ S → s.heap.get? b = some o → h'.get? b = some o) :
    Still Fp Gp s { s with heap := h' } :=
  ⟨fun b o hb e => by
    by_cases q : b = S
    · subst q; rw [hS] at e; cases e; exact absurd hb (hSf _ _)
    · exact oth b o q e, fun _ _ _ => rfl, Nat.le_refl _⟩

theorem extend_walk (W : WalksP prog w A.in1 I Fp Wr Gp outs St) (hG : ∀ i s, St i s → ∃ g, s.heap.IsGen I g) (S : Addr) (res : Value) (c₀ : Nat) (acc₀ : List Value) (hst : St 0 s) (hSI : S ≠ I)
    (hSf : ∀ its c, ¬ Fp S (listOf its c)) (hSw : ∀ its c, ¬ Wr S (listOf its c)) (hS : s.heap.get? S = some (listOf #[] c₀)) (_h0 : acc₀ = [])
    (hR : ∀ s' acc' c', Kept (fun b o => b = S ∨ Wr b o) Gp s s' → s'.heap.get? S = some (listOf acc'.toArray c') → StrsAre acc' outs → R (.ok (.ret res)) s') (hn : outs.length ≤ sizeLine) :
    wpAny (model prog w) A.in1 (Builtin.List.listExtendWith (.ref S) (.ref I) res)
      (fun fin s' => match fin with | .done f => R (.ok f) s' | .again c' => c'.quiet = true ∧ codeAny (model prog w) A c' R s') (fun e s' => R (.error e) s') s := by
  obtain ⟨g, hg⟩ := hG 0 _ hst
  unfold Builtin.List.listExtendWith
  refine wpAny_bind (wpAny_typeOf hg.typeIs ?_)
  have h1 : Builtin.List.listSameRef (.ref S) (.ref I) = false := by simp [Builtin.List.listSameRef, hSI]
  have h2 : (Value.type "generator" == Value.type "list") = false := by decide
  have h3 : (Value.type "generator" == Value.type "tuple") = false := by decide
  simp only [h1, h2, h3, Bool.or_false, Bool.false_eq_true, if_false]
  refine wpAny_bind (wpAny_pyIter_gen hg ?_)
  refine wpAny_bind (wpAny_holding ?_)
  unfold Builtin.List.listLengthHint
  refine wpAny_bind (wpAny_specialOf hg.typeIs F.gen_no_len ?_)
  show wpAny _ A.in1 (specialOf (Value.ref I) (Str.ofString "__length_hint__") >>= _) _ _ _
  refine wpAny_bind (wpAny_specialOf hg.typeIs F.gen_no_hint ?_)
  refine wpAny_pure ?_
  show wpAny _ A.in1 (rule "list.extend.makes-room" >>= fun _ => Builtin.List.listTouch (.ref S) >>= fun _ =>
    again (.builtin "list.extend.loop" ⟨[.ref S, .ref I, res], []⟩)) _ _ _
  refine wpAny_bind (wpAny_rule ?_)
  refine wpAny_bind ?_
  show wpAny _ A.in1 (updateSeq S (·.push .none) >>= fun _ => updateSeq S (·.pop)) _ _ _
  refine wpAny_bind (wpAny_updateSeq hS rfl ?_)
  have hS₂ := Heap.get?_update_self (Obj.mapSeq (·.push Value.none)) hS rfl
  refine wpAny_updateSeq (hz := by seq_fits) hS₂ rfl ?_
  have hS₃ := Heap.get?_update_self (Obj.mapSeq (·.pop)) hS₂ rfl
  have oth : ∀ b o, b ≠ S → s.heap.get? b = some o → ((s.heap.update S (Obj.mapSeq (·.push Value.none))).update S (Obj.mapSeq (·.pop))).get? b = some o :=
    fun b o hb e => (Heap.get?_update_other _ _ (Ne.symm hb)).trans ((Heap.get?_update_other _ _ (Ne.symm hb)).trans e)
  refine wpAny_pure ⟨plainId_quiet F.plain_extend_loop _, extend_loop W hn S hSf hSw _ outs.length 0 _ [] _ rfl (Nat.zero_le _)
    (W.frame 0 s _ hst (still_list hSf hS oth)) hS₃ (by simpa using StrsAre.nil) fun s' acc' c' hm hS' hacc => ?_⟩
  exact hR s' acc' c' (Kept.pre (fun b o hb e => oth b o (fun q => hb (.inl q)) e) hm) hS' hacc

theorem init_walk (W : WalksP prog w A.in1 I Fp Wr Gp outs St) (hG : ∀ i s, St i s → ∃ g, s.heap.IsGen I g) (S : Addr) (hst : St 0 s) (hSI : S ≠ I)
    (hSf : ∀ its c, ¬ Fp S (listOf its c)) (hSw : ∀ its c, ¬ Wr S (listOf its c)) (hS : s.heap.get? S = some (listOf #[] 0))
    (hR : ∀ s' acc' c', Kept (fun b o => b = S ∨ Wr b o) Gp s s' → s'.heap.get? S = some (listOf acc'.toArray c') → StrsAre acc' outs → R (.ok (.ret .none)) s') (hn : outs.length ≤ sizeLine) :
    wpAny (model prog w) A.in1 (Builtin.«list.__init__» ⟨[.ref S, .ref I], []⟩)
      (fun fin s' => match fin with | .done f => R (.ok f) s' | .again c' => c'.quiet = true ∧ codeAny (model prog w) A c' R s') (fun e s' => R (.error e) s') s := by
  show wpAny _ A.in1 (do let old ← Builtin.List.listItems (.ref S); Builtin.List.listUpdate (.ref S) (fun _ => #[]); letGo old.toList.reverse; Builtin.List.listExtendWith (.ref S) (.ref I) .none) _ _ s
  refine wpAny_bind ?_
  unfold Builtin.List.listItems
  refine wpAny_bind (wpAny_seqItems hS rfl (wpAny_pure ?_))
  show wpAny _ A.in1 (updateSeq S (fun _ => #[]) >>= fun _ => letGo (#[] : Array Value).toList.reverse >>= fun _ => Builtin.List.listExtendWith (.ref S) (.ref I) .none) _ _ s
  refine wpAny_bind (wpAny_updateSeq hS rfl ?_)
  have hS₂ := Heap.get?_update_self (Obj.mapSeq (fun _ => (#[] : Array Value))) hS rfl
  have oth : ∀ b o, b ≠ S → s.heap.get? b = some o → (s.heap.update S (Obj.mapSeq (fun _ => (#[] : Array Value)))).get? b = some o :=
    fun b o hb e => (Heap.get?_update_other _ _ (Ne.symm hb)).trans e
  refine wpAny_bind (wpAny_letGo ?_)
  refine extend_walk (hn := hn) W hG S .none _ [] (W.frame 0 s _ hst (still_list hSf hS oth)) hSI hSf hSw hS₂ rfl fun s' acc' c' hm hS' hacc => ?_
  exact hR s' acc' c' (Kept.pre (fun b o hb e => oth b o (fun q => hb (.inl q)) e) hm) hS' hacc

/-- list(it) -/
theorem call_list_walk {Q : Value → Shared → Prop} (W : WalksP prog w A.in1.in1 I Fp Wr Gp outs St) (hG : ∀ i s, St i s → ∃ g, s.heap.IsGen I g) (hst : St 0 s)
    (hSf : ∀ its c, ¬ Fp s.heap.objs.size (listOf its c)) (hSw : ∀ its c, ¬ Wr s.heap.objs.size (listOf its c))
    (hQ : ∀ s' vs c', Kept (fun b o => b = s.heap.objs.size ∨ Wr b o) Gp s s' → s'.heap.get? s.heap.objs.size = some (listOf vs.toArray c') → StrsAre vs outs → Q (.ref s.heap.objs.size) s') (hn : outs.length ≤ sizeLine) :
    wpAny (model prog w) A (call (.type "list") [.ref I]) Q E s := by
  obtain ⟨g, hg⟩ := hG 0 _ hst
  have hSI : s.heap.objs.size ≠ I := fun e => by
    obtain ⟨o, _, _, ho, _⟩ := hg
    exact absurd (Heap.lt_size ho) (e ▸ Nat.lt_irrefl _)
  refine callType_codes (Q₁ := fun obj s₁ => obj = .ref s.heap.objs.size ∧ s₁ = { s with heap := s.heap.push (listOf #[] 0) }) F.called_list (F.typeCall_list_1 _) F.entry_list_init
    (code_list_new _ ⟨rfl, rfl⟩) fun obj s₁ h₁ => ?_
  obtain ⟨rfl, rfl⟩ := h₁
  have hS : (s.heap.push (listOf #[] 0)).get? s.heap.objs.size = some (listOf #[] 0) := Heap.get?_push_size _ rfl
  refine ⟨⟨_, hS, rfl⟩, F.args_list_init_2 _ _, init_walk (hn := hn) W hG _ (W.frame 0 s _ hst ⟨fun b o _ e => Heap.get?_push_of_some _ e, fun _ _ _ => rfl, Nat.le_refl _⟩) hSI hSf hSw hS fun s' acc' c' hm hS' hacc => ?_⟩
  exact ⟨rfl, hQ s' acc' c' (Kept.pre (fun b o _ e => Heap.get?_push_of_some _ e) hm) hS' hacc⟩
end
end Mine
end
section
open PySem PySem.W PyProof.Rows
set_option Elab.async false
set_option maxRecDepth 100000
namespace Mine
open Sem (wp)
section
variable {prog : Program} {w : World} {A : Around} {E : Value → Shared → Prop} {s : Shared}

theorem next_gen {a : Addr} {g n : Nat} {gs : GenState} {P : Nat → Shared → Shared → Prop} {Y : Protocol} {Q : Option Value → Shared → Prop} (hh : A.handled = none)
    (hl : s.heap.NoLimit) (hroom : A.depth < recursionLimit) (hg : s.heap.IsGen a g) (hgs : s.gens[g]? = some gs)
    (hgo : gs.Goes (model prog w) A.in1 (fun n s₀ r s₁ => r = .ok (.ret .none) ∧ P n s₀ s₁) Y n (.send .none) (s.setGen g .running))
    (hY : ∀ v s₁ gs', gs'.bare = true → Y (n - 1) (s.setGen g .running) v s₁ (fun r' s'' => match n with
        | 0 => False
        | m + 1 => gs'.Goes (model prog w) A.in1 (fun n s₀ r s₁ => r = .ok (.ret .none) ∧ P n s₀ s₁) Y m r' s'') → Q (some v) (s₁.setGen g gs'))
    (hP : ∀ s₁, P n (s.setGen g .running) s₁ → ∀ h', (∀ b o, s₁.heap.get? b = some o → h'.get? b = some o) → Q none { s₁.setGen g .finished with heap := h' }) :
    wpAny (model prog w) A (pyNext (.ref a)) Q E s := by
  unfold pyNext
  refine wpAny_bind (wpAny_attempt (wpAny_callSpecial?_slot (name := Str.ofString "__next__") hg.typeIs slot_gen_next
    (wpAny_call_entry slot_gen_next hg.typeIs entry_gen_next ?_ (args_gen_next _))))
  show wpAny _ A.in1 (Builtin.Generator.genWake (.ref a) (.send .none)) _ _ s
  unfold Builtin.Generator.genWake
  refine wpAny_bind (wpAny_holding (wpAny_genNumber hg (wpAny_bind (wpAny_genState hgs ?_))))
  cases gs with
  | running => exact hgo.elim
  | finished => exact hgo.elim
  | _ =>
    refine wpAny_bind (wpAny_roomToWake hl hroom ?_)
    show wpAny _ A.in1 (.resume g (.send .none) [] _) _ _ s
    refine wpAny_resumeQ hgs hgo (fun x s₁ hx => ?_) (fun v s₁ gs' hb hv => ?_)
    · obtain ⟨rfl, hp⟩ := hx
      show wpAny _ A.in1 (newExc (.type "StopIteration") [] >>= _) _ _ _
      refine wpAny_bind ?_
      simp only [newExc, newTuple]
      refine wpAny_bind (wpAny_newObj_type ?_ (by size_fits))
      refine wpAny_bind (m := firstArgMember _ _) (wpAny_of_eq (a := Value.none) (by first | rfl | (simp only [firstArgMember]; rfl)) ?_)
      refine wpAny_newObj_type ?_ (by size_fits)
      simp only [raiseNew]
      refine wpAny_bind (wpAny_bind (wpAny_handled ?_))
      rw [show A.in1.handled = none from hh]
      refine wpAny_throw ?_
      refine wpAny_bind (wpAny_isInstance (T := "StopIteration") (b := true) ⟨_, Heap.get?_push_size _ rfl, rfl⟩ isSubtype_stop ?_)
      exact wpAny_pure (hP s₁ hp _ fun b o hb => Heap.get?_push_of_some _ (Heap.get?_push_of_some _ hb))
    · exact wpAny_pure ⟨v, rfl, wpAny_pure (hY v s₁ gs' hb hv)⟩
end

/-- the generator's own end and yields -/
abbrev endF (Wr : Addr → Obj → Prop) (Gi : Nat → Prop) : Nat → Shared → Shared → Prop := fun n s₀ s₁ => n = 0 ∧ Kept Wr Gi s₀ s₁
abbrev retF (Wr : Addr → Obj → Prop) (Gi : Nat → Prop) : GenEnd := fun n s₀ r s₁ => r = .ok (.ret .none) ∧ endF Wr Gi n s₀ s₁
def protoF (Fp Wr : Addr → Obj → Prop) (Gi : Nat → Prop) (outs : List Str) : Protocol := fun m s₀ v s kap =>
  (∃ x t, outs[outs.length - 1 - m]? = some x ∧ v = .str x t) ∧ Kept Wr Gi s₀ s ∧ ∀ s'' : Shared, Still Fp Gi s s'' → kap (.send .none) s''

def GenAtF (prog : Program) (w : World) (A : Around) (a : Addr) (g : Nat) (Fp Wr : Addr → Obj → Prop) (Gi : Nat → Prop) (outs : List Str) (j : Nat) (s : Shared) : Prop :=
  s.heap.IsGen a g ∧ s.heap.NoLimit ∧ ∃ gs, s.gens[g]? = some gs ∧ ∀ s'' : Shared, Still Fp Gi s s'' → gs.Goes (model prog w) A.in1 (retF Wr Gi) (protoF Fp Wr Gi outs) (outs.length - j) (.send .none) s''

theorem still_setGen {Fp : Addr → Obj → Prop} {Gi : Nat → Prop} {s : Shared} {g : Nat} {x : GenState} (hg : ¬ Gi g) : Still Fp Gi s (s.setGen g x) :=
  ⟨fun _ _ _ e => e, fun k hk _ => by
    have : k ≠ g := fun q => hg (q ▸ hk)
    simp [Shared.setGen, Ne.symm this], by simp [Shared.setGen]⟩
theorem kept_setGen {Wr : Addr → Obj → Prop} {Gi : Nat → Prop} {s s₁ : Shared} {g : Nat} {x y : GenState} (h : Kept Wr Gi (s.setGen g x) s₁) (hx : x.bare = true) (hy : y.bare = true) :
    Kept Wr (fun k => k = g ∨ Gi k) s (s₁.setGen g y) := by
  have hb : ∀ (gens : Array GenState) (z : GenState), z.bare = true → AllBare gens → AllBare (gens.setIfInBounds g z) := fun gens z hz ha q hq => by
    rcases Array.mem_or_eq_of_mem_setIfInBounds hq with q1 | q1
    · exact ha q q1
    · exact q1 ▸ hz
  refine ⟨h.heap, ?_, fun k hk hl => ?_, fun ha => hb _ _ hy (h.bare (hb _ _ hx ha)), h.drawn, h.os, h.toks⟩
  · have := h.gsize
    simpa [Shared.setGen] using this
  · have k1 : k ≠ g := fun q => hk (.inl q)
    have k2 := h.gens k (fun q => hk (.inr q)) (by simpa [Shared.setGen] using hl)
    simp only [Shared.setGen, Array.getElem?_setIfInBounds_ne (Ne.symm k1)] at k2 ⊢
    exact k2

theorem WalksP.genfn {prog : Program} {w : World} {A : Around} (hh : A.handled = none) (hroom : A.depth < recursionLimit) (a : Addr) (g : Nat) (Fp Wr : Addr → Obj → Prop) (Gi : Nat → Prop) (outs : List Str)
    (hFa : ∀ o, Fp a o) (hFs : ∀ o, Fp cStatics o) (hWa : ∀ o, ¬ Wr a o) (hWs : ∀ o, ¬ Wr cStatics o) (hGi : ¬ Gi g) (hsub : ∀ b o, Fp b o → Wr b o → True) :
    WalksP prog w A a Fp Wr (fun k => k = g ∨ Gi k) outs (GenAtF prog w A a g Fp Wr Gi outs) where
  frame := fun i s s' st hs => by
    obtain ⟨⟨o, nm, qn, ho, r⟩, ⟨mc, hns, hnn⟩, gs, hgs, hgo⟩ := st
    have hlt : g < s.gens.size := by
      rcases Nat.lt_or_ge g s.gens.size with h' | h'
      · exact h'
      · rw [Array.getElem?_eq_none h'] at hgs; cases hgs
    exact ⟨⟨o, nm, qn, hs.heap a o (hFa o) ho, r⟩, ⟨mc, hns.at' fun o e => hs.heap cStatics o (hFs o) e, hnn⟩, gs, (hs.gens g (.inl rfl) hlt).trans hgs,
      fun s'' h'' => hgo s'' (Still.trans ⟨hs.heap, fun k hk hl => hs.gens k (.inr hk) hl, hs.gsize⟩ h'')⟩
  item := fun i s x Q E hx st hQ => by
    obtain ⟨hg, hl, gs, hgs, hgo⟩ := st
    have hi : i < outs.length := by
      rcases Nat.lt_or_ge i outs.length with h' | h'
      · exact h'
      · rw [List.getElem?_eq_none h'] at hx; cases hx
    obtain ⟨m, hm⟩ : ∃ m, outs.length - i = m + 1 := ⟨outs.length - i - 1, by omega⟩
    rw [hm] at hgo
    refine next_gen (P := endF Wr Gi) hh hl hroom hg hgs (hgo _ (still_setGen hGi)) (fun v s₁ gs' hb hv => ?_) (fun s₁ hp h' hk => ?_)
    · obtain ⟨⟨y, t, hy, rfl⟩, hk, hkap⟩ := hv
      have hidx : outs.length - 1 - (m + 1 - 1) = i := by omega
      rw [hidx, hx] at hy
      cases hy
      have K := kept_setGen (y := gs') hk rfl hb
      have hlt : g < s₁.gens.size := by
        have h1 : g < s.gens.size := by
          rcases Nat.lt_or_ge g s.gens.size with h' | h'
          · exact h'
          · rw [Array.getElem?_eq_none h'] at hgs; cases hgs
        have h2 := hk.gsize
        simp [Shared.setGen] at h2
        omega
      refine hQ t _ ⟨let ⟨o, nm, qn, ho, r⟩ := hg; ⟨o, nm, qn, hk.heap a o (hWa o) ho, r⟩, (let ⟨mc, hns, hnn⟩ := hl; ⟨mc, hns.at' fun o e => hk.heap cStatics o (hWs o) e, hnn⟩), gs', by simp [Shared.setGen, hlt], fun s'' hal => ?_⟩ K
      have e : outs.length - (i + 1) = m := by omega
      rw [e]
      exact hkap s'' (Still.trans (still_setGen hGi) hal)
    · exact absurd hp.1 (Nat.succ_ne_zero m)
  done := fun s Q E st hQ => by
    obtain ⟨hg, hl, gs, hgs, hgo⟩ := st
    rw [Nat.sub_self] at hgo
    refine next_gen (P := endF Wr Gi) hh hl hroom hg hgs (hgo _ (still_setGen hGi)) (fun v s₁ gs' hb hv => ?_) (fun s₁ hp h' hk => ?_)
    · exact (hv.2.2 _ .refl).elim
    · have K := kept_setGen (y := .finished) hp.2 rfl rfl
      exact hQ _ ⟨fun b o hb e => hk b o (K.heap b o hb e), K.gsize, K.gens, K.bare, K.drawn, K.os, K.toks⟩
end Mine
end
section
open PySem PySem.W PyProof.Rows
set_option Elab.async false
set_option maxRecDepth 100000
namespace Mine
open Sem (wp)
section
variable {prog : Program} {w : World} {A : Around} {R : GenEnd} {Y : Protocol} {n : Nat} {s₀ : Shared} {c : Code} {fs : List Frame} {s : Shared} {env : Env}
  {K : Flow → Sem Fin} {H : Value → Sem Fin} {gd : Bool → Bool} {lv : List Value → List Value}

/-- the frame that waits behind a loop's run -/
abbrev waitF (env : Env) (K : Flow → Sem Fin) (H : Value → Sem Fin) (gd : Bool → Bool) (lv : List Value → List Value) (c : Code) (p : Pos) : Frame :=
  .ret (fun r => ((match r with | .ok f => (.pure f : Sem Flow) | .error e => .raise e).onRaise fun (x : Value) => do
        if (← field x 1) == Value.none then unsupported "frame.own-activation:exception-without-traceback"
        setFlight x env.frame).wrap K H gd lv) none (gd false) (lv []) c p []

theorem seg_For {target iter : Expr} {body orelse : List Stmt} {pos : Pos}
    (h : wpAny (model prog w) (A.over c fs) (eval iter env) (fun x s₁ => wpAny (model prog w) (A.over c fs) (pyIter x) (fun it s₂ =>
      ∀ p, Seg (model prog w) A R Y n s₀ (.forLoop target it body orelse env) ((model prog w).den (.forLoop target it body orelse env)) (waitF env K H gd lv c p :: fs) s₂) (fun _ _ => False) s₁) (fun _ _ => False) s)
    (hs : ∀ x, foldedSetIterable iter env x = pure x := by intro _; rfl) :
    Seg (model prog w) A R Y n s₀ c ((exec (.For target iter body orelse pos) env).wrap K H gd lv) fs s := by
  rw [exec_For]
  refine seg_bind_wrap (wpAny_standAt ?_)
  refine seg_bind_wrap (wpAny_mono h (fun x s₁ h₁ => ?_) fun _ _ q => q.elim)
  refine seg_bind_wrap (wpAny_of_eq (hs x) ?_)
  refine seg_bind_wrap (wpAny_standAt ?_)
  refine seg_bind_wrap (wpAny_holding (wpAny_mono h₁ (fun it s₂ h₂ => ?_) fun _ _ q => q.elim))
  show Seg _ A R Y n s₀ c (.call (.forLoop target it body orelse env) none (gd false) (lv []) _) fs s₂
  exact seg_call h₂

/-- a turn's end -/
abbrev turnK (code : Code) : Flow → Sem Fin := fun f => match f with
  | .next | .cont => .pure (.again code)
  | .brk => .pure (.done .next)
  | .ret v => .pure (.done (.ret v))
abbrev noteH (env : Env) : Value → Sem Fin := fun e => (do noteFrame e env; theTreesLotGoes e : Sem Unit).wrap (fun _ => .raise e) .raise id id

theorem seg_forLoop {x : Str} {px : Pos} {it : Value} {body : List Stmt}
    (h : wpAny (model prog w) (A.over (.forLoop (.Name x px) it body [] env) fs) (pyNext it) (fun r s' => match r with
      | none => Seg (model prog w) A R Y n s₀ (.block [] env) ((model prog w).den (.block [] env)) fs s'
      | some v => wpAny (model prog w) (A.over (.forLoop (.Name x px) it body [] env) fs) (storeName env x v) (fun _ s'' =>
          Seg (model prog w) A R Y n s₀ (.forLoop (.Name x px) it body [] env) ((execs body env).wrap (turnK (.forLoop (.Name x px) it body [] env)) (noteH env) id id) fs s'') (fun _ _ => False) s') (fun _ _ => False) s) :
    Seg (model prog w) A R Y n s₀ (.forLoop (.Name x px) it body [] env) ((model prog w).den (.forLoop (.Name x px) it body [] env)) fs s := by
  show Seg _ A R Y n s₀ _ ((forTurn (.Name x px) it body [] env).onRaise (fun x => do noteFrame x env; theTreesLotGoes x)) fs s
  unfold forTurn
  rw [Sem.onRaise_eq_wrap]
  refine seg_bind_wrap (wpAny_standAt ?_)
  refine seg_bind_wrap (wpAny_onRaise (wpAny_mono h (fun r s' hr => ?_) fun _ _ q => q.elim))
  cases r with
  | none => exact seg_again rfl hr
  | some v =>
    refine seg_bind_wrap (wpAny_of_eq (rfl : letOwnedTupleGo (.Name x px) it v = pure ()) ?_)
    refine seg_bind_wrap (wpAny_assign_Name (wpAny_mono hr (fun _ s'' h'' => ?_) fun _ _ q => q.elim))
    rw [Sem.bind_eq_wrap', Sem.wrap_wrap]
    rw [Sem.wrap_congr (execs body env) _ _ (K' := turnK (.forLoop (.Name x px) it body [] env)) (H' := noteH env) (fun f => by cases f <;> rfl)
      (fun e => by first | exact Sem.bind_eq_wrap _ _ | (show (do noteFrame e env; theTreesLotGoes e : Sem Unit).bind (fun _ => .raise e) = _; rw [Sem.bind_eq_wrap]))]
    exact h''

theorem seg_block_nil {p : Pos} (h : Seg (model prog w) A R Y n s₀ c (K .next) fs s) : Seg (model prog w) A R Y n s₀ (.block [] env) ((model prog w).den (.block [] env)) (waitF env K H gd lv c p :: fs) s := by
  show Seg _ A R Y n s₀ _ (.pure (.done .next)) _ s
  exact seg_leaf (.ok .next) h
theorem seg_turn_next {p : Pos} {code : Code} (hq : code.quiet = true) (h : Seg (model prog w) A R Y n s₀ code ((model prog w).den code) fs s) : Seg (model prog w) A R Y n s₀ code (turnK code .next) fs s := seg_again hq h
end
end Mine
end
section
open PySem PySem.W PyProof.Rows
set_option Elab.async false
set_option linter.unusedVariables false
set_option maxRecDepth 100000
namespace Mine
open Sem (wp)
theorem wrap_same (m : Sem Fin) : m.wrap .pure .raise id id = m := by
  induction m <;> first | rfl | (simp only [Sem.wrap, id]; congr 1; funext x; simp only [*]) | (simp only [Sem.wrap, id, *])
section
variable {M : Model} {A : Around} {R : GenEnd} {Y : Protocol} {n : Nat} {s₀ : Shared} {c : Code} {fs : List Frame} {s : Shared} {env : Env}
  {K : Flow → Sem Fin} {H : Value → Sem Fin} {gd : Bool → Bool} {lv : List Value → List Value}
theorem segL_bw {α β : Type} {m : Sem α} {k : α → Sem β} {K' : β → Sem Fin} {H' : Value → Sem Fin}
    (h : wpAny M (A.over c fs) m (fun a s' => SegL M A R Y n s₀ c ((k a).wrap K' H' gd lv) fs s') (fun x s' => SegL M A R Y n s₀ c (H' x) fs s') s) :
    SegL M A R Y n s₀ c ((m >>= k).wrap K' H' gd lv) fs s := by
  rw [Sem.bind_eq_wrap', Sem.wrap_wrap]; exact segL_wrap h
/-- a tree whose steps are all plain, then a leaf -/
theorem segL_den {m : Sem Fin} (h : wpAny M (A.over c fs) m (fun a s' => SegL M A R Y n s₀ c (.pure a) fs s') (fun x s' => SegL M A R Y n s₀ c (.raise x) fs s') s) :
    SegL M A R Y n s₀ c m fs s := by
  rw [← wrap_same m]; exact segL_wrap h
theorem segL_cons {st : Stmt} {rest : List Stmt}
    (h : SegL M A R Y n s₀ c ((exec st env).wrap (fun f => match f with | .next => (execs rest env).wrap K H gd lv | f => K f) H gd lv) fs s) :
    SegL M A R Y n s₀ c ((execs (st :: rest) env).wrap K H gd lv) fs s := execs_cons_wrap st rest ▸ h
/-- one plain statement of a block -/
theorem segL_plain {st : Stmt} {rest : List Stmt}
    (h : wpAny M (A.over c fs) (exec st env) (fun f s' => f = .next ∧ SegL M A R Y n s₀ c ((execs rest env).wrap K H gd lv) fs s') (fun _ _ => False) s) :
    SegL M A R Y n s₀ c ((execs (st :: rest) env).wrap K H gd lv) fs s :=
  segL_cons (segL_wrap (wpAny_mono h (fun f s' q => by obtain ⟨rfl, q⟩ := q; exact q) fun _ _ q => q.elim))
end
section
variable {prog : Program} {w : World} {A : Around} {R : GenEnd} {Y : Protocol} {n : Nat} {s₀ : Shared} {c : Code} {fs : List Frame} {s : Shared} {env : Env}
  {K : Flow → Sem Fin} {H : Value → Sem Fin} {gd : Bool → Bool} {lv : List Value → List Value}
theorem segL_func {body : List Stmt}
    (h : SegL (model prog w) A R Y n s₀ (.func body env) ((execs body env).wrap (fun f => .pure (.done (.ret (match f with | .ret v => v | _ => .none))))
      (fun e => (leaving env e).wrap (fun _ => .raise e) .raise id id) id id) fs s) :
    SegL (model prog w) A R Y n s₀ (.func body env) ((model prog w).den (.func body env)) fs s := by
  show SegL _ A R Y n s₀ _ (.point [] fun _ => ((execs body env).onRaise (leaving env)) >>= _) fs s
  refine segL_point ?_
  rw [Sem.onRaise_eq_wrap, Sem.bind_eq_wrap', Sem.wrap_wrap]
  refine Eq.mp (congrArg (fun t => SegL (model prog w) A R Y n s₀ (.func body env) t fs s) ?_) h
  exact Sem.wrap_congr _ _ _ (fun f => by cases f <;> rfl) fun e => by rw [Sem.bind_eq_wrap, Sem.wrap_wrap]; rfl
theorem segL_If {test : Expr} {body orelse : List Stmt} {pos : Pos}
    (h : wpAny (model prog w) (A.over c fs) (isTrue test env (eval test env)) (fun b s' => match b with
      | true => SegL (model prog w) A R Y n s₀ c ((execs body env).wrap K H gd lv) fs s'
      | false => SegL (model prog w) A R Y n s₀ c ((execs orelse env).wrap K H gd lv) fs s') (fun _ _ => False) s) :
    SegL (model prog w) A R Y n s₀ c ((exec (.If test body orelse pos) env).wrap K H gd lv) fs s := by
  rw [arm_exec_If]
  refine segL_bw (wpAny_standAt ?_)
  refine segL_bw (wpAny_mono h (fun b s' hb => ?_) fun _ _ q => q.elim)
  cases b with
  | true => exact hb
  | false => exact hb
theorem segL_For {target iter : Expr} {body orelse : List Stmt} {pos : Pos}
    (h : wpAny (model prog w) (A.over c fs) (eval iter env) (fun x s₁ => wpAny (model prog w) (A.over c fs) (pyIter x) (fun it s₂ =>
      ∀ p, SegL (model prog w) A R Y n s₀ (.forLoop target it body orelse env) ((model prog w).den (.forLoop target it body orelse env)) (waitF env K H gd lv c p :: fs) s₂) (fun _ _ => False) s₁) (fun _ _ => False) s)
    (hs : ∀ x, foldedSetIterable iter env x = pure x := by intro _; rfl) :
    SegL (model prog w) A R Y n s₀ c ((exec (.For target iter body orelse pos) env).wrap K H gd lv) fs s := by
  rw [exec_For]
  refine segL_bw (wpAny_standAt ?_)
  refine segL_bw (wpAny_mono h (fun x s₁ h₁ => ?_) fun _ _ q => q.elim)
  refine segL_bw (wpAny_of_eq (hs x) ?_)
  refine segL_bw (wpAny_standAt ?_)
  refine segL_bw (wpAny_holding (wpAny_mono h₁ (fun it s₂ h₂ => ?_) fun _ _ q => q.elim))
  show SegL _ A R Y n s₀ c (.call (.forLoop target it body orelse env) none (gd false) (lv []) _) fs s₂
  exact segL_call h₂
theorem segL_forLoop {x : Str} {px : Pos} {it : Value} {body : List Stmt}
    (h : wpAny (model prog w) (A.over (.forLoop (.Name x px) it body [] env) fs) (pyNext it) (fun r s' => match r with
      | none => SegL (model prog w) A R Y n s₀ (.block [] env) ((model prog w).den (.block [] env)) fs s'
      | some v => wpAny (model prog w) (A.over (.forLoop (.Name x px) it body [] env) fs) (storeName env x v) (fun _ s'' =>
          SegL (model prog w) A R Y n s₀ (.forLoop (.Name x px) it body [] env) ((execs body env).wrap (turnK (.forLoop (.Name x px) it body [] env)) (noteH env) id id) fs s'') (fun _ _ => False) s') (fun _ _ => False) s) :
    SegL (model prog w) A R Y n s₀ (.forLoop (.Name x px) it body [] env) ((model prog w).den (.forLoop (.Name x px) it body [] env)) fs s := by
  show SegL _ A R Y n s₀ _ ((forTurn (.Name x px) it body [] env).onRaise (fun x => do noteFrame x env; theTreesLotGoes x)) fs s
  unfold forTurn
  rw [Sem.onRaise_eq_wrap]
  refine segL_bw (wpAny_standAt ?_)
  refine segL_bw (wpAny_onRaise (wpAny_mono h (fun r s' hr => ?_) fun _ _ q => q.elim))
  cases r with
  | none => exact segL_again rfl hr
  | some v =>
    refine segL_bw (wpAny_of_eq (rfl : letOwnedTupleGo (.Name x px) it v = pure ()) ?_)
    refine segL_bw (wpAny_assign_Name (wpAny_mono hr (fun _ s'' h'' => ?_) fun _ _ q => q.elim))
    refine Eq.mp (congrArg (fun t => SegL (model prog w) A R Y n s₀ (.forLoop (.Name x px) it body [] env) t fs s'') ?_) h''
    rw [Sem.bind_eq_wrap', Sem.wrap_wrap]
    exact Sem.wrap_congr _ _ _ (fun f => by cases f <;> rfl) fun e => by first | exact (Sem.bind_eq_wrap _ _).symm | (show _ = (do noteFrame e env; theTreesLotGoes e : Sem Unit).bind (fun _ => .raise e); rw [Sem.bind_eq_wrap])
theorem segL_block_nil {p : Pos} (h : SegL (model prog w) A R Y n s₀ c (K .next) fs s) : SegL (model prog w) A R Y n s₀ (.block [] env) ((model prog w).den (.block [] env)) (waitF env K H gd lv c p :: fs) s := by
  show SegL _ A R Y n s₀ _ (.pure (.done .next)) _ s
  exact segL_leaf (.ok .next) h
end
end Mine
end
section
open PySem PySem.W PyProof.Rows PySem.Calls
set_option Elab.async false
set_option linter.unusedVariables false
set_option maxRecDepth 100000
namespace Mine
/-- around the claim's own caller: nothing -/
def A0 : Around := { depth := 0, frames := some [], guards := some [], units := 0 }
abbrev cC : Code := .builtin "claim.caller" {}
def noY : Protocol := fun _ _ _ _ _ => False
theorem woken0 : (⟨cC, none, none, [], none⟩ : Ctx).Woken A0 :=
  ⟨⟨rfl, Nat.le_refl _, fun l hl => Option.some.inj hl, fun l hl => Option.some.inj hl, Nat.le_refl _⟩, rfl⟩
theorem fits0 : (⟨cC, none, none, [], none⟩ : Ctx).Fits [] := ⟨rfl, rfl, rfl, rfl⟩
theorem ends_L {prog : Program} {w : World} {t : Sem Fin} {s : Shared} {R : Result → Shared → Prop} (hz : s.asleep)
    (h : SegL (model prog w) A0 (fun _ _ r s' => R r s' ∧ leftWithCleanup s'.gens = false) noY 0 s cC t [] s) :
    ∃ n r s' s'', runN (denote table) prog w n s ⟨t, cC, default, []⟩ = .halted (outcomeOf r) s' ∧
      schedN (denote table) prog w n (.single s ⟨t, cC, default, []⟩) = .halted (outcomeOf r) s' ∧ s'.forget = s''.forget ∧ R r s'' := by
  obtain ⟨s₁, t', hgo, e, t₁, c', p', pre', rfl, hx, hΦ⟩ := segL_iff.mp h _ default [] rfl fits0 woken0 hz.1
  cases e with
  | susp => exact hΦ.2.elim
  | ret r =>
    obtain ⟨rfl, rfl⟩ := hx
    obtain ⟨hR, hl⟩ := hΦ
    obtain ⟨n, hn⟩ := hgo.runT
    have hlast : stepL (model prog w).den (model prog w).prog (model prog w).w s₁ ⟨leafOf r, c', p', []⟩ = .halt (outcomeOf r) s₁ := by
      have e := step_leaf_nil (M := model prog w) (s := s₁) (c := c') (p := p') r
      rw [PySem.finish, hl] at e
      have hq : Thread.loud ⟨leafOf r, c', p', []⟩ = false := by cases r <;> rfl
      rw [(model prog w).step_quiet hq] at e
      simp only [stepL, hq, Bool.false_and, Bool.false_eq_true, if_false]
      exact e
    have hrun : runT (model prog w).den (model prog w).prog (model prog w).w (n + 1) s ⟨t, cC, default, []⟩ = .halted (outcomeOf r) s₁ := by
      have e := hn 1
      rw [List.nil_append] at e
      refine e.trans ?_
      simp only [runT, List.append_nil, hlast]
    obtain ⟨s'', h1, h2, h3⟩ := runT_full _ _ _ hrun (outcomeOf_ends r) hz
    exact ⟨n + 1, r, s'', s₁, h2, h1, h3, hR⟩
theorem callFrom_L {c : ClaimW} {tree : List Value → Sem Fin} {w : World} {s : Shared} {free : Addr → Prop} {gens : Prop} {kept : Heap → Prop} (hz : s.asleep) (hgens : s.gens = #[])
    (hspec : ∀ args, c.pre args = true → WData.layableAll args = true → ∀ ord : List DictEntry → List DictEntry, (∀ l, (ord l).Perm l) →
      ∃ vs s₁, layAllW c.records (classAt s.heap) w.params ord args s = some (vs, s₁) ∧
        SegL (model c.prog w) A0 (fun _ _ r s' => (c.Ends s args vs s₁ r s' ∧ s'.os = s.os ∧ kept s'.heap) ∧ leftWithCleanup s'.gens = false) noY 0 s₁ cC (tree vs) [] s₁) :
    c.CallFrom (fun vs => ⟨tree vs, cC, default, []⟩) w free gens kept s := by
  intro args hpre hlay ord hord
  obtain ⟨vs, s₁, hlaid, hcode⟩ := hspec args hpre hlay ord hord
  have hal := layAllW_rest _ _ _ hlaid
  obtain ⟨k, r, s', s'', hrun, hsched, hfo, hcase, hos, hkp⟩ := ends_L (Shared.asleep_of_life hal.2.2.2 hz) hcode
  obtain ⟨eh, _, _, eo, _⟩ := Shared.forget_eq hfo
  have hcase := hcase.congr eh
  rw [← eh] at hkp
  rw [← eo] at hos
  have hlife : s'.heap.life = s.heap.life := (runN_life _ _ _ hrun).trans hal.2.2.2
  refine ⟨vs, s₁, hlaid, k, _, s', hsched, ?_, (fun _ i x hx => by rw [hgens] at hx; simp at hx), hkp, by rw [hlife], Shared.rest_eq hos⟩
  rcases hcase with ⟨v, rfl, d1, d2, d3, d4, d5⟩ | ⟨e, ob, cls, rfl, d1, d2, d3, d4, d5⟩
  · exact .inl ⟨v, rfl, d1, d2, d3, fun b o y _ => d4 b o y, d5⟩
  · exact .inr ⟨e, ob, cls, rfl, d1, d2, d3, d4, fun b o y _ => d5 b o y⟩
end Mine
end
section
open PySem PySem.W PyProof.Rows PySem.Calls
set_option Elab.async false
set_option linter.unusedVariables false
set_option maxRecDepth 100000
namespace Mine
/-- what the law's call must show when it walks past tame yields -/
abbrev WalkOL (q : Program) (loose : List Str) (XP : (Str → Option Value) → Heap → Prop) (YP : World → Heap → Prop) (r : RowW) (d : DefRec) (kwd : List (Str × Expr)) : Prop :=
  ∀ (w : World) (s₀ s₁ : Shared) (mg mb : Str → Option Value), Ground q loose r.records XP w s₀ mg mb s₁.heap → YP w s₁.heap → ∀ (a : Addr) (o : Obj) (pm cd doc dV kV : Value), s₁.heap.get? a = some o →
    o.data = .func { docDef d.name d.params d.body d.scope pm cd doc with defaults := dV, kwdefaults := kV } → s₁.heap.CodeRec cd d.name → Dflts mg s₁.heap d.params kwd dV kV → mg d.name = some (.ref a) → s₁.gens = #[] →
    ∀ (args : List WData) (vals : List Value) (as : List Addr), r.claim.pre args = true → WData.layableAll args = true → ReadsAllW r.records (classAt s₀.heap) s₁.heap vals args as → WellAll w.params s₁.heap vals args → (∀ a ∈ as, (a == sysModules) = false) →
      SegL (model r.prog w) A0 (fun _ _ res s' => GoodWG r.claim (classAt s₀.heap) (ExcName.means s₀.heap) args s₁ res s') noY 0 s₁ cC
        ((PySem.call (.ref a) vals).wrap (fun v => .pure (.done (.ret v))) .raise id id) [] s₁
section
variable {M : Model} {A : Around} {R R' : GenEnd} {n : Nat} {s₀ : Shared} {c : Code} {fs : List Frame} {s : Shared} {t : Sem Fin}
theorem segL_mono (hR : ∀ r s', R 0 s₀ r s' → R' 0 s₀ r s') (h : SegL M A R noY 0 s₀ c t fs s) : SegL M A R' noY 0 s₀ c t fs s := by
  intro Γ p base hc hf hw hz
  obtain ⟨s', t', hg, e, t₁, c', p', pre', he, hx, hΦ⟩ := h Γ p base hc hf hw hz
  refine ⟨s', t', hg, e, t₁, c', p', pre', he, hx, ?_⟩
  cases e with
  | ret r => exact hR r s' hΦ
  | susp => exact hΦ.2.elim
end
theorem open_L {r : RowW} {q : Program} {loose defs kps : List Str} {writes : Bool} {Xt : Shared → Bool} {XP : (Str → Option Value) → Heap → Prop} {α : Type} {Yf : Shared → α} {Ya : World → α} {YP : World → Heap → Prop} {N : Nat}
    (left : LeftO r.prog q loose Xt Yf Ya N) (hY : ∀ w s, Yf s = Ya w → YP w s.heap) (hYk : ∀ w h h', YP w h → (∀ b o, h.get? b = some o → h'.get? b = some o) → YP w h') (hX : ∀ s, Xt s = true → XP (s.heap.nsMap mainGlobals) s.heap) (hXk : ∀ mg h h', XP mg h → (∀ b o, h.get? b = some o → h'.get? b = some o) → XP mg h')
    (hRf : ∀ s, Xt s = true → RecFacts r.records s.heap) (hwr : (!writes || r.records.isEmpty) = true) (ok : (chainsOk q && opensWell r.prog && (frees r && r.within.isEmpty)) = true) (hb : r.prog.bare) (hw : r.promised)
    (pin : ∀ w s, s.heap.isNs mainGlobals = true → Ground q loose [] XP w s (s.heap.nsMap mainGlobals) (s.heap.nsMap builtinsNs) s.heap → ∀ n ∈ defs, isTheDefsW r.prog s.heap n)
    (call : ∀ (w : World) (s₀ s₁ : Shared) (mg mb : Str → Option Value), Ground q loose r.records XP w s₀ mg mb s₁.heap → YP w s₁.heap → ∀ (args : List WData) (vs : List Value) (as : List Addr),
      r.claim.pre args = true → WData.layableAll args = true → Laid r.records w s₀ s₁ args vs as → sysModules < s₀.heap.objs.size → ∃ f, mg r.name = some f ∧
        SegL (model r.prog w) A0 (fun _ _ res s' => GoodWG r.claim (classAt s₀.heap) (ExcName.means s₀.heap) args s₁ res s') noY 0 s₁ cC ((PySem.call f vs).wrap (fun v => .pure (.done (.ret v))) .raise id id) [] s₁) :
    r.claim.HoldsOpenBy (fun vs => ⟨do match ← nsGet mainNs r.name with
      | some f => do ret (← PySem.call f vs)
      | none => unsupported "claim.caller:no-such-global", .builtin "claim.caller" {}, default, []⟩) defs kps writes := by
  obtain ⟨ok, k5⟩ := Bool.and_eq_true_iff.mp ok
  obtain ⟨hch, o1⟩ := Bool.and_eq_true_iff.mp ok
  obtain ⟨k5, k6⟩ := Bool.and_eq_true_iff.mp k5
  obtain ⟨hsame, hu, ha, hap, hm⟩ := frees_parts k5
  refine ⟨⟨hb, o1, by show r.makers.map _ = []; rw [hm]; rfl⟩, hw.witness, fun w => ⟨(left.behind hX hch w).1, fun s' hs' => ?_⟩⟩
  obtain ⟨s₀, hf, hg0, s, hT, hz, hgens, hg, G00, y⟩ := (left.behind (XP := fun mg h => XP mg h ∧ RecFacts r.records h) (fun s hs => ⟨hX s hs, hRf s hs⟩) hch w).2 s' hs'
  have G0 : Ground q loose [] XP w s (s.heap.nsMap mainGlobals) (s.heap.nsMap builtinsNs) s.heap := ⟨G00.T, G00.B, G00.D, G00.TE, G00.TD, G00.W, G00.X.1, G00.cls, G00.has, G00.apart, G00.once, G00.K⟩
  have RF := G00.X.2
  refine ⟨s₀, hf, hg0, s, hT, pin w s hg G0, RF.1, RF.2.1, ?_⟩
  have hgens : s.gens = #[] := Array.eq_empty_of_size_eq_zero (beq_iff_eq.mp hgens)
  have G : Ground q loose r.records XP w s _ _ s.heap := RF.ground G0
  refine callFrom_L (c := r.claim) hz hgens fun args hpre hlay ord hord => ?_
  obtain ⟨⟨vs, s₁⟩, hlaid⟩ := Option.isSome_iff_exists.mp (layAllW_isSome (P := w.params) (ord := ord) G.has args r.args s (pre_splitW hpre).1)
  have keeps := layAllW_keeps _ _ _ hlaid
  have hal := layAllW_rest _ _ _ hlaid
  obtain ⟨as, hrd, hin, hold⟩ := reads_layAllW hord _ _ _ hlaid hlay s₁.heap (fun _ _ e => e)
  have L : Laid r.records w s s₁ args vs as := ⟨⟨ord, hord, hlaid⟩, hrd, hin, hold, keeps, hal.1.trans hgens, hal.2.2.1⟩
  have G₁ := G.keeps hXk keeps
  obtain ⟨f, hf, h⟩ := call w s s₁ _ _ G₁ (hYk _ _ _ (hY w s y) keeps) args vs as hpre hlay L G.low
  have hi := ident_freeW hu ha hap
  have hwi : r.claim.within = [] := List.isEmpty_iff.mp k6
  refine ⟨vs, s₁, hlaid, segL_bind (wpAny_nsGet G₁.T.g ?_)⟩
  rw [hf]
  show SegL (model r.prog w) _ _ _ _ _ _ (PySem.call f vs >>= fun v => ret v) _ _
  rw [Sem.bind_eq_wrap']
  refine segL_mono (fun res s' g => ?_) h
  have z := g.laid (c := r.claim) hsame hwi hi L
  exact ⟨⟨z.1, z.2.1, fun q => ⟨namesKept_of hT hg kps keeps g.2.1.old, noTable hwr q⟩⟩, leftWithCleanup_false_of_bare z.2.2⟩
theorem holds_openL {r : OpenRow} {q : Program} {loose : List Str} {Xt : Shared → Bool} {XP : (Str → Option Value) → Heap → Prop} {α : Type} {Yf : Shared → α} {Ya : World → α} {YP : World → Heap → Prop} {d : DefRec} {kwd : List (Str × Expr)} {N : Nat}
    (left : LeftO r.prog q loose Xt Yf Ya N) (hY : ∀ w s, Yf s = Ya w → YP w s.heap) (hYk : ∀ w h h', YP w h → (∀ b o, h.get? b = some o → h'.get? b = some o) → YP w h')
    (hX : ∀ s, Xt s = true → XP (s.heap.nsMap mainGlobals) s.heap) (hXk : ∀ mg h h', XP mg h → (∀ b o, h.get? b = some o → h'.get? b = some o) → XP mg h')
    (hdef : defOf q r.name = some (d, kwd)) (hp : r.prog.theDef r.name = some (d.params, d.body, d.scope)) (hk : kwWritten? d.params.kwonlyargs d.params.kw_defaults = some kwd) (hRf : ∀ s, Xt s = true → RecFacts r.records s.heap) (hwr : (!r.writes || r.records.isEmpty) = true)
    (k1 : r.wellSaid = true) (ok : (chainsOk q && opensWell r.prog && (frees r.toRowW && r.within.isEmpty)) = true) (hb : r.prog.bare) (hw : r.toRowW.promised)
    (call : WalkOL q loose XP YP r.toRowW d kwd) : r.Holds := by
  refine ⟨k1, hw, open_L (r := r.toRowW) left hY hYk hX hXk hRf hwr ok hb hw (fun w s hg G n hn => ?_) fun w s₀ s₁ mg mb G Y args vs as hpre hlay L low => ?_⟩
  · obtain rfl : n = r.name := by split at hn <;> simp_all
    exact pinned_of_view hg G hdef hp hk
  · obtain ⟨a, o, pm, cd, doc, dV, kV, h1, h2, h3, h4, h5⟩ := G.fn hdef
    exact ⟨.ref a, h1, call w s₀ s₁ mg mb G Y a o pm cd doc dV kV h2 h3 h4 h5 (defOf_name hdef ▸ h1) L.gens args vs as hpre hlay L.reads L.well (L.low low)⟩
end Mine
end
section
open PySem PySem.W PyProof.Rows
set_option Elab.async false
set_option maxRecDepth 100000
set_option maxHeartbeats 0
namespace Mine
noncomputable def dLaw : DefRec := ⟨Str.ofString "law", fArgs (st 11), fBody (st 11), fScope (st 11), ⟨790, 0, 813, 22⟩⟩
theorem hd (hc : WalkOL qv loose (XL qv []) (InK K) row.toRowW dLaw []) : PySem.Challenge.rw_dm0050_10.Holds := by
  w_on; o_law
  refine holds_openL (r := row) (q := qv) (loose := loose) (Xt := Xt) (XP := XL qv []) (Yf := Hook.obs hook) (Ya := Hook.val hook) (YP := InK K) (d := dLaw) (kwd := []) (N := 5748) left (Hook.of hook) (Hook.keeps hook) (fun s e => xl_of s (Bool.and_eq_true_iff.mp e).1) XL.keeps (by kernel_rfl) (by kernel_rfl) (by kernel_rfl) (fun s e => recFacts_of (Bool.and_eq_true_iff.mp e).2) (by rfl) (by assumption) (by decide +kernel) ⟨rfl, rfl, rfl, rfl, rfl, by decide +kernel⟩ ?hw hc
  case hw => w_witness2
end Mine
end
section
open PySem PySem.W PyProof.Rows
set_option Elab.async false
set_option maxRecDepth 100000
set_option maxHeartbeats 1000000
namespace Mine
section
variable {w : World} {A : Around} {E : Value → Shared → Prop} {s : Shared} {h₀ : Heap} {mg mb : Str → Option Value} {mean : ExcName → Option Value}
abbrev dumpEnv (C : Addr) : Env := envOf (Str.ofString "Differ._dump") (fScope (mt 7 3)) C 282 (.ref 281)
/-- the yield's expression -/
def forBody : Stmt → List Stmt
  | .For _ _ b _ _ => b
  | _ => []
def forIter : Stmt → Expr
  | .For _ i _ _ _ => i
  | _ => .Tuple [] 0 ⟨0, 0, 0, 0⟩
def yieldOf : Stmt → Expr
  | .Expr (.Yield (some e) _) _ => e
  | _ => .Tuple [] 0 ⟨0, 0, 0, 0⟩
def dumpFor : Stmt := nth (fBody (mt 7 3)) 1
def dumpElt : Expr := yieldOf (nth (forBody dumpFor) 0)

theorem sapp (a b : Str) : a ++ b = ⟨a.cps ++ b.cps⟩ := rfl
theorem empty_app (a : Str) : Str.empty ++ a = a := by
  rw [sapp]; show Str.mk (#[] ++ a.cps) = a; rw [Array.empty_append]
theorem len_app (a b : Str) : (a ++ b).length = a.length + b.length := by
  rw [sapp]; exact Array.size_append

theorem dump_elt {C lx : Addr} {m : Str → Option Value} {tag x : Str} {t u v : Tok} {k : Int} {vs : List Value} {Q : Value → Shared → Prop}
    (F : Fr h₀ C s.heap m) (htag : m (Str.ofString "tag") = some (.str tag t)) (hx : m (Str.ofString "x") = some (.ref lx)) (hi : m (Str.ofString "i") = some (.int k u)) (hl : s.heap.IsList lx vs.toArray) (h0 : 0 ≤ k) (hhi : k < 2 ^ 63) (hv : vs[k.toNat]? = some (.str x v))
    (hsz : tag.length + 1 + x.length ≤ sizeLine) (h : ∀ t' tk, Q (.str (tag ++ (Str.ofString " ") ++ x) t') { s with toks := tk }) :
    wpAny (model prog w) A (eval dumpElt (dumpEnv C)) Q E s := by
  show wpAny _ _ (eval (Expr.JoinedStr _ _) _) _ _ _
  w_on
  walk1; walk1; walk1
  refine ld F htag ?_
  try dsimp only
  repeat' (first | walk1 | (dsimp only; walk1))
  rotate_left 1
  · refine ld F hx ?_
    try dsimp only
    refine ld F hi ?_
    try dsimp only
    refine tail_any hl.typeIs slot_list_getitem.lookup (wpAny_getItem_list hl h0 hhi (by simpa using hv) ?_) (by with_unfolding_all rfl)
    repeat' (first | walk1 | (dsimp only; walk1))
    · rw [empty_app]; exact h _ _
  · rw [empty_app]; omega
end
end Mine
end
section
open PySem PySem.W PyProof.Rows
set_option Elab.async false
set_option maxRecDepth 100000
set_option maxHeartbeats 1000000
namespace Mine
section
variable {w : World} {A : Around} {h₀ : Heap}
/-- what the dump's generator leans on and what it turns -/
def dFp (h₀ : Heap) (C a lx : Addr) : Addr → Obj → Prop := fun b o => b = C ∨ b = lx ∨ (∃ o', h₀.get? b = some o') ∨ (a < b ∧ o.cls = .type "range_iterator")
def dWr (C a : Addr) : Addr → Obj → Prop := fun b o => b = C ∨ (a < b ∧ o.cls = .type "range_iterator")
def noG : Nat → Prop := fun _ => False
def dumpOut (tag : Str) (xs : List Str) (lo n : Nat) : List Str := ((xs.drop lo).take n).map fun x => tag ++ Str.ofString " " ++ x
theorem dumpOut_length {tag : Str} {xs : List Str} {lo n : Nat} (h : lo + n ≤ xs.length) : (dumpOut tag xs lo n).length = n := by
  simp [dumpOut]; omega
theorem dumpOut_get {tag : Str} {xs : List Str} {lo n j : Nat} {x : Str} (h : j < n) (hx : xs[lo + j]? = some x) : (dumpOut tag xs lo n)[j]? = some (tag ++ Str.ofString " " ++ x) := by
  simp [dumpOut, List.getElem?_take, h, hx]
theorem strsAre_get {vs : List Value} {xs : List Str} (h : StrsAre vs xs) : ∀ {k : Nat} {x : Str}, xs[k]? = some x → ∃ t, vs[k]? = some (.str x t) := by
  induction h with
  | nil => intro k x hx; simp at hx
  | cons y t _ ih =>
    intro k x hx
    cases k with
    | zero => simp at hx; subst hx; exact ⟨t, rfl⟩
    | succ k => simpa using ih (by simpa using hx)

abbrev dumpCode (C I : Addr) : Code := .forLoop (.Name (Str.ofString "i") ⟨640, 12, 640, 13⟩) (.ref I) (forBody dumpFor) [] (dumpEnv C)
abbrev fnK : Flow → Sem Fin := fun f => .pure (.done (.ret (match f with | .ret v => v | _ => .none)))
abbrev fnH (env : Env) : Value → Sem Fin := fun e => (leaving env e).wrap (fun _ => .raise e) .raise id id

theorem ne_tag : Str.ofString "tag" ≠ Str.ofString "i" := by decide
theorem ne_x : Str.ofString "x" ≠ Str.ofString "i" := by decide
theorem dump_loop {C a lx I : Addr} {tag : Str} {t : Tok} {xs : List Str} {vs : List Value} {lo n : Nat} {c : Code} {p : Pos} {K : Flow → Sem Fin} {H : Value → Sem Fin}
    (hh : A.handled = none) (hCa : C < a) (haI : a < I) (hxC : lx ≠ C) (hxI : lx ≠ I) (hvs : StrsAre vs xs) (hlo : lo + n ≤ xs.length) (hxs : xs.length < 2 ^ 62) (hsz : ∀ x ∈ xs, tag.length + 1 + x.length ≤ sizeLine)
    (hK : ∀ s₀ s, Kept (dWr C a) noG s₀ s → Seg (model prog w) A (retF (dWr C a) noG) (protoF (dFp h₀ C a lx) (dWr C a) noG (dumpOut tag xs lo n)) 0 s₀ c (K .next) [] s) :
    ∀ (k j : Nat) (s₀ s : Shared) (m : Str → Option Value), n - j = k → j ≤ n → IsRangeIter s.heap I ((lo + j : Nat) : Int) ((n - j : Nat) : Int) 1 → Fr h₀ C s.heap m →
      m (Str.ofString "tag") = some (.str tag t) → m (Str.ofString "x") = some (.ref lx) → s.heap.IsList lx vs.toArray → Kept (dWr C a) noG s₀ s →
      Seg (model prog w) A (retF (dWr C a) noG) (protoF (dFp h₀ C a lx) (dWr C a) noG (dumpOut tag xs lo n)) (n - j) s₀ (dumpCode C I) ((model prog w).den (dumpCode C I)) [waitF (dumpEnv C) K H id id c p] s := by
  have hIC : I ≠ C := Nat.ne_of_gt (Nat.lt_trans hCa haI)
  intro k
  induction k with
  | zero =>
    intro j s₀ s m hk hj hit F htag hx hl hkp
    have hjn : j = n := by omega
    subst hjn
    rw [Nat.sub_self] at hit ⊢
    refine seg_forLoop (wpAny_pyNext_range_end (by exact hh) hit (by simp) fun h' he => ?_)
    refine seg_block_nil (hK s₀ _ (hkp.trans ⟨fun b o hb e => he b o (fun q => ?_) e, Nat.le_refl _, fun _ _ _ => rfl, id, rfl, rfl, Nat.le_refl _⟩))
    subst q
    rw [hit] at e
    cases e
    exact hb (.inr ⟨haI, rfl⟩)
  | succ k ih =>
    intro j s₀ s m hk hj hit F htag hx hl hkp
    have hlt : j < n := by omega
    have hxj : xs[lo + j]? = some xs[lo + j] := by simp
    obtain ⟨tv, hv⟩ := strsAre_get hvs hxj
    have en : n - j = (n - (j + 1)) + 1 := by omega
    refine seg_forLoop (wpAny_pyNext_range_item hit (by omega) fun h' hit' hs' => ?_)
    have hns' : h'.Ns C m := F.ns.sameBut hs' (Ne.symm hIC)
    refine wpAny_storeName_local (env := dumpEnv C) (by rfl) hns' (fun h'' hns'' hs'' => ?_) (by rfl)
    rw [en]
    have F' : Fr h₀ C h'' (fun y => if y = Str.ofString "i" then some (.int ((lo + j : Nat) : Int) s.toks) else m y) := ⟨hns'', fun b o e => ?_, F.above⟩
    rotate_left
    · have hb : b < C := Nat.lt_of_lt_of_le (Heap.lt_size e) F.above
      exact (hs''.2 b (Nat.ne_of_lt hb)).trans ((hs'.2 b (Nat.ne_of_lt (Nat.lt_trans (Nat.lt_trans hb hCa) haI))).trans (F.keep b o e))
    have hl'' : h''.IsList lx vs.toArray := hl.at fun o e => (hs''.2 lx hxC).trans ((hs'.2 lx hxI).trans e)
    have hit'' : IsRangeIter h'' I ((lo + (j + 1) : Nat) : Int) ((n - (j + 1) : Nat) : Int) 1 := by
      have e1 : ((lo + (j + 1) : Nat) : Int) = ((lo + j : Nat) : Int) + 1 := by omega
      have e2 : ((n - (j + 1) : Nat) : Int) = ((n - j : Nat) : Int) - 1 := by omega
      rw [e1, e2]
      exact (hs''.2 I hIC).trans hit'
    have hkp' : ∀ tk, s.toks ≤ tk → Kept (dWr C a) noG s₀ { s with heap := h'', toks := tk } := fun tk htk => hkp.trans ⟨fun b o hb e => ?_, Nat.le_refl _, fun _ _ _ => rfl, id, rfl, rfl, htk⟩
    rotate_left
    · have h1 : b ≠ C := fun q => hb (.inl q)
      have h2 : b ≠ I := fun q => by
        subst q
        rw [hit] at e
        cases e
        exact hb (.inr ⟨haI, rfl⟩)
      exact (hs''.2 b h1).trans ((hs'.2 b h2).trans e)
    refine seg_execs_cons ?_
    refine seg_Expr_Yield rfl rfl rfl ?_
    refine wpAny_with_toks (n := s.toks) (by show s.toks ≤ s.toks + 1 + 1; omega) ?_
    refine dump_elt (h₀ := h₀) (k := ((lo + j : Nat) : Int)) F' (by rw [if_neg ne_tag]; exact htag) (by rw [if_neg ne_x]; exact hx) (by rw [if_pos rfl]) hl'' (by omega) (by omega) (by rw [Int.toNat_natCast]; exact hv) (hsz _ (List.getElem_mem _)) (fun t' tk htk kap hkap => ?_)
    refine ⟨⟨_, t', ?_, rfl⟩, hkp' tk htk, fun s'' hst => hkap .none s'' ?_⟩
    · rw [dumpOut_length hlo]
      have : n - 1 - (n - (j + 1)) = j := by omega
      rw [this]
      exact dumpOut_get hlt hxj
    · refine seg_again rfl ?_
      have keepF : ∀ b o, dFp h₀ C a lx b o → h''.get? b = some o → s''.heap.get? b = some o := hst.heap
      refine ih (j + 1) s'' s'' _ (by omega) hlt (keepF I _ (.inr (.inr (.inr ⟨haI, rfl⟩))) hit'') ⟨F'.ns.at' fun o e => keepF C o (.inl rfl) e, fun b o e => keepF b o (.inr (.inr (.inl ⟨o, e⟩))) (F'.keep b o e), F.above⟩ ?_ ?_ (hl''.at fun o e => keepF lx o (.inr (.inl rfl)) e) .refl
      · rw [if_neg ne_tag]; exact htag
      · rw [if_neg ne_x]; exact hx
end
end Mine
end
section
open PySem PySem.W PyProof.Rows
set_option Elab.async false
set_option maxRecDepth 100000
set_option maxHeartbeats 1000000
namespace Mine
theorem k_range (P : Params) : nsIn (K P) mainGlobals (Str.ofString "range") = some none := by kernel_rfl
theorem b_range : bootBuiltins (Str.ofString "range") = some (.type "range") := by kernel_rfl
theorem n_range : Str.ofString "range" ≠ Str.ofString "__name__" := by decide
section
variable {w : World} {A : Around} {h₀ : Heap} {p : Program} {ls : List Str} {mg mb : Str → Option Value}

theorem dump_iter {E : Value → Shared → Prop} {s : Shared} {C : Addr} {m : Str → Option Value} {lo hi : Int} {t u : Tok} {Q : Value → Shared → Prop}
    (X : (K w.params).In h₀) (T : TopRead p ls mg mb h₀) (F : Fr h₀ C s.heap m) (hlo : m (Str.ofString "lo") = some (.int lo t)) (hhi : m (Str.ofString "hi") = some (.int hi u))
    (h : Q (.ref s.heap.objs.size) { s with heap := s.heap.push { cls := .type "range", data := .fields #[.int lo t, .int hi u, .int 1 s.toks] }, toks := s.toks + 1 }) :
    wpAny (model prog w) A (eval (forIter dumpFor) (dumpEnv C)) Q E s := by
  show wpAny _ _ (eval (Expr.Call _ _ _ _) _) _ _ _
  w_on
  walk1
  refine name_B F X T (k_range _) b_range n_range ?_
  walk1
  walk1
  refine ld F hlo ?_
  walk1
  refine ld F hhi ?_
  repeat' (first | walk1 | (dsimp only; walk1))
  exact call_range_2 h

theorem dump_seg {C a lx : Addr} {tag : Str} {t u v : Tok} {xs : List Str} {vs : List Value} {lo n : Nat} {s₀ s : Shared} {m : Str → Option Value}
    (X : (K w.params).In h₀) (T : TopRead p ls mg mb h₀) (hh : A.handled = none) (hCa : C < a) (hxC : lx ≠ C) (hvs : StrsAre vs xs) (hlo : lo + n ≤ xs.length) (hxs : xs.length < 2 ^ 61) (hsz : ∀ x ∈ xs, tag.length + 1 + x.length ≤ sizeLine)
    (ha : a ≤ s.heap.objs.size) (F : Fr h₀ C s.heap m) (htag : m (Str.ofString "tag") = some (.str tag t)) (hx : m (Str.ofString "x") = some (.ref lx)) (hl : s.heap.IsList lx vs.toArray)
    (hml : m (Str.ofString "lo") = some (.int (lo : Int) u)) (hmh : m (Str.ofString "hi") = some (.int ((lo + n : Nat) : Int) v)) (hkp : Kept (dWr C a) noG s₀ s) :
    Seg (model prog w) A (retF (dWr C a) noG) (protoF (dFp h₀ C a lx) (dWr C a) noG (dumpOut tag xs lo n)) n s₀ (.func (fBody (mt 7 3)) (dumpEnv C)) ((model prog w).den (.func (fBody (mt 7 3)) (dumpEnv C))) [] s := by
  refine seg_func ?_
  refine seg_execs_cons ?_
  refine seg_wrap ?_
  refine wpAny_Expr ?_
  refine wpAny_mono (Q := fun v s' => (∃ z t, v = .str z t) ∧ ∃ tk, s' = { s with toks := tk } ∧ s.toks ≤ tk) (E := fun _ _ => False) (by w_on; walk1; exact ⟨⟨_, _, rfl⟩, _, rfl, by first | exact Nat.le_refl _ | exact Nat.le_succ _⟩) (fun v s' hq => ?_) fun _ _ q => q.elim
  obtain ⟨⟨z, tz, rfl⟩, tk, rfl, htk⟩ := hq
  show Seg _ _ _ _ _ _ _ ((execs [dumpFor] (dumpEnv C)).wrap fnK (fnH (dumpEnv C)) id id) [] _
  refine seg_execs_cons ?_
  have hkp' : Kept (dWr C a) noG s₀ { s with toks := tk } := hkp.trans ⟨fun _ _ _ e => e, Nat.le_refl _, fun _ _ _ => rfl, id, rfl, rfl, htk⟩
  show Seg _ _ _ _ _ _ _ ((exec (Stmt.For (.Name (Str.ofString "i") ⟨640, 12, 640, 13⟩) (forIter dumpFor) (forBody dumpFor) [] ⟨640, 8, 641, 41⟩) (dumpEnv C)).wrap _ _ _ _) [] _
  refine seg_For (dump_iter (h₀ := h₀) (s := { s with toks := tk }) X T F hml hmh ?_) (by intro _; rfl)
  have hsmall : Builtin.Range.small (lo : Int) ((lo + n : Nat) : Int) 1 = true := small_one (by omega) (by omega) (by omega) (by omega)
  refine wpAny_pyIter_range (IsRange.new ..) hsmall ?_
  intro pp
  have hrs : Builtin.Range.rangeSize (lo : Int) ((lo + n : Nat) : Int) 1 = ((n - 0 : Nat) : Int) := by
    rw [rangeSize_one]; split <;> omega
  rw [hrs]
  have hxs' : lx < s.heap.objs.size := by obtain ⟨o, ho, _⟩ := hl; exact Heap.lt_size ho
  refine dump_loop (H := fnH (dumpEnv C)) hh hCa ?_ hxC ?_ hvs hlo (by omega) hsz ?_ n 0 s₀ _ m rfl (Nat.zero_le _) ?_ (F.push _ |>.push _) htag hx ((hl.push _).push _) ?_
  · show a < (s.heap.push _).objs.size
    rw [Heap.size_push]; exact Nat.lt_succ_of_le ha
  · show lx ≠ (s.heap.push _).objs.size
    rw [Heap.size_push]; exact Nat.ne_of_lt (Nat.lt_succ_of_lt hxs')
  · intro s₂ s₃ hk
    exact seg_end (.ok (.ret .none)) ⟨rfl, rfl, hk⟩
  · exact Heap.get?_push_size _ rfl
  · exact hkp'.trans ⟨fun b o _ e => Heap.get?_push_of_some _ (Heap.get?_push_of_some _ e), Nat.le_refl _, fun _ _ _ => rfl, id, rfl, rfl, Nat.le_succ _⟩
end
end Mine
end
section
open PySem PySem.W PyProof.Rows
set_option Elab.async false
set_option maxRecDepth 100000
set_option maxHeartbeats 1000000
namespace Mine
theorem k_dump (P : Params) : (K P).lookup 282 = some (o8x282 P) := by kernel_rfl
theorem c_dump (P : Params) : codeIn (K P) (.ref 281) (Str.ofString "Differ._dump") = true := by kernel_rfl
abbrev dumpFd : FuncData := ⟨Str.ofString "_dump", Str.ofString "Differ._dump", fArgs (mt 7 3), .stmts (fBody (mt 7 3)), fScope (mt 7 3), 3, [], .none, .none, .str (Str.ofString "Generate comparison results for a same-tagged range.") 655, .str (Str.ofString "cpy313.difflib") 194, none, .ref 281, .none, 0⟩
abbrev dumpBinds (self v1 v2 v3 v4 : Value) : List (Str × Value) := [(Str.ofString "self", self), (Str.ofString "tag", v1), (Str.ofString "x", v2), (Str.ofString "lo", v3), (Str.ofString "hi", v4)]
theorem dump_binds (self v1 v2 v3 v4 : Value) : bindArgs dumpFd ⟨[self, v1, v2, v3, v4], []⟩ = pure (dumpBinds self v1 v2 v3 v4) := by kernel_rfl
theorem dump_locs (self v1 v2 v3 v4 : Value) : ∀ y ∈ dumpBinds self v1 v2 v3 v4, (fScope (mt 7 3)).names.lookup y.1 = some .local := by
  intro y hy
  simp only [dumpBinds, List.mem_cons, List.not_mem_nil, or_false] at hy
  rcases hy with rfl | rfl | rfl | rfl | rfl <;> rfl
theorem dump_cells : ∀ x ∈ (fScope (mt 7 3)).names, x.2 ≠ .cell := by decide +kernel

section
variable {w : World} {A : Around} {h₀ : Heap} {p : Program} {ls : List Str} {mg mb : Str → Option Value} {E : Value → Shared → Prop} {s : Shared}

/-- a generator's object -/
abbrev genObj (nm qn : Str) (g : Nat) (t : Nat) : Obj := { cls := .type "generator", data := .fields #[.int g 0, .str nm t, .str qn (t + 1)] }

theorem mk_dump {L lx : Addr} {m : Str → Option Value} {news : List (Addr × Obj)} {self : Value} {tag : Str} {t u v : Tok} {xs : List Str} {vs : List Value} {lo n : Nat} {R : Result → Shared → Prop}
    (X : (K w.params).In h₀) (T : TopRead p ls mg mb h₀) (hh : A.handled = none) (hroom : A.depth < recursionLimit) (F : Fr h₀ L s.heap m) (N : News h₀ L s.heap news) (hl : s.heap.IsList lx vs.toArray)
    (hvs : StrsAre vs xs) (hlo : lo + n ≤ xs.length) (hxs : xs.length < 2 ^ 61) (hsz : ∀ x ∈ xs, tag.length + 1 + x.length ≤ sizeLine)
    (h : ∀ C a h' tk, C < a → s.heap.objs.size ≤ C → a < h'.objs.size → (∀ b o, s.heap.get? b = some o → h'.get? b = some o) → Fr h₀ L h' m → News h₀ L h' news →
      (∀ s' : Shared, s'.heap = h' → s'.gens = s.gens.push (.fresh (.func (fBody (mt 7 3)) (dumpEnv C))) → GenAtF prog w A.in1.in1 a s.gens.size (dFp h₀ C a lx) (dWr C a) noG (dumpOut tag xs lo n) 0 s') →
      R (.ok (.ret (.ref a))) { s with heap := h', gens := s.gens.push (.fresh (.func (fBody (mt 7 3)) (dumpEnv C))), toks := tk }) :
    codeAny (model prog w) A (.call (.ref 282) ⟨[self, .str tag t, .ref lx, .int (lo : Int) u, .int ((lo + n : Nat) : Int) v], []⟩) R s := by
  have Xs := X.keeps F.keep
  refine codeAny_call_generator (fd := dumpFd) (body := fBody (mt 7 3)) hroom (Xs _ _ (k_dump _)) rfl rfl rfl rfl (codeRec_of Xs (c_dump _)) ?_
  refine BindsTo.of_eq (dump_binds _ _ _ _ _) _ _ _ _ ?_
  refine wpAny_newFunctionEnv dump_cells (dump_locs _ _ _ _ _) (fun h' hns hsb => ?_)
  have hsz' : h'.objs.size = s.heap.objs.size + 1 := by rw [hsb.1, Heap.size_push]
  have keep' : ∀ b o, s.heap.get? b = some o → h'.get? b = some o := fun b o e => hsb.extBut b o (Nat.ne_of_lt (Heap.lt_size e)) (Heap.get?_push_of_some _ e)
  refine ⟨T.nolimit.keeps fun b o e => keep' b o (F.keep b o e), ?_⟩
  have hLC : L < s.heap.objs.size := F.ns.lt
  have keep2 : ∀ (o' : Obj) b o, s.heap.get? b = some o → (h'.push o').get? b = some o := fun o' b o e => Heap.get?_push_of_some _ (keep' b o e)
  obtain ⟨ol, hol, hol2⟩ := id hl
  have hlx : lx < s.heap.objs.size := Heap.lt_size hol
  refine h s.heap.objs.size h'.objs.size (h'.push _) _ (by rw [hsz']; exact Nat.lt_succ_self _) (Nat.le_refl _) (by rw [Heap.size_push]; exact Nat.lt_succ_self _) (keep2 _) ⟨F.ns.keeps (keep2 _), fun b o e => keep2 _ b o (F.keep b o e), F.above⟩
    (fun q hq => ⟨keep2 _ _ _ (N q hq).1, (N q hq).2⟩) fun s' hs' hg' => ?_
  refine ⟨⟨_, _, _, by rw [hs']; exact Heap.get?_push_size _ rfl, rfl, rfl, rfl⟩, T.nolimit.keeps fun b o e => by rw [hs']; exact keep2 _ b o (F.keep b o e), _, by rw [hg']; exact Array.getElem?_push_size .., fun s'' hst => ?_⟩
  rw [Nat.sub_zero, dumpOut_length hlo]
  have kF : ∀ b o, dFp h₀ s.heap.objs.size h'.objs.size lx b o → (h'.push _).get? b = some o → s''.heap.get? b = some o := fun b o hb e => hst.heap b o hb (by rw [hs']; exact e)
  refine ⟨rfl, dump_seg (m := fun y => (dumpBinds self (.str tag t) (.ref lx) (.int (lo : Int) u) (.int ((lo + n : Nat) : Int) v)).reverse.lookup y) X T hh (by rw [hsz']; exact Nat.lt_succ_self _) (Nat.ne_of_lt hlx) hvs hlo hxs hsz ?_ ⟨?_, ?_, ?_⟩ rfl rfl ?_ rfl rfl .refl⟩
  · rw [hsz']; exact ((hns.push _).at' fun o e => kF _ o (.inl rfl) e).lt
  · exact (hns.push _).at' fun o e => kF _ o (.inl rfl) e
  · exact fun b o e => kF b o (.inr (.inr (.inl ⟨o, e⟩))) (keep2 _ b o (F.keep b o e))
  · exact Nat.le_of_lt (Nat.lt_of_le_of_lt F.above hLC)
  · exact (hl.at fun o e => kF lx o (.inr (.inl rfl)) (keep2 _ lx o e))
end
end Mine
end
section
open PySem PySem.W PyProof.Rows
set_option Elab.async false
set_option maxRecDepth 100000
set_option maxHeartbeats 1000000
namespace Mine
abbrev resEnv (C : Addr) : Env := envOf (Str.ofString "restore") (fScope (st 8)) C 324 (.ref 323)
def resTry : Stmt := nth (fBody (st 8)) 1
def tryBody : Stmt → List Stmt
  | .Try b _ _ _ _ => b
  | _ => []
def asgVal : Stmt → Expr
  | .Assign _ v _ => v
  | _ => .Tuple [] 0 ⟨0, 0, 0, 0⟩
def resTag : Expr := asgVal (nth (tryBody resTry) 0)
theorem k_int (P : Params) : nsIn (K P) mainGlobals (Str.ofString "int") = some none := by kernel_rfl
theorem b_int : bootBuiltins (Str.ofString "int") = some (.type "int") := by kernel_rfl
theorem n_int : Str.ofString "int" ≠ Str.ofString "__name__" := by decide
section
variable {w : World} {A : Around} {h₀ : Heap} {p : Program} {ls : List Str} {mg mb : Str → Option Value} {E : Value → Shared → Prop} {s : Shared}
theorem res_tag {C : Addr} {m : Str → Option Value} {k : Int} {tag : Str} {wv : Value} {Q : Value → Shared → Prop}
    (X : (K w.params).In h₀) (T : TopRead p ls mg mb h₀) (F : Fr h₀ C s.heap m) (hw : m (Str.ofString "which") = some wv)
    (hint : ∀ (s' : Shared) (Q' : Value → Shared → Prop), (∀ t' tk, Q' (.int k t') { s' with toks := tk }) → wpAny (model prog w) A (call (.type "int") [wv]) Q' E s')
    (hk : (k = 1 ∧ tag = Str.ofString "- ") ∨ (k = 2 ∧ tag = Str.ofString "+ "))
    (h : ∀ t' h' tk, (∀ b o, s.heap.get? b = some o → h'.get? b = some o) → Q (.str tag t') { s with heap := h', toks := tk }) :
    wpAny (model prog w) A (eval resTag (resEnv C)) Q E s := by
  show wpAny _ _ (eval (Expr.Subscript _ _ _) _) _ _ _
  refine Subscript_ ?_
  refine wpAny_Dict_walk (knd := intKind prog w) rfl rfl (by simp) (by decide) ?_
  w_on
  walk1; walk1; walk1; walk1; walk1; walk1; walk1
  refine ⟨[(1, _), (2, _)], ⟨rfl, rfl, rfl, rfl, trivial⟩, Heap.DictOf.new _, fun h' hd hsb => ?_⟩
  have keep : ∀ b o, s.heap.get? b = some o → h'.get? b = some o := fun b o e => hsb.extBut b o (Nat.ne_of_lt (Heap.lt_size e)) (Heap.get?_push_of_some _ e)
  have F' : Fr h₀ C h' m := ⟨F.ns.keeps keep, fun b o e => keep b o (F.keep b o e), F.above⟩
  walk1
  refine name_B F' X T (k_int _) b_int n_int ?_
  walk1; walk1
  refine ld F' hw ?_
  walk1
  refine hint _ _ fun t' tk => ?_
  have hm := hd.mapOf
  rcases hk with ⟨rfl, rfl⟩ | ⟨rfl, rfl⟩
  · refine tail_any (s := { s with heap := h', toks := tk }) hm.typeIs slot_dict_getitem.lookup (wpAny_getItem_of (s := { s with heap := h', toks := tk }) (k := 1) rfl hm rfl ?_) (by with_unfolding_all rfl)
    exact h _ _ _ keep
  · refine tail_any (s := { s with heap := h', toks := tk }) hm.typeIs slot_dict_getitem.lookup (wpAny_getItem_of (s := { s with heap := h', toks := tk }) (k := 2) rfl hm rfl ?_) (by with_unfolding_all rfl)
    exact h _ _ _ keep
end
end Mine
end
section
open PySem PySem.W PyProof.Rows
set_option Elab.async false
set_option maxRecDepth 100000
set_option maxHeartbeats 1000000
namespace Mine
def resFor : Stmt := nth (fBody (st 8)) 3
def resIf : Stmt := nth (forBody resFor) 0
def ifTest : Stmt → Expr
  | .If t _ _ _ => t
  | _ => .Tuple [] 0 ⟨0, 0, 0, 0⟩
def ifBody : Stmt → List Stmt
  | .If _ b _ _ => b
  | _ => []
def resElt : Expr := yieldOf (nth (ifBody resIf) 0)
/-- all objects beside the base's and the frame's own -/
def others (h₀ : Heap) (C : Addr) (h : Heap) : List (Addr × Obj) := (List.range h.objs.size).filterMap fun b => if b = C then none else match h₀.get? b with
  | some _ => none
  | none => (h.get? b).map fun o => (b, o)
theorem mem_others {h₀ h : Heap} {C b : Addr} {o : Obj} : (b, o) ∈ others h₀ C h ↔ b ≠ C ∧ h₀.get? b = none ∧ h.get? b = some o := by
  unfold others
  rw [List.mem_filterMap]
  constructor
  · rintro ⟨b', _, e⟩
    by_cases hb : b' = C
    · simp [hb] at e
    · simp only [if_neg hb] at e
      split at e
      · cases e
      · rename_i h0
        obtain ⟨o', ho', e⟩ := Option.map_eq_some_iff.mp e
        cases e
        exact ⟨hb, h0, ho'⟩
  · rintro ⟨hb, h0, ho⟩
    exact ⟨b, List.mem_range.mpr (Heap.lt_size ho), by simp [hb, h0, ho]⟩
theorem others_news {h₀ h : Heap} {C : Addr} : News h₀ C h (others h₀ C h) := fun q hq => by
  obtain ⟨b, o⟩ := q
  obtain ⟨h1, h2, h3⟩ := mem_others.mp hq
  exact ⟨h3, h1, h2⟩
theorem others_keep {h₀ h h' : Heap} {C : Addr} {m m' : Str → Option Value} {news' : List (Addr × Obj)} (F : Fr h₀ C h m) (F' : Fr h₀ C h' m') (N' : News h₀ C h' news') (hs : ∀ q ∈ others h₀ C h, q ∈ news') :
    ∀ b o, b ≠ C → h.get? b = some o → h'.get? b = some o := fun b o hb e => by
  cases h0 : h₀.get? b with
  | some o' =>
    have := F.keep b o' h0
    rw [e] at this
    cases this
    exact F'.keep b o h0
  | none => exact (N' _ (hs _ (mem_others.mpr ⟨hb, h0, e⟩))).1

section
variable {w : World} {A : Around} {h₀ : Heap} {p : Program} {ls : List Str} {mg mb : Str → Option Value} {E : Value → Shared → Prop} {s : Shared}
theorem res_elt {C : Addr} {m : Str → Option Value} {x : Str} {t : Tok} {Q : Value → Shared → Prop}
    (F : Fr h₀ C s.heap m) (hx : m (Str.ofString "line") = some (.str x t)) (hsz : x.length ≤ sizeLine)
    (h : ∀ t' tk h', Fr h₀ C h' m → (∀ b o, b ≠ C → s.heap.get? b = some o → h'.get? b = some o) → Q (.str (Txt.slice x (some 2) none) t') { s with heap := h', toks := tk }) :
    wpAny (model prog w) A (eval resElt (resEnv C)) Q E s := by
  show wpAny _ _ (eval (Expr.Subscript _ _ _) _) _ _ _
  have N := others_news (h₀ := h₀) (h := s.heap) (C := C)
  w_on
  walk1
  refine ld F hx ?_
  walk1; walk1; walk1; walk1; walk1
  refine slice_strN_sn (s := { s with toks := s.toks + 1 }) F N (fun h' t' k F' N' => ?_)
  exact h t' k h' F' (others_keep F F' N' fun _ hq => hq)
theorem res_test {C tp : Addr} {m : Str → Option Value} {x tag : Str} {t u v : Tok} {Q : Bool → Shared → Prop}
    (F : Fr h₀ C s.heap m) (hx : m (Str.ofString "line") = some (.str x t)) (hp : m (Str.ofString "prefixes") = some (.ref tp)) (htC : tp ≠ C) (ht : IsTup s.heap tp #[.str (Str.ofString "  ") u, .str tag v]) (hsz : x.length ≤ sizeLine)
    (h : ∀ tk h', Fr h₀ C h' m → (∀ b o, b ≠ C → s.heap.get? b = some o → h'.get? b = some o) → Q ([Str.ofString "  ", tag].any (· == Txt.slice x none (some 2))) { s with heap := h', toks := tk }) :
    wpAny (model prog w) A (isTrue (ifTest resIf) (resEnv C) (eval (ifTest resIf) (resEnv C))) Q E s := by
  show wpAny _ _ (isTrue (Expr.Compare _ _ _ _) _ _) _ _ _
  have N := others_news (h₀ := h₀) (h := s.heap) (C := C)
  w_on
  walk1
  walk1
  refine ld F hx ?_
  walk1; walk1; walk1; walk1; walk1
  refine slice_strN_ns (s := { s with toks := s.toks + 1 }) F N (fun h' t' k F' N' => ?_)
  have keep := others_keep F F' N' fun _ hq => hq
  refine ld F' hp ?_
  have ht' : IsTup h' tp #[.str (Str.ofString "  ") u, .str tag v] := let ⟨o, ho, r⟩ := ht; ⟨o, keep tp o htC ho, r⟩
  refine in_tuple_strs (s := { s with heap := h', toks := k }) ht' (.cons _ _ (.cons _ _ .nil)) ?_
  exact wpAny_truthy_bool (h k h' F' keep)
end
end Mine
end
section
open PySem PySem.W PyProof.Rows
set_option Elab.async false
set_option maxRecDepth 100000
set_option maxHeartbeats 1000000
namespace Mine
def dictD (o : Obj) : Prop := ∃ es ep, o.data = .dict es ep
theorem nd_seq {o : Obj} {xs : Array Value} {n : Nat} (h : o.data = .seq xs n) : ¬ dictD o := fun ⟨_, _, e⟩ => by rw [h] at e; cases e
theorem nd_fields {o : Obj} {xs : Array Value} (h : o.data = .fields xs) : ¬ dictD o := fun ⟨_, _, e⟩ => by rw [h] at e; cases e
def resKeep (tag x : Str) : Bool := [Str.ofString "  ", tag].any (· == Txt.slice x none (some 2))
def resOut (tag : Str) (xs : List Str) : List Str := (xs.filter (resKeep tag)).map fun x => Txt.slice x (some 2) none
theorem resOut_app (tag : Str) (xs ys : List Str) : resOut tag (xs ++ ys) = resOut tag xs ++ resOut tag ys := by simp [resOut]
theorem resOut_cons (tag x : Str) (xs : List Str) : resOut tag (x :: xs) = if resKeep tag x then Txt.slice x (some 2) none :: resOut tag xs else resOut tag xs := by
  unfold resOut; rw [List.filter_cons]; split <;> rfl
theorem resOut_len (tag : Str) (xs : List Str) : (resOut tag xs).length ≤ xs.length := by simp [resOut]; exact List.length_filter_le _ _

section
variable {prog : Program} {w : World} {A : Around} {R : GenEnd} {Y : Protocol} {n : Nat} {s₀ : Shared} {c : Code} {fs : List Frame} {s : Shared} {env : Env}
  {K : Flow → Sem Fin} {H : Value → Sem Fin} {gd : Bool → Bool} {lv : List Value → List Value}
theorem seg_If {test : Expr} {body orelse : List Stmt} {pos : Pos}
    (h : wpAny (model prog w) (A.over c fs) (isTrue test env (eval test env)) (fun b s' => match b with
      | true => Seg (model prog w) A R Y n s₀ c ((execs body env).wrap K H gd lv) fs s'
      | false => Seg (model prog w) A R Y n s₀ c ((execs orelse env).wrap K H gd lv) fs s') (fun _ _ => False) s) :
    Seg (model prog w) A R Y n s₀ c ((exec (.If test body orelse pos) env).wrap K H gd lv) fs s := by
  rw [arm_exec_If]
  refine seg_bind_wrap (wpAny_standAt ?_)
  refine seg_bind_wrap (wpAny_mono h (fun b s' hb => ?_) fun _ _ q => q.elim)
  cases b with
  | true => exact hb
  | false => exact hb
end

abbrev resCode (C I : Addr) : Code := .forLoop (.Name (Str.ofString "line") ⟨780, 8, 780, 12⟩) (.ref I) (forBody resFor) [] (resEnv C)
theorem ne_pl : Str.ofString "prefixes" ≠ Str.ofString "line" := by decide

theorem res_loop {w : World} {A : Around} {h₀ : Heap} {C tp I : Addr} {tag : Str} {u v : Tok} {xs : List Str} {c : Code} {p : Pos} {K : Flow → Sem Fin} {H : Value → Sem Fin} {Fp Wr FpI WrI : Addr → Obj → Prop} {Gi GpI : Nat → Prop} {StI : Nat → Shared → Prop}
    (W : WalksP Mine.prog w (A.over (resCode C I) [waitF (resEnv C) K H id id c p]) I FpI WrI GpI xs StI) (hF : ∀ b o, FpI b o → Fp b o) (hW : ∀ b o, WrI b o → Wr b o) (hG : ∀ k, GpI k → Gi k)
    (hFC : ∀ o, ¬ FpI C o) (hWC : ∀ o, ¬ WrI C o) (hC : ∀ o, Wr C o) (hCF : ∀ o, Fp C o) (hF0 : ∀ b o o', h₀.get? b = some o' → Fp b o) (hW0 : ∀ b o o', h₀.get? b = some o' → ¬ WrI b o)
    (htpC : tp ≠ C) (htpF : ∀ o : Obj, o.cls = .type "tuple" → ¬ dictD o → Fp tp o) (htpW : ∀ o, ¬ WrI tp o) (hsz : ∀ x ∈ xs, x.length ≤ sizeLine)
    (hK : ∀ s₀ s, Kept Wr Gi s₀ s → Seg (model Mine.prog w) A (retF Wr Gi) (protoF Fp Wr Gi (resOut tag xs)) 0 s₀ c (K .next) [] s) :
    ∀ (k j : Nat) (s₀ s : Shared) (m : Str → Option Value), xs.length - j = k → j ≤ xs.length → StI j s → Fr h₀ C s.heap m → m (Str.ofString "prefixes") = some (.ref tp) →
      IsTup s.heap tp #[.str (Str.ofString "  ") u, .str tag v] → Kept Wr Gi s₀ s →
      Seg (model Mine.prog w) A (retF Wr Gi) (protoF Fp Wr Gi (resOut tag xs)) (resOut tag (xs.drop j)).length s₀ (resCode C I) ((model Mine.prog w).den (resCode C I)) [waitF (resEnv C) K H id id c p] s := by
  intro k
  induction k with
  | zero =>
    intro j s₀ s m hk hj hst F hp ht hkp
    have hjn : j = xs.length := by omega
    subst hjn
    rw [List.drop_length]
    refine seg_forLoop (W.done s _ _ hst fun s' hm => ?_)
    exact seg_block_nil (hK s₀ _ (hkp.trans (hm.mono hW hG)))
  | succ k ih =>
    intro j s₀ s m hk hj hst F hp ht hkp
    have hlt : j < xs.length := by omega
    have hxj : xs[j]? = some xs[j] := by simp
    have hdrop : xs.drop j = xs[j] :: xs.drop (j + 1) := List.drop_eq_getElem_cons hlt
    refine seg_forLoop (W.item j s xs[j] _ _ hxj hst fun t s' hst' hm => ?_)
    have F1 : Fr h₀ C s'.heap m := ⟨F.ns.at' fun o e => hm.heap C o (hWC o) e, fun b o e => hm.heap b o (hW0 b o o e) (F.keep b o e), F.above⟩
    refine wpAny_storeName_local (env := resEnv C) (by rfl) F1.ns (fun h'' hns'' hs'' => ?_) (by rfl)
    have F2 : Fr h₀ C h'' (fun y => if y = Str.ofString "line" then some (.str xs[j] t) else m y) := ⟨hns'', fun b o e => (hs''.2 b (fun q => ?_)).trans (F1.keep b o e), F.above⟩
    rotate_left
    · exact absurd (Nat.lt_of_lt_of_le (Heap.lt_size e) F.above) (q ▸ Nat.lt_irrefl _)
    have ht1 : IsTup s'.heap tp #[.str (Str.ofString "  ") u, .str tag v] := let ⟨o, ho, r⟩ := ht; ⟨o, hm.heap tp o (htpW o) ho, r⟩
    have ht2 : IsTup h'' tp #[.str (Str.ofString "  ") u, .str tag v] := let ⟨o, ho, r⟩ := ht1; ⟨o, (hs''.2 tp htpC).trans ho, r⟩
    refine seg_execs_cons ?_
    show Seg _ _ _ _ _ _ _ ((exec (Stmt.If (ifTest resIf) (ifBody resIf) [] ⟨781, 8, 782, 26⟩) (resEnv C)).wrap _ _ _ _) _ _
    refine seg_If ?_
    refine wpAny_with_toks (n := s'.toks) (by exact Nat.le_succ _) ?_
    refine res_test (h₀ := h₀) (s := { s' with heap := h'', toks := s'.toks + 1 }) F2 (by rw [if_pos rfl]) (by rw [if_neg ne_pl]; exact hp) htpC ht2 (hsz _ (List.getElem_mem _)) fun tk h3 F3 keep3 htk => ?_
    have keepA : ∀ b o, b ≠ C → s'.heap.get? b = some o → h3.get? b = some o := fun b o hb e => keep3 b o hb ((hs''.2 b hb).trans e)
    have hst3 : StI (j + 1) { s' with heap := h3, toks := tk } := W.frame _ _ _ hst' ⟨fun b o hb e => keepA b o (fun q => hFC o (q ▸ hb)) e, fun _ _ _ => rfl, Nat.le_refl _⟩
    have hkp3 : Kept Wr Gi s₀ { s' with heap := h3, toks := tk } := (hkp.trans (hm.mono hW hG)).trans ⟨fun b o hb e => keepA b o (fun q => hb (q ▸ hC o)) e, Nat.le_refl _, fun _ _ _ => rfl, id, rfl, rfl, htk⟩
    have ht3 : IsTup h3 tp #[.str (Str.ofString "  ") u, .str tag v] := let ⟨o, ho, r⟩ := ht1; ⟨o, keepA tp o htpC ho, r⟩
    change match resKeep tag xs[j] with | true => _ | false => _
    cases hkeep : resKeep tag xs[j] with
    | false =>
      have e1 : resOut tag (xs.drop j) = resOut tag (xs.drop (j + 1)) := by rw [hdrop, resOut_cons, hkeep]; rfl
      rw [e1]
      show Seg _ _ _ _ _ _ _ (.pure (.again (resCode C I))) _ _
      exact seg_again rfl (ih (j + 1) s₀ _ _ (by omega) hlt hst3 F3 (by rw [if_neg ne_pl]; exact hp) ht3 hkp3)
    | true =>
      have e1 : resOut tag (xs.drop j) = Txt.slice xs[j] (some 2) none :: resOut tag (xs.drop (j + 1)) := by rw [hdrop, resOut_cons, hkeep]; rfl
      have e2 : resOut tag xs = resOut tag (xs.take j) ++ Txt.slice xs[j] (some 2) none :: resOut tag (xs.drop (j + 1)) := by rw [← e1, ← resOut_app, List.take_append_drop]
      rw [show (resOut tag (xs.drop j)).length = (resOut tag (xs.drop (j + 1))).length + 1 by rw [e1]; rfl]
      refine seg_execs_cons ?_
      refine seg_Expr_Yield rfl rfl rfl ?_
      refine wpAny_with_toks (n := tk) (Nat.le_refl _) ?_
      refine res_elt (h₀ := h₀) (s := { s' with heap := h3, toks := tk }) F3 (by rw [if_pos rfl]) (hsz _ (List.getElem_mem _)) fun t4 tk4 h4 F4 keep4 htk4 kap hkap => ?_
      refine ⟨⟨_, t4, ?_, rfl⟩, hkp3.trans ⟨fun b o hb e => keep4 b o (fun q => hb (q ▸ hC o)) e, Nat.le_refl _, fun _ _ _ => rfl, id, rfl, rfl, htk4⟩, fun s5 hs5 => hkap .none s5 ?_⟩
      · rw [e2]
        simp only [List.length_append, List.length_cons]
        rw [List.getElem?_append_right (by omega)]
        have : (resOut tag (xs.take j)).length + ((resOut tag (xs.drop (j + 1))).length + 1) - 1 - (resOut tag (xs.drop (j + 1))).length - (resOut tag (xs.take j)).length = 0 := by omega
        rw [this]; rfl
      · show Seg _ _ _ _ _ _ _ (.pure (.again (resCode C I))) _ _
        have ht4 : IsTup h4 tp #[.str (Str.ofString "  ") u, .str tag v] := let ⟨o, ho, r⟩ := ht3; ⟨o, keep4 tp o htpC ho, r⟩
        refine seg_again rfl (ih (j + 1) s5 s5 _ (by omega) hlt (W.frame _ _ _ hst3 ?_) ⟨F4.ns.at' fun o e => hs5.heap C o (hCF o) e, fun b o e => hs5.heap b o (hF0 b o o e) (F4.keep b o e), F.above⟩ (by rw [if_neg ne_pl]; exact hp) (let ⟨o, ho, r⟩ := ht4; ⟨o, hs5.heap tp o (htpF o r.1 (let ⟨_, hd⟩ := r.2; nd_seq hd)) ho, r⟩) .refl)
        exact ⟨fun b o hb e => hs5.heap b o (hF b o hb) (keep4 b o (fun q => hFC o (q ▸ hb)) e), fun k hk hl => hs5.gens k (hG k hk) hl, hs5.gsize⟩
end Mine
end
section
open PySem PySem.W PyProof.Rows
set_option Elab.async false
set_option maxRecDepth 100000
set_option maxHeartbeats 1000000
namespace Mine
theorem WalksP.list {prog : Program} {w : World} {A : Around} (hh : A.handled = none) (I l : Addr) (hne : l ≠ I) {vs : List Value} {xs : List Str} (hvs : StrsAre vs xs) :
    WalksP prog w A I (fun b o => (b = I ∧ o.cls = .type "list_iterator" ∧ ¬ dictD o) ∨ b = l) (fun b o => b = I ∧ o.cls = .type "list_iterator" ∧ ¬ dictD o) (fun _ => False) xs (fun i s => s.heap.IsListIter I l i ∧ s.heap.IsList l vs.toArray) where
  frame := fun i s s' st hs => by
    obtain ⟨⟨o, ho, hc, hd⟩, hl⟩ := st
    exact ⟨⟨o, hs.heap I o (.inl ⟨rfl, hc, nd_fields hd⟩) ho, hc, hd⟩, hl.at fun o e => hs.heap l o (.inr rfl) e⟩
  item := fun i s x Q E hx st hQ => by
    obtain ⟨t, hv⟩ := strsAre_get hvs hx
    refine wpAny_pyNext_list_item st.1 st.2 (x := .str x t) (by simpa using hv) fun h' hit' hs' => ?_
    refine hQ t _ ⟨hit', st.2.at fun o e => (hs'.2 l hne).trans e⟩ ⟨fun b o hb e => (hs'.2 b fun q => ?_).trans e, Nat.le_refl _, fun _ _ _ => rfl, id, rfl, rfl, Nat.le_refl _⟩
    subst q
    obtain ⟨o', ho', hc', hd'⟩ := st.1
    rw [e] at ho'; cases ho'
    exact hb ⟨rfl, hc', nd_fields hd'⟩
  done := fun s Q E st hQ => by
    refine wpAny_pyNext_list_end hh st.1 st.2 (by rw [← strsAre_length hvs]; simp) fun h' he => hQ _ ⟨fun b o hb e => he b o (fun q => ?_) e, Nat.le_refl _, fun _ _ _ => rfl, id, rfl, rfl, Nat.le_refl _⟩
    subst q
    obtain ⟨o', ho', hc', hd'⟩ := st.1
    rw [e] at ho'; cases ho'
    exact hb ⟨rfl, hc', nd_fields hd'⟩

theorem with_t {α : Type} {M : Model} {A : Around} {t : Sem α} {Q : α → Shared → Prop} {E : Value → Shared → Prop} {s : Shared}
    (h : wpAny M A t (fun a s' => s.toks ≤ s'.toks → Q a s') (fun e s' => s.toks ≤ s'.toks → E e s') s) : wpAny M A t Q E s := wpAny_with_toks (Nat.le_refl _) h
theorem ne_tp : Str.ofString "tag" ≠ Str.ofString "prefixes" := by decide
theorem ne_dt : Str.ofString "delta" ≠ Str.ofString "tag" := by decide
theorem ne_dp : Str.ofString "delta" ≠ Str.ofString "prefixes" := by decide
section
variable {w : World} {A : Around} {h₀ : Heap} {p : Program} {ls : List Str} {mg mb : Str → Option Value} {E : Value → Shared → Prop} {s : Shared}

theorem try_plain {M : Model} {body : List Stmt} {hs : List ExceptHandler} {pos : Pos} {env : Env} {Q : Flow → Shared → Prop} (h : wpAny M A (execs body env) (fun f s' => f = .next ∧ Q .next s') (fun _ _ => False) s) :
    wpAny M A (exec (.Try body hs [] [] pos) env) Q E s := by
  rw [arm_exec_Try]
  refine wpAny_bind (wpAny_standAt ?_)
  unfold tryStmt
  simp only [List.isEmpty_nil, if_true]
  refine wpAny_bind (wpAny_attempt (wpAny_mono h (fun f s' hf => ?_) fun _ _ q => q.elim))
  obtain ⟨rfl, hq⟩ := hf
  exact wpAny_execs_nil hq
theorem res_try {C : Addr} {m : Str → Option Value} {k : Int} {tag : Str} {wv : Value} {Q : Flow → Shared → Prop}
    (X : (K w.params).In h₀) (T : TopRead p ls mg mb h₀) (F : Fr h₀ C s.heap m) (hw : m (Str.ofString "which") = some wv)
    (hint : ∀ (E : Value → Shared → Prop) (s' : Shared) (Q' : Value → Shared → Prop), (∀ t' tk, Q' (.int k t') { s' with toks := tk }) → wpAny (model prog w) A (call (.type "int") [wv]) Q' E s')
    (hk : (k = 1 ∧ tag = Str.ofString "- ") ∨ (k = 2 ∧ tag = Str.ofString "+ "))
    (h : ∀ t' h' tk, Fr h₀ C h' (fun y => if y = Str.ofString "tag" then some (.str tag t') else m y) → (∀ b o, b ≠ C → s.heap.get? b = some o → h'.get? b = some o) → Q .next { s with heap := h', toks := tk }) :
    wpAny (model prog w) A (exec resTry (resEnv C)) Q E s := by
  refine try_plain ?_
  refine wpAny_execs_cons ?_
  refine wpAny_Assign_Name ?_
  refine res_tag X T F hw (hint _) hk fun t' h' tk keep => ?_
  have F1 : Fr h₀ C h' m := ⟨F.ns.keeps keep, fun b o e => keep b o (F.keep b o e), F.above⟩
  refine wpAny_storeName_local (env := resEnv C) (by rfl) F1.ns (fun h2 hns2 hs2 => ?_) (by rfl)
  refine wpAny_execs_nil ⟨rfl, ?_⟩
  refine (h t' h2 _ ⟨hns2, fun b o e => (hs2.2 b fun q => ?_).trans (F1.keep b o e), F.above⟩ fun b o hb e => (hs2.2 b hb).trans (keep b o e))
  exact absurd (Nat.lt_of_lt_of_le (Heap.lt_size e) F.above) (q ▸ Nat.lt_irrefl _)

theorem res_prefixes {C : Addr} {m : Str → Option Value} {tag : Str} {t : Tok} {Q : Flow → Shared → Prop} (F : Fr h₀ C s.heap m) (ht : m (Str.ofString "tag") = some (.str tag t))
    (h : ∀ tp u h' tk, s.heap.objs.size = tp → IsTup h' tp #[.str (Str.ofString "  ") u, .str tag t] → Fr h₀ C h' (fun y => if y = Str.ofString "prefixes" then some (.ref tp) else m y) → (∀ b o, b ≠ C → s.heap.get? b = some o → h'.get? b = some o) → Q .next { s with heap := h', toks := tk }) :
    wpAny (model prog w) A (exec (nth (fBody (st 8)) 2) (resEnv C)) Q E s := by
  show wpAny _ _ (exec (Stmt.Assign _ _ _) _) _ _ _
  have hC := F.ns.lt
  refine wpAny_Assign_Name ?_
  w_on
  walk1; walk1; walk1; walk1
  refine ld F ht ?_
  walk1
  simp only [newTuple]
  refine wpAny_newObj_type ?_ (by size_fits)
  refine wpAny_storeName_local (env := resEnv C) (by rfl) (F.ns.push _) (fun h2 hns2 hs2 => ?_) (by rfl)
  refine h s.heap.objs.size _ h2 _ rfl ⟨_, (hs2.2 _ (Nat.ne_of_gt hC)).trans (Heap.get?_push_size _ rfl), rfl, _, rfl⟩ ⟨hns2, fun b o e => (hs2.2 b fun q => ?_).trans (Heap.get?_push_of_some _ (F.keep b o e)), F.above⟩ fun b o hb e => (hs2.2 b hb).trans (Heap.get?_push_of_some _ e)
  exact absurd (Nat.lt_of_lt_of_le (Heap.lt_size e) F.above) (q ▸ Nat.lt_irrefl _)
theorem res_try_t {C : Addr} {m : Str → Option Value} {k : Int} {tag : Str} {wv : Value} {Q : Flow → Shared → Prop}
    (X : (K w.params).In h₀) (T : TopRead p ls mg mb h₀) (F : Fr h₀ C s.heap m) (hw : m (Str.ofString "which") = some wv)
    (hint : ∀ (E : Value → Shared → Prop) (s' : Shared) (Q' : Value → Shared → Prop), (∀ t' tk, Q' (.int k t') { s' with toks := tk }) → wpAny (model prog w) A (call (.type "int") [wv]) Q' E s')
    (hk : (k = 1 ∧ tag = Str.ofString "- ") ∨ (k = 2 ∧ tag = Str.ofString "+ "))
    (h : ∀ t' h' tk, s.toks ≤ tk → Fr h₀ C h' (fun y => if y = Str.ofString "tag" then some (.str tag t') else m y) → (∀ b o, b ≠ C → s.heap.get? b = some o → h'.get? b = some o) → Q .next { s with heap := h', toks := tk }) :
    wpAny (model prog w) A (exec resTry (resEnv C)) Q E s :=
  by
  refine with_t ?_
  refine @res_try w A h₀ p ls mg mb _ s C m k tag wv (fun a s' => s.toks ≤ s'.toks → Q a s') X T F hw hint hk ?_
  intro t' h' tk F' keep htk
  exact h t' h' tk htk F' keep
theorem res_prefixes_t {C : Addr} {m : Str → Option Value} {tag : Str} {t : Tok} {Q : Flow → Shared → Prop} (F : Fr h₀ C s.heap m) (ht : m (Str.ofString "tag") = some (.str tag t))
    (h : ∀ tp u h' tk, s.heap.objs.size = tp → s.toks ≤ tk → IsTup h' tp #[.str (Str.ofString "  ") u, .str tag t] → Fr h₀ C h' (fun y => if y = Str.ofString "prefixes" then some (.ref tp) else m y) → (∀ b o, b ≠ C → s.heap.get? b = some o → h'.get? b = some o) → Q .next { s with heap := h', toks := tk }) :
    wpAny (model prog w) A (exec (nth (fBody (st 8)) 2) (resEnv C)) Q E s :=
  by
  refine with_t ?_
  refine res_prefixes F ht ?_
  intro tp u h' tk e ht' F' keep htk
  exact h tp u h' tk e htk ht' F' keep
end
end Mine
end
section
open PySem PySem.W PyProof.Rows
set_option Elab.async false
set_option maxRecDepth 100000
set_option maxHeartbeats 1000000
namespace Mine
def rFp (h₀ : Heap) (C a l : Addr) : Addr → Obj → Prop := fun b o => b = C ∨ b = a ∨ b = l ∨ (∃ o', h₀.get? b = some o') ∨ (a < b ∧ ¬ dictD o ∧ (o.cls = .type "list_iterator" ∨ o.cls = .type "tuple"))
def rWr (C a : Addr) : Addr → Obj → Prop := fun b o => b = C ∨ (a < b ∧ ¬ dictD o ∧ o.cls = .type "list_iterator")
theorem rWr_low {C a : Addr} : ∀ b o, rWr C a b o → b = C ∨ (a < b ∧ ∀ its c, o ≠ listOf its c) := fun b o q => by
  rcases q with q | ⟨q, _, hc⟩
  · exact .inl q
  · exact .inr ⟨q, fun its c e => by subst e; exact absurd (show Value.type "list" = Value.type "list_iterator" from hc) (by decide)⟩
section
variable {w : World} {A : Around} {h₀ : Heap} {p : Program} {ls : List Str} {mg mb : Str → Option Value} {E : Value → Shared → Prop} {s : Shared}

/-- which, as restore reads it -/
def Asks (w : World) (wv : Value) (tag : Str) : Prop := ∃ k : Int, ((k = 1 ∧ tag = Str.ofString "- ") ∨ (k = 2 ∧ tag = Str.ofString "+ ")) ∧
  ∀ (A : Around) (E : Value → Shared → Prop) (s' : Shared) (Q' : Value → Shared → Prop), (∀ t' tk, s'.toks ≤ tk → Q' (.int k t') { s' with toks := tk }) → wpAny (model prog w) A (call (.type "int") [wv]) Q' E s'

theorem seg_doc {M : Model} {R : GenEnd} {Y : Protocol} {n : Nat} {s₀ : Shared} {c : Code} {fs : List Frame} {env : Env} {K : Flow → Sem Fin} {H : Value → Sem Fin} {gd : Bool → Bool} {lv : List Value → List Value} {d : Str} {k : Nat} {p1 p2 : Pos} {rest : List Stmt}
    (hi : interactive env = false) (hs : swapsWith (.Constant (.str d) k p1) none p2.line env = pure false)
    (h : Seg M A R Y n s₀ c ((execs rest env).wrap K H gd lv) fs { s with toks := s.toks + 1 }) : Seg M A R Y n s₀ c ((execs (.Expr (.Constant (.str d) k p1) p2 :: rest) env).wrap K H gd lv) fs s :=
  seg_execs_cons (seg_wrap (wpAny_Expr (wpAny_Constant_str h) hi hs))
theorem res_seg {C a l : Addr} {tag : Str} {wv : Value} {xs : List Str} {vs : List Value} {s₀ s : Shared} {m : Str → Option Value}
    (X : (K w.params).In h₀) (T : TopRead p ls mg mb h₀) (hh : A.handled = none) (hCa : C < a) (hlC : l ≠ C) (hla : l < a) (hvs : StrsAre vs xs) (hsz : ∀ x ∈ xs, x.length ≤ sizeLine) (hw : Asks w wv tag)
    {oa : Obj} (hoa : s.heap.get? a = some oa) (F : Fr h₀ C s.heap m) (hmd : m (Str.ofString "delta") = some (.ref l)) (hmw : m (Str.ofString "which") = some wv) (hl : s.heap.IsList l vs.toArray) (hkp : Kept (rWr C a) noG s₀ s) :
    Seg (model prog w) A (retF (rWr C a) noG) (protoF (rFp h₀ C a l) (rWr C a) noG (resOut tag xs)) (resOut tag xs).length s₀ (.func (fBody (st 8)) (resEnv C)) ((model prog w).den (.func (fBody (st 8)) (resEnv C))) [] s := by
  obtain ⟨k, hk, hint⟩ := hw
  refine seg_func ?_
  refine seg_doc (by kernel_rfl) (by kernel_rfl) ?_
  have htk : s.toks ≤ s.toks + 1 := Nat.le_succ _
  generalize s.toks + 1 = tk at htk
  show Seg _ _ _ _ _ _ _ ((execs (resTry :: nth (fBody (st 8)) 2 :: resFor :: []) (resEnv C)).wrap fnK (fnH (resEnv C)) id id) [] _
  refine seg_execs_cons (seg_wrap ?_)
  have hint' : ∀ (A : Around) (E : Value → Shared → Prop) (s' : Shared) (Q' : Value → Shared → Prop), (∀ t' tk, Q' (.int k t') { s' with toks := tk }) → wpAny (model prog w) A (call (.type "int") [wv]) Q' E s' := fun A E s' Q' h => hint A E s' Q' fun t tk _ => h t tk
  refine @res_try_t w _ h₀ p ls mg mb _ _ C m k tag wv _ X T F hmw (hint' _) hk ?_
  intro t1 h1 tk1 htk1 F1 keep1
  refine seg_execs_cons (seg_wrap ?_)
  refine @res_prefixes_t w _ h₀ _ { s with heap := h1, toks := tk1 } C _ tag t1 _ F1 (by rw [if_pos rfl]) ?_
  intro tp u h2 tk2 htp htk2 ht2 F2 keep2
  refine seg_execs_cons ?_
  have keepA : ∀ b o, b ≠ C → s.heap.get? b = some o → h2.get? b = some o := fun b o hb e => keep2 b o hb (keep1 b o hb e)
  have hl2 : h2.IsList l vs.toArray := hl.at fun o e => keepA l o hlC e
  have hmd2 : (fun y => if y = Str.ofString "prefixes" then some (Value.ref tp) else if y = Str.ofString "tag" then some (Value.str tag t1) else m y) (Str.ofString "delta") = some (Value.ref l) := by
    show (if _ then _ else _) = _
    rw [if_neg ne_dp, if_neg ne_dt]; exact hmd
  show Seg _ _ _ _ _ _ _ ((exec (Stmt.For (.Name (Str.ofString "line") ⟨780, 8, 780, 12⟩) (.Name (Str.ofString "delta") ⟨780, 16, 780, 21⟩) (forBody resFor) [] ⟨780, 4, 782, 26⟩) (resEnv C)).wrap _ _ _ _) [] _
  refine seg_For ?_ (by intro _; rfl)
  refine ld F2 hmd2 ?_
  refine wpAny_pyIter_list hl2 ?_
  intro pp
  obtain ⟨ol, hol, _⟩ := id hl2
  obtain ⟨ot, hot, hotc, _⟩ := id ht2
  have hIl : l ≠ h2.objs.size := Nat.ne_of_lt (Heap.lt_size hol)
  have hCI : C < h2.objs.size := F2.ns.lt
  have haC : a ≠ C := Nat.ne_of_gt hCa
  have hsz1 : a < h1.objs.size := Heap.lt_size (keep1 a oa haC hoa)
  have haI : a < h2.objs.size := Heap.lt_size (keepA a oa haC hoa)
  have htpI : tp < h2.objs.size := Heap.lt_size hot
  have hatp : a < tp := by rw [← htp]; exact hsz1
  have hbase : ∀ b o', h₀.get? b = some o' → b < C := fun b o' e => Nat.lt_of_lt_of_le (Heap.lt_size e) F.above
  have hd0 : resOut tag xs = resOut tag (xs.drop 0) := by rw [List.drop_zero]
  rw [show (resOut tag xs).length = (resOut tag (xs.drop 0)).length by rw [List.drop_zero]]
  refine res_loop (h₀ := h₀) (C := C) (tp := tp) (u := u) (v := t1) (WalksP.list (by exact hh) h2.objs.size l hIl hvs) ?_ ?_ ?_ ?_ ?_ ?_ ?_ ?_ ?_ ?_ ?_ ?_ hsz ?_ xs.length 0 s₀ _ _ rfl (Nat.zero_le _) ?_ (F2.push _) ?_ ?_ ?_
  · rintro b o (⟨rfl, hc, hd⟩ | rfl)
    · exact .inr (.inr (.inr (.inr ⟨haI, hd, .inl hc⟩)))
    · exact .inr (.inr (.inl rfl))
  · rintro b o ⟨rfl, hc, hd⟩
    exact .inr ⟨haI, hd, hc⟩
  · intro k hk; exact hk.elim
  · rintro o (⟨q, _⟩ | q)
    · exact Nat.ne_of_lt hCI q
    · exact hlC q.symm
  · rintro o ⟨q, _⟩
    exact Nat.ne_of_lt hCI q
  · intro o; exact .inl rfl
  · intro o; exact .inl rfl
  · intro b o o' e; exact .inr (.inr (.inr (.inl ⟨o', e⟩)))
  · rintro b o o' e ⟨q, _⟩
    exact Nat.ne_of_lt (Nat.lt_trans (hbase b o' e) hCI) q
  · exact Nat.ne_of_gt (Nat.lt_trans hCa hatp)
  · intro o hc hd; exact .inr (.inr (.inr (.inr ⟨hatp, hd, .inr hc⟩)))
  · rintro o ⟨q, _⟩
    exact Nat.ne_of_lt htpI q
  · intro s2 s3 hk
    exact seg_end (.ok (.ret .none)) ⟨rfl, rfl, hk⟩
  · exact ⟨⟨_, Heap.get?_push_size _ rfl, rfl, rfl⟩, hl2.push _⟩
  · exact if_pos rfl
  · exact ⟨ot, Heap.get?_push_of_some _ hot, hotc, by assumption⟩
  · exact hkp.trans ⟨fun b o hb e => Heap.get?_push_of_some _ (keepA b o (fun q => hb (.inl q)) e), Nat.le_refl _, fun _ _ _ => rfl, id, rfl, rfl, Nat.le_trans htk (Nat.le_trans htk1 htk2)⟩
end
end Mine
end
section
open PySem PySem.W PyProof.Rows
set_option Elab.async false
set_option maxRecDepth 100000
set_option maxHeartbeats 1000000
namespace Mine
theorem k_restore (P : Params) : (K P).lookup 324 = some (o12x324 P) := by kernel_rfl
theorem c_restore (P : Params) : codeIn (K P) (.ref 323) (Str.ofString "restore") = true := by kernel_rfl
abbrev resFd : FuncData := ⟨Str.ofString "restore", Str.ofString "restore", fArgs (st 8), .stmts (fBody (st 8)), fScope (st 8), 3, [], .none, .none, .str (docOf (fBody (st 8))) 754, .str (Str.ofString "cpy313.difflib") 194, none, .ref 323, .none, 0⟩
abbrev resBinds (v1 v2 : Value) : List (Str × Value) := [(Str.ofString "delta", v1), (Str.ofString "which", v2)]
theorem res_binds (v1 v2 : Value) : bindArgs resFd ⟨[v1, v2], []⟩ = pure (resBinds v1 v2) := by kernel_rfl
theorem res_locs (v1 v2 : Value) : ∀ y ∈ resBinds v1 v2, (fScope (st 8)).names.lookup y.1 = some .local := by
  intro y hy
  simp only [resBinds, List.mem_cons, List.not_mem_nil, or_false] at hy
  rcases hy with rfl | rfl <;> rfl
theorem res_cells : ∀ x ∈ (fScope (st 8)).names, x.2 ≠ .cell := by decide +kernel
section
variable {w : World} {A : Around} {h₀ : Heap} {p : Program} {ls : List Str} {mg mb : Str → Option Value} {E : Value → Shared → Prop} {s : Shared}
theorem mk_restore {L l : Addr} {m : Str → Option Value} {news : List (Addr × Obj)} {tag : Str} {wv : Value} {xs : List Str} {vs : List Value} {R : Result → Shared → Prop}
    (X : (K w.params).In h₀) (T : TopRead p ls mg mb h₀) (hh : A.handled = none) (hroom : A.depth < recursionLimit) (F : Fr h₀ L s.heap m) (N : News h₀ L s.heap news) (hl : s.heap.IsList l vs.toArray)
    (hvs : StrsAre vs xs) (hsz : ∀ x ∈ xs, x.length ≤ sizeLine) (hw : Asks w wv tag)
    (h : ∀ C a h' tk, C < a → s.heap.objs.size ≤ C → a < h'.objs.size → (∀ b o, s.heap.get? b = some o → h'.get? b = some o) → Fr h₀ L h' m → News h₀ L h' news →
      (∀ s' : Shared, s'.heap = h' → s'.gens = s.gens.push (.fresh (.func (fBody (st 8)) (resEnv C))) → GenAtF prog w A.in1.in1 a s.gens.size (rFp h₀ C a l) (rWr C a) noG (resOut tag xs) 0 s') →
      R (.ok (.ret (.ref a))) { s with heap := h', gens := s.gens.push (.fresh (.func (fBody (st 8)) (resEnv C))), toks := tk }) :
    codeAny (model prog w) A (.call (.ref 324) ⟨[.ref l, wv], []⟩) R s := by
  have Xs := X.keeps F.keep
  refine codeAny_call_generator (fd := resFd) (body := fBody (st 8)) hroom (Xs _ _ (k_restore _)) rfl rfl rfl rfl (codeRec_of Xs (c_restore _)) ?_
  refine BindsTo.of_eq (res_binds _ _) _ _ _ _ ?_
  refine wpAny_newFunctionEnv res_cells (res_locs _ _) (fun h' hns hsb => ?_)
  have hsz' : h'.objs.size = s.heap.objs.size + 1 := by rw [hsb.1, Heap.size_push]
  have keep' : ∀ b o, s.heap.get? b = some o → h'.get? b = some o := fun b o e => hsb.extBut b o (Nat.ne_of_lt (Heap.lt_size e)) (Heap.get?_push_of_some _ e)
  refine ⟨T.nolimit.keeps fun b o e => keep' b o (F.keep b o e), ?_⟩
  have hLC : L < s.heap.objs.size := F.ns.lt
  have keep2 : ∀ (o' : Obj) b o, s.heap.get? b = some o → (h'.push o').get? b = some o := fun o' b o e => Heap.get?_push_of_some _ (keep' b o e)
  obtain ⟨ol, hol, hol2⟩ := id hl
  have hlx : l < s.heap.objs.size := Heap.lt_size hol
  refine h s.heap.objs.size h'.objs.size (h'.push _) _ (by rw [hsz']; exact Nat.lt_succ_self _) (Nat.le_refl _) (by rw [Heap.size_push]; exact Nat.lt_succ_self _) (keep2 _) ⟨F.ns.keeps (keep2 _), fun b o e => keep2 _ b o (F.keep b o e), F.above⟩
    (fun q hq => ⟨keep2 _ _ _ (N q hq).1, (N q hq).2⟩) fun s' hs' hg' => ?_
  refine ⟨⟨_, _, _, by rw [hs']; exact Heap.get?_push_size _ rfl, rfl, rfl, rfl⟩, T.nolimit.keeps fun b o e => by rw [hs']; exact keep2 _ b o (F.keep b o e), _, by rw [hg']; exact Array.getElem?_push_size .., fun s'' hst => ?_⟩
  rw [Nat.sub_zero]
  have kF : ∀ b o, rFp h₀ s.heap.objs.size h'.objs.size l b o → (h'.push _).get? b = some o → s''.heap.get? b = some o := fun b o hb e => hst.heap b o hb (by rw [hs']; exact e)
  refine ⟨rfl, res_seg (m := fun y => (resBinds (.ref l) wv).reverse.lookup y) X T hh (by rw [hsz']; exact Nat.lt_succ_self _) (Nat.ne_of_lt hlx) (by rw [hsz']; exact Nat.lt_succ_of_lt hlx) hvs hsz hw (kF h'.objs.size _ (.inr (.inl rfl)) (Heap.get?_push_size _ rfl)) ⟨?_, ?_, ?_⟩ rfl rfl ?_ .refl⟩
  · exact (hns.push _).at' fun o e => kF _ o (.inl rfl) e
  · exact fun b o e => kF b o (.inr (.inr (.inr (.inl ⟨o, e⟩)))) (keep2 _ b o (F.keep b o e))
  · exact Nat.le_of_lt (Nat.lt_of_le_of_lt F.above hLC)
  · exact (hl.at fun o e => kF l o (.inr (.inr (.inl rfl))) (keep2 _ l o e))

theorem asks_one (t : Tok) : Asks w (.int 1 t) (Str.ofString "- ") := ⟨1, .inl ⟨rfl, rfl⟩, fun A E s' Q' h => call_int_int (h t s'.toks (Nat.le_refl _))⟩
theorem asks_two (t : Tok) : Asks w (.int 2 t) (Str.ofString "+ ") := ⟨2, .inr ⟨rfl, rfl⟩, fun A E s' Q' h => call_int_int (h t s'.toks (Nat.le_refl _))⟩
theorem asks_s1 (t : Tok) : Asks w (.str (Str.ofString "1") t) (Str.ofString "- ") := ⟨1, .inl ⟨rfl, rfl⟩, fun A E s' Q' h => PySem.W.KIN.call_text (by decide +kernel) (by decide) (h _ _ (Nat.le_succ _))⟩
theorem asks_s2 (t : Tok) : Asks w (.str (Str.ofString "2") t) (Str.ofString "+ ") := ⟨2, .inr ⟨rfl, rfl⟩, fun A E s' Q' h => PySem.W.KIN.call_text (by decide +kernel) (by decide) (h _ _ (Nat.le_succ _))⟩
end
end Mine
end
section
open PySem PySem.W PyProof.Rows
set_option Elab.async false
set_option maxRecDepth 100000
set_option maxHeartbeats 1000000
namespace Mine
/-- what restore's generator leans on and what it turns, over any iterator -/
def gFp (h₀ : Heap) (C a : Addr) (FpI : Addr → Obj → Prop) : Addr → Obj → Prop := fun b o => b = C ∨ b = a ∨ FpI b o ∨ (∃ o', h₀.get? b = some o') ∨ (a < b ∧ ¬ dictD o ∧ o.cls = .type "tuple")
def gWr (C : Addr) (WrI : Addr → Obj → Prop) : Addr → Obj → Prop := fun b o => b = C ∨ WrI b o

theorem nsK {h h' : Heap} {a : Addr} {m : Str → Option Value} (hn : h.Ns a m) (k : ∀ o, dictD o → h.get? a = some o → h'.get? a = some o) : h'.Ns a m :=
  let ⟨o, es, ep, ho, hd, r⟩ := hn; ⟨o, es, ep, k o ⟨es, ep, hd⟩ ho, hd, r⟩
theorem nsD {h : Heap} {a : Addr} {m : Str → Option Value} {o : Obj} (hn : h.Ns a m) (e : h.get? a = some o) : dictD o := by
  obtain ⟨o', es, ep, ho, hd, _⟩ := hn
  rw [e] at ho; cases ho; exact ⟨es, ep, hd⟩
theorem res_loopW {w : World} {A : Around} {h₀ : Heap} {C tp I : Addr} {tag : Str} {u v : Tok} {xs : List Str} {c : Code} {p : Pos} {K : Flow → Sem Fin} {H : Value → Sem Fin} {Fp Wr FpI WrI : Addr → Obj → Prop} {Gi GpI : Nat → Prop} {StI : Nat → Shared → Prop}
    (W : WalksP Mine.prog w (A.over (resCode C I) [waitF (resEnv C) K H id id c p]) I FpI WrI GpI xs StI) (hF : ∀ b o, FpI b o → Fp b o) (hW : ∀ b o, WrI b o → Wr b o) (hG : ∀ k, GpI k → Gi k)
    (hFC : ∀ o, dictD o → ¬ FpI C o) (hWC : ∀ o, dictD o → ¬ WrI C o) (hC : ∀ o, Wr C o) (hCF : ∀ o, Fp C o) (hF0 : ∀ b o o', h₀.get? b = some o' → Fp b o) (hW0 : ∀ b o o', h₀.get? b = some o' → ¬ WrI b o)
    (htpC : tp ≠ C) (htpF : ∀ o : Obj, o.cls = .type "tuple" → ¬ dictD o → Fp tp o) (htpW : ∀ o : Obj, o.cls = .type "tuple" → ¬ WrI tp o) (hsz : ∀ x ∈ xs, x.length ≤ sizeLine)
    (hK : ∀ s₀ s, Kept Wr Gi s₀ s → Seg (model Mine.prog w) A (retF Wr Gi) (protoF Fp Wr Gi (resOut tag xs)) 0 s₀ c (K .next) [] s) :
    ∀ (k j : Nat) (s₀ s : Shared) (m : Str → Option Value), xs.length - j = k → j ≤ xs.length → StI j s → Fr h₀ C s.heap m → m (Str.ofString "prefixes") = some (.ref tp) →
      IsTup s.heap tp #[.str (Str.ofString "  ") u, .str tag v] → Kept Wr Gi s₀ s →
      Seg (model Mine.prog w) A (retF Wr Gi) (protoF Fp Wr Gi (resOut tag xs)) (resOut tag (xs.drop j)).length s₀ (resCode C I) ((model Mine.prog w).den (resCode C I)) [waitF (resEnv C) K H id id c p] s := by
  intro k
  induction k with
  | zero =>
    intro j s₀ s m hk hj hst F hp ht hkp
    have hjn : j = xs.length := by omega
    subst hjn
    rw [List.drop_length]
    refine seg_forLoop (W.done s _ _ hst fun s' hm => ?_)
    exact seg_block_nil (hK s₀ _ (hkp.trans (hm.mono hW hG)))
  | succ k ih =>
    intro j s₀ s m hk hj hst F hp ht hkp
    have hlt : j < xs.length := by omega
    have hxj : xs[j]? = some xs[j] := by simp
    have hdrop : xs.drop j = xs[j] :: xs.drop (j + 1) := List.drop_eq_getElem_cons hlt
    refine seg_forLoop (W.item j s xs[j] _ _ hxj hst fun t s' hst' hm => ?_)
    have F1 : Fr h₀ C s'.heap m := ⟨nsK F.ns fun o hd e => hm.heap C o (hWC o hd) e, fun b o e => hm.heap b o (hW0 b o o e) (F.keep b o e), F.above⟩
    refine wpAny_storeName_local (env := resEnv C) (by rfl) F1.ns (fun h'' hns'' hs'' => ?_) (by rfl)
    have F2 : Fr h₀ C h'' (fun y => if y = Str.ofString "line" then some (.str xs[j] t) else m y) := ⟨hns'', fun b o e => (hs''.2 b (fun q => ?_)).trans (F1.keep b o e), F.above⟩
    rotate_left
    · exact absurd (Nat.lt_of_lt_of_le (Heap.lt_size e) F.above) (q ▸ Nat.lt_irrefl _)
    have ht1 : IsTup s'.heap tp #[.str (Str.ofString "  ") u, .str tag v] := let ⟨o, ho, r⟩ := ht; ⟨o, hm.heap tp o (htpW o r.1) ho, r⟩
    have ht2 : IsTup h'' tp #[.str (Str.ofString "  ") u, .str tag v] := let ⟨o, ho, r⟩ := ht1; ⟨o, (hs''.2 tp htpC).trans ho, r⟩
    refine seg_execs_cons ?_
    show Seg _ _ _ _ _ _ _ ((exec (Stmt.If (ifTest resIf) (ifBody resIf) [] ⟨781, 8, 782, 26⟩) (resEnv C)).wrap _ _ _ _) _ _
    refine seg_If ?_
    refine wpAny_with_toks (n := s'.toks) (by exact Nat.le_succ _) ?_
    refine res_test (h₀ := h₀) (s := { s' with heap := h'', toks := s'.toks + 1 }) F2 (by rw [if_pos rfl]) (by rw [if_neg ne_pl]; exact hp) htpC ht2 (hsz _ (List.getElem_mem _)) fun tk h3 F3 keep3 htk => ?_
    have keepA : ∀ b o, b ≠ C → s'.heap.get? b = some o → h3.get? b = some o := fun b o hb e => keep3 b o hb ((hs''.2 b hb).trans e)
    have hst3 : StI (j + 1) { s' with heap := h3, toks := tk } := W.frame _ _ _ hst' ⟨fun b o hb e => keepA b o (fun q => hFC o (nsD F1.ns (q ▸ e)) (q ▸ hb)) e, fun _ _ _ => rfl, Nat.le_refl _⟩
    have hkp3 : Kept Wr Gi s₀ { s' with heap := h3, toks := tk } := (hkp.trans (hm.mono hW hG)).trans ⟨fun b o hb e => keepA b o (fun q => hb (q ▸ hC o)) e, Nat.le_refl _, fun _ _ _ => rfl, id, rfl, rfl, htk⟩
    have ht3 : IsTup h3 tp #[.str (Str.ofString "  ") u, .str tag v] := let ⟨o, ho, r⟩ := ht1; ⟨o, keepA tp o htpC ho, r⟩
    change match resKeep tag xs[j] with | true => _ | false => _
    cases hkeep : resKeep tag xs[j] with
    | false =>
      have e1 : resOut tag (xs.drop j) = resOut tag (xs.drop (j + 1)) := by rw [hdrop, resOut_cons, hkeep]; rfl
      rw [e1]
      show Seg _ _ _ _ _ _ _ (.pure (.again (resCode C I))) _ _
      exact seg_again rfl (ih (j + 1) s₀ _ _ (by omega) hlt hst3 F3 (by rw [if_neg ne_pl]; exact hp) ht3 hkp3)
    | true =>
      have e1 : resOut tag (xs.drop j) = Txt.slice xs[j] (some 2) none :: resOut tag (xs.drop (j + 1)) := by rw [hdrop, resOut_cons, hkeep]; rfl
      have e2 : resOut tag xs = resOut tag (xs.take j) ++ Txt.slice xs[j] (some 2) none :: resOut tag (xs.drop (j + 1)) := by rw [← e1, ← resOut_app, List.take_append_drop]
      rw [show (resOut tag (xs.drop j)).length = (resOut tag (xs.drop (j + 1))).length + 1 by rw [e1]; rfl]
      refine seg_execs_cons ?_
      refine seg_Expr_Yield rfl rfl rfl ?_
      refine wpAny_with_toks (n := tk) (Nat.le_refl _) ?_
      refine res_elt (h₀ := h₀) (s := { s' with heap := h3, toks := tk }) F3 (by rw [if_pos rfl]) (hsz _ (List.getElem_mem _)) fun t4 tk4 h4 F4 keep4 htk4 kap hkap => ?_
      refine ⟨⟨_, t4, ?_, rfl⟩, hkp3.trans ⟨fun b o hb e => keep4 b o (fun q => hb (q ▸ hC o)) e, Nat.le_refl _, fun _ _ _ => rfl, id, rfl, rfl, htk4⟩, fun s5 hs5 => hkap .none s5 ?_⟩
      · rw [e2]
        simp only [List.length_append, List.length_cons]
        rw [List.getElem?_append_right (by omega)]
        have : (resOut tag (xs.take j)).length + ((resOut tag (xs.drop (j + 1))).length + 1) - 1 - (resOut tag (xs.drop (j + 1))).length - (resOut tag (xs.take j)).length = 0 := by omega
        rw [this]; rfl
      · show Seg _ _ _ _ _ _ _ (.pure (.again (resCode C I))) _ _
        have ht4 : IsTup h4 tp #[.str (Str.ofString "  ") u, .str tag v] := let ⟨o, ho, r⟩ := ht3; ⟨o, keep4 tp o htpC ho, r⟩
        refine seg_again rfl (ih (j + 1) s5 s5 _ (by omega) hlt (W.frame _ _ _ hst3 ?_) ⟨F4.ns.at' fun o e => hs5.heap C o (hCF o) e, fun b o e => hs5.heap b o (hF0 b o o e) (F4.keep b o e), F.above⟩ (by rw [if_neg ne_pl]; exact hp) (let ⟨o, ho, r⟩ := ht4; ⟨o, hs5.heap tp o (htpF o r.1 (let ⟨_, hd⟩ := r.2; nd_seq hd)) ho, r⟩) .refl)
        exact ⟨fun b o hb e => hs5.heap b o (hF b o hb) (keep4 b o (fun q => hFC o (nsD F3.ns (q ▸ e)) (q ▸ hb)) e), fun k hk hl => hs5.gens k (hG k hk) hl, hs5.gsize⟩
end Mine
end
section
open PySem PySem.W PyProof.Rows
set_option Elab.async false
set_option maxRecDepth 100000
set_option maxHeartbeats 1000000
namespace Mine
section
variable {w : World} {A : Around} {h₀ : Heap} {p : Program} {ls : List Str} {mg mb : Str → Option Value} {E : Value → Shared → Prop} {s : Shared}
theorem over_depth {C I : Addr} {K : Flow → Sem Fin} {H : Value → Sem Fin} {b : List Stmt} {e : Env} {pp : Pos} : (A.over (resCode C I) [waitF (resEnv C) K H id id (.func b e) pp]).depth ≤ A.depth + 5 := by
  show A.depth + frameCount [(Code.func b e, pp)] + (resCode C I).weight ≤ A.depth + 5
  show A.depth + ((Code.func b e).weight + 0) + (resCode C I).weight ≤ A.depth + 5
  have h1 : (Code.func b e).weight ≤ 1 := by first | exact Nat.le_refl _ | (simp [Code.weight])
  have h2 : (resCode C I).weight ≤ 1 := by first | exact Nat.le_refl _ | exact Nat.zero_le _ | (simp [Code.weight, Code.frames, Code.isCreation, Code.isGuard, Code.isCaller])
  omega
theorem res_segW {C a I : Addr} {tag : Str} {wv : Value} {xs : List Str} {FpI WrI : Addr → Obj → Prop} {GpI : Nat → Prop} {kk : Nat} {StI : Around → Nat → Shared → Prop} {s₀ s : Shared} {m : Str → Option Value}
    (X : (K w.params).In h₀) (T : TopRead p ls mg mb h₀) (hh : A.handled = none) (hCa : C < a) (hA : A.depth + 6 + kk < recursionLimit) (W : ∀ A' : Around, A'.handled = none → A'.depth + kk < recursionLimit → WalksP prog w A' I FpI WrI GpI xs (StI A'))
    (hgen : ∀ A' i s, StI A' i s → ∃ g, s.heap.IsGen I g) (hFC : ∀ o, dictD o → ¬ FpI C o) (hWC : ∀ o, dictD o → ¬ WrI C o) (hW0 : ∀ b o o', h₀.get? b = some o' → ¬ WrI b o) (hWt : ∀ b (o : Obj), a < b → o.cls = .type "tuple" → ¬ WrI b o) (hsz : ∀ x ∈ xs, x.length ≤ sizeLine) (hw : Asks w wv tag)
    {oa : Obj} (hoa : s.heap.get? a = some oa) (F : Fr h₀ C s.heap m) (hmd : m (Str.ofString "delta") = some (.ref I)) (hmw : m (Str.ofString "which") = some wv) (hst : ∀ A' : Around, A'.handled = none → A'.depth + kk < recursionLimit → StI A' 0 s) (hkp : Kept (gWr C WrI) GpI s₀ s) :
    Seg (model prog w) A (retF (gWr C WrI) GpI) (protoF (gFp h₀ C a FpI) (gWr C WrI) GpI (resOut tag xs)) (resOut tag xs).length s₀ (.func (fBody (st 8)) (resEnv C)) ((model prog w).den (.func (fBody (st 8)) (resEnv C))) [] s := by
  obtain ⟨k, hk, hint⟩ := hw
  refine seg_func ?_
  refine seg_doc (by kernel_rfl) (by kernel_rfl) ?_
  have htk : s.toks ≤ s.toks + 1 := Nat.le_succ _
  generalize s.toks + 1 = tk at htk
  show Seg _ _ _ _ _ _ _ ((execs (resTry :: nth (fBody (st 8)) 2 :: resFor :: []) (resEnv C)).wrap fnK (fnH (resEnv C)) id id) [] _
  refine seg_execs_cons (seg_wrap ?_)
  have hint' : ∀ (A : Around) (E : Value → Shared → Prop) (s' : Shared) (Q' : Value → Shared → Prop), (∀ t' tk, Q' (.int k t') { s' with toks := tk }) → wpAny (model prog w) A (call (.type "int") [wv]) Q' E s' := fun A E s' Q' h => hint A E s' Q' fun t tk _ => h t tk
  refine @res_try_t w _ h₀ p ls mg mb _ _ C m k tag wv _ X T F hmw (hint' _) hk ?_
  intro t1 h1 tk1 htk1 F1 keep1
  refine seg_execs_cons (seg_wrap ?_)
  refine @res_prefixes_t w _ h₀ _ { s with heap := h1, toks := tk1 } C _ tag t1 _ F1 (by rw [if_pos rfl]) ?_
  intro tp u h2 tk2 htp htk2 ht2 F2 keep2
  refine seg_execs_cons ?_
  have keepA : ∀ b o, b ≠ C → s.heap.get? b = some o → h2.get? b = some o := fun b o hb e => keep2 b o hb (keep1 b o hb e)
  have hmd2 : (fun y => if y = Str.ofString "prefixes" then some (Value.ref tp) else if y = Str.ofString "tag" then some (Value.str tag t1) else m y) (Str.ofString "delta") = some (Value.ref I) := by
    show (if _ then _ else _) = _
    rw [if_neg ne_dp, if_neg ne_dt]; exact hmd
  show Seg _ _ _ _ _ _ _ ((exec (Stmt.For (.Name (Str.ofString "line") ⟨780, 8, 780, 12⟩) (.Name (Str.ofString "delta") ⟨780, 16, 780, 21⟩) (forBody resFor) [] ⟨780, 4, 782, 26⟩) (resEnv C)).wrap _ _ _ _) [] _
  refine seg_For ?_ (by intro _; rfl)
  refine ld F2 hmd2 ?_
  have hst2 : ∀ (A' : Around) (tk' : Nat), A'.handled = none → A'.depth + kk < recursionLimit → StI A' 0 { s with heap := h2, toks := tk' } := fun A' tk' h1 h2' => (W A' h1 h2').frame _ _ _ (hst A' h1 h2') ⟨fun b o hb e => keepA b o (fun q => hFC o (nsD F.ns (q ▸ e)) (q ▸ hb)) e, fun _ _ _ => rfl, Nat.le_refl _⟩
  obtain ⟨g, hg⟩ := hgen A 0 _ (hst2 A tk2 hh (by omega))
  refine wpAny_pyIter_gen hg ?_
  intro pp
  obtain ⟨ot, hot, hotc, _⟩ := id ht2
  have hCI : C < h2.objs.size := F2.ns.lt
  have haC : a ≠ C := Nat.ne_of_gt hCa
  have hsz1 : a < h1.objs.size := Heap.lt_size (keep1 a oa haC hoa)
  have hatp : a < tp := by rw [← htp]; exact hsz1
  rw [show (resOut tag xs).length = (resOut tag (xs.drop 0)).length by rw [List.drop_zero]]
  have hAo : ∀ {K : Flow → Sem Fin} {H : Value → Sem Fin}, (A.over (resCode C I) [waitF (resEnv C) K H id id (.func (fBody (st 8)) (resEnv C)) pp]).depth + kk < recursionLimit := fun {K H} => Nat.lt_of_le_of_lt (Nat.add_le_add_right over_depth kk) (by omega)
  refine res_loopW (h₀ := h₀) (C := C) (tp := tp) (u := u) (v := t1) (W _ (by exact hh) hAo) ?_ ?_ ?_ hFC hWC ?_ ?_ ?_ hW0 ?_ ?_ (fun o hc => hWt tp o hatp hc) hsz ?_ xs.length 0 s₀ _ _ rfl (Nat.zero_le _) (hst2 _ _ (by exact hh) hAo) F2 ?_ ht2 ?_
  · exact fun b o hb => .inr (.inr (.inl hb))
  · exact fun b o hb => .inr hb
  · exact fun k hk => hk
  · intro o; exact .inl rfl
  · intro o; exact .inl rfl
  · intro b o o' e; exact .inr (.inr (.inr (.inl ⟨o', e⟩)))
  · exact Nat.ne_of_gt (Nat.lt_trans hCa hatp)
  · intro o hc hd; exact .inr (.inr (.inr (.inr ⟨hatp, hd, hc⟩)))
  · intro s2 s3 hk
    exact seg_end (.ok (.ret .none)) ⟨rfl, rfl, hk⟩
  · exact if_pos rfl
  · exact hkp.trans ⟨fun b o hb e => keepA b o (fun q => hb (.inl q)) e, Nat.le_refl _, fun _ _ _ => rfl, id, rfl, rfl, Nat.le_trans htk (Nat.le_trans htk1 htk2)⟩
end
end Mine
end
section
open PySem PySem.W PyProof.Rows
set_option Elab.async false
set_option maxRecDepth 100000
set_option maxHeartbeats 1000000
namespace Mine
section
variable {w : World} {A : Around} {h₀ : Heap} {p : Program} {ls : List Str} {mg mb : Str → Option Value} {E : Value → Shared → Prop} {s : Shared}
/-- restore(list, which): the generator, wherever it will be asked -/
theorem mk_restoreL {L l : Addr} {m : Str → Option Value} {news : List (Addr × Obj)} {tag : Str} {wv : Value} {xs : List Str} {vs : List Value} {R : Result → Shared → Prop}
    (X : (K w.params).In h₀) (T : TopRead p ls mg mb h₀) (hroom : A.depth < recursionLimit) (F : Fr h₀ L s.heap m) (N : News h₀ L s.heap news) (hl : s.heap.IsList l vs.toArray)
    (hvs : StrsAre vs xs) (hsz : ∀ x ∈ xs, x.length ≤ sizeLine) (hw : Asks w wv tag)
    (h : ∀ C a h' tk, C < a → s.heap.objs.size ≤ C → a < h'.objs.size → (∀ b o, s.heap.get? b = some o → h'.get? b = some o) → Fr h₀ L h' m → News h₀ L h' news →
      (∀ (A' : Around) (s' : Shared), A'.handled = none → s'.heap = h' → s'.gens = s.gens.push (.fresh (.func (fBody (st 8)) (resEnv C))) → GenAtF prog w A' a s.gens.size (rFp h₀ C a l) (rWr C a) noG (resOut tag xs) 0 s') →
      R (.ok (.ret (.ref a))) { s with heap := h', gens := s.gens.push (.fresh (.func (fBody (st 8)) (resEnv C))), toks := tk }) :
    codeAny (model prog w) A (.call (.ref 324) ⟨[.ref l, wv], []⟩) R s := by
  have Xs := X.keeps F.keep
  refine codeAny_call_generator (fd := resFd) (body := fBody (st 8)) hroom (Xs _ _ (k_restore _)) rfl rfl rfl rfl (codeRec_of Xs (c_restore _)) ?_
  refine BindsTo.of_eq (res_binds _ _) _ _ _ _ ?_
  refine wpAny_newFunctionEnv res_cells (res_locs _ _) (fun h' hns hsb => ?_)
  have hsz' : h'.objs.size = s.heap.objs.size + 1 := by rw [hsb.1, Heap.size_push]
  have keep' : ∀ b o, s.heap.get? b = some o → h'.get? b = some o := fun b o e => hsb.extBut b o (Nat.ne_of_lt (Heap.lt_size e)) (Heap.get?_push_of_some _ e)
  refine ⟨T.nolimit.keeps fun b o e => keep' b o (F.keep b o e), ?_⟩
  have hLC : L < s.heap.objs.size := F.ns.lt
  have keep2 : ∀ (o' : Obj) b o, s.heap.get? b = some o → (h'.push o').get? b = some o := fun o' b o e => Heap.get?_push_of_some _ (keep' b o e)
  obtain ⟨ol, hol, hol2⟩ := id hl
  have hlx : l < s.heap.objs.size := Heap.lt_size hol
  refine h s.heap.objs.size h'.objs.size (h'.push _) _ (by rw [hsz']; exact Nat.lt_succ_self _) (Nat.le_refl _) (by rw [Heap.size_push]; exact Nat.lt_succ_self _) (keep2 _) ⟨F.ns.keeps (keep2 _), fun b o e => keep2 _ b o (F.keep b o e), F.above⟩
    (fun q hq => ⟨keep2 _ _ _ (N q hq).1, (N q hq).2⟩) fun A' s' hh hs' hg' => ?_
  refine ⟨⟨_, _, _, by rw [hs']; exact Heap.get?_push_size _ rfl, rfl, rfl, rfl⟩, T.nolimit.keeps fun b o e => by rw [hs']; exact keep2 _ b o (F.keep b o e), _, by rw [hg']; exact Array.getElem?_push_size .., fun s'' hst => ?_⟩
  rw [Nat.sub_zero]
  have kF : ∀ b o, rFp h₀ s.heap.objs.size h'.objs.size l b o → (h'.push _).get? b = some o → s''.heap.get? b = some o := fun b o hb e => hst.heap b o hb (by rw [hs']; exact e)
  refine ⟨rfl, res_seg (m := fun y => (resBinds (.ref l) wv).reverse.lookup y) X T hh (by rw [hsz']; exact Nat.lt_succ_self _) (Nat.ne_of_lt hlx) (by rw [hsz']; exact Nat.lt_succ_of_lt hlx) hvs hsz hw (kF h'.objs.size _ (.inr (.inl rfl)) (Heap.get?_push_size _ rfl)) ⟨?_, ?_, ?_⟩ rfl rfl ?_ .refl⟩
  · exact (hns.push _).at' fun o e => kF _ o (.inl rfl) e
  · exact fun b o e => kF b o (.inr (.inr (.inr (.inl ⟨o, e⟩)))) (keep2 _ b o (F.keep b o e))
  · exact Nat.le_of_lt (Nat.lt_of_le_of_lt F.above hLC)
  · exact (hl.at fun o e => kF l o (.inr (.inr (.inl rfl))) (keep2 _ l o e))
/-- restore(generator, which) -/
theorem mk_restoreW {L I : Addr} {m : Str → Option Value} {news : List (Addr × Obj)} {tag : Str} {wv : Value} {xs : List Str} {FpI WrI : Addr → Obj → Prop} {GpI : Nat → Prop} {kk : Nat} {StI : Around → Nat → Shared → Prop} {R : Result → Shared → Prop}
    (X : (K w.params).In h₀) (T : TopRead p ls mg mb h₀) (hroom : A.depth < recursionLimit) (F : Fr h₀ L s.heap m) (N : News h₀ L s.heap news)
    (W : ∀ A' : Around, A'.handled = none → A'.depth + kk < recursionLimit → WalksP prog w A' I FpI WrI GpI xs (StI A'))
    (hgen : ∀ A' i s, StI A' i s → ∃ g, s.heap.IsGen I g) (hFC : ∀ b o, s.heap.objs.size ≤ b → dictD o → ¬ FpI b o) (hWC : ∀ b o, s.heap.objs.size ≤ b → dictD o → ¬ WrI b o) (hW0 : ∀ b o o', h₀.get? b = some o' → ¬ WrI b o) (hWt : ∀ b (o : Obj), s.heap.objs.size ≤ b → o.cls = .type "tuple" → ¬ WrI b o)
    (hst : ∀ A' : Around, A'.handled = none → A'.depth + kk < recursionLimit → StI A' 0 s) (hsz : ∀ x ∈ xs, x.length ≤ sizeLine) (hw : Asks w wv tag)
    (h : ∀ C a h' tk, C < a → s.heap.objs.size ≤ C → a < h'.objs.size → (∀ b o, s.heap.get? b = some o → h'.get? b = some o) → Fr h₀ L h' m → News h₀ L h' news →
      (∀ (A' : Around) (s' : Shared), A'.handled = none → A'.depth + (10 + kk) < recursionLimit → s'.heap = h' → s'.gens = s.gens.push (.fresh (.func (fBody (st 8)) (resEnv C))) → GenAtF prog w A' a s.gens.size (gFp h₀ C a FpI) (gWr C WrI) GpI (resOut tag xs) 0 s') →
      R (.ok (.ret (.ref a))) { s with heap := h', gens := s.gens.push (.fresh (.func (fBody (st 8)) (resEnv C))), toks := tk }) :
    codeAny (model prog w) A (.call (.ref 324) ⟨[.ref I, wv], []⟩) R s := by
  have Xs := X.keeps F.keep
  refine codeAny_call_generator (fd := resFd) (body := fBody (st 8)) hroom (Xs _ _ (k_restore _)) rfl rfl rfl rfl (codeRec_of Xs (c_restore _)) ?_
  refine BindsTo.of_eq (res_binds _ _) _ _ _ _ ?_
  refine wpAny_newFunctionEnv res_cells (res_locs _ _) (fun h' hns hsb => ?_)
  have hsz' : h'.objs.size = s.heap.objs.size + 1 := by rw [hsb.1, Heap.size_push]
  have keep' : ∀ b o, s.heap.get? b = some o → h'.get? b = some o := fun b o e => hsb.extBut b o (Nat.ne_of_lt (Heap.lt_size e)) (Heap.get?_push_of_some _ e)
  refine ⟨T.nolimit.keeps fun b o e => keep' b o (F.keep b o e), ?_⟩
  have hLC : L < s.heap.objs.size := F.ns.lt
  have keep2 : ∀ (o' : Obj) b o, s.heap.get? b = some o → (h'.push o').get? b = some o := fun o' b o e => Heap.get?_push_of_some _ (keep' b o e)
  refine h s.heap.objs.size h'.objs.size (h'.push _) _ (by rw [hsz']; exact Nat.lt_succ_self _) (Nat.le_refl _) (by rw [Heap.size_push]; exact Nat.lt_succ_self _) (keep2 _) ⟨F.ns.keeps (keep2 _), fun b o e => keep2 _ b o (F.keep b o e), F.above⟩
    (fun q hq => ⟨keep2 _ _ _ (N q hq).1, (N q hq).2⟩) fun A' s' hh hA' hs' hg' => ?_
  refine ⟨⟨_, _, _, by rw [hs']; exact Heap.get?_push_size _ rfl, rfl, rfl, rfl⟩, T.nolimit.keeps fun b o e => by rw [hs']; exact keep2 _ b o (F.keep b o e), _, by rw [hg']; exact Array.getElem?_push_size .., fun s'' hst'' => ?_⟩
  rw [Nat.sub_zero]
  have kF : ∀ b o, gFp h₀ s.heap.objs.size h'.objs.size FpI b o → (h'.push _).get? b = some o → s''.heap.get? b = some o := fun b o hb e => hst''.heap b o hb (by rw [hs']; exact e)
  refine ⟨rfl, res_segW (m := fun y => (resBinds (.ref I) wv).reverse.lookup y) X T hh (by rw [hsz']; exact Nat.lt_succ_self _) ?_ W hgen (fun o ho => hFC _ o (Nat.le_refl _) ho) (fun o ho => hWC _ o (Nat.le_refl _) ho) hW0 (fun b o hb hc => hWt b o (Nat.le_of_lt (Nat.lt_trans (by rw [hsz']; exact Nat.lt_succ_self _) hb)) hc) hsz hw (kF h'.objs.size _ (.inr (.inl rfl)) (Heap.get?_push_size _ rfl)) ⟨?_, ?_, ?_⟩ rfl rfl ?_ .refl⟩
  · show A'.depth + 0 + 6 + kk < recursionLimit
    omega
  · exact (hns.push _).at' fun o e => kF _ o (.inl rfl) e
  · exact fun b o e => kF b o (.inr (.inr (.inr (.inl ⟨o, e⟩)))) (keep2 _ b o (F.keep b o e))
  · exact Nat.le_of_lt (Nat.lt_of_le_of_lt F.above hLC)
  · intro A2 h1 h2
    refine (W A2 h1 h2).frame _ _ _ (hst A2 h1 h2) ⟨fun b o hb e => kF b o (.inr (.inr (.inl hb))) (keep2 _ b o e), fun k hk hl => ?_, ?_⟩
    · have hlt : k < (s.gens.push (GenState.fresh (.func (fBody (st 8)) (resEnv s.heap.objs.size)))).size := by rw [Array.size_push]; omega
      rw [hst''.gens k hk (by rw [hg']; exact hlt), hg', Array.getElem?_push_lt hl]
      simp [hl]
    · have := hst''.gsize
      rw [hg', Array.size_push] at this
      omega
end
end Mine
end
section
open PySem PySem.W PyProof.Rows
set_option Elab.async false
set_option maxRecDepth 100000
set_option maxHeartbeats 1000000
namespace Mine
/-- all but the frame's own object is kept -/
def Kp (L : Addr) (h h' : Heap) : Prop := ∀ b o, b ≠ L → h.get? b = some o → h'.get? b = some o
theorem Kp.refl {L : Addr} {h : Heap} : Kp L h h := fun _ _ _ e => e
theorem Kp.trans {L : Addr} {h h' h'' : Heap} (x : Kp L h h') (y : Kp L h' h'') : Kp L h h'' := fun b o hb e => y b o hb (x b o hb e)
/-- all but the frame's own object and one more is kept -/
def KpB (L S : Addr) (h h' : Heap) : Prop := ∀ b o, b ≠ L → b ≠ S → h.get? b = some o → h'.get? b = some o
abbrev set1 (m : Str → Option Value) (x : Str) (v : Value) : Str → Option Value := fun y => if y = x then some v else m y
section
variable {prog : Program} {w : World} {A : Around} {s : Shared} {h₀ : Heap} {env : Env} {R : Result → Shared → Prop} {I l : Addr} {items : Array Value}
theorem fr_but {h h' : Heap} {L : Addr} {m : Str → Option Value} (F : Fr h₀ L h m) (hI : I ≠ L) (hI0 : h₀.get? I = none) (k : ∀ b o, b ≠ I → h.get? b = some o → h'.get? b = some o) : Fr h₀ L h' m :=
  ⟨F.ns.at' fun o e => k L o (Ne.symm hI) e, fun b o e => k b o (fun q => by rw [q, hI0] at e; cases e) (F.keep b o e), F.above⟩
theorem loop_name {x : Str} {px : Pos} {body : List Stmt} {m : Str → Option Value} (hh : A.handled = none) (hx : env.kindOf x = some .local)
    (hp : (env.scope.kind == .class || (env.scope.kind == .module && env.locals != env.globals)) = false) (P : Nat → Shared → (Str → Option Value) → Prop)
    (hP : ∀ i s m, P i s m → Fr h₀ env.locals s.heap m ∧ s.heap.IsListIter I l i ∧ s.heap.IsList l items ∧ I ≠ env.locals ∧ h₀.get? I = none)
    (turn : ∀ i s m v h' tk, P i s m → items[i]? = some v → Fr h₀ env.locals h' (set1 m x v) → h'.IsListIter I l (i + 1) → KpB env.locals I s.heap h' →
      wpAny (model prog w) A (execs body env) (fun f s₃ => (f = .next ∨ f = .cont) ∧ ∃ m', P (i + 1) s₃ m') (fun _ _ => False) { s with heap := h', toks := tk })
    (fin : ∀ s m h', P items.size s m → Fr h₀ env.locals h' m → KpB env.locals I s.heap h' → R (.ok .next) { s with heap := h' })
    (h0 : P 0 s m) : codeAny (model prog w) A (.forLoop (.Name x px) (.ref I) body [] env) R s := by
  refine codeAny_forLoop (fun n s => ∃ i m, n = items.size - i ∧ i ≤ items.size ∧ P i s m) ?_ (items.size - 0) ⟨0, m, rfl, Nat.zero_le _, h0⟩
  rintro n s ⟨i, m, rfl, hi, hPi⟩
  obtain ⟨F, hit, hl, hIL, hI0⟩ := hP i s m hPi
  by_cases hlt : i < items.size
  · refine wpAny_pyNext_list_item hit hl (x := items[i]) (by simp [hlt]) fun h' hit' hs' => ?_
    have F1 := fr_but F hIL hI0 (h' := h') fun b o hb e => (hs'.2 b hb).trans e
    refine wpAny_assign_Name (wpAny_storeName_local hx F1.ns (fun h2 hns2 hs2 => ?_) hp)
    have it2 : h2.IsListIter I l (i + 1) := hit'.at fun o e => (hs2.2 I hIL).trans e
    refine wpAny_mono (turn i s m items[i] h2 _ hPi (by simp [hlt]) (F1.set hns2 hs2) it2 fun b o hb1 hb2 e => (hs2.2 b hb1).trans ((hs'.2 b hb2).trans e)) (fun f s3 h3 => ?_) fun _ _ q => q.elim
    obtain ⟨hf, m', hP'⟩ := h3
    have : ∃ n, n < items.size - i ∧ ∃ j m, n = items.size - j ∧ j ≤ items.size ∧ P j s3 m := ⟨items.size - (i + 1), by omega, i + 1, m', rfl, hlt, hP'⟩
    rcases hf with rfl | rfl <;> exact this
  · have hin : i = items.size := by omega
    subst hin
    refine wpAny_pyNext_list_end hh hit hl (by simp) fun h' he => ?_
    refine wpAny_execs_nil (fin s m h' hPi (fr_but F hIL hI0 fun b o hb e => he b o hb e) fun b o _ hb e => he b o hb e)
theorem loop_pair {x0 x1 : Str} {p0 p1 pt : Pos} {k1 : Nat} {body : List Stmt} {m : Str → Option Value} (hh : A.handled = none) (hx0 : env.kindOf x0 = some .local) (hx1 : env.kindOf x1 = some .local)
    (hp : (env.scope.kind == .class || (env.scope.kind == .module && env.locals != env.globals)) = false) (P : Nat → Shared → (Str → Option Value) → Prop)
    (hP : ∀ i s m, P i s m → Fr h₀ env.locals s.heap m ∧ s.heap.IsListIter I l i ∧ s.heap.IsList l items ∧ I ≠ env.locals ∧ h₀.get? I = none)
    (hT : ∀ i s m v, P i s m → items[i]? = some v → ∃ T v0 v1, v = .ref T ∧ T ≠ I ∧ s.heap.IsTuple T #[v0, v1])
    (turn : ∀ i s m T v0 v1 h' tk, P i s m → items[i]? = some (.ref T) → s.heap.IsTuple T #[v0, v1] → Fr h₀ env.locals h' (set1 (set1 m x0 v0) x1 v1) → h'.IsListIter I l (i + 1) → KpB env.locals I s.heap h' →
      wpAny (model prog w) A (execs body env) (fun f s₃ => (f = .next ∨ f = .cont) ∧ ∃ m', P (i + 1) s₃ m') (fun _ _ => False) { s with heap := h', toks := tk })
    (fin : ∀ s m h', P items.size s m → Fr h₀ env.locals h' m → KpB env.locals I s.heap h' → R (.ok .next) { s with heap := h' })
    (h0 : P 0 s m) : codeAny (model prog w) A (.forLoop (.Tuple [.Name x0 p0, .Name x1 p1] k1 pt) (.ref I) body [] env) R s := by
  refine codeAny_forLoop_any (fun n s => ∃ i m, n = items.size - i ∧ i ≤ items.size ∧ P i s m) ?_ (items.size - 0) ⟨0, m, rfl, Nat.zero_le _, h0⟩
  rintro n s ⟨i, m, rfl, hi, hPi⟩
  obtain ⟨F, hit, hl, hIL, hI0⟩ := hP i s m hPi
  by_cases hlt : i < items.size
  · obtain ⟨T, v0, v1, hv, hTI, htu⟩ := hT i s m items[i] hPi (by simp [hlt])
    refine wpAny_pyNext_list_item hit hl (x := items[i]) (by simp [hlt]) fun h' hit' hs' => ?_
    rw [hv]
    have F1 := fr_but F hIL hI0 (h' := h') fun b o hb e => (hs'.2 b hb).trans e
    refine wpAny_letOwnedTupleGo_listiter hit' ?_
    have ht1 : h'.IsTuple T #[v0, v1] := htu.at fun o e => (hs'.2 T hTI).trans e
    refine wpAny_assign_Tuple hh ht1 rfl rfl fun h3 hx3 => ?_
    replace hx3 : Heap.ExtBut h'.objs.size h' h3 := hx3
    have up3 : ∀ b o, h'.get? b = some o → h3.get? b = some o := fun b o x => hx3 b o (Nat.ne_of_lt (Heap.lt_size x)) x
    have F3 : Fr h₀ env.locals h3 m := ⟨F1.ns.at' fun o e => up3 _ o e, fun b o e => up3 b o (F1.keep b o e), F1.above⟩
    show wpAny _ A (do holding [v1] (assign (.Name x0 p0) env v0); do holding [] (assign (.Name x1 p1) env v1); pure ()) _ _ _
    refine wpAny_bind (wpAny_holding (wpAny_assign_Name (wpAny_storeName_local hx0 F3.ns (fun h4 hn4 hs4 => ?_) hp)))
    replace hs4 : Heap.SameBut env.locals h3 h4 := hs4
    have F4 := F3.set hn4 hs4
    refine wpAny_bind (wpAny_holding (wpAny_assign_Name (wpAny_storeName_local hx1 F4.ns (fun h5 hn5 hs5 => wpAny_pure ?_) hp)))
    replace hs5 : Heap.SameBut env.locals h4 h5 := hs5
    have F5 := F4.set hn5 hs5
    have up5 : ∀ b o, b ≠ env.locals → h'.get? b = some o → h5.get? b = some o := fun b o hb e => (hs5.2 b hb).trans ((hs4.2 b hb).trans (up3 b o e))
    refine wpAny_mono (turn i s m T v0 v1 h5 _ hPi (by simp [hlt, hv]) htu F5 (hit'.at fun o e => up5 I o hIL e) fun b o hb1 hb2 e => up5 b o hb1 ((hs'.2 b hb2).trans e)) (fun f s3 h3 => ?_) fun _ _ q => q.elim
    obtain ⟨hf, m', hP'⟩ := h3
    have : ∃ n, n < items.size - i ∧ ∃ j m, n = items.size - j ∧ j ≤ items.size ∧ P j s3 m := ⟨items.size - (i + 1), by omega, i + 1, m', rfl, hlt, hP'⟩
    rcases hf with rfl | rfl <;> exact this
  · have hin : i = items.size := by omega
    subst hin
    refine wpAny_pyNext_list_end hh hit hl (by simp) fun h' he => ?_
    refine wpAny_execs_nil (fin s m h' hPi (fr_but F hIL hI0 fun b o hb e => he b o hb e) fun b o _ hb e => he b o hb e)
end
end Mine
end
section
open PySem PySem.W PyProof.Rows
set_option Elab.async false
set_option maxRecDepth 100000
namespace Mine
open Sem (wp)
theorem WalksP.genfnD {prog : Program} {w : World} {A : Around} (hh : A.handled = none) (hroom : A.depth < recursionLimit) (a : Addr) (g : Nat) (Fp Wr : Addr → Obj → Prop) (Gi : Nat → Prop) (outs : List Str)
    (hFa : ∀ o, Fp a o) (hFs : ∀ o, Fp cStatics o) (hWa : ∀ o : Obj, o.cls = .type "generator" → ¬ Wr a o) (hWs : ∀ o, ¬ Wr cStatics o) (hGi : ¬ Gi g) (hsub : ∀ b o, Fp b o → Wr b o → True) :
    WalksP prog w A a Fp Wr (fun k => k = g ∨ Gi k) outs (GenAtF prog w A a g Fp Wr Gi outs) where
  frame := fun i s s' st hs => by
    obtain ⟨⟨o, nm, qn, ho, r⟩, ⟨mc, hns, hnn⟩, gs, hgs, hgo⟩ := st
    have hlt : g < s.gens.size := by
      rcases Nat.lt_or_ge g s.gens.size with h' | h'
      · exact h'
      · rw [Array.getElem?_eq_none h'] at hgs; cases hgs
    exact ⟨⟨o, nm, qn, hs.heap a o (hFa o) ho, r⟩, ⟨mc, hns.at' fun o e => hs.heap cStatics o (hFs o) e, hnn⟩, gs, (hs.gens g (.inl rfl) hlt).trans hgs,
      fun s'' h'' => hgo s'' (Still.trans ⟨hs.heap, fun k hk hl => hs.gens k (.inr hk) hl, hs.gsize⟩ h'')⟩
  item := fun i s x Q E hx st hQ => by
    obtain ⟨hg, hl, gs, hgs, hgo⟩ := st
    have hi : i < outs.length := by
      rcases Nat.lt_or_ge i outs.length with h' | h'
      · exact h'
      · rw [List.getElem?_eq_none h'] at hx; cases hx
    obtain ⟨m, hm⟩ : ∃ m, outs.length - i = m + 1 := ⟨outs.length - i - 1, by omega⟩
    rw [hm] at hgo
    refine next_gen (P := endF Wr Gi) hh hl hroom hg hgs (hgo _ (still_setGen hGi)) (fun v s₁ gs' hb hv => ?_) (fun s₁ hp h' hk => ?_)
    · obtain ⟨⟨y, t, hy, rfl⟩, hk, hkap⟩ := hv
      have hidx : outs.length - 1 - (m + 1 - 1) = i := by omega
      rw [hidx, hx] at hy
      cases hy
      have K := kept_setGen (y := gs') hk rfl hb
      have hlt : g < s₁.gens.size := by
        have h1 : g < s.gens.size := by
          rcases Nat.lt_or_ge g s.gens.size with h' | h'
          · exact h'
          · rw [Array.getElem?_eq_none h'] at hgs; cases hgs
        have h2 := hk.gsize
        simp [Shared.setGen] at h2
        omega
      refine hQ t _ ⟨let ⟨o, nm, qn, ho, r⟩ := hg; ⟨o, nm, qn, hk.heap a o (hWa o r.1) ho, r⟩, (let ⟨mc, hns, hnn⟩ := hl; ⟨mc, hns.at' fun o e => hk.heap cStatics o (hWs o) e, hnn⟩), gs', by simp [Shared.setGen, hlt], fun s'' hal => ?_⟩ K
      have e : outs.length - (i + 1) = m := by omega
      rw [e]
      exact hkap s'' (Still.trans (still_setGen hGi) hal)
    · exact absurd hp.1 (Nat.succ_ne_zero m)
  done := fun s Q E st hQ => by
    obtain ⟨hg, hl, gs, hgs, hgo⟩ := st
    rw [Nat.sub_self] at hgo
    refine next_gen (P := endF Wr Gi) hh hl hroom hg hgs (hgo _ (still_setGen hGi)) (fun v s₁ gs' hb hv => ?_) (fun s₁ hp h' hk => ?_)
    · exact (hv.2.2 _ .refl).elim
    · have K := kept_setGen (y := .finished) hp.2 rfl rfl
      exact hQ _ ⟨fun b o hb e => hk b o (K.heap b o hb e), K.gsize, K.gens, K.bare, K.drawn, K.os, K.toks⟩
end Mine
end
section
open PySem PySem.W PyProof.Rows
set_option Elab.async false
set_option maxRecDepth 100000
set_option maxHeartbeats 1000000
namespace Mine
/-- a generator of texts that waits for its first asking; all that it leans on and turns lies at or above lo -/
structure GenOK (w : World) (h₀ : Heap) (lo a : Addr) (g k : Nat) (Fp Wr : Addr → Obj → Prop) (Gi : Nat → Prop) (xs : List Str) (s : Shared) : Prop where
  st : ∀ A' : Around, A'.handled = none → A'.depth + k < recursionLimit → GenAtF prog w A' a g Fp Wr Gi xs 0 s
  Fa : ∀ o, Fp a o
  F0 : ∀ b o o', h₀.get? b = some o' → Fp b o
  Fd : ∀ b o, s.heap.objs.size ≤ b → dictD o → ¬ Fp b o
  Fl : ∀ b its c, s.heap.objs.size ≤ b → ¬ Fp b (listOf its c)
  Wlo : ∀ b o, Wr b o → lo ≤ b ∧ (o.cls = .type "generator" → b ≠ a) ∧ (b < s.heap.objs.size ∨ (¬ dictD o ∧ (∀ its c, o ≠ listOf its c) ∧ o.cls ≠ .type "generator"))
  Wt : ∀ b (o : Obj), s.heap.objs.size ≤ b → o.cls = .type "tuple" → ¬ Wr b o
  Gg : ¬ Gi g
  ga : g < s.gens.size
  la : lo < a
section
variable {w : World} {A : Around} {h₀ : Heap} {p : Program} {ls : List Str} {mg mb : Str → Option Value} {E : Value → Shared → Prop} {s : Shared}
theorem list_genW {L lo a : Addr} {g k : Nat} {m : Str → Option Value} {news : List (Addr × Obj)} {Fp Wr : Addr → Obj → Prop} {Gi : Nat → Prop} {outs : List Str} {Q : Value → Shared → Prop}
    (T : TopRead p ls mg mb h₀) (hh : A.handled = none) (hroom : A.depth + k < recursionLimit) (F : Fr h₀ L s.heap m) (N : News h₀ L s.heap news) (hb : AllBare s.gens)
    (G : GenOK w h₀ lo a g k Fp Wr Gi outs s) (hLC : L < lo) (hnC : ∀ q ∈ news, q.1 < lo) (hn : outs.length ≤ sizeLine)
    (h : ∀ S vs c h' gs tk, s.heap.objs.size = S → Fr h₀ L h' m → News h₀ L h' ((S, listOf vs.toArray c) :: news) → StrsAre vs outs → AllBare gs → (∀ q ∈ news, q.1 < S) → Q (.ref S) { s with heap := h', gens := gs, toks := tk }) :
    wpAny (model prog w) A (call (.type "list") [.ref a]) Q E s := by
  have GA : GenAtF prog w A.in1.in1 a g Fp Wr Gi outs 0 s := G.st _ hh hroom
  obtain ⟨oa, _, _, hoa, _⟩ := id GA.1
  have haS : a < s.heap.objs.size := Heap.lt_size hoa
  obtain ⟨mc, ⟨os, _, _, hos, _⟩, _⟩ := id T.nolimit
  have hsL : cStatics < L := Nat.lt_of_lt_of_le (Heap.lt_size hos) F.above
  have hWlow : ∀ b o, b < lo → ¬ Wr b o := fun b o hb q => Nat.lt_irrefl _ (Nat.lt_of_lt_of_le hb (G.Wlo b o q).1)
  have W := WalksP.genfnD (prog := prog) (w := w) (A := A.in1.in1) hh (Nat.lt_of_le_of_lt (Nat.le_add_right _ _) hroom) a g Fp Wr Gi outs G.Fa (fun o => G.F0 cStatics o _ hos)
    (fun o hc q => (G.Wlo a o q).2.1 hc rfl) (fun o => hWlow _ _ (Nat.lt_trans hsL hLC)) G.Gg (fun _ _ _ _ => trivial)
  refine call_list_walk W (fun i s st => ⟨g, st.1⟩) GA (fun its c => G.Fl _ its c (Nat.le_refl _)) (fun its c q => ?_) (fun s' vs c' hk hS hvs => ?_) hn
  · rcases (G.Wlo _ _ q).2.2 with q | q
    · exact Nat.lt_irrefl _ q
    · exact q.2.1 its c rfl
  · have low : ∀ b o, b < lo → s.heap.get? b = some o → s'.heap.get? b = some o := fun b o hb e => hk.heap b o (fun q => by
      rcases q with q | q
      · exact absurd (Heap.lt_size e) (q ▸ Nat.lt_irrefl _)
      · exact hWlow b o hb q) e
    obtain ⟨h', gs, d, tk, os'⟩ := s'
    obtain rfl : d = s.drawn := hk.drawn
    obtain rfl : os' = s.os := hk.os
    have hCS : lo < s.heap.objs.size := Nat.lt_trans G.la haS
    refine h _ vs c' h' gs tk rfl ⟨F.ns.at' fun o e => low L o hLC e, fun b o e => low b o (Nat.lt_trans (Nat.lt_of_lt_of_le (Heap.lt_size e) F.above) hLC) (F.keep b o e), F.above⟩ (fun q hq => ?_) hvs (hk.bare hb) (fun q hq => Nat.lt_trans (hnC q hq) hCS)
    rcases List.mem_cons.mp hq with rfl | hq
    · refine ⟨hS, fun q => Nat.lt_irrefl L (Nat.lt_of_lt_of_eq (Nat.lt_trans hLC hCS) q), ?_⟩
      cases e : h₀.get? s.heap.objs.size with
      | none => rfl
      | some o => exact absurd (Heap.lt_size (F.keep _ _ e)) (Nat.lt_irrefl _)
    · exact ⟨low _ _ (hnC q hq) (N q hq).1, (N q hq).2⟩
theorem ltN {h₀ h : Heap} {L : Addr} {news : List (Addr × Obj)} (N : News h₀ L h news) : ∀ z ∈ news, z.1 < h.objs.size := fun z hz => Heap.lt_size (N z hz).1
theorem isLN {h₀ h : Heap} {L a : Addr} {its : Array Value} {c : Nat} {news : List (Addr × Obj)} (N : News h₀ L h news) (hm : (a, listOf its c) ∈ news) : h.IsList a its := ⟨_, N.get hm, rfl, _, rfl⟩
/-- it waits on while others work -/
theorem GenOK.keep {L lo a : Addr} {g k : Nat} {Fp Wr : Addr → Obj → Prop} {Gi : Nat → Prop} {xs : List Str} {s' : Shared} (G : GenOK w h₀ lo a g k Fp Wr Gi xs s) (hL : ∀ o, ¬ Fp L o) (k1 : Kp L s.heap s'.heap) (hsz : s.heap.objs.size ≤ s'.heap.objs.size)
    (hg : ∀ j, j < s.gens.size → s'.gens[j]? = s.gens[j]?) (hgs : s.gens.size ≤ s'.gens.size) (hF0 : h₀.objs.size ≤ L) (hcs : ∃ o, h₀.get? cStatics = some o) : GenOK w h₀ lo a g k Fp Wr Gi xs s' where
  st := fun A' h1 h2 => by
    have hs : Still Fp (fun j => j = g ∨ Gi j) s s' := ⟨fun b o hb e => k1 b o (fun q => hL o (q ▸ hb)) e, fun j _ hl => hg j hl, hgs⟩
    obtain ⟨⟨o, nm, qn, ho, r⟩, ⟨mc, hns, hnn⟩, gs, hgs', hgo⟩ := G.st A' h1 h2
    obtain ⟨oc, hoc⟩ := hcs
    exact ⟨⟨o, nm, qn, hs.heap a o (G.Fa o) ho, r⟩, ⟨mc, hns.at' fun o e => hs.heap cStatics o (G.F0 _ o _ hoc) e, hnn⟩, gs, (hs.gens g (.inl rfl) G.ga).trans hgs',
      fun s'' h'' => hgo s'' (Still.trans ⟨hs.heap, fun j hj hl => hs.gens j (.inr hj) hl, hs.gsize⟩ h'')⟩
  Fa := G.Fa
  F0 := G.F0
  Fd := fun b o hb hd => G.Fd b o (Nat.le_trans hsz hb) hd
  Fl := fun b its c hb => G.Fl b its c (Nat.le_trans hsz hb)
  Wlo := fun b o q => let ⟨q1, q2, q3⟩ := G.Wlo b o q; ⟨q1, q2, q3.imp (fun x => Nat.lt_of_lt_of_le x hsz) id⟩
  Wt := fun b o hb hc => G.Wt b o (Nat.le_trans hsz hb) hc
  Gg := G.Gg
  ga := Nat.lt_of_lt_of_le G.ga hgs
  la := G.la
/-- restore(list, which), as an expression's call -/
theorem resL_call {L l : Addr} {m : Str → Option Value} {news : List (Addr × Obj)} {wv : Value} {tag : Str} {xs : List Str} {vs : List Value} {c : Nat} {Q : Value → Shared → Prop}
    (X : (K w.params).In h₀) (T : TopRead p ls mg mb h₀) (hroom : A.depth < recursionLimit) (F : Fr h₀ L s.heap m) (N : News h₀ L s.heap news) (hl : (l, listOf vs.toArray c) ∈ news)
    (hvs : StrsAre vs xs) (hsz : ∀ x ∈ xs, x.length ≤ sizeLine) (hw : Asks w wv tag) (hb : AllBare s.gens)
    (h : ∀ lo a g h' gs tk Fp Wr, s.heap.objs.size ≤ lo → (∀ b o, s.heap.get? b = some o → h'.get? b = some o) → Fr h₀ L h' m → News h₀ L h' news → AllBare gs → (∀ o, ¬ Fp L o) →
      GenOK w h₀ lo a g 0 Fp Wr noG (resOut tag xs) { s with heap := h', gens := gs, toks := tk } → Q (.ref a) { s with heap := h', gens := gs, toks := tk }) :
    wpAny (model prog w) A (call (.ref 324) [.ref l, wv]) Q E s := by
  refine wpAny_call ?_
  have hlS : l < s.heap.objs.size := ltN N _ hl
  have hLS : L < s.heap.objs.size := F.ns.lt
  refine mk_restoreL X T hroom F N (isLN N hl) hvs hsz hw ?_
  intro C a h' tk h1 h2 h3 h4 F' N' G
  have hCh : C < h'.objs.size := Nat.lt_trans h1 h3
  have hbase : ∀ b o', h₀.get? b = some o' → b < s.heap.objs.size := fun b o' e => Heap.lt_size (F.keep _ _ e)
  refine h C a s.gens.size h' _ tk (rFp h₀ C a l) (rWr C a) h2 h4 F' N' ?_ ?_ ⟨fun A' e1 _ => G A' _ e1 rfl rfl, ?_, ?_, ?_, ?_, ?_, ?_, ?_, ?_, h1⟩
  · intro z hz
    rcases Array.mem_push.mp hz with hz | hz
    · exact hb z hz
    · subst hz; rfl
  · rintro o (q | q | q | ⟨o', q⟩ | ⟨q, _⟩)
    · exact Nat.ne_of_lt (Nat.lt_of_lt_of_le hLS h2) q
    · exact Nat.ne_of_lt (Nat.lt_trans (Nat.lt_of_lt_of_le hLS h2) h1) q
    · exact (N _ hl).2.1 q.symm
    · exact Nat.lt_irrefl _ (Nat.lt_of_lt_of_le (Heap.lt_size q) F.above)
    · exact Nat.lt_irrefl _ (Nat.lt_trans (Nat.lt_trans (Nat.lt_of_lt_of_le hLS h2) h1) q)
  · exact fun o => .inr (.inl rfl)
  · exact fun b o o' e => .inr (.inr (.inr (.inl ⟨o', e⟩)))
  · rintro b o hb hd (q | q | q | ⟨o', q⟩ | ⟨_, q, _⟩)
    · exact Nat.lt_irrefl _ (Nat.lt_of_lt_of_le hCh (q ▸ hb))
    · exact Nat.lt_irrefl _ (Nat.lt_of_lt_of_le h3 (q ▸ hb))
    · exact Nat.lt_irrefl _ (Nat.lt_of_lt_of_le (Nat.lt_trans (Nat.lt_of_lt_of_le hlS h2) hCh) (q ▸ hb))
    · exact Nat.lt_irrefl _ (Nat.lt_of_lt_of_le (Nat.lt_trans (Nat.lt_of_lt_of_le (hbase b o' q) h2) hCh) hb)
    · exact q hd
  · rintro b its c hb (q | q | q | ⟨o', q⟩ | ⟨_, _, q | q⟩)
    · exact Nat.lt_irrefl _ (Nat.lt_of_lt_of_le hCh (q ▸ hb))
    · exact Nat.lt_irrefl _ (Nat.lt_of_lt_of_le h3 (q ▸ hb))
    · exact Nat.lt_irrefl _ (Nat.lt_of_lt_of_le (Nat.lt_trans (Nat.lt_of_lt_of_le hlS h2) hCh) (q ▸ hb))
    · exact Nat.lt_irrefl _ (Nat.lt_of_lt_of_le (Nat.lt_trans (Nat.lt_of_lt_of_le (hbase b o' q) h2) hCh) hb)
    · exact absurd (show Value.type "list" = Value.type "list_iterator" from q) (by decide)
    · exact absurd (show Value.type "list" = Value.type "tuple" from q) (by decide)
  · rintro b o (q | ⟨q, hd, hc⟩)
    · subst q; exact ⟨Nat.le_refl _, fun _ => Nat.ne_of_lt h1, .inl hCh⟩
    · exact ⟨Nat.le_of_lt (Nat.lt_trans h1 q), fun _ => Nat.ne_of_gt q, .inr ⟨hd, fun its c e => by subst e; exact absurd (show Value.type "list" = Value.type "list_iterator" from hc) (by decide), by rw [hc]; decide⟩⟩
  · rintro b o hb hc (q | ⟨q, hd, hc'⟩)
    · exact Nat.lt_irrefl _ (Nat.lt_of_lt_of_le hCh (q ▸ hb))
    · rw [hc] at hc'; exact absurd hc' (by decide)
  · exact id
  · show s.gens.size < (s.gens.push _).size
    rw [Array.size_push]; exact Nat.lt_succ_self _
/-- restore(generator, which), as an expression's call -/
theorem resW_call {L lo a : Addr} {g k : Nat} {m : Str → Option Value} {news : List (Addr × Obj)} {wv : Value} {tag : Str} {xs : List Str} {Fp Wr : Addr → Obj → Prop} {Gi : Nat → Prop} {Q : Value → Shared → Prop}
    (X : (K w.params).In h₀) (T : TopRead p ls mg mb h₀) (hroom : A.depth < recursionLimit) (F : Fr h₀ L s.heap m) (N : News h₀ L s.heap news) (G : GenOK w h₀ lo a g k Fp Wr Gi xs s) (hL : ∀ o, ¬ Fp L o) (hLlo : L < lo)
    (hk : 0 + k < recursionLimit) (hGi : ∀ j, Gi j → j < s.gens.size) (hsz : ∀ x ∈ xs, x.length ≤ sizeLine) (hw : Asks w wv tag) (hb : AllBare s.gens)
    (h : ∀ a' g' h' gs tk Fp' Wr', (∀ b o, s.heap.get? b = some o → h'.get? b = some o) → Fr h₀ L h' m → News h₀ L h' news → AllBare gs → (∀ o, ¬ Fp' L o) → (∀ j, j = g ∨ Gi j → j < gs.size) →
      GenOK w h₀ lo a' g' (10 + k) Fp' Wr' (fun j => j = g ∨ Gi j) (resOut tag xs) { s with heap := h', gens := gs, toks := tk } → Q (.ref a') { s with heap := h', gens := gs, toks := tk }) :
    wpAny (model prog w) A (call (.ref 324) [.ref a, wv]) Q E s := by
  refine wpAny_call ?_
  obtain ⟨mc, ⟨os, _, _, hos, _⟩, _⟩ := id T.nolimit
  have hLS : L < s.heap.objs.size := F.ns.lt
  have hsL : cStatics < L := Nat.lt_of_lt_of_le (Heap.lt_size hos) F.above
  have hWlow : ∀ b o, b < lo → ¬ Wr b o := fun b o hb q => Nat.lt_irrefl _ (Nat.lt_of_lt_of_le hb (G.Wlo b o q).1)
  have hbase : ∀ b o', h₀.get? b = some o' → b < L := fun b o' e => Nat.lt_of_lt_of_le (Heap.lt_size e) F.above
  have hGA := G.st A
  refine mk_restoreW (kk := k) (FpI := Fp) (WrI := Wr) (GpI := fun j => j = g ∨ Gi j) (StI := fun A' => GenAtF prog w A' a g Fp Wr Gi xs) X T hroom F N
    (fun A' e1 e2 => WalksP.genfnD e1 (Nat.lt_of_le_of_lt (Nat.le_add_right _ _) e2) a g Fp Wr Gi xs G.Fa (fun o => G.F0 cStatics o _ hos) (fun o hc q => (G.Wlo a o q).2.1 hc rfl) (fun o => hWlow _ _ (Nat.lt_trans hsL hLlo)) G.Gg (fun _ _ _ _ => trivial))
    (fun A' i s st => ⟨g, st.1⟩) G.Fd (fun b o hb hd q => ?_) (fun b o o' e => hWlow b o (Nat.lt_trans (hbase b o' e) hLlo)) G.Wt G.st hsz hw ?_
  · rcases (G.Wlo _ _ q).2.2 with q | q
    · exact Nat.lt_irrefl _ (Nat.lt_of_lt_of_le q hb)
    · exact q.1 hd
  intro C a' h' tk h1 h2 h3 h4 F' N' G'
  have hCh : C < h'.objs.size := Nat.lt_trans h1 h3
  have hSh : s.heap.objs.size ≤ h'.objs.size := Nat.le_of_lt (Nat.lt_of_le_of_lt h2 hCh)
  have haS : lo ≤ s.heap.objs.size := by
    rcases Nat.lt_or_ge s.heap.objs.size lo with q | q
    · exact absurd (G.Wlo) (fun _ => by
        have : a < s.heap.objs.size := by
          obtain ⟨oa, _, _, hoa, _⟩ := (G.st { A with handled := none, depth := 0 } rfl (by
            show 0 + k < recursionLimit
            exact hk)).1
          exact Heap.lt_size hoa
        exact Nat.lt_irrefl _ (Nat.lt_trans (Nat.lt_trans G.la this) q))
    · exact q
  refine h a' s.gens.size h' _ tk (gFp h₀ C a' Fp) (gWr C Wr) h4 F' N' ?_ ?_ ?_ ⟨fun A' e1 e2 => G' A' _ e1 e2 rfl rfl, ?_, ?_, ?_, ?_, ?_, ?_, ?_, ?_, Nat.lt_of_le_of_lt (Nat.le_trans haS h2) h1⟩
  · intro z hz
    rcases Array.mem_push.mp hz with hz | hz
    · exact hb z hz
    · subst hz; rfl
  · rintro o (q | q | q | ⟨o', q⟩ | ⟨q, _⟩)
    · exact Nat.ne_of_lt (Nat.lt_of_lt_of_le hLS h2) q
    · exact Nat.ne_of_lt (Nat.lt_trans (Nat.lt_of_lt_of_le hLS h2) h1) q
    · exact hL o q
    · exact Nat.lt_irrefl _ (hbase _ _ q)
    · exact Nat.lt_irrefl _ (Nat.lt_trans (Nat.lt_trans (Nat.lt_of_lt_of_le hLS h2) h1) q)
  · rintro j (q | q)
    · subst q; rw [Array.size_push]; exact Nat.lt_succ_of_lt G.ga
    · rw [Array.size_push]; exact Nat.lt_succ_of_lt (hGi j q)
  · exact fun o => .inr (.inl rfl)
  · exact fun b o o' e => .inr (.inr (.inr (.inl ⟨o', e⟩)))
  · rintro b o hb hd (q | q | q | ⟨o', q⟩ | ⟨_, q, _⟩)
    · exact Nat.lt_irrefl _ (Nat.lt_of_lt_of_le hCh (q ▸ hb))
    · exact Nat.lt_irrefl _ (Nat.lt_of_lt_of_le h3 (q ▸ hb))
    · exact G.Fd b o (Nat.le_trans hSh hb) hd q
    · exact Nat.lt_irrefl _ (Nat.lt_of_lt_of_le (Nat.lt_trans (hbase b o' q) hLS) (Nat.le_trans hSh hb))
    · exact q hd
  · rintro b its c hb (q | q | q | ⟨o', q⟩ | ⟨_, _, q⟩)
    · exact Nat.lt_irrefl _ (Nat.lt_of_lt_of_le hCh (q ▸ hb))
    · exact Nat.lt_irrefl _ (Nat.lt_of_lt_of_le h3 (q ▸ hb))
    · exact G.Fl b its c (Nat.le_trans hSh hb) q
    · exact Nat.lt_irrefl _ (Nat.lt_of_lt_of_le (Nat.lt_trans (hbase b o' q) hLS) (Nat.le_trans hSh hb))
    · exact absurd (show Value.type "list" = Value.type "tuple" from q) (by decide)
  · rintro b o (q | q)
    · subst q; exact ⟨Nat.le_trans haS h2, fun _ => Nat.ne_of_lt h1, .inl hCh⟩
    · obtain ⟨q1, q2, q3⟩ := G.Wlo b o q
      refine ⟨q1, fun hc e => ?_, q3.imp (fun x => Nat.lt_of_lt_of_le x hSh) id⟩
      subst e
      rcases q3 with q3 | q3
      · exact Nat.lt_irrefl _ (Nat.lt_trans (Nat.lt_of_lt_of_le q3 h2) h1)
      · exact q3.2.2 hc
  · rintro b o hb hc (q | q)
    · exact Nat.lt_irrefl _ (Nat.lt_of_lt_of_le hCh (q ▸ hb))
    · exact G.Wt b o (Nat.le_trans hSh hb) hc q
  · rintro (q | q)
    · exact Nat.lt_irrefl _ (q ▸ G.ga)
    · exact Nat.lt_irrefl _ (hGi _ q)
  · show s.gens.size < (s.gens.push _).size
    rw [Array.size_push]; exact Nat.lt_succ_self _
end
end Mine
end
section
open PySem PySem.W PyProof.Rows PySem.Spec
set_option Elab.async false
set_option maxRecDepth 100000
set_option maxHeartbeats 1000000
namespace Mine
theorem ok_app (a b : Str) : PyData.strOk (a ++ b) = (PyData.strOk a && PyData.strOk b) := by
  show (a.cps ++ b.cps).all _ = _
  rw [Array.all_append]; rfl
theorem ok_ofString (s : String) : PyData.strOk (Str.ofString s) = true := by
  rw [Str.ofString_eq_toList]
  show Array.all (List.toArray _) _ = true
  rw [List.all_toArray, List.all_eq_true]
  intro n hn
  obtain ⟨c, _, rfl⟩ := List.mem_map.mp hn
  refine decide_eq_true ?_
  have := c.valid
  show c.val.toNat < 1114112
  rcases this with h | h
  · have : c.val.toNat < 55296 := h
    omega
  · exact h.2
theorem ok_mk {l : List Nat} (h : ∀ c ∈ l, c < 1114112) : PyData.strOk ⟨l.toArray⟩ = true := by
  show Array.all (List.toArray _) _ = true
  rw [List.all_toArray, List.all_eq_true]
  exact fun n hn => decide_eq_true (h n hn)
theorem ok_mem {x : Str} (h : PyData.strOk x = true) : ∀ c ∈ x.cps.toList, c < 1114112 := by
  unfold PyData.strOk at h
  rw [← Array.all_toList, List.all_eq_true] at h
  exact fun c hc => of_decide_eq_true (h c hc)
def oks (xs : List Str) : Prop := ∀ x ∈ xs, PyData.strOk x = true
theorem sameAll_strs : ∀ xs ys : List Str, sameAll (xs.map PyData.str) (ys.map PyData.str) = decide (xs = ys)
  | [], [] => by simp [PySem.Spec.sameAll]
  | [], _ :: _ => by simp [PySem.Spec.sameAll]
  | _ :: _, [] => by simp [PySem.Spec.sameAll]
  | a :: r, b :: t => by
    simp only [List.map_cons, PySem.Spec.sameAll, PySem.Spec.same, sameAll_strs r t]
    by_cases h : a = b <;> by_cases h' : r = t <;> simp [h, h']
theorem same_strs (xs ys : List Str) : PySem.Spec.same (.list (xs.map PyData.str)) (.list (ys.map PyData.str)) = decide (xs = ys) := by
  simp only [PySem.Spec.same]; exact sameAll_strs xs ys
theorem depth_strs : ∀ xs : List Str, PyData.depthAll (xs.map PyData.str) = 0
  | [] => rfl
  | _ :: r => by simp [PyData.depthAll, PyData.depth, depth_strs r]
theorem shaped_strs {xs : List Str} (h : oks xs) : SeqAt.shaped (.list (xs.map PyData.str)) = true := by
  have : xs.all PyData.strOk = true := List.all_eq_true.mpr h
  simp [SeqAt.shaped, PyData.canLay0, PyData.depth, canLayAll_strs', depth_strs]
  exact h
section
variable {prog : Program} {w : World} {A : Around} {E : Value → Shared → Prop} {s : Shared} {a b : Addr} {xs ys : List Value} {us vs : List Str} {Q : Value → Shared → Prop}
theorem eq_strs (ha : s.heap.IsList a xs.toArray) (hb : s.heap.IsList b ys.toArray) (hi : StrsAre xs us) (hj : StrsAre ys vs) (hu : oks us) (hv : oks vs) (hun : A.units + 64 < cLine) (h : Q (.bool (decide (us = vs))) s) :
    wpAny (model prog w) A (compareOp .Eq (.ref a) (.ref b)) Q E s :=
  eq_dataH_same (reads_newData ha hi.carried) (reads_newData hb hj.carried) (shaped_strs hu) (shaped_strs hv) hun (SeqAt.noMix_of_shape (.list .str) rfl _ _ (list_map_has fun _ => rfl) (list_map_has fun _ => rfl)) (by rw [same_strs]; exact h)
theorem ne_strs (ha : s.heap.IsList a xs.toArray) (hb : s.heap.IsList b ys.toArray) (hi : StrsAre xs us) (hj : StrsAre ys vs) (hu : oks us) (hv : oks vs) (hun : A.units + 64 < cLine) (h : Q (.bool (!decide (us = vs))) s) :
    wpAny (model prog w) A (compareOp .NotEq (.ref a) (.ref b)) Q E s :=
  ne_dataH_same (reads_newData ha hi.carried) (reads_newData hb hj.carried) (shaped_strs hu) (shaped_strs hv) hun (SeqAt.noMix_of_shape (.list .str) rfl _ _ (list_map_has fun _ => rfl) (list_map_has fun _ => rfl)) (by rw [same_strs]; exact h)
end
end Mine
end
section
open PySem PySem.W PyProof.Rows
set_option Elab.async false
set_option maxRecDepth 100000
set_option maxHeartbeats 4000000
namespace Mine
theorem allLt_mem {d : Nat} {l : List (Addr × Obj)} (h : AllLt d l) : ∀ z ∈ l, z.1 < d := by
  induction l with
  | nil => intro z hz; cases hz
  | cons a r ih =>
    intro z hz
    rcases List.mem_cons.mp hz with rfl | hz
    · exact h.1
    · exact ih h.2 z hz
theorem isL {h₀ h : Heap} {L a : Addr} {its : Array Value} {c : Nat} {news : List (Addr × Obj)} (N : News h₀ L h news) (hm : (a, listOf its c) ∈ news) : h.IsList a its := ⟨_, N.get hm, rfl, _, rfl⟩
theorem ltS {h₀ h : Heap} {L : Addr} {news : List (Addr × Obj)} (N : News h₀ L h news) : ∀ z ∈ news, z.1 < h.objs.size := fun z hz => Heap.lt_size (N z hz).1
theorem news_sub {h₀ h : Heap} {L : Addr} {news news' : List (Addr × Obj)} (N : News h₀ L h news) (hs : ∀ z ∈ news', z ∈ news) : News h₀ L h news' := fun z hz => N z (hs z hz)
/-- an object of the call's own -/
def Own (h₀ : Heap) (L : Addr) (h : Heap) (a : Addr) (o : Obj) : Prop := h.get? a = some o ∧ a ≠ L ∧ h₀.get? a = none
theorem Own.kp {h₀ h h' : Heap} {L a : Addr} {o : Obj} (x : Own h₀ L h a o) (k : Kp L h h') : Own h₀ L h' a o := ⟨k a o x.2.1 x.1, x.2⟩
theorem Own.of {h₀ h : Heap} {L a : Addr} {o : Obj} {news : List (Addr × Obj)} (N : News h₀ L h news) (hm : (a, o) ∈ news) : Own h₀ L h a o := N _ hm
theorem Own.isL {h₀ h : Heap} {L a : Addr} {its : Array Value} {c : Nat} (x : Own h₀ L h a (listOf its c)) : h.IsList a its := ⟨_, x.1, rfl, _, rfl⟩
theorem Own.news {h₀ h : Heap} {L a : Addr} {o : Obj} {news : List (Addr × Obj)} (x : Own h₀ L h a o) (N : News h₀ L h news) : News h₀ L h ((a, o) :: news) := fun q hq => by
  rcases List.mem_cons.mp hq with rfl | hq
  · exact x
  · exact N q hq
theorem Fr.congr {h₀ h : Heap} {L : Addr} {m m' : Str → Option Value} (F : Fr h₀ L h m) (e : ∀ y, m y = m' y) : Fr h₀ L h m' := (funext e : m = m') ▸ F
section
variable {h₀ h : Heap} {L : Addr} {m : Str → Option Value} {x1 x2 x3 x4 x5 : Str} {v1 v2 v3 v4 v5 : Value}
theorem kn1 (h1 : m x1 = some v1) (y : Str) : (if y = x1 then some v1 else m y) = m y := by
  split
  · rename_i e; subst e; exact h1.symm
  · rfl
theorem kn2 (h1 : m x1 = some v1) (h2 : m x2 = some v2) (y : Str) : (if y = x1 then some v1 else if y = x2 then some v2 else m y) = m y := by rw [kn1 h2 y]; exact kn1 h1 y
theorem kn3 (h1 : m x1 = some v1) (h2 : m x2 = some v2) (h3 : m x3 = some v3) (y : Str) : (if y = x1 then some v1 else if y = x2 then some v2 else if y = x3 then some v3 else m y) = m y := by rw [kn2 h2 h3 y]; exact kn1 h1 y
theorem kn4 (h1 : m x1 = some v1) (h2 : m x2 = some v2) (h3 : m x3 = some v3) (h4 : m x4 = some v4) (y : Str) : (if y = x1 then some v1 else if y = x2 then some v2 else if y = x3 then some v3 else if y = x4 then some v4 else m y) = m y := by rw [kn3 h2 h3 h4 y]; exact kn1 h1 y
theorem kn5 (h1 : m x1 = some v1) (h2 : m x2 = some v2) (h3 : m x3 = some v3) (h4 : m x4 = some v4) (h5 : m x5 = some v5) (y : Str) : (if y = x1 then some v1 else if y = x2 then some v2 else if y = x3 then some v3 else if y = x4 then some v4 else if y = x5 then some v5 else m y) = m y := by rw [kn4 h2 h3 h4 h5 y]; exact kn1 h1 y
theorem st1 {f : Str → Option Value} {a : Str} {va : Option Value} (e : ∀ y, f y = m y) (y : Str) : (if y = a then va else f y) = if y = a then va else m y := by rw [e]
theorem st2 {f : Str → Option Value} {a b : Str} {va vb : Option Value} (e : ∀ y, f y = m y) (y : Str) : (if y = a then va else if y = b then vb else f y) = if y = a then va else if y = b then vb else m y := by rw [e]
/-- an address that no object of this heap has, apart from the frame's -/
def Fresh (L : Addr) (h : Heap) (S : Addr) : Prop := ∀ b o, b ≠ L → h.get? b = some o → b ≠ S
theorem led4 (F : Fr h₀ L h m) : ∃ oth, News h₀ L h oth ∧ (∀ {h' : Heap} {m' : Str → Option Value} {news' : List (Addr × Obj)}, Fr h₀ L h' m' → News h₀ L h' news' → (∀ q ∈ oth, q ∈ news') → Kp L h h') ∧
    (∀ {S : Addr}, h₀.get? S = none → (∀ q ∈ oth, q.1 < S) → Fresh L h S) ∧ ∀ b o, b ≠ L → h₀.get? b = none → h.get? b = some o → (b, o) ∈ oth :=
  ⟨others h₀ L h, others_news, fun F' N' hs => others_keep F F' N' hs, fun {S} h0 hl b o hb e q => by
    cases e0 : h₀.get? b with
    | some o' => rw [q, h0] at e0; cases e0
    | none => exact Nat.lt_irrefl _ (q ▸ hl _ (mem_others.mpr ⟨hb, e0, e⟩)), fun b o hb h0 e => mem_others.mpr ⟨hb, h0, e⟩⟩
theorem led (F : Fr h₀ L h m) : ∃ oth, News h₀ L h oth ∧ ∀ {h' : Heap} {m' : Str → Option Value} {news' : List (Addr × Obj)}, Fr h₀ L h' m' → News h₀ L h' news' → (∀ q ∈ oth, q ∈ news') → Kp L h h' :=
  ⟨others h₀ L h, others_news, fun F' N' hs => others_keep F F' N' hs⟩
end
theorem m4 (x : Int) : x.fmod 4 = 0 ∨ x.fmod 4 = 1 ∨ x.fmod 4 = 2 ∨ x.fmod 4 = 3 := by
  have h0 := Int.fmod_nonneg_of_pos x (b := 4) (by decide)
  have h1 := Int.fmod_lt_of_pos x (b := 4) (by decide)
  omega
section
variable {w : World} {A : Around} {h₀ : Heap} {p : Program} {ls : List Str} {mg mb : Str → Option Value} {E : Value → Shared → Prop} {s : Shared}
theorem dump_call {L lx q : Addr} {m : Str → Option Value} {news : List (Addr × Obj)} {self : Value} {tag : Str} {t u v : Tok} {xs : List Str} {vs : List Value} {lo n : Nat} {hi lo' : Int} {c : Nat} {Q : Value → Shared → Prop}
    (X : (K w.params).In h₀) (T : TopRead p ls mg mb h₀) (hh : A.handled = none) (hroom : A.depth < recursionLimit) (F : Fr h₀ L s.heap m) (N : News h₀ L s.heap news) (hq : (q, methodObj (.ref 282) self) ∈ news) (hl : (lx, listOf vs.toArray c) ∈ news)
    (hvs : StrsAre vs xs) (hlo' : lo' = (lo : Int)) (hhi : hi = ((lo + n : Nat) : Int)) (hlo : lo + n ≤ xs.length) (hxs : xs.length < 2 ^ 61) (hsz : ∀ x ∈ xs, tag.length + 1 + x.length ≤ sizeLine) (hb : AllBare s.gens)
    (h : ∀ C a h' gs tk, C < a → s.heap.objs.size ≤ C → a < h'.objs.size → (∀ b o, s.heap.get? b = some o → h'.get? b = some o) → Fr h₀ L h' m → News h₀ L h' news → AllBare gs →
      (∀ s' : Shared, s'.heap = h' → s'.gens = gs → GenAtF prog w A.in1.in1 a s.gens.size (dFp h₀ C a lx) (dWr C a) noG (dumpOut tag xs lo n) 0 s') →
      Q (.ref a) { s with heap := h', gens := gs, toks := tk }) :
    wpAny (model prog w) A (call (.ref q) [.str tag t, .ref lx, .int lo' u, .int hi v]) Q E s := by
  subst hlo' hhi
  refine call_meth N hq ?_
  refine mk_dump X T hh hroom F N (isL N hl) hvs hlo hxs hsz ?_
  intro C a h' tk h1 h2 h3 h4 F' N' G
  refine h C a h' _ tk h1 h2 h3 h4 F' N' ?_ G
  intro z hz
  rcases Array.mem_push.mp hz with hz | hz
  · exact hb z hz
  · subst hz; rfl
end
section
variable {prog : Program} {w : World} {A : Around} {E : Value → Shared → Prop} {s : Shared}
theorem fi_list : fillsInplaceSlot (.type "list") "add" (Operator.Add == .Add) = pure false := by
  unfold fillsInplaceSlot
  show (typeLookup (.type "list") (dunderI "add") >>= fun fi => pure (fi.isSome && !isSeqSlot fi)) = pure false
  rw [PySem.F.slot_list_iadd.lookup]
  show (pure ((some (Value.builtin "list.__iadd__")).isSome && !isSeqSlot (some (Value.builtin "list.__iadd__"))) : Sem Bool) = pure false
  rw [show ((some (Value.builtin "list.__iadd__")).isSome && !isSeqSlot (some (Value.builtin "list.__iadd__"))) = false by decide +kernel]
/-- xs += ys -/
theorem iadd_lists {l b : Addr} {its its2 : Array Value} {n n2 : Nat} {Q : Value → Shared → Prop} (hl : s.heap.get? l = some (listOf its n)) (hb : s.heap.get? b = some (listOf its2 n2))
    (h : ∀ h' n', h'.get? l = some (listOf (its ++ its2) n') → Heap.SameBut l s.heap h' → Q (.ref l) { s with heap := h' }) (hsz : its.size + its2.size ≤ sizeLine) :
    wpAny (model prog w) A (inplaceOp .Add (.ref l) (.ref b)) Q E s := by
  have ha : s.TypeIs (.ref l) "list" := ⟨_, hl, rfl⟩
  have hbt : s.TypeIs (.ref b) "list" := ⟨_, hb, rfl⟩
  unfold inplaceOp
  refine wpAny_holding ?_
  refine wpAny_bind (wpAny_typeOf ha (wpAny_bind (wpAny_of_eq fi_list ?_)))
  show wpAny _ A (if false = true then _ else _) Q E s
  rw [if_neg Bool.false_ne_true]
  refine wpAny_bind (wpAny_binaryOp1_none (nm := "add") ha hbt noFill_list_add ?_)
  refine wpAny_bind (wpAny_of_eq (PySem.seqSlot_of PySem.F.slot_list_iadd.lookup (by decide +kernel)) ?_)
  refine wpAny_bind (wpAny_rule ?_)
  refine call_meets PySem.F.slot_list_iadd ha PySem.F.entry_list_iadd (PySem.F.args_list_iadd_2 _ _) (AutoSeq1.list___iadd___list_list_0 l its n b its2 n2 (extend_door hsz) (Nat.le_trans (Nat.le_add_right _ _) hsz)) ⟨hl, hb, ?_⟩
  refine h _ (if (its ++ its2).size == its.size then n else n + 1) ?_ (Heap.SameBut.update ..)
  rw [Heap.get?_update_self _ hl (by rfl)]
  rfl
end
section
variable {prog : Program} {w : World} {A : Around} {E : Value → Shared → Prop} {s : Shared}
theorem append_own {D : Addr} {v : Value} {its : Array Value} {n : Nat} {Q : Value → Shared → Prop} (hl : s.heap.get? D = some (listOf its n))
    (h : ∀ h' n', h'.get? D = some (listOf (its.push v) n') → Heap.SameBut D s.heap h' → Q .none { s with heap := h' }) (hsz : its.size ≤ sizeLine) :
    wpAny (model prog w) A (call (.builtin "list.append") [.ref D, v]) Q E s := by
  refine call_meets PySem.F.slot_list_append ⟨_, hl, rfl⟩ PySem.F.entry_list_append (PySem.F.args_list_append_2 _ _) (list_append D its n v hsz) ⟨hl, ?_⟩
  refine h _ (if (its.push v).size == its.size then n else n + 1) ?_ (Heap.SameBut.update ..)
  rw [Heap.get?_update_self _ hl (by rfl)]
  rfl
end
abbrev tupOf (its : Array Value) : Obj := { cls := .type "tuple", data := .seq its }
theorem lk {m : Str → Option Value} {x z : Str} {v u : Value} (h : m z = some u) (hne : z ≠ x) : set1 m x v z = some u := by rw [show set1 m x v z = m z from if_neg hne]; exact h
theorem lk0 {m : Str → Option Value} {x : Str} {v : Value} : set1 m x v x = some v := if_pos rfl
theorem iter_ne {h : Heap} {I l b : Addr} {i : Nat} {o : Obj} (hit : h.IsListIter I l i) (e : h.get? b = some o) (hc : o.cls ≠ .type "list_iterator") : b ≠ I := fun q => by
  subst q
  obtain ⟨o', ho', hc', _⟩ := hit
  rw [e] at ho'; cases ho'
  exact hc hc'
theorem intsAre_get {vs : List Value} {xs : List Int} (h : IntsAre vs xs) : ∀ {k : Nat} {v : Value}, vs[k]? = some v → ∃ t, v = .int (xs.getD k 0) t ∧ k < xs.length := by
  induction h with
  | nil => intro k x hx; simp at hx
  | cons y t _ ih =>
    intro k v hv
    cases k with
    | zero => simp at hv; subst hv; exact ⟨t, rfl, by simp⟩
    | succ k =>
      obtain ⟨t', e, hl⟩ := ih (by simpa using hv)
      exact ⟨t', by simpa using e, by simpa using hl⟩
end Mine
end
section
open PySem PySem.W PyProof.Rows
set_option Elab.async false
set_option linter.unusedVariables false
set_option maxRecDepth 100000
namespace Mine
open Sem (wp)
theorem over_under (A : Around) (c c' : Code) (k g l p kp) (fs : List Frame) : A.over c' (.ret k none g l c p kp :: fs) = (A.over c fs).under c' := by
  have e1 : pushEnvs (c.envs ++ envsOf (fs.map Frame.where_)) A.frames = pushEnvs c.envs (pushEnvs (envsOf (fs.map Frame.where_)) A.frames) := by
    simp only [pushEnvs_eq, Option.map_map]; congr 1; funext l; simp
  have e2 : pushGuards (c.guards ++ guardsOf (fs.map Frame.where_)) A.guards = pushGuards c.guards (pushGuards (guardsOf (fs.map Frame.where_)) A.guards) := by
    simp only [pushGuards_eq, Option.map_map]; congr 1; funext l; simp
  simp only [Around.over, Around.under, marksOver, List.foldr_cons, Frame.marks, markOver, List.map_cons, Frame.where_, frameCount_cons, unitsOf_cons, envsOf_cons, guardsOf_cons, e1, e2, Around.mk.injEq, true_and]
  omega
section
variable {M : Model} {A : Around} {R : GenEnd} {Y : Protocol} {n : Nat} {s₀ : Shared} {c : Code} {fs : List Frame} {s : Shared} {α β : Type}
/-- a tree that may pass tame yields, whatever is built on it -/
def LW (M : Model) (A : Around) (R : GenEnd) (Y : Protocol) (n : Nat) (s₀ : Shared) (c : Code) (fs : List Frame) {α : Type} (m : Sem α) (Q : α → Shared → Prop) (E : Value → Shared → Prop) (s : Shared) : Prop :=
  ∀ (K : α → Sem Fin) (H : Value → Sem Fin) (gd : Bool → Bool) (lv : List Value → List Value), (∀ a s', Q a s' → SegL M A R Y n s₀ c (K a) fs s') → (∀ x s', E x s' → SegL M A R Y n s₀ c (H x) fs s') →
    SegL M A R Y n s₀ c (m.wrap K H gd lv) fs s
/-- a call's code in the same sense -/
def CL (M : Model) (A : Around) (R : GenEnd) (Y : Protocol) (n : Nat) (s₀ : Shared) (c : Code) (fs : List Frame) (c' : Code) (P : Result → Shared → Prop) (s : Shared) : Prop :=
  ∀ (k : Result → Sem Fin) (g : Bool) (l : List Value) (p : Pos), (∀ r s', P r s' → SegL M A R Y n s₀ c (k r) fs s') → SegL M A R Y n s₀ c' (M.den c') (.ret k none g l c p [] :: fs) s
theorem lw_of {m : Sem α} {Q : α → Shared → Prop} {E : Value → Shared → Prop} (h : wpAny M (A.over c fs) m Q E s) : LW M A R Y n s₀ c fs m Q E s :=
  fun K H gd lv hQ hE => segL_wrap (wpAny_mono h hQ hE)
theorem lw_mono {m : Sem α} {Q Q' : α → Shared → Prop} {E E' : Value → Shared → Prop} (h : LW M A R Y n s₀ c fs m Q E s) (hQ : ∀ a s', Q a s' → Q' a s') (hE : ∀ e s', E e s' → E' e s') : LW M A R Y n s₀ c fs m Q' E' s :=
  fun K H gd lv q e => h K H gd lv (fun a s' x => q a s' (hQ a s' x)) fun a s' x => e a s' (hE a s' x)
theorem lw_pure {a : α} {Q : α → Shared → Prop} {E : Value → Shared → Prop} (h : Q a s) : LW M A R Y n s₀ c fs (pure a) Q E s := fun K H gd lv hQ _ => hQ a s h
theorem lw_bind {m : Sem α} {k : α → Sem β} {Q : β → Shared → Prop} {E : Value → Shared → Prop} (h : LW M A R Y n s₀ c fs m (fun a s' => LW M A R Y n s₀ c fs (k a) Q E s') E s) : LW M A R Y n s₀ c fs (m >>= k) Q E s := by
  intro K H gd lv hQ hE
  rw [Sem.bind_eq_wrap', Sem.wrap_wrap]
  exact h _ _ _ _ (fun a s' x => x K H gd lv hQ hE) hE
theorem lw_bw {m : Sem α} {k : α → Sem β} {Q : β → Shared → Prop} {E : Value → Shared → Prop} (h : wpAny M (A.over c fs) m (fun a s' => LW M A R Y n s₀ c fs (k a) Q E s') E s) : LW M A R Y n s₀ c fs (m >>= k) Q E s :=
  lw_bind (lw_of h)
theorem lw_holding {m : Sem α} {vs : List Value} {Q : α → Shared → Prop} {E : Value → Shared → Prop} (h : LW M A R Y n s₀ c fs m Q E s) : LW M A R Y n s₀ c fs (holding vs m) Q E s := by
  intro K H gd lv hQ hE
  unfold holding
  split
  · exact h K H gd lv hQ hE
  · rw [Sem.keep_eq_wrap, Sem.wrap_wrap]
    exact h _ _ _ _ hQ hE
theorem lw_attempt {m : Sem α} {Q : Except Value α → Shared → Prop} {E : Value → Shared → Prop} (h : LW M A R Y n s₀ c fs m (fun a s' => Q (.ok a) s') (fun e s' => Q (.error e) s') s) : LW M A R Y n s₀ c fs m.attempt Q E s := by
  intro K H gd lv hQ hE
  unfold Sem.attempt
  rw [Sem.tryCatch_eq_wrap, Sem.wrap_wrap, Sem.bind_eq_wrap, Sem.wrap_wrap]
  exact h _ _ _ _ (fun a s' x => hQ (.ok a) s' x) fun e s' x => hQ (.error e) s' x
theorem lw_run {c' : Code} {Q : Flow → Shared → Prop} {E : Value → Shared → Prop} (h : CL M A R Y n s₀ c fs c' (fun r s' => match r with | .ok f => Q f s' | .error e => E e s') s) : LW M A R Y n s₀ c fs (run c') Q E s := by
  intro K H gd lv hQ hE
  refine segL_call fun p => h _ _ _ p fun r s' hr => ?_
  cases r with
  | ok f => exact hQ f s' hr
  | error e => exact hE e s' hr
theorem lw_runValue {c' : Code} {Q : Value → Shared → Prop} {E : Value → Shared → Prop} (h : CL M A R Y n s₀ c fs c' (fun r s' => match r with | .ok (.ret v) => Q v s' | .ok _ => False | .error e => E e s') s) : LW M A R Y n s₀ c fs (runValue c') Q E s := by
  refine lw_bind (lw_run ?_)
  intro k g l p hk
  refine h k g l p fun r s' hr => hk r s' ?_
  cases r with
  | error e => exact hr
  | ok f =>
    cases f with
    | ret v => exact lw_pure hr
    | _ => exact hr.elim
theorem lw_call {f : Value} {pos : List Value} {kw : List (Str × Value)} {Q : Value → Shared → Prop} {E : Value → Shared → Prop}
    (h : CL M A R Y n s₀ c fs (.call f ⟨pos, kw⟩) (fun r s' => match r with | .ok (.ret v) => Q v s' | .ok _ => False | .error e => E e s') s) : LW M A R Y n s₀ c fs (call f pos kw) Q E s := lw_runValue h
theorem cl_mono {c' : Code} {P P' : Result → Shared → Prop} (h : CL M A R Y n s₀ c fs c' P s) (hP : ∀ r s', P r s' → P' r s') : CL M A R Y n s₀ c fs c' P' s :=
  fun k g l p hk => h k g l p fun r s' x => hk r s' (hP r s' x)
theorem cl_of_tree {c' : Code} {P : Result → Shared → Prop}
    (h : ∀ k g l p, LW M A R Y n s₀ c' (.ret k none g l c p [] :: fs) (M.den c') (fun fin s' => match fin with | .done f => P (.ok f) s' | .again c'' => c''.quiet = true ∧ CL M A R Y n s₀ c fs c'' P s') (fun e s' => P (.error e) s') s) :
    CL M A R Y n s₀ c fs c' P s := by
  intro k g l p hk
  rw [← wrap_same (M.den c')]
  refine h k g l p _ _ _ _ (fun fin s' hf => ?_) fun e s' he => segL_leaf (.error e) (hk _ _ he)
  cases fin with
  | done f => exact segL_leaf (.ok f) (hk _ _ hf)
  | again c'' => exact segL_again hf.1 (hf.2 k g l p hk)
/-- a plain call within -/
theorem cl_again {c' c'' : Code} {P : Result → Shared → Prop} (hd : M.den c' = .pure (.again c'')) (hq : c''.quiet = true) (h : CL M A R Y n s₀ c fs c'' P s) : CL M A R Y n s₀ c fs c' P s := by
  refine cl_of_tree fun k g l p => ?_
  rw [hd]
  exact lw_pure (a := Fin.again c'') ⟨hq, h⟩
end
end Mine
end
section
open PySem PySem.W PyProof.Rows
set_option Elab.async false
set_option linter.unusedVariables false
set_option maxRecDepth 100000
namespace Mine
open Sem (wp)
section
variable {prog : Program} {w : World} {A : Around} {R : GenEnd} {Y : Protocol} {n : Nat} {s₀ : Shared} {c : Code} {fs : List Frame} {s : Shared} {E : Value → Shared → Prop}
abbrev finP (M : Model) (A : Around) (R : GenEnd) (Y : Protocol) (n : Nat) (s₀ : Shared) (c : Code) (fs : List Frame) (P : Result → Shared → Prop) : Fin → Shared → Prop :=
  fun fin s' => match fin with | .done f => P (.ok f) s' | .again c'' => c''.quiet = true ∧ CL M A R Y n s₀ c fs c'' P s'
theorem cl_builtin {id : String} {args : Args} {b : Builtin} {P : Result → Shared → Prop} (hb : entryFor table id = some b)
    (h : ∀ k g l p, LW (model prog w) A R Y n s₀ (.builtin id args) (.ret k none g l c p [] :: fs) (b args) (finP (model prog w) A R Y n s₀ c fs P) (fun e s' => P (.error e) s') s) :
    CL (model prog w) A R Y n s₀ c fs (.builtin id args) P s := by
  refine cl_of_tree fun k g l p => ?_
  show LW _ _ _ _ _ _ _ _ (match entryFor table id with | some b => b args | none => unsupported ((withoutEnding? id "#data").getD id)) _ _ s
  rw [hb]; exact h k g l p
theorem cl_call_builtin {id : String} {args : Args} {b : Builtin} {P : Result → Shared → Prop} (hq : plainId id = true) (hb : entryFor table id = some b)
    (h : wpAny (model prog w) (A.over c fs).in1 (checkBuiltinCall id args) (fun _ s₁ => ∀ k g l p, LW (model prog w) A R Y n s₀ (.builtin id args) (.ret k none g l c p [] :: fs) (b args)
      (finP (model prog w) A R Y n s₀ c fs P) (fun e s' => P (.error e) s') s₁) (fun e s' => P (.error e) s') s) :
    CL (model prog w) A R Y n s₀ c fs (.call (.builtin id) args) P s := by
  refine cl_of_tree fun k g l p => ?_
  show LW _ _ _ _ _ _ _ _ (checkBuiltinCall id args >>= fun _ => again (.builtin id args)) _ _ s
  refine lw_bw ?_
  rw [over_under]
  show wpAny _ (A.over c fs).in1 _ _ _ s
  exact wpAny_mono h (fun _ s₁ x => lw_pure (a := Fin.again _) ⟨plainId_quiet hq args, cl_builtin hb x⟩) fun _ _ x => x
theorem over_plain {id : String} {args : Args} (hq : plainId id = true) {k g l p} : A.over (.builtin id args) (.ret k none g l c p [] :: fs) = (A.over c fs).in1 := by
  rw [over_under, Around.under_plainId hq args]
/-- a method of a library type, called by its slot -/
theorem lw_callSpecial? {self : Value} {T : String} {name : Str} {id : String} {b : Builtin} {rest : List Value} {Q : Option Value → Shared → Prop} (hT : s.TypeIs self T) (h : Slot T name id) (hb : entryFor table id = some b)
    (ha : argsOk id ⟨self :: rest, []⟩)
    (hc : ∀ k g l p, LW (model prog w) A R Y n s₀ (.builtin id ⟨self :: rest, []⟩) (.ret k none g l c p [] :: fs) (b ⟨self :: rest, []⟩)
      (finP (model prog w) A R Y n s₀ c fs (fun r s' => match r with | .ok (.ret v) => Q (some v) s' | .ok _ => False | .error e => E e s')) E s) :
    LW (model prog w) A R Y n s₀ c fs (callSpecial? self name rest) Q E s := by
  simp only [callSpecial?]
  refine lw_bw (wpAny_specialOf hT h.lookup ?_)
  simp only [h.bind]
  refine lw_holding (lw_bw (wpAny_pure ?_))
  refine lw_bind (lw_mono (Q := fun v => Q (some v)) (E := E) (lw_call (cl_call_builtin h.plain hb ?_)) (fun v s' x => lw_pure x) fun _ _ x => x)
  exact h.check _ _ _ _ _ _ _ _ hT ha hc
theorem lw_resume {R' : GenEnd} {Y' : Protocol} {n' : Nat} {g : Nat} {gs : GenState} {r : Resume} {l : List Value} {α : Type} {k : GenResult → Sem α} {Q : α → Shared → Prop} (hg : s.gens[g]? = some gs)
    (hgo : GoesL (model prog w) (A.over c fs) R' Y' n' gs r (s.setGen g .running))
    (hR : ∀ x s₁, R' n' (s.setGen g .running) x s₁ → LW (model prog w) A R Y n s₀ c fs (k (End.ret x).result) Q E (s₁.setGen g .finished))
    (hY : ∀ v s₁ gs', Y' (n' - 1) (s.setGen g .running) v s₁ (fun r' s'' => match n' with | 0 => False | m + 1 => GoesL (model prog w) (A.over c fs) R' Y' m gs' r' s'') →
      LW (model prog w) A R Y n s₀ c fs (k (.yielded v)) Q E (s₁.setGen g gs')) :
    LW (model prog w) A R Y n s₀ c fs (.resume g r l k) Q E s := by
  intro K H gd lv hQ hE
  exact segL_resume hg hgo (fun x s₁ h => hR x s₁ h K H gd lv hQ hE) fun v s₁ gs' h => hY v s₁ gs' h K H gd lv hQ hE
theorem next_genL {a : Addr} {g n' : Nat} {gs : GenState} {P : Nat → Shared → Shared → Prop} {Y' : Protocol} {Q : Option Value → Shared → Prop} (hh : (A.over c fs).handled = none)
    (hl : s.heap.NoLimit) (hroom : (A.over c fs).depth < recursionLimit) (hg : s.heap.IsGen a g) (hgs : s.gens[g]? = some gs)
    (hgo : GoesL (model prog w) (A.over c fs).in1 (fun n s₀ r s₁ => r = .ok (.ret .none) ∧ P n s₀ s₁) Y' n' gs (.send .none) (s.setGen g .running))
    (hY : ∀ v s₁ gs', Y' (n' - 1) (s.setGen g .running) v s₁ (fun r' s'' => match n' with
        | 0 => False
        | m + 1 => GoesL (model prog w) (A.over c fs).in1 (fun n s₀ r s₁ => r = .ok (.ret .none) ∧ P n s₀ s₁) Y' m gs' r' s'') → Q (some v) (s₁.setGen g gs'))
    (hP : ∀ s₁, P n' (s.setGen g .running) s₁ → ∀ h', (∀ b o, s₁.heap.get? b = some o → h'.get? b = some o) → Q none { s₁.setGen g .finished with heap := h' }) :
    LW (model prog w) A R Y n s₀ c fs (pyNext (.ref a)) Q E s := by
  unfold pyNext
  refine lw_bind (lw_attempt (lw_callSpecial? hg.typeIs slot_gen_next entry_gen_next (args_gen_next _) fun k g' l p => ?_))
  have eA : A.over (.builtin "generator.__next__" ⟨[.ref a], []⟩) (.ret k none g' l c p [] :: fs) = (A.over c fs).in1 := over_plain slot_gen_next.plain
  show LW _ _ _ _ _ _ _ _ (Builtin.Generator.genWake (.ref a) (.send .none)) _ _ s
  unfold Builtin.Generator.genWake
  refine lw_bw (wpAny_holding (wpAny_genNumber hg ?_))
  refine lw_bw (wpAny_genState hgs ?_)
  cases gs with
  | running => exact hgo.elim
  | finished => exact hgo.elim
  | _ =>
    refine lw_bw (wpAny_roomToWake hl (by rw [eA]; exact hroom) ?_)
    refine lw_bind (m := resume g (.send .none)) (lw_resume (k := .pure) hgs (by rw [eA]; exact hgo) (fun x s₁ hx => lw_pure ?_) fun v s₁ gs' hv => lw_pure ?_)
    · obtain ⟨rfl, hp⟩ := hx
      refine lw_of ?_
      rw [eA]
      show wpAny _ (A.over c fs).in1 (newExc (.type "StopIteration") [] >>= _) _ _ _
      refine wpAny_bind ?_
      simp only [newExc, newTuple]
      refine wpAny_bind (wpAny_newObj_type ?_ (by size_fits))
      refine wpAny_bind (m := firstArgMember _ _) (wpAny_of_eq (a := Value.none) (by first | rfl | (simp only [firstArgMember]; rfl)) ?_)
      refine wpAny_newObj_type ?_ (by size_fits)
      simp only [raiseNew]
      refine wpAny_bind (wpAny_bind (wpAny_handled ?_))
      rw [show (A.over c fs).in1.handled = none from hh]
      refine wpAny_throw ?_
      refine lw_bw (wpAny_isInstance (T := "StopIteration") (b := true) ⟨_, Heap.get?_push_size _ rfl, rfl⟩ isSubtype_stop ?_)
      exact lw_pure (hP s₁ hp _ fun b o hb => Heap.get?_push_of_some _ (Heap.get?_push_of_some _ hb))
    · rw [eA] at hv
      exact lw_pure (a := Fin.done (.ret v)) (lw_pure (hY v s₁ gs' hv))
end
end Mine
end
section
open PySem PySem.W PyProof.Rows
set_option Elab.async false
set_option linter.unusedVariables false
set_option maxRecDepth 100000
namespace Mine
open Sem (wp)
/-- the state as if this generator had come to its end -/
abbrev fin (g : Nat) (s : Shared) : Shared := s.setGen g .finished
theorem setGen_setGen (s : Shared) (g : Nat) (x y : GenState) : (s.setGen g x).setGen g y = s.setGen g y := by
  simp only [Shared.setGen]; congr 1
  apply Array.ext_getElem?
  intro i
  by_cases h : i = g
  · subst h; simp
  · simp [Array.getElem?_setIfInBounds_ne (Ne.symm h)]
theorem setGen_same {s : Shared} {g : Nat} {x : GenState} (h : s.gens[g]? = some x) : s.setGen g x = s := by
  obtain ⟨hp, gens, dr, tk, os⟩ := s
  simp only [Shared.setGen]; congr 1
  apply Array.ext_getElem?
  intro i
  by_cases q : i = g
  · subst q
    have : i < gens.size := by
      rcases Nat.lt_or_ge i gens.size with h' | h'
      · exact h'
      · rw [Array.getElem?_eq_none h'] at h; cases h
    simp only [Array.getElem?_setIfInBounds_self_of_lt this]; exact h.symm
  · simp [Array.getElem?_setIfInBounds_ne (Ne.symm q)]
theorem kept_fin {Wr : Addr → Obj → Prop} {Gi : Nat → Prop} {s s₁ : Shared} {g : Nat} (h : Kept Wr Gi (s.setGen g .running) s₁) : Kept Wr (fun k => k = g ∨ Gi k) (fin g s) (fin g s₁) :=
  kept_setGen (s := fin g s) (x := .running) (y := .finished) (by rw [fin, setGen_setGen]; exact h) rfl rfl
section
variable {prog : Program} {w : World} {A : Around} {R : GenEnd} {Y : Protocol} {n : Nat} {s₀ : Shared} {c : Code} {fs : List Frame} {s : Shared} {E : Value → Shared → Prop}
  {I : Addr} {g : Nat} {Fp Wr : Addr → Obj → Prop} {Gi : Nat → Prop} {outs : List Str}
/-- a generator that may yield past sleeping delegates -/
def GenAtL (prog : Program) (w : World) (B : Around) (a : Addr) (g : Nat) (Fp Wr : Addr → Obj → Prop) (Gi : Nat → Prop) (outs : List Str) (S : Addr) (j : Nat) (s : Shared) : Prop :=
  s.heap.IsGen a g ∧ s.heap.NoLimit ∧ ∃ gs, s.gens[g]? = some gs ∧ ∀ s'' : Shared, Still Fp Gi s s'' → S < s''.heap.objs.size → GoesL (model prog w) B (retF Wr Gi) (protoF Fp Wr Gi outs) (outs.length - j) gs (.send .none) s''
/-- what the generator's surroundings promise of its own object -/
structure GOk (I : Addr) (g : Nat) (Fp Wr : Addr → Obj → Prop) (Gi : Nat → Prop) : Prop where
  Fa : ∀ o, Fp I o
  Fs : ∀ o, Fp cStatics o
  Wa : ∀ o, ¬ Wr I o
  Ws : ∀ o, ¬ Wr cStatics o
  Gg : ¬ Gi g
theorem GenAtL.frame {S : Addr} {B : Around} (O : GOk I g Fp Wr Gi) {i : Nat} {s s' : Shared} (st : GenAtL prog w B I g Fp Wr Gi outs S i s) (hs : Still Fp (fun k => k = g ∨ Gi k) s s') : GenAtL prog w B I g Fp Wr Gi outs S i s' := by
  obtain ⟨⟨o, nm, qn, ho, r⟩, ⟨mc, hns, hnn⟩, gs, hgs, hgo⟩ := st
  have hlt : g < s.gens.size := by
    rcases Nat.lt_or_ge g s.gens.size with h' | h'
    · exact h'
    · rw [Array.getElem?_eq_none h'] at hgs; cases hgs
  exact ⟨⟨o, nm, qn, hs.heap I o (O.Fa o) ho, r⟩, ⟨mc, hns.at' fun o e => hs.heap cStatics o (O.Fs o) e, hnn⟩, gs, (hs.gens g (.inl rfl) hlt).trans hgs,
    fun s'' h'' hz => hgo s'' (Still.trans ⟨hs.heap, fun k hk hl => hs.gens k (.inr hk) hl, hs.gsize⟩ h'') hz⟩
theorem GenAtL.item {S : Addr} {Q : Option Value → Shared → Prop} (O : GOk I g Fp Wr Gi) (hh : (A.over c fs).handled = none) (hroom : (A.over c fs).depth < recursionLimit) {i : Nat} {x : Str} (hx : outs[i]? = some x)
    (st : GenAtL prog w (A.over c fs).in1 I g Fp Wr Gi outs S i s) (hz : S < s.heap.objs.size)
    (hQ : ∀ t s', GenAtL prog w (A.over c fs).in1 I g Fp Wr Gi outs S (i + 1) s' → Kept Wr (fun k => k = g ∨ Gi k) (fin g s) (fin g s') → Q (some (.str x t)) s') :
    LW (model prog w) A R Y n s₀ c fs (pyNext (.ref I)) Q E s := by
  obtain ⟨hg, hl, gs, hgs, hgo⟩ := st
  have hi : i < outs.length := by
    rcases Nat.lt_or_ge i outs.length with h' | h'
    · exact h'
    · rw [List.getElem?_eq_none h'] at hx; cases hx
  obtain ⟨m, hm⟩ : ∃ m, outs.length - i = m + 1 := ⟨outs.length - i - 1, by omega⟩
  rw [hm] at hgo
  refine next_genL (P := endF Wr Gi) hh hl hroom hg hgs (hgo _ (still_setGen O.Gg) hz) (fun v s₁ gs' hv => ?_) (fun s₁ hp h' hk => ?_)
  · obtain ⟨⟨y, t, hy, rfl⟩, hk, hkap⟩ := hv
    have hidx : outs.length - 1 - (m + 1 - 1) = i := by omega
    rw [hidx, hx] at hy
    cases hy
    have K := kept_fin hk
    have hlt : g < s₁.gens.size := by
      have h1 : g < s.gens.size := by
        rcases Nat.lt_or_ge g s.gens.size with h' | h'
        · exact h'
        · rw [Array.getElem?_eq_none h'] at hgs; cases hgs
      have h2 := hk.gsize
      simp [Shared.setGen] at h2
      omega
    refine hQ t _ ⟨let ⟨o, nm, qn, ho, r⟩ := hg; ⟨o, nm, qn, hk.heap I o (O.Wa o) ho, r⟩, (let ⟨mc, hns, hnn⟩ := hl; ⟨mc, hns.at' fun o e => hk.heap cStatics o (O.Ws o) e, hnn⟩), gs', by simp [Shared.setGen, hlt], fun s'' hal _ => ?_⟩
      (by rw [show fin g (s₁.setGen g gs') = fin g s₁ from setGen_setGen ..]; exact K)
    have e : outs.length - (i + 1) = m := by omega
    rw [e]
    exact hkap s'' (Still.trans (still_setGen O.Gg) hal)
  · exact absurd hp.1 (Nat.succ_ne_zero m)
theorem GenAtL.done {S : Addr} {Q : Option Value → Shared → Prop} (O : GOk I g Fp Wr Gi) (hh : (A.over c fs).handled = none) (hroom : (A.over c fs).depth < recursionLimit)
    (st : GenAtL prog w (A.over c fs).in1 I g Fp Wr Gi outs S outs.length s) (hz : S < s.heap.objs.size) (hQ : ∀ s', s'.gens[g]? = some .finished → Kept Wr (fun k => k = g ∨ Gi k) (fin g s) s' → Q none s') :
    LW (model prog w) A R Y n s₀ c fs (pyNext (.ref I)) Q E s := by
  obtain ⟨hg, hl, gs, hgs, hgo⟩ := st
  rw [Nat.sub_self] at hgo
  refine next_genL (P := endF Wr Gi) hh hl hroom hg hgs (hgo _ (still_setGen O.Gg) hz) (fun v s₁ gs' hv => ?_) (fun s₁ hp h' hk => ?_)
  · exact (hv.2.2 _ .refl).elim
  · have K := kept_fin hp.2
    have hlt : g < s₁.gens.size := by
      have h1 : g < s.gens.size := by
        rcases Nat.lt_or_ge g s.gens.size with h' | h'
        · exact h'
        · rw [Array.getElem?_eq_none h'] at hgs; cases hgs
      have h2 := hp.2.gsize
      simp [Shared.setGen] at h2
      omega
    exact hQ _ (by simp [Shared.setGen, hlt]) ⟨fun b o hb e => hk b o (K.heap b o hb e), K.gsize, K.gens, K.bare, K.drawn, K.os, K.toks⟩
end
end Mine
end
section
open PySem PySem.W PyProof.Rows
set_option Elab.async false
set_option linter.unusedVariables false
set_option maxRecDepth 100000
namespace Mine
open Sem (wp)
section
variable {prog : Program} {w : World} {A : Around} {R : GenEnd} {Y : Protocol} {n : Nat} {s₀ : Shared} {c : Code} {fs : List Frame} {s : Shared} {E : Value → Shared → Prop}
  {I : Addr} {g : Nat} {Fp Wr : Addr → Obj → Prop} {Gi : Nat → Prop} {outs : List Str} {P : Result → Shared → Prop}
theorem kept_heap {g : Nat} {Wr : Addr → Obj → Prop} {Gp : Nat → Prop} {s : Shared} {h' : Heap} (hk : ∀ b o, ¬ Wr b o → s.heap.get? b = some o → h'.get? b = some o) : Kept Wr Gp (fin g s) (fin g { s with heap := h' }) :=
  ⟨hk, Nat.le_refl _, fun _ _ _ => rfl, id, rfl, rfl, Nat.le_refl _⟩
theorem extend_loopL (O : GOk I g Fp Wr Gi) (hh : (A.over c fs).handled = none) (hroom : (A.over c fs).depth < recursionLimit) (hn : outs.length ≤ sizeLine) (S : Addr) (hSf : ∀ its c, ¬ Fp S (listOf its c)) (hSw : ∀ its c, ¬ Wr S (listOf its c)) (res : Value) :
    ∀ (k i : Nat) (s : Shared) (acc : List Value) (cp : Nat), outs.length - i = k → i ≤ outs.length → GenAtL prog w (A.over c fs).in1.in1 I g Fp Wr Gi outs S i s → s.heap.get? S = some (listOf acc.toArray cp) → StrsAre acc (outs.take i) →
    (∀ s' acc' c', s'.gens[g]? = some .finished → Kept (fun b o => b = S ∨ Wr b o) (fun k => k = g ∨ Gi k) (fin g s) s' → s'.heap.get? S = some (listOf acc'.toArray c') → StrsAre acc' outs → P (.ok (.ret res)) s') →
    CL (model prog w) A R Y n s₀ c fs (.builtin "list.extend.loop" ⟨[.ref S, .ref I, res], []⟩) P s := by
  intro k
  induction k with
  | zero =>
    intro i s acc cp hk hi hst hS hacc hR
    have hin : i = outs.length := by omega
    subst hin
    refine cl_builtin F.entry_extend_loop fun k' g' l p => ?_
    have eA : A.over (.builtin "list.extend.loop" ⟨[.ref S, .ref I, res], []⟩) (.ret k' none g' l c p [] :: fs) = (A.over c fs).in1 := over_plain F.plain_extend_loop
    show LW _ _ _ _ _ _ _ _ (pyNext (.ref I) >>= _) _ _ s
    refine lw_bind (GenAtL.done O (by rw [eA]; exact hh) (by rw [eA]; exact hroom) (by rw [eA]; exact hst) (Heap.lt_size hS) fun s' hgf hm => ?_)
    refine lw_pure (a := Fin.done (.ret res)) (hR s' acc cp hgf (hm.mono (fun _ _ => .inr) fun _ => id) (hm.heap S _ (hSw _ _) hS) ?_)
    rwa [List.take_length] at hacc
  | succ k ih =>
    intro i s acc cp hk hi hst hS hacc hR
    have hlt : i < outs.length := by omega
    refine cl_builtin F.entry_extend_loop fun k' g' l p => ?_
    have eA : A.over (.builtin "list.extend.loop" ⟨[.ref S, .ref I, res], []⟩) (.ret k' none g' l c p [] :: fs) = (A.over c fs).in1 := over_plain F.plain_extend_loop
    show LW _ _ _ _ _ _ _ _ (pyNext (.ref I) >>= _) _ _ s
    refine lw_bind (GenAtL.item O (by rw [eA]; exact hh) (by rw [eA]; exact hroom) (x := outs[i]) (List.getElem?_eq_getElem hlt) (by rw [eA]; exact hst) (Heap.lt_size hS) fun t s' hst' hm => ?_)
    rw [eA] at hst'
    have hS' : s'.heap.get? S = some (listOf acc.toArray cp) := hm.heap S _ (hSw _ _) hS
    have hlen : acc.length = i := by rw [strsAre_length hacc, List.length_take]; omega
    show LW _ _ _ _ _ _ _ _ (updateSeq S (·.push (.str outs[i] t)) >>= _) _ _ _
    have hS2 : (s'.heap.update S (Obj.mapSeq (·.push (Value.str outs[i] t)))).get? S = some (listOf (acc ++ [Value.str outs[i] t]).toArray (cp + 1)) := by
      have := Heap.get?_update_self (Obj.mapSeq (·.push (Value.str outs[i] t))) hS' rfl
      rw [this]
      simp [Obj.mapSeq]
    have oth : ∀ b o, b ≠ S → s'.heap.get? b = some o → (s'.heap.update S (Obj.mapSeq (·.push (Value.str outs[i] t)))).get? b = some o :=
      fun b o hb e => (Heap.get?_update_other _ _ (Ne.symm hb)).trans e
    refine lw_bw (wpAny_updateSeq hS' rfl ?_ (by simp [hlen]; omega) (by show (acc.toArray.push _).size ≤ sizeLine + 1; simp [hlen]; omega))
    refine lw_pure (a := Fin.again _) ⟨plainId_quiet F.plain_extend_loop _, ih (i + 1) _ (acc ++ [Value.str outs[i] t]) (cp + 1) (by omega) hlt (hst'.frame O ⟨fun b o hb e => ?_, fun _ _ _ => rfl, Nat.le_refl _⟩) hS2 ?_ fun s'' acc' c' hgf hm'' hS'' hacc' => ?_⟩
    · by_cases hbS : b = S
      · subst hbS
        rw [hS'] at e
        cases e
        exact absurd hb (hSf _ _)
      · exact oth b o hbS e
    · rw [List.take_add_one, List.getElem?_eq_getElem hlt]
      exact strsAre_snoc hacc
    · refine hR s'' acc' c' hgf (Kept.trans ((hm.mono (fun _ _ => .inr) fun _ => id).trans ?_) hm'') hS'' hacc'
      exact kept_heap fun b o hb e => oth b o (fun q => hb (.inl q)) e
end
end Mine
end
section
open PySem PySem.W PyProof.Rows
set_option Elab.async false
set_option linter.unusedVariables false
set_option maxRecDepth 100000
namespace Mine
open Sem (wp)
section
variable {prog : Program} {w : World} {A : Around} {R : GenEnd} {Y : Protocol} {n : Nat} {s₀ : Shared} {c : Code} {fs : List Frame} {s : Shared} {E : Value → Shared → Prop}
  {I : Addr} {g : Nat} {Fp Wr : Addr → Obj → Prop} {Gi : Nat → Prop} {outs : List Str} {P : Result → Shared → Prop}
theorem init_walkL (O : GOk I g Fp Wr Gi) (hh : (A.over c fs).handled = none) (hroom : (A.over c fs).depth < recursionLimit) (hn : outs.length ≤ sizeLine) (S : Addr) (hSI : S ≠ I) (hSf : ∀ its c, ¬ Fp S (listOf its c)) (hSw : ∀ its c, ¬ Wr S (listOf its c))
    (hst : GenAtL prog w (A.over c fs).in1.in1 I g Fp Wr Gi outs S 0 s) (hS : s.heap.get? S = some (listOf #[] 0))
    (hR : ∀ s' acc' c', s'.gens[g]? = some .finished → Kept (fun b o => b = S ∨ Wr b o) (fun k => k = g ∨ Gi k) (fin g s) s' → s'.heap.get? S = some (listOf acc'.toArray c') → StrsAre acc' outs → P (.ok (.ret .none)) s') :
    CL (model prog w) A R Y n s₀ c fs (.builtin "list.__init__" ⟨[.ref S, .ref I], []⟩) P s := by
  obtain ⟨hg, _⟩ := id hst
  refine cl_builtin F.entry_list_init fun k g' l p => ?_
  show LW _ _ _ _ _ _ _ _ (do let old ← Builtin.List.listItems (.ref S); Builtin.List.listUpdate (.ref S) (fun _ => #[]); letGo old.toList.reverse; Builtin.List.listExtendWith (.ref S) (.ref I) .none) _ _ s
  refine lw_bw ?_
  unfold Builtin.List.listItems
  refine wpAny_bind (wpAny_seqItems hS rfl (wpAny_pure ?_))
  show LW _ _ _ _ _ _ _ _ (updateSeq S (fun _ => #[]) >>= fun _ => letGo (#[] : Array Value).toList.reverse >>= fun _ => Builtin.List.listExtendWith (.ref S) (.ref I) .none) _ _ s
  refine lw_bw (wpAny_updateSeq hS rfl ?_)
  have hS₁ := Heap.get?_update_self (Obj.mapSeq (fun _ => (#[] : Array Value))) hS rfl
  have oth₁ : ∀ b o, b ≠ S → s.heap.get? b = some o → (s.heap.update S (Obj.mapSeq (fun _ => (#[] : Array Value)))).get? b = some o :=
    fun b o hb e => (Heap.get?_update_other _ _ (Ne.symm hb)).trans e
  have hg₁ : (s.heap.update S (Obj.mapSeq (fun _ => (#[] : Array Value)))).IsGen I g := let ⟨o, nm, qn, ho, r⟩ := hg; ⟨o, nm, qn, oth₁ I o (Ne.symm hSI) ho, r⟩
  have still₁ := still_list (Fp := Fp) (Gp := fun k => k = g ∨ Gi k) hSf hS oth₁
  generalize s.heap.update S (Obj.mapSeq (fun _ => (#[] : Array Value))) = h₁ at *
  refine lw_bw (wpAny_letGo ?_)
  unfold Builtin.List.listExtendWith
  refine lw_bw (wpAny_typeOf hg₁.typeIs ?_)
  have h1 : Builtin.List.listSameRef (.ref S) (.ref I) = false := by simp [Builtin.List.listSameRef, hSI]
  have h2 : (Value.type "generator" == Value.type "list") = false := by decide
  have h3 : (Value.type "generator" == Value.type "tuple") = false := by decide
  simp only [h1, h2, h3, Bool.or_false, Bool.false_eq_true, if_false]
  refine lw_bw (wpAny_pyIter_gen hg₁ ?_)
  refine lw_bw (wpAny_holding ?_)
  unfold Builtin.List.listLengthHint
  refine wpAny_bind (wpAny_specialOf hg₁.typeIs F.gen_no_len ?_)
  show wpAny _ _ (specialOf (Value.ref I) (Str.ofString "__length_hint__") >>= _) _ _ _
  refine wpAny_bind (wpAny_specialOf hg₁.typeIs F.gen_no_hint ?_)
  refine wpAny_pure ?_
  show LW _ _ _ _ _ _ _ _ (rule "list.extend.makes-room" >>= fun _ => Builtin.List.listTouch (.ref S) >>= fun _ =>
    again (.builtin "list.extend.loop" ⟨[.ref S, .ref I, .none], []⟩)) _ _ _
  refine lw_bw (wpAny_rule ?_)
  refine lw_bw ?_
  show wpAny _ _ (updateSeq S (·.push .none) >>= fun _ => updateSeq S (·.pop)) _ _ _
  refine wpAny_bind (wpAny_updateSeq hS₁ rfl ?_)
  have hS₂ := Heap.get?_update_self (Obj.mapSeq (·.push Value.none)) hS₁ rfl
  refine wpAny_updateSeq (hz := by seq_fits) hS₂ rfl ?_
  have hS₃ := Heap.get?_update_self (Obj.mapSeq (·.pop)) hS₂ rfl
  have oth : ∀ b o, b ≠ S → s.heap.get? b = some o → ((h₁.update S (Obj.mapSeq (·.push Value.none))).update S (Obj.mapSeq (·.pop))).get? b = some o :=
    fun b o hb e => (Heap.get?_update_other _ _ (Ne.symm hb)).trans ((Heap.get?_update_other _ _ (Ne.symm hb)).trans (oth₁ b o hb e))
  refine lw_pure (a := Fin.again _) ⟨plainId_quiet F.plain_extend_loop _, extend_loopL O hh hroom hn S hSf hSw _ outs.length 0 _ [] _ rfl (Nat.zero_le _)
    (hst.frame O (still_list (s := s) hSf hS oth)) hS₃ (by simpa using StrsAre.nil) fun s' acc' c' hgf hm hS' hacc => ?_⟩
  exact hR s' acc' c' hgf ((kept_heap fun b o hb e => oth b o (fun q => hb (.inl q)) e).trans hm) hS' hacc
end
end Mine
end
section
open PySem PySem.W PyProof.Rows
set_option Elab.async false
set_option linter.unusedVariables false
set_option maxRecDepth 100000
namespace Mine
open Sem (wp)
section
variable {prog : Program} {w : World} {A : Around} {R : GenEnd} {Y : Protocol} {n : Nat} {s₀ : Shared} {c : Code} {fs : List Frame} {s : Shared} {E : Value → Shared → Prop}
  {I : Addr} {g : Nat} {Fp Wr : Addr → Obj → Prop} {Gi : Nat → Prop} {outs : List Str}
theorem lw_callSpecialC {self : Value} {T : String} {name : Str} {id : String} {rest : List Value} {Q : Option Value → Shared → Prop} (hT : s.TypeIs self T) (h : Slot T name id) (ha : argsOk id ⟨self :: rest, []⟩)
    (hc : CL (model prog w) A R Y n s₀ c fs (.builtin id ⟨self :: rest, []⟩) (fun r s' => match r with | .ok (.ret v) => Q (some v) s' | .ok _ => False | .error e => E e s') s) :
    LW (model prog w) A R Y n s₀ c fs (callSpecial? self name rest) Q E s := by
  simp only [callSpecial?]
  refine lw_bw (wpAny_specialOf hT h.lookup ?_)
  simp only [h.bind]
  refine lw_holding (lw_bw (wpAny_pure ?_))
  refine lw_bind (lw_mono (Q := fun v => Q (some v)) (E := E) (lw_call (cl_of_tree fun k g l p => ?_)) (fun v s' x => lw_pure x) fun _ _ x => x)
  show LW _ _ _ _ _ _ _ _ (checkBuiltinCall id ⟨self :: rest, []⟩ >>= fun _ => again (.builtin id ⟨self :: rest, []⟩)) _ _ s
  refine lw_bw ?_
  exact h.check _ _ _ _ _ _ _ _ hT ha (lw_pure (a := Fin.again _) ⟨plainId_quiet h.plain _, hc⟩)
theorem call_listL {Q : Value → Shared → Prop} (O : GOk I g Fp Wr Gi) (hh : (A.over c fs).handled = none) (hroom : (A.over c fs).depth < recursionLimit) (hn : outs.length ≤ sizeLine)
    (hSf : ∀ its c, ¬ Fp s.heap.objs.size (listOf its c)) (hSw : ∀ its c, ¬ Wr s.heap.objs.size (listOf its c))
    (hg : s.heap.IsGen I g) (hst : GenAtL prog w (A.over c fs).in1.in1.in1 I g Fp Wr Gi outs s.heap.objs.size 0 { s with heap := s.heap.push (listOf #[] 0) })
    (hQ : ∀ s' vs c', s'.gens[g]? = some .finished → Kept (fun b o => b = s.heap.objs.size ∨ Wr b o) (fun k => k = g ∨ Gi k) (fin g s) s' → s'.heap.get? s.heap.objs.size = some (listOf vs.toArray c') → StrsAre vs outs → Q (.ref s.heap.objs.size) s') :
    LW (model prog w) A R Y n s₀ c fs (call (.type "list") [.ref I]) Q E s := by
  have hSI : s.heap.objs.size ≠ I := fun e => by
    obtain ⟨o, _, _, ho, _⟩ := hg
    exact absurd (Heap.lt_size ho) (e ▸ Nat.lt_irrefl _)
  have ft := F.called_list
  obtain ⟨c₁, tl, hmro⟩ := ft.mro
  have hmade := ft.made
  have hsub := ft.sub
  have h1 := ft.notType
  have h2 := ft.canCreate
  have hct := F.typeCall_list_1 (.ref I)
  refine lw_call (cl_again (c'' := .builtin "type.__call__" ⟨[.type "list", .ref I], []⟩) rfl (Code.quiet_builtin _ (by decide +kernel)) ?_)
  refine cl_builtin F.entry_type_call fun k g' l p => ?_
  have eA : A.over (.builtin "type.__call__" ⟨[.type "list", .ref I], []⟩) (.ret k none g' l c p [] :: fs) = (A.over c fs).in1 := by
    rw [over_under, Around.under_plain (weight_type_call_type "list" [.ref I] []) rfl]
  show LW _ _ _ _ _ _ _ _ (Builtin.«type.__call__» ⟨[.type "list", .ref I], []⟩) _ _ _
  unfold Builtin.«type.__call__»
  simp only [h1, h2, hct, hmro, hmade, Bool.false_eq_true, if_false]
  refine lw_bw (wpAny_pure ?_)
  refine lw_bw (wpAny_pure ?_)
  show LW _ _ _ _ _ _ _ _ (pure (some "list.__new__") >>= _) _ _ _
  refine lw_bw (wpAny_pure ?_)
  refine lw_bw (wpAny_pure ?_)
  refine lw_bw (wpAny_holding (wpAny_call ?_))
  rw [eA]
  have hnew : codeAny (model prog w) (A.over c fs).in1 (.call (.builtin "list.__new__") ⟨[.type "list", .ref I], []⟩) (wants (fun obj s₁ => obj = .ref s.heap.objs.size ∧ s₁ = { s with heap := s.heap.push (listOf #[] 0) }) (fun _ _ => False)) s := code_list_new _ ⟨rfl, rfl⟩
  refine codeAny_mono hnew fun r s₁ hr => ?_
  cases r with
  | error e => exact hr.elim
  | ok fl =>
    cases fl with
    | ret obj =>
      obtain ⟨rfl, rfl⟩ := hr
      have hS : (s.heap.push (listOf #[] 0)).get? s.heap.objs.size = some (listOf #[] 0) := Heap.get?_push_size _ rfl
      have hT : (Shared.mk (s.heap.push (listOf #[] 0)) s.gens s.drawn s.toks s.os).TypeIs (.ref s.heap.objs.size) "list" := ⟨_, hS, rfl⟩
      refine lw_bw (wpAny_isInstance hT hsub ?_)
      show LW _ _ _ _ _ _ _ _ (holding [.ref s.heap.objs.size] (callSpecial? (.ref s.heap.objs.size) (Str.ofString "__init__") [.ref I]) >>= _) _ _ _
      refine lw_bind (lw_holding (lw_callSpecialC hT ft.init (F.args_list_init_2 _ _) ?_))
      refine init_walkL O (by rw [eA]; exact hh) (by rw [eA]; exact hroom) hn _ hSI hSf hSw (by rw [eA]; exact hst) hS fun s' acc' c' hgf hm hS' hacc => ?_
      exact lw_pure (a := Fin.done (.ret _)) (hQ s' acc' c' hgf ((kept_heap fun b o _ e => Heap.get?_push_of_some _ e).trans hm) hS' hacc)
    | _ => exact hr.elim
end
end Mine
end
section
open PySem PySem.W PyProof.Rows
set_option Elab.async false
set_option linter.unusedVariables false
set_option maxRecDepth 100000
namespace Mine
open Sem (wp)
/-- a generator's object, whether or not a delegator has slept over it -/
def IsGenS (h : Heap) (a : Addr) (g : Nat) : Prop :=
  ∃ o nm qn, h.get? a = some o ∧ o.cls = .type "generator" ∧ o.data = .fields #[.int g 0, nm, qn] ∧ (o.slots = #[] ∨ o.slots = #[some (rawInt 0)])
theorem IsGenS.of {h : Heap} {a : Addr} {g : Nat} (x : h.IsGen a g) : IsGenS h a g := let ⟨o, nm, qn, h1, h2, h3, h4⟩ := x; ⟨o, nm, qn, h1, h2, h3, .inl h4⟩
theorem IsGenS.typeIs {s : Shared} {a : Addr} {g : Nat} (x : IsGenS s.heap a g) : s.TypeIs (.ref a) "generator" := let ⟨o, _, _, ho, hc, _⟩ := x; ⟨o, ho, hc⟩
/-- a delegator sleeps over it -/
def Slept (h : Heap) (a : Addr) (g : Nat) : Prop := ∃ o nm qn, h.get? a = some o ∧ o.cls = .type "generator" ∧ o.data = .fields #[.int g 0, nm, qn] ∧ o.slots = #[some (rawInt 1)]
section
variable {prog : Program} {w : World} {A : Around} {E : Value → Shared → Prop} {s : Shared}
theorem genNumberS {M : Model} {a : Addr} {g : Nat} {Q : Nat → Shared → Prop} (hg : IsGenS s.heap a g) (h : Q g s) : wpAny M A (Builtin.Generator.genNumber (.ref a)) Q E s := by
  obtain ⟨o, nm, qn, ho, _, hd, hsl⟩ := hg
  unfold Builtin.Generator.genNumber
  refine wpAny_bind (wpAny_load ho ?_)
  rcases hsl with hsl | hsl <;>
  · rw [hsl, hd]
    show wpAny M A (pure ((g : Int).toNat)) Q E s
    rw [Int.toNat_natCast]; exact wpAny_pure h
theorem pyIterS {a : Addr} {g : Nat} {Q : Value → Shared → Prop} (hg : IsGenS s.heap a g) (h : Q (.ref a) s) : wpAny (model prog w) A (pyIter (.ref a)) Q E s := by
  refine wpAny_pyIter_slot hg.typeIs slot_gen_iter (wpAny_call_entry slot_gen_iter hg.typeIs entry_gen_iter ?_ (args_gen_iter _))
  show wpAny _ _ (ret (.ref a)) _ _ s
  exact wpAny_pure ⟨_, rfl, "generator", _, hg.typeIs, slot_gen_next.lookup, h⟩
/-- the exception that ends a turn -/
def IsStop (h : Heap) (e : Value) : Prop := ∃ a o vs, e = .ref a ∧ h.get? a = some o ∧ o.cls = .type "StopIteration" ∧ o.data = .fields vs ∧ vs[5]? = some .none
theorem nextS {a : Addr} {g n : Nat} {gs : GenState} {P : Nat → Shared → Shared → Prop} {Y : Protocol} {Q : Option Value → Shared → Prop} (hh : A.handled = none)
    (hl : s.heap.NoLimit) (hroom : A.depth < recursionLimit) (hg : IsGenS s.heap a g) (hgs : s.gens[g]? = some gs)
    (hgo : gs.Goes (model prog w) A.in1 (fun n s₀ r s₁ => r = .ok (.ret .none) ∧ P n s₀ s₁) Y n (.send .none) (s.setGen g .running))
    (hY : ∀ v s₁ gs', gs'.bare = true → Y (n - 1) (s.setGen g .running) v s₁ (fun r' s'' => match n with
        | 0 => False
        | m + 1 => gs'.Goes (model prog w) A.in1 (fun n s₀ r s₁ => r = .ok (.ret .none) ∧ P n s₀ s₁) Y m r' s'') → Q (some v) (s₁.setGen g gs'))
    (hP : ∀ s₁, P n (s.setGen g .running) s₁ → ∀ h' e, (∀ b o, s₁.heap.get? b = some o → h'.get? b = some o) → IsStop h' e → E e { s₁.setGen g .finished with heap := h' }) :
    wpAny (model prog w) A (callSpecial? (.ref a) (Str.ofString "__next__")) Q E s := by
  refine wpAny_callSpecial?_slot (name := Str.ofString "__next__") hg.typeIs slot_gen_next
    (wpAny_call_entry slot_gen_next hg.typeIs entry_gen_next ?_ (args_gen_next _))
  show wpAny _ A.in1 (Builtin.Generator.genWake (.ref a) (.send .none)) _ _ s
  unfold Builtin.Generator.genWake
  refine wpAny_bind (wpAny_holding (genNumberS hg (wpAny_bind (wpAny_genState hgs ?_))))
  cases gs with
  | running => exact hgo.elim
  | finished => exact hgo.elim
  | _ =>
    refine wpAny_bind (wpAny_roomToWake hl hroom ?_)
    show wpAny _ A.in1 (.resume g (.send .none) [] _) _ _ s
    refine wpAny_resumeQ hgs hgo (fun x s₁ hx => ?_) (fun v s₁ gs' hb hv => ?_)
    · obtain ⟨rfl, hp⟩ := hx
      show wpAny _ A.in1 (newExc (.type "StopIteration") [] >>= _) _ _ _
      refine wpAny_bind ?_
      simp only [newExc, newTuple]
      refine wpAny_bind (wpAny_newObj_type ?_ (by size_fits))
      refine wpAny_bind (m := firstArgMember _ _) (wpAny_of_eq (a := Value.none) (by first | rfl | (simp only [firstArgMember]; rfl)) ?_)
      refine wpAny_newObj_type ?_ (by size_fits)
      simp only [raiseNew]
      refine wpAny_bind (wpAny_bind (wpAny_handled ?_))
      rw [show A.in1.handled = none from hh]
      refine wpAny_throw ?_
      exact hP s₁ hp _ _ (fun b o hb => Heap.get?_push_of_some _ (Heap.get?_push_of_some _ hb)) ⟨_, _, _, rfl, Heap.get?_push_size _ rfl, rfl, rfl, rfl⟩
    · exact wpAny_pure ⟨v, rfl, hY v s₁ gs' hb hv⟩
/-- to sleep over, and to wake -/
theorem slept_on {M : Model} {a : Addr} {g : Nat} {Q : Unit → Shared → Prop} (hg : IsGenS s.heap a g)
    (h : ∀ h', Slept h' a g → (∀ b o, b ≠ a → s.heap.get? b = some o → h'.get? b = some o) → Q () { s with heap := h' }) :
    wpAny M A (Builtin.Generator.sleptOver (.ref a) true) Q E s := by
  obtain ⟨o, nm, qn, ho, hc, hd, hsl⟩ := hg
  unfold Builtin.Generator.sleptOver
  refine wpAny_bind (wpAny_load ho ?_)
  rcases hsl with hsl | hsl <;>
  · simp only [hc, hsl]
    refine wpAny_updatePart ho (h _ ⟨_, nm, qn, Heap.get?_update_self _ ho (by simp [Obj.isFreed, hc, hd]), hc, hd, by simp [hsl, rawInt]⟩ fun b o' hb e => (Heap.get?_update_other _ _ (Ne.symm hb)).trans e)
theorem slept_off {M : Model} {a : Addr} {g : Nat} {Q : Unit → Shared → Prop} (hg : Slept s.heap a g)
    (h : ∀ h', IsGenS h' a g → (∀ b o, b ≠ a → s.heap.get? b = some o → h'.get? b = some o) → Q () { s with heap := h' }) :
    wpAny M A (Builtin.Generator.sleptOver (.ref a) false) Q E s := by
  obtain ⟨o, nm, qn, ho, hc, hd, hsl⟩ := hg
  unfold Builtin.Generator.sleptOver
  refine wpAny_bind (wpAny_load ho ?_)
  simp only [hc, hsl]
  refine wpAny_updatePart ho (h _ ⟨_, nm, qn, Heap.get?_update_self _ ho (by simp [Obj.isFreed, hc, hd]), hc, hd, .inr (by simp [hsl, rawInt])⟩ fun b o' hb e => (Heap.get?_update_other _ _ (Ne.symm hb)).trans e)
end
end Mine
end
section
open PySem PySem.W PyProof.Rows
set_option Elab.async false
set_option linter.unusedVariables false
set_option maxRecDepth 100000
namespace Mine
open Sem (wp)
theorem entry_yf : entryFor table "proto.yield_from" = some Builtin.«proto.yield_from» := by first | rfl | kernel_rfl
theorem quiet_yf (args : Args) : (Code.builtin "proto.yield_from" args).quiet = true := Code.quiet_builtin _ (by decide +kernel)
theorem close_gen : typeLookup (.type "generator") (Str.ofString "close") = pure (some (.builtin "generator.close")) := by first | rfl | kernel_rfl
theorem den_builtin {prog : Program} {w : World} {id : String} {args : Args} {b : Builtin} (hb : entryFor table id = some b) : (model prog w).den (.builtin id args) = b args := by
  show (match entryFor table id with | some b => b args | none => unsupported ((withoutEnding? id "#data").getD id)) = _
  rw [hb]
abbrev cY (a : Addr) : Code := .builtin "proto.yield_from" ⟨[.ref a, .bool false, .none], []⟩
section
variable {prog : Program} {w : World} {A : Around} {fs : List Frame} {s : Shared}
/-- a generator that is asked by its delegator -/
def InAt (prog : Program) (w : World) (B : Around) (a : Addr) (g : Nat) (Fp Wr : Addr → Obj → Prop) (outs : List Str) (Z : Addr) (j : Nat) (s : Shared) : Prop :=
  IsGenS s.heap a g ∧ s.heap.NoLimit ∧ ∃ gs, s.gens[g]? = some gs ∧ ∀ s'' : Shared, Still Fp (fun _ => False) s s'' → Z < s''.heap.objs.size → gs.Goes (model prog w) B (retF Wr fun _ => False) (protoF Fp Wr (fun _ => False) outs) (outs.length - j) (.send .none) s''
theorem ends_stop {M : Model} {E : Value → Shared → Prop} {e : Value} {Q : Bool → Shared → Prop} (h : IsStop s.heap e) (hQ : Q true s) : wpAny M A (Builtin.Generator.endsTheTurnAsAValue false e) Q E s := by
  obtain ⟨a, o, vs, rfl, ho, hc, hd, hv⟩ := h
  unfold Builtin.Generator.endsTheTurnAsAValue Builtin.Generator.isStopAndMetaclass
  refine wpAny_bind (wpAny_bind (wpAny_typeOf (T := "StopIteration") ⟨o, ho, hc⟩ ?_))
  refine wpAny_bind (wpAny_of_eq isSubtype_stop ?_)
  exact wpAny_bind (wpAny_pure (wpAny_pure (wpAny_pure hQ)))
theorem shows_not {a : Addr} {g : Nat} {fs : List Frame} (hg : Slept s.heap a g) (hfg : fs.any Frame.guarded = false) (hz : s.heap.life.registered = []) : closingShows s fs (cY a) true = false := by
  obtain ⟨o, nm, qn, ho, hc, hd, _⟩ := hg
  have h1 : o.genNumber? = some g := by simp [Obj.genNumber?, hc, hd]
  simp [closingShows, hfg, delegateShows, ho, h1, hz]
theorem Kept.mono_at {Wr Wr' : Addr → Obj → Prop} {Gp Gp' : Nat → Prop} {s s' : Shared} (x : Kept Wr Gp s s') (h : ∀ b o, s.heap.get? b = some o → Wr b o → Wr' b o) (hg : ∀ k, Gp k → Gp' k) : Kept Wr' Gp' s s' :=
  ⟨fun b o hb e => x.heap b o (fun q => hb (h b o e q)) e, x.gsize, fun k hk hl => x.gens k (fun q => hk (hg k q)) hl, x.bare, x.drawn, x.os, x.toks⟩
/-- the delegate's whole course: outs from j on, then the rest of the segment -/
theorem yf_loop {c : Code} {k₀ : Result → Sem Fin} {g₀ : Bool} {l₀ : List Value} {p₀ : Pos} {fs₀ : List Frame} {FpO WrO : Addr → Obj → Prop} {GiO : Nat → Prop} {outsO : List Str} {a : Addr} {g : Nat} {Fp Wr : Addr → Obj → Prop} {outs : List Str}
    {Inv : Shared → Prop} {rest : Nat} {Z : Addr} (hZ : ∀ s, Inv s → Z < s.heap.objs.size) (hfs : fs = .ret k₀ none g₀ l₀ c p₀ [] :: fs₀) (hng : splitAtGen fs = none) (hfg : fs.any Frame.guarded = false)
    (hh : (A.over (cY a) fs).handled = none) (hroom : (A.over (cY a) fs).depth < recursionLimit)
    (hFS : ∀ s b o, Inv s → s.heap.get? b = some o → Fp b o → FpO b o) (hFa : ∀ o, o.cls = .type "generator" → FpO a o) (hFs : ∀ o, FpO cStatics o) (haF : ∀ o, ¬ Fp a o) (hWa : ∀ o, ¬ Wr a o) (hWs : ∀ o, ¬ Wr cStatics o) (hWO : ∀ s b o, Inv s → s.heap.get? b = some o → Wr b o → WrO b o) (hWOa : ∀ s o, Inv s → s.heap.get? a = some o → WrO a o) (hGg : GiO g) (has : a ≠ cStatics)
    (hI1 : ∀ s s', Inv s → Kept (fun b o => b = a ∨ Wr b o) (fun k => k = g) s s' → Inv s') (hI2 : ∀ s s', Inv s → Still FpO GiO s s' → Inv s')
    (hout : ∀ j x, outs[j]? = some x → outsO[outsO.length - (outs.length - j + rest)]? = some x) (hlen : outs.length + rest ≤ outsO.length)
    (hK : ∀ s₁ s, Inv s → Kept WrO GiO s₁ s → s.gens[g]? = some .finished → SegL (model prog w) A (retF WrO GiO) (protoF FpO WrO GiO outsO) rest s₁ c (k₀ (.ok (.ret .none))) fs₀ s) :
    ∀ (k j : Nat) (s₀ s : Shared), outs.length - j = k → j ≤ outs.length → InAt prog w (A.over (cY a) fs).in1 a g Fp Wr outs Z j s → Inv s → Kept WrO GiO s₀ s →
      SegL (model prog w) A (retF WrO GiO) (protoF FpO WrO GiO outsO) (outs.length - j + rest) s₀ (cY a) ((model prog w).den (cY a)) fs s := by
  intro k
  induction k with
  | zero =>
    intro j s₀ s hk hj hin hI hkp
    have hjn : j = outs.length := by omega
    subst hjn
    obtain ⟨hg, hl, gs, hgs, hgo⟩ := hin
    rw [Nat.sub_self] at hgo
    rw [Nat.sub_self, Nat.zero_add]
    have hgl : g < s.gens.size := by
      rcases Nat.lt_or_ge g s.gens.size with h' | h'
      · exact h'
      · rw [Array.getElem?_eq_none h'] at hgs; cases hgs
    rw [← wrap_same ((model prog w).den (cY a)), den_builtin entry_yf]
    unfold Builtin.«proto.yield_from»
    refine segL_bw (wpAny_pure ?_)
    refine segL_bw (wpAny_attempt (wpAny_holding ?_))
    show wpAny _ _ (rule "yield-from.next" >>= fun _ => callSpecial? (.ref a) (Str.ofString "__next__") >>= _) _ _ s
    refine wpAny_bind (wpAny_rule (wpAny_bind (nextS (P := endF Wr fun _ => False) hh hl hroom hg hgs (hgo _ (still_setGen id) (hZ s hI)) (fun v s₁ gs' hb hv => ?_) (fun s₁ hp h' e hk' hst => ?_))))
    · exact (hv.2.2 _ .refl).elim
    · have K1 : Kept (fun b o => b = a ∨ Wr b o) (fun k => k = g) s { s₁.setGen g .finished with heap := h' } := by
        have K := kept_setGen (y := .finished) hp.2 rfl rfl
        exact ⟨fun b o hb q => hk' b o (K.heap b o (fun x => hb (.inr x)) q), K.gsize, fun k hk hl => K.gens k (fun x => x.elim hk id) hl, K.bare, K.drawn, K.os, K.toks⟩
      refine segL_bw (ends_stop hst ?_)
      show SegL _ _ _ _ _ _ _ (Sem.wrap _ _ _ _ (rule "yield-from.value" >>= fun _ => field e 5 >>= fun x => ret x)) _ _
      refine segL_bw (wpAny_rule ?_)
      obtain ⟨ae, oe, vs, rfl, hoe, hce, hde, hve⟩ := id hst
      refine segL_bw (wpAny_field hoe hde hve ?_)
      subst hfs
      refine segL_leaf (.ok (.ret .none)) (hK _ _ (hI1 _ _ hI K1) (hkp.trans (K1.mono_at (fun b o e q => q.elim (fun q => by subst q; exact hWOa s o hI e) (hWO s b o hI e)) fun k q => q ▸ hGg)) ?_)
      have : g < s₁.gens.size := by
        have h2 := hp.2.gsize
        simp [Shared.setGen] at h2
        omega
      simp [Shared.setGen, this]
  | succ k ih =>
    intro j s₀ s hk hj hin hI hkp
    have hlt : j < outs.length := by omega
    obtain ⟨hg, hl, gs, hgs, hgo⟩ := hin
    have hgl : g < s.gens.size := by
      rcases Nat.lt_or_ge g s.gens.size with h' | h'
      · exact h'
      · rw [Array.getElem?_eq_none h'] at hgs; cases hgs
    obtain ⟨m, hm⟩ : ∃ m, outs.length - j = m + 1 := ⟨outs.length - j - 1, by omega⟩
    rw [hm] at hgo
    rw [hm, show m + 1 + rest = m + rest + 1 by omega]
    rw [← wrap_same ((model prog w).den (cY a)), den_builtin entry_yf]
    unfold Builtin.«proto.yield_from»
    refine segL_bw (wpAny_pure ?_)
    refine segL_bw (wpAny_attempt (wpAny_holding ?_))
    show wpAny _ _ (rule "yield-from.next" >>= fun _ => callSpecial? (.ref a) (Str.ofString "__next__") >>= _) _ _ s
    refine wpAny_bind (wpAny_rule (wpAny_bind (nextS (P := endF Wr fun _ => False) hh hl hroom hg hgs (hgo _ (still_setGen id) (hZ s hI)) (fun v s₁ gs' hb hv => ?_) (fun s₁ hp h' e hk' hst => ?_))))
    rotate_left
    · exact absurd hp.1 (Nat.succ_ne_zero m)
    obtain ⟨⟨y, t, hy, rfl⟩, hk1, hkap⟩ := hv
    have hidx : outs.length - 1 - (m + 1 - 1) = j := by omega
    rw [hidx] at hy
    have K := kept_setGen (y := gs') hk1 rfl hb
    have hlt1 : g < s₁.gens.size := by
      have h2 := hk1.gsize
      simp [Shared.setGen] at h2
      omega
    have hg1 : IsGenS (s₁.setGen g gs').heap a g := let ⟨o, nm, qn, ho, r⟩ := hg; ⟨o, nm, qn, K.heap a o (hWa o) ho, r⟩
    have hl1 : (s₁.setGen g gs').heap.NoLimit := let ⟨mc, hns, hnn⟩ := hl; ⟨mc, hns.at' fun o e => K.heap cStatics o (hWs o) e, hnn⟩
    refine wpAny_pure ?_
    refine segL_bw (wpAny_typeOf hg1.typeIs ?_)
    refine segL_bw (wpAny_of_eq close_gen ?_)
    refine segL_bw (wpAny_pure ?_)
    refine segL_bw (slept_on hg1 fun h2 hsl ho2 => ?_)
    have K2 : Kept (fun b o => b = a ∨ Wr b o) (fun k => k = g) s { s₁.setGen g gs' with heap := h2 } :=
      ⟨fun b o hb q => ho2 b o (fun x => hb (.inl x)) (K.heap b o (fun x => hb (.inr x)) q), K.gsize, fun k hk hl => K.gens k (fun x => x.elim hk id) hl, K.bare, K.drawn, K.os, K.toks⟩
    have KO := hkp.trans (K2.mono_at (fun b o e q => q.elim (fun q => by subst q; exact hWOa s o hI e) (hWO s b o hI e)) fun k q => q ▸ hGg)
    refine segL_yield hng (shows_not hsl hfg) ⟨⟨y, t, ?_, rfl⟩, KO, fun s'' hs'' => ?_⟩
    · have := hout j y hy
      rw [hm] at this
      rw [show outsO.length - 1 - (m + rest) = outsO.length - (m + 1 + rest) by omega]; exact this
    have hsl2 : Slept s''.heap a g := let ⟨o, nm, qn, ho, r⟩ := hsl; ⟨o, nm, qn, hs''.heap a o (hFa o r.1) ho, r⟩
    refine segL_bw (wpAny_pure ?_)
    refine segL_bw (slept_off hsl2 fun h3 hg3 ho3 => ?_)
    refine segL_bw (wpAny_of_eq (a := Value.none) rfl ?_)
    refine segL_again (quiet_yf _) ?_
    have I2 := hI2 _ _ (hI1 _ _ hI K2) hs''
    have K3 : Kept (fun b o => b = a ∨ Wr b o) (fun k => k = g) s'' { s'' with heap := h3 } :=
      ⟨fun b o hb q => ho3 b o (fun x => hb (.inl x)) q, Nat.le_refl _, fun _ _ _ => rfl, id, rfl, rfl, Nat.le_refl _⟩
    have e : outs.length - (j + 1) = m := by omega
    have := ih (j + 1) s'' { s'' with heap := h3 } (by omega) hlt ⟨hg3, ?_, gs', ?_, fun s4 h4 _ => ?_⟩ (hI1 _ _ I2 K3) (K3.mono_at (fun b o e q => q.elim (fun q => by subst q; exact hWOa s'' o I2 e) (hWO s'' b o I2 e)) fun k q => q ▸ hGg)
    · rw [e] at this; exact this
    · exact let ⟨mc, hns, hnn⟩ := hl1; ⟨mc, hns.at' fun o q => ho3 cStatics o (Ne.symm has) (hs''.heap cStatics o (hFs o) (ho2 cStatics o (Ne.symm has) q)), hnn⟩
    · exact (hs''.gens g hGg (by simpa [Shared.setGen] using hlt1)).trans (by simp [Shared.setGen, hlt1])
    · rw [e]
      refine hkap s4 (Still.trans (still_setGen (g := g) (x := gs') id) (Still.trans ?_ h4))
      exact ⟨fun b o hb q => by
          have hba : b ≠ a := fun x => haF o (x ▸ hb)
          exact ho3 b o hba (hs''.heap b o (hFS _ b o (hI1 _ _ hI K2) (ho2 b o hba q) hb) (ho2 b o hba q)), fun _ hk _ => hk.elim, hs''.gsize⟩
end
end Mine
end
section
open PySem PySem.W PyProof.Rows
set_option Elab.async false
set_option linter.unusedVariables false
set_option maxRecDepth 100000
namespace Mine
open Sem (wp)
section
variable {prog : Program} {w : World} {A : Around} {R : GenEnd} {Y : Protocol} {n : Nat} {s₀ : Shared} {c : Code} {fs : List Frame} {s : Shared} {env : Env}
  {K : Flow → Sem Fin} {H : Value → Sem Fin} {gd : Bool → Bool} {lv : List Value → List Value}
/-- the statement `yield from e`, where e is a generator -/
theorem segL_YieldFrom {e : Expr} {ypos pos : Pos} {a : Addr} {g : Nat} (hi : interactive env = false)
    (h : wpAny (model prog w) (A.over c fs) (eval e env) (fun v s₁ => v = .ref a ∧ IsGenS s₁.heap a g ∧ ∀ (k₀ : Result → Sem Fin) (l₀ : List Value) (p₀ : Pos),
        (∀ n' s₀' s₂, SegL (model prog w) A R Y n' s₀' c (K .next) fs s₂ → SegL (model prog w) A R Y n' s₀' c (k₀ (.ok (.ret .none))) fs s₂) →
        SegL (model prog w) A R Y n s₀ (cY a) ((model prog w).den (cY a)) (.ret k₀ none (gd false) l₀ c p₀ [] :: fs) s₁) (fun _ _ => False) s) :
    SegL (model prog w) A R Y n s₀ c ((exec (.Expr (.YieldFrom e ypos) pos) env).wrap K H gd lv) fs s := by
  rw [exec_Expr env _ pos hi rfl]
  refine segL_bw (wpAny_standAt ?_)
  show SegL _ _ _ _ _ _ _ (Sem.wrap _ _ _ _ ((eval e env >>= fun v => standAt ypos >>= fun _ => yieldFrom env v) >>= fun x => dropValue (.YieldFrom e ypos) pos x)) _ _
  rw [Sem.bind_eq_wrap', Sem.wrap_wrap]
  refine segL_bw (wpAny_mono h (fun v s₁ h₁ => ?_) fun _ _ q => q.elim)
  obtain ⟨rfl, hg, h₁⟩ := h₁
  refine segL_bw (wpAny_standAt ?_)
  unfold yieldFrom
  refine segL_bw (wpAny_typeOf hg.typeIs ?_)
  show SegL _ _ _ _ _ _ _ (Sem.wrap _ _ _ _ (holding [.ref a] (pyIter (.ref a)) >>= fun it => runValue (.builtin "proto.yield_from" ⟨[it, .bool false, .none], []⟩))) _ _
  refine segL_bw (wpAny_holding (pyIterS hg ?_))
  refine segL_call fun p => h₁ _ _ p fun n' s₀' s₂ h₂ => ?_
  exact h₂
end
end Mine
end
section
open PySem PySem.W PyProof.Rows
set_option Elab.async false
set_option linter.unusedVariables false
set_option maxRecDepth 100000
set_option maxHeartbeats 4000000
namespace Mine
abbrev prEnv (C : Addr) : Env := envOf (Str.ofString "Differ._plain_replace") (fScope (mt 7 4)) C 289 (.ref 288)
def prS (i : Nat) : Stmt := nth (fBody (mt 7 4)) i
section
variable {w : World} {A : Around} {h₀ : Heap} {p : Program} {ls : List Str} {mg mb : Str → Option Value} {s : Shared}
theorem pr_assert {C : Addr} {m : Str → Option Value} {alo ahi blo bhi : Int} {t1 t2 t3 t4 : Tok} {Q : Flow → Shared → Prop} (X : (K w.params).In h₀) (T : TopRead p ls mg mb h₀) (F : Fr h₀ C s.heap m)
    (h1 : m (Str.ofString "alo") = some (.int alo t1)) (h2 : m (Str.ofString "ahi") = some (.int ahi t2)) (h3 : m (Str.ofString "blo") = some (.int blo t3)) (h4 : m (Str.ofString "bhi") = some (.int bhi t4))
    (ha : alo < ahi) (hb : blo < bhi) (h : ∀ tk, s.toks ≤ tk → Q .next { s with toks := tk }) :
    wpAny (model prog w) A (exec (prS 0) (prEnv C)) Q (fun _ _ => False) s := by
  have KN := fun y => kn4 h1 h2 h3 h4 y
  replace F := Fr.congr F (fun y => (KN y).symm)
  clear h1 h2 h3 h4
  have X' := X
  have hrow : row = row := rfl
  revert hrow X
  k_fill
  intro _ X
  show wpAny _ _ (exec (Stmt.Assert _ _ _) _) _ _ _
  w_on
  try k_fold
  k_steps
  all_goals first | exact h _ (by omega) | omega | skip
  trace_state
end
end Mine
end
section
open PySem PySem.W PyProof.Rows
set_option Elab.async false
set_option linter.unusedVariables false
set_option maxRecDepth 100000
set_option maxHeartbeats 4000000
namespace Mine
section
variable {w : World} {A : Around} {h₀ : Heap} {p : Program} {ls : List Str} {mg mb : Str → Option Value} {E : Value → Shared → Prop} {s : Shared}
/-- what a generator of _dump leans on before it has begun -/
def dFp0 (h₀ : Heap) (C lx : Addr) : Addr → Obj → Prop := fun b _ => b = C ∨ b = lx ∨ ∃ o', h₀.get? b = some o'
/-- a generator of texts that has not begun, for whatever surroundings -/
def DAt (w : World) (h₀ : Heap) (a : Addr) (g : Nat) (C lx : Addr) (outs : List Str) (s : Shared) : Prop :=
  IsGenS s.heap a g ∧ s.heap.NoLimit ∧ ∃ gs, s.gens[g]? = some gs ∧ gs.bare = true ∧ ∀ (A' : Around) (an : Addr), A'.handled = none → C < an → ∀ s'' : Shared, Still (dFp0 h₀ C lx) noG s s'' → an ≤ s''.heap.objs.size →
    gs.Goes (model prog w) A'.in1 (retF (dWr C an) noG) (protoF (dFp h₀ C an lx) (dWr C an) noG outs) outs.length (.send .none) s''
theorem mk_dumpG {L lx : Addr} {m : Str → Option Value} {news : List (Addr × Obj)} {self : Value} {tag : Str} {t u v : Tok} {xs : List Str} {vs : List Value} {lo n : Nat} {R : Result → Shared → Prop}
    (X : (K w.params).In h₀) (T : TopRead p ls mg mb h₀) (hroom : A.depth < recursionLimit) (F : Fr h₀ L s.heap m) (N : News h₀ L s.heap news) (hl : s.heap.IsList lx vs.toArray)
    (hvs : StrsAre vs xs) (hlo : lo + n ≤ xs.length) (hxs : xs.length < 2 ^ 61) (hsz : ∀ x ∈ xs, tag.length + 1 + x.length ≤ sizeLine)
    (h : ∀ C a h' tk, s.toks ≤ tk → C < a → s.heap.objs.size ≤ C → a < h'.objs.size → (∀ b o, s.heap.get? b = some o → h'.get? b = some o) → Fr h₀ L h' m → News h₀ L h' news → (∃ m', h'.Ns C m') →
      (∀ s' : Shared, s'.heap = h' → s'.gens = s.gens.push (.fresh (.func (fBody (mt 7 3)) (dumpEnv C))) → DAt w h₀ a s.gens.size C lx (dumpOut tag xs lo n) s') →
      R (.ok (.ret (.ref a))) { s with heap := h', gens := s.gens.push (.fresh (.func (fBody (mt 7 3)) (dumpEnv C))), toks := tk }) :
    codeAny (model prog w) A (.call (.ref 282) ⟨[self, .str tag t, .ref lx, .int (lo : Int) u, .int ((lo + n : Nat) : Int) v], []⟩) R s := by
  have Xs := X.keeps F.keep
  refine codeAny_call_generator (fd := dumpFd) (body := fBody (mt 7 3)) hroom (Xs _ _ (k_dump _)) rfl rfl rfl rfl (codeRec_of Xs (c_dump _)) ?_
  refine BindsTo.of_eq (dump_binds _ _ _ _ _) _ _ _ _ ?_
  refine wpAny_newFunctionEnv dump_cells (dump_locs _ _ _ _ _) (fun h' hns hsb => ?_)
  have hsz' : h'.objs.size = s.heap.objs.size + 1 := by rw [hsb.1, Heap.size_push]
  have keep' : ∀ b o, s.heap.get? b = some o → h'.get? b = some o := fun b o e => hsb.extBut b o (Nat.ne_of_lt (Heap.lt_size e)) (Heap.get?_push_of_some _ e)
  refine ⟨T.nolimit.keeps fun b o e => keep' b o (F.keep b o e), ?_⟩
  have hLC : L < s.heap.objs.size := F.ns.lt
  have keep2 : ∀ (o' : Obj) b o, s.heap.get? b = some o → (h'.push o').get? b = some o := fun o' b o e => Heap.get?_push_of_some _ (keep' b o e)
  obtain ⟨ol, hol, hol2⟩ := id hl
  have hlx : lx < s.heap.objs.size := Heap.lt_size hol
  refine h s.heap.objs.size h'.objs.size (h'.push _) _ (by dsimp only; omega) (by rw [hsz']; exact Nat.lt_succ_self _) (Nat.le_refl _) (by rw [Heap.size_push]; exact Nat.lt_succ_self _) (keep2 _) ⟨F.ns.keeps (keep2 _), fun b o e => keep2 _ b o (F.keep b o e), F.above⟩
    (fun q hq => ⟨keep2 _ _ _ (N q hq).1, (N q hq).2⟩) ⟨_, hns.push _⟩ fun s' hs' hg' => ?_
  refine ⟨.of ⟨_, _, _, by rw [hs']; exact Heap.get?_push_size _ rfl, rfl, rfl, rfl⟩, T.nolimit.keeps fun b o e => by rw [hs']; exact keep2 _ b o (F.keep b o e), _, by rw [hg']; exact Array.getElem?_push_size .., rfl, fun A' an hA' hCan s'' hst han => ?_⟩
  rw [dumpOut_length hlo]
  have kF : ∀ b o, dFp0 h₀ s.heap.objs.size lx b o → (h'.push _).get? b = some o → s''.heap.get? b = some o := fun b o hb e => hst.heap b o hb (by rw [hs']; exact e)
  refine ⟨rfl, dump_seg (A := A'.in1) (a := an) (m := fun y => (dumpBinds self (.str tag t) (.ref lx) (.int (lo : Int) u) (.int ((lo + n : Nat) : Int) v)).reverse.lookup y) X T hA' hCan (Nat.ne_of_lt hlx) hvs hlo hxs hsz han ⟨?_, ?_, ?_⟩ rfl rfl ?_ rfl rfl .refl⟩
  · exact (hns.push _).at' fun o e => kF _ o (.inl rfl) e
  · exact fun b o e => kF b o (.inr (.inr ⟨o, e⟩)) (keep2 _ b o (F.keep b o e))
  · exact Nat.le_of_lt (Nat.lt_of_le_of_lt F.above hLC)
  · exact (hl.at fun o e => kF lx o (.inr (.inl rfl)) (keep2 _ lx o e))
theorem dump_callG {L lx : Addr} {m : Str → Option Value} {news : List (Addr × Obj)} {self : Value} {tag : Str} {t u v : Tok} {xs : List Str} {vs : List Value} {lo n : Nat} {hi lo' : Int} {c : Nat} {Q : Value → Shared → Prop}
    (X : (K w.params).In h₀) (T : TopRead p ls mg mb h₀) (hroom : A.depth < recursionLimit) (F : Fr h₀ L s.heap m) (N : News h₀ L s.heap news) (hl : (lx, listOf vs.toArray c) ∈ news)
    (hvs : StrsAre vs xs) (hlo' : lo' = (lo : Int)) (hhi : hi = ((lo + n : Nat) : Int)) (hlo : lo + n ≤ xs.length) (hxs : xs.length < 2 ^ 61) (hsz : ∀ x ∈ xs, tag.length + 1 + x.length ≤ sizeLine)
    (h : ∀ C a h' tk, s.toks ≤ tk → C < a → s.heap.objs.size ≤ C → a < h'.objs.size → (∀ b o, s.heap.get? b = some o → h'.get? b = some o) → Fr h₀ L h' m → News h₀ L h' news → (∃ m', h'.Ns C m') →
      (∀ s' : Shared, s'.heap = h' → s'.gens = s.gens.push (.fresh (.func (fBody (mt 7 3)) (dumpEnv C))) → DAt w h₀ a s.gens.size C lx (dumpOut tag xs lo n) s') →
      Q (.ref a) { s with heap := h', gens := s.gens.push (.fresh (.func (fBody (mt 7 3)) (dumpEnv C))), toks := tk }) :
    wpAny (model prog w) A (call (.ref 282) [self, .str tag t, .ref lx, .int lo' u, .int hi v]) Q E s := by
  subst hlo' hhi
  refine wpAny_call ?_
  exact mk_dumpG X T hroom F N (isL N hl) hvs hlo hxs hsz fun C a h' tk h0 h1 h2 h3 h4 F' N' hC G => h C a h' tk h0 h1 h2 h3 h4 F' N' hC G
end
end Mine
end
section
open PySem PySem.W PyProof.Rows
set_option Elab.async false
set_option linter.unusedVariables false
set_option maxRecDepth 100000
set_option maxHeartbeats 4000000
namespace Mine
abbrev difEs (w : World) (t1 t2 : Tok) : List DictEntry := [{ hash := PyData.keyHash w.params (Str.ofString "linejunk"), key := .str (Str.ofString "linejunk") t1, val := .none }, { hash := PyData.keyHash w.params (Str.ofString "charjunk"), key := .str (Str.ofString "charjunk") t2, val := .none }]
def thenOf : Stmt → List Stmt
  | .If _ b _ _ => b
  | _ => []
def elseOf : Stmt → List Stmt
  | .If _ _ b _ => b
  | _ => []
section
variable {w : World} {A : Around} {h₀ : Heap} {p : Program} {ls : List Str} {mg mb : Str → Option Value} {s : Shared}
theorem DAt.move {C lx a : Addr} {g : Nat} {outs : List Str} {s' : Shared} (D : DAt w h₀ a g C lx outs s) (hg : IsGenS s'.heap a g) (hs : ∀ o, s.heap.get? cStatics = some o → s'.heap.get? cStatics = some o)
    (hst : Still (dFp0 h₀ C lx) (fun k => k = g) s s') : DAt w h₀ a g C lx outs s' := by
  obtain ⟨h1, ⟨mc, hns, hnn⟩, gs, h3, hb, h4⟩ := D
  have hlt : g < s.gens.size := by
    rcases Nat.lt_or_ge g s.gens.size with h' | h'
    · exact h'
    · rw [Array.getElem?_eq_none h'] at h3; cases h3
  exact ⟨hg, ⟨mc, hns.at' hs, hnn⟩, gs, (hst.gens g rfl hlt).trans h3, hb, fun A' an hA' hC s'' hs'' => h4 A' an hA' hC s'' (Still.trans ⟨hst.heap, fun _ q => q.elim, hst.gsize⟩ hs'')⟩
theorem pr_d1 {C xi dx lx : Addr} {m : Str → Option Value} {t1 t2 u v : Tok} {xs : List Str} {vs : List Value} {lo n c : Nat} {Q : Flow → Shared → Prop} (X : (K w.params).In h₀) (T : TopRead p ls mg mb h₀) (hroom : A.depth < recursionLimit) (F : Fr h₀ C s.heap m)
    (h1 : m (Str.ofString "self") = some (.ref xi)) (h2 : m (Str.ofString "b") = some (.ref lx)) (h3 : m (Str.ofString "blo") = some (.int (lo : Int) u)) (h4 : m (Str.ofString "bhi") = some (.int ((lo + n : Nat) : Int) v))
    (o1 : Own h₀ C s.heap xi (instObj 313 dx)) (o2 : Own h₀ C s.heap dx (dictOf (difEs w t1 t2) 2)) (o3 : Own h₀ C s.heap lx (listOf vs.toArray c)) (hvs : StrsAre vs xs) (hlo : lo + n ≤ xs.length) (hxs : xs.length < 2 ^ 61) (hsz : ∀ x ∈ xs, 2 + x.length ≤ sizeLine)
    (h : ∀ C1 a h' tk, s.toks ≤ tk → C < C1 → C1 < a → s.heap.objs.size ≤ C1 → a < h'.objs.size → Kp C s.heap h' → Fr h₀ C h' (fun y => if y = Str.ofString "first" then some (.ref a) else m y) → (∃ m', h'.Ns C1 m') →
      DAt w h₀ a s.gens.size C1 lx (dumpOut (Str.ofString "+") xs lo n) { s with heap := h', gens := s.gens.push (.fresh (.func (fBody (mt 7 3)) (dumpEnv C1))), toks := tk } →
      Q .next { s with heap := h', gens := s.gens.push (.fresh (.func (fBody (mt 7 3)) (dumpEnv C1))), toks := tk }) :
    wpAny (model prog w) A (exec (nth (thenOf (prS 1)) 0) (prEnv C)) Q (fun _ _ => False) s := by
  have KN := fun y => kn4 h1 h2 h3 h4 y
  replace F := Fr.congr F (fun y => (KN y).symm)
  obtain ⟨oth, N, hoth, hfr, -⟩ := led4 F
  replace N := o1.news (o2.news (o3.news N))
  clear h1 h2 h3 h4
  have X' := X
  have hrow : row = row := rfl
  revert hrow X
  k_fill
  intro _ X
  show wpAny _ _ (exec (Stmt.Assign _ _ _) _) _ _ _
  w_on
  try k_fold
  k_steps
  refine dump_callG (lo := lo) (n := n) X' T hroom F N (.tail _ (.tail _ (.head _))) hvs rfl rfl hlo hxs (fun x hx => by have := hsz x hx; rw [show (Str.ofString "+").length = 1 from rfl]; omega) ?_
  intro C1 a h' tk htk hCa hsC hah keep F' N' hC1 G
  obtain ⟨oth2, N2, hoth2, -, -⟩ := led4 F'
  have D : DAt w h₀ a s.gens.size C1 lx (dumpOut (Str.ofString "+") xs lo n) { s with heap := h', gens := s.gens.push (.fresh (.func (fBody (mt 7 3)) (dumpEnv C1))), toks := tk } :=
    G _ rfl rfl
  have kp1 := hoth F' N' (by intro q hq; repeat (first | exact hq | apply List.mem_cons_of_mem))
  have hCC : C < C1 := Nat.lt_of_lt_of_le F.ns.lt hsC
  clear N' G
  k_steps
  rename_i h2 F2 N3
  have kp2 := hoth2 F2 N3 (fun q hq => hq)
  have hcs : ∀ o, h'.get? cStatics = some o → h2.get? cStatics = some o := fun o e => kp2 cStatics o (fun q => by
    obtain ⟨mc, ⟨os, _, _, hos, _⟩, _⟩ := id T.nolimit
    exact absurd (Nat.lt_of_lt_of_le (Heap.lt_size hos) F2.above) (q ▸ Nat.lt_irrefl _)) e
  have haC : a ≠ C := Nat.ne_of_gt (Nat.lt_trans hCC hCa)
  refine h C1 a h2 _ (by dsimp only at htk ⊢; omega) hCC hCa hsC (let ⟨o, _, _, ho, _⟩ := D.1; Heap.lt_size (kp2 a o haC ho)) (fun b o hb e => kp2 b o hb (kp1 b o hb e)) (Fr.congr F2 (fun y => st1 KN y)) (let ⟨m', q⟩ := hC1; ⟨m', q.at' fun o e => kp2 C1 o (Nat.ne_of_gt hCC) e⟩)
    (DAt.move D (let ⟨o, nm, qn, ho, r⟩ := D.1; ⟨o, nm, qn, kp2 a o haC ho, r⟩) hcs ⟨fun b o hb e => kp2 b o (fun q => ?_) e, fun _ _ _ => rfl, Nat.le_refl _⟩)
  subst q
  rcases hb with q | q | ⟨o', q⟩
  · exact Nat.lt_irrefl _ (q ▸ hCC)
  · exact o3.2.1 q.symm
  · exact Nat.lt_irrefl _ (Nat.lt_of_lt_of_le (Heap.lt_size q) F2.above)
theorem pr_d2 {C xi dx lx : Addr} {m : Str → Option Value} {t1 t2 u v : Tok} {xs : List Str} {vs : List Value} {lo n c : Nat} {Q : Flow → Shared → Prop} (X : (K w.params).In h₀) (T : TopRead p ls mg mb h₀) (hroom : A.depth < recursionLimit) (F : Fr h₀ C s.heap m)
    (h1 : m (Str.ofString "self") = some (.ref xi)) (h2 : m (Str.ofString "a") = some (.ref lx)) (h3 : m (Str.ofString "alo") = some (.int (lo : Int) u)) (h4 : m (Str.ofString "ahi") = some (.int ((lo + n : Nat) : Int) v))
    (o1 : Own h₀ C s.heap xi (instObj 313 dx)) (o2 : Own h₀ C s.heap dx (dictOf (difEs w t1 t2) 2)) (o3 : Own h₀ C s.heap lx (listOf vs.toArray c)) (hvs : StrsAre vs xs) (hlo : lo + n ≤ xs.length) (hxs : xs.length < 2 ^ 61) (hsz : ∀ x ∈ xs, 2 + x.length ≤ sizeLine)
    (h : ∀ C1 a h' tk, s.toks ≤ tk → C < C1 → C1 < a → s.heap.objs.size ≤ C1 → a < h'.objs.size → Kp C s.heap h' → Fr h₀ C h' (fun y => if y = Str.ofString "second" then some (.ref a) else m y) → (∃ m', h'.Ns C1 m') →
      DAt w h₀ a s.gens.size C1 lx (dumpOut (Str.ofString "-") xs lo n) { s with heap := h', gens := s.gens.push (.fresh (.func (fBody (mt 7 3)) (dumpEnv C1))), toks := tk } →
      Q .next { s with heap := h', gens := s.gens.push (.fresh (.func (fBody (mt 7 3)) (dumpEnv C1))), toks := tk }) :
    wpAny (model prog w) A (exec (nth (thenOf (prS 1)) 1) (prEnv C)) Q (fun _ _ => False) s := by
  have KN := fun y => kn4 h1 h2 h3 h4 y
  replace F := Fr.congr F (fun y => (KN y).symm)
  obtain ⟨oth, N, hoth, hfr, -⟩ := led4 F
  replace N := o1.news (o2.news (o3.news N))
  clear h1 h2 h3 h4
  have X' := X
  have hrow : row = row := rfl
  revert hrow X
  k_fill
  intro _ X
  show wpAny _ _ (exec (Stmt.Assign _ _ _) _) _ _ _
  w_on
  try k_fold
  k_steps
  refine dump_callG (lo := lo) (n := n) X' T hroom F N (.tail _ (.tail _ (.head _))) hvs rfl rfl hlo hxs (fun x hx => by have := hsz x hx; rw [show (Str.ofString "-").length = 1 from rfl]; omega) ?_
  intro C1 a h' tk htk hCa hsC hah keep F' N' hC1 G
  obtain ⟨oth2, N2, hoth2, -, -⟩ := led4 F'
  have D : DAt w h₀ a s.gens.size C1 lx (dumpOut (Str.ofString "-") xs lo n) { s with heap := h', gens := s.gens.push (.fresh (.func (fBody (mt 7 3)) (dumpEnv C1))), toks := tk } :=
    G _ rfl rfl
  have kp1 := hoth F' N' (by intro q hq; repeat (first | exact hq | apply List.mem_cons_of_mem))
  have hCC : C < C1 := Nat.lt_of_lt_of_le F.ns.lt hsC
  clear N' G
  k_steps
  rename_i h2 F2 N3
  have kp2 := hoth2 F2 N3 (fun q hq => hq)
  have hcs : ∀ o, h'.get? cStatics = some o → h2.get? cStatics = some o := fun o e => kp2 cStatics o (fun q => by
    obtain ⟨mc, ⟨os, _, _, hos, _⟩, _⟩ := id T.nolimit
    exact absurd (Nat.lt_of_lt_of_le (Heap.lt_size hos) F2.above) (q ▸ Nat.lt_irrefl _)) e
  have haC : a ≠ C := Nat.ne_of_gt (Nat.lt_trans hCC hCa)
  refine h C1 a h2 _ (by dsimp only at htk ⊢; omega) hCC hCa hsC (let ⟨o, _, _, ho, _⟩ := D.1; Heap.lt_size (kp2 a o haC ho)) (fun b o hb e => kp2 b o hb (kp1 b o hb e)) (Fr.congr F2 (fun y => st1 KN y)) (let ⟨m', q⟩ := hC1; ⟨m', q.at' fun o e => kp2 C1 o (Nat.ne_of_gt hCC) e⟩)
    (DAt.move D (let ⟨o, nm, qn, ho, r⟩ := D.1; ⟨o, nm, qn, kp2 a o haC ho, r⟩) hcs ⟨fun b o hb e => kp2 b o (fun q => ?_) e, fun _ _ _ => rfl, Nat.le_refl _⟩)
  subst q
  rcases hb with q | q | ⟨o', q⟩
  · exact Nat.lt_irrefl _ (q ▸ hCC)
  · exact o3.2.1 q.symm
  · exact Nat.lt_irrefl _ (Nat.lt_of_lt_of_le (Heap.lt_size q) F2.above)
theorem pr_d3 {C xi dx lx : Addr} {m : Str → Option Value} {t1 t2 u v : Tok} {xs : List Str} {vs : List Value} {lo n c : Nat} {Q : Flow → Shared → Prop} (X : (K w.params).In h₀) (T : TopRead p ls mg mb h₀) (hroom : A.depth < recursionLimit) (F : Fr h₀ C s.heap m)
    (h1 : m (Str.ofString "self") = some (.ref xi)) (h2 : m (Str.ofString "a") = some (.ref lx)) (h3 : m (Str.ofString "alo") = some (.int (lo : Int) u)) (h4 : m (Str.ofString "ahi") = some (.int ((lo + n : Nat) : Int) v))
    (o1 : Own h₀ C s.heap xi (instObj 313 dx)) (o2 : Own h₀ C s.heap dx (dictOf (difEs w t1 t2) 2)) (o3 : Own h₀ C s.heap lx (listOf vs.toArray c)) (hvs : StrsAre vs xs) (hlo : lo + n ≤ xs.length) (hxs : xs.length < 2 ^ 61) (hsz : ∀ x ∈ xs, 2 + x.length ≤ sizeLine)
    (h : ∀ C1 a h' tk, s.toks ≤ tk → C < C1 → C1 < a → s.heap.objs.size ≤ C1 → a < h'.objs.size → Kp C s.heap h' → Fr h₀ C h' (fun y => if y = Str.ofString "first" then some (.ref a) else m y) → (∃ m', h'.Ns C1 m') →
      DAt w h₀ a s.gens.size C1 lx (dumpOut (Str.ofString "-") xs lo n) { s with heap := h', gens := s.gens.push (.fresh (.func (fBody (mt 7 3)) (dumpEnv C1))), toks := tk } →
      Q .next { s with heap := h', gens := s.gens.push (.fresh (.func (fBody (mt 7 3)) (dumpEnv C1))), toks := tk }) :
    wpAny (model prog w) A (exec (nth (elseOf (prS 1)) 0) (prEnv C)) Q (fun _ _ => False) s := by
  have KN := fun y => kn4 h1 h2 h3 h4 y
  replace F := Fr.congr F (fun y => (KN y).symm)
  obtain ⟨oth, N, hoth, hfr, -⟩ := led4 F
  replace N := o1.news (o2.news (o3.news N))
  clear h1 h2 h3 h4
  have X' := X
  have hrow : row = row := rfl
  revert hrow X
  k_fill
  intro _ X
  show wpAny _ _ (exec (Stmt.Assign _ _ _) _) _ _ _
  w_on
  try k_fold
  k_steps
  refine dump_callG (lo := lo) (n := n) X' T hroom F N (.tail _ (.tail _ (.head _))) hvs rfl rfl hlo hxs (fun x hx => by have := hsz x hx; rw [show (Str.ofString "-").length = 1 from rfl]; omega) ?_
  intro C1 a h' tk htk hCa hsC hah keep F' N' hC1 G
  obtain ⟨oth2, N2, hoth2, -, -⟩ := led4 F'
  have D : DAt w h₀ a s.gens.size C1 lx (dumpOut (Str.ofString "-") xs lo n) { s with heap := h', gens := s.gens.push (.fresh (.func (fBody (mt 7 3)) (dumpEnv C1))), toks := tk } :=
    G _ rfl rfl
  have kp1 := hoth F' N' (by intro q hq; repeat (first | exact hq | apply List.mem_cons_of_mem))
  have hCC : C < C1 := Nat.lt_of_lt_of_le F.ns.lt hsC
  clear N' G
  k_steps
  rename_i h2 F2 N3
  have kp2 := hoth2 F2 N3 (fun q hq => hq)
  have hcs : ∀ o, h'.get? cStatics = some o → h2.get? cStatics = some o := fun o e => kp2 cStatics o (fun q => by
    obtain ⟨mc, ⟨os, _, _, hos, _⟩, _⟩ := id T.nolimit
    exact absurd (Nat.lt_of_lt_of_le (Heap.lt_size hos) F2.above) (q ▸ Nat.lt_irrefl _)) e
  have haC : a ≠ C := Nat.ne_of_gt (Nat.lt_trans hCC hCa)
  refine h C1 a h2 _ (by dsimp only at htk ⊢; omega) hCC hCa hsC (let ⟨o, _, _, ho, _⟩ := D.1; Heap.lt_size (kp2 a o haC ho)) (fun b o hb e => kp2 b o hb (kp1 b o hb e)) (Fr.congr F2 (fun y => st1 KN y)) (let ⟨m', q⟩ := hC1; ⟨m', q.at' fun o e => kp2 C1 o (Nat.ne_of_gt hCC) e⟩)
    (DAt.move D (let ⟨o, nm, qn, ho, r⟩ := D.1; ⟨o, nm, qn, kp2 a o haC ho, r⟩) hcs ⟨fun b o hb e => kp2 b o (fun q => ?_) e, fun _ _ _ => rfl, Nat.le_refl _⟩)
  subst q
  rcases hb with q | q | ⟨o', q⟩
  · exact Nat.lt_irrefl _ (q ▸ hCC)
  · exact o3.2.1 q.symm
  · exact Nat.lt_irrefl _ (Nat.lt_of_lt_of_le (Heap.lt_size q) F2.above)
theorem pr_d4 {C xi dx lx : Addr} {m : Str → Option Value} {t1 t2 u v : Tok} {xs : List Str} {vs : List Value} {lo n c : Nat} {Q : Flow → Shared → Prop} (X : (K w.params).In h₀) (T : TopRead p ls mg mb h₀) (hroom : A.depth < recursionLimit) (F : Fr h₀ C s.heap m)
    (h1 : m (Str.ofString "self") = some (.ref xi)) (h2 : m (Str.ofString "b") = some (.ref lx)) (h3 : m (Str.ofString "blo") = some (.int (lo : Int) u)) (h4 : m (Str.ofString "bhi") = some (.int ((lo + n : Nat) : Int) v))
    (o1 : Own h₀ C s.heap xi (instObj 313 dx)) (o2 : Own h₀ C s.heap dx (dictOf (difEs w t1 t2) 2)) (o3 : Own h₀ C s.heap lx (listOf vs.toArray c)) (hvs : StrsAre vs xs) (hlo : lo + n ≤ xs.length) (hxs : xs.length < 2 ^ 61) (hsz : ∀ x ∈ xs, 2 + x.length ≤ sizeLine)
    (h : ∀ C1 a h' tk, s.toks ≤ tk → C < C1 → C1 < a → s.heap.objs.size ≤ C1 → a < h'.objs.size → Kp C s.heap h' → Fr h₀ C h' (fun y => if y = Str.ofString "second" then some (.ref a) else m y) → (∃ m', h'.Ns C1 m') →
      DAt w h₀ a s.gens.size C1 lx (dumpOut (Str.ofString "+") xs lo n) { s with heap := h', gens := s.gens.push (.fresh (.func (fBody (mt 7 3)) (dumpEnv C1))), toks := tk } →
      Q .next { s with heap := h', gens := s.gens.push (.fresh (.func (fBody (mt 7 3)) (dumpEnv C1))), toks := tk }) :
    wpAny (model prog w) A (exec (nth (elseOf (prS 1)) 1) (prEnv C)) Q (fun _ _ => False) s := by
  have KN := fun y => kn4 h1 h2 h3 h4 y
  replace F := Fr.congr F (fun y => (KN y).symm)
  obtain ⟨oth, N, hoth, hfr, -⟩ := led4 F
  replace N := o1.news (o2.news (o3.news N))
  clear h1 h2 h3 h4
  have X' := X
  have hrow : row = row := rfl
  revert hrow X
  k_fill
  intro _ X
  show wpAny _ _ (exec (Stmt.Assign _ _ _) _) _ _ _
  w_on
  try k_fold
  k_steps
  refine dump_callG (lo := lo) (n := n) X' T hroom F N (.tail _ (.tail _ (.head _))) hvs rfl rfl hlo hxs (fun x hx => by have := hsz x hx; rw [show (Str.ofString "+").length = 1 from rfl]; omega) ?_
  intro C1 a h' tk htk hCa hsC hah keep F' N' hC1 G
  obtain ⟨oth2, N2, hoth2, -, -⟩ := led4 F'
  have D : DAt w h₀ a s.gens.size C1 lx (dumpOut (Str.ofString "+") xs lo n) { s with heap := h', gens := s.gens.push (.fresh (.func (fBody (mt 7 3)) (dumpEnv C1))), toks := tk } :=
    G _ rfl rfl
  have kp1 := hoth F' N' (by intro q hq; repeat (first | exact hq | apply List.mem_cons_of_mem))
  have hCC : C < C1 := Nat.lt_of_lt_of_le F.ns.lt hsC
  clear N' G
  k_steps
  rename_i h2 F2 N3
  have kp2 := hoth2 F2 N3 (fun q hq => hq)
  have hcs : ∀ o, h'.get? cStatics = some o → h2.get? cStatics = some o := fun o e => kp2 cStatics o (fun q => by
    obtain ⟨mc, ⟨os, _, _, hos, _⟩, _⟩ := id T.nolimit
    exact absurd (Nat.lt_of_lt_of_le (Heap.lt_size hos) F2.above) (q ▸ Nat.lt_irrefl _)) e
  have haC : a ≠ C := Nat.ne_of_gt (Nat.lt_trans hCC hCa)
  refine h C1 a h2 _ (by dsimp only at htk ⊢; omega) hCC hCa hsC (let ⟨o, _, _, ho, _⟩ := D.1; Heap.lt_size (kp2 a o haC ho)) (fun b o hb e => kp2 b o hb (kp1 b o hb e)) (Fr.congr F2 (fun y => st1 KN y)) (let ⟨m', q⟩ := hC1; ⟨m', q.at' fun o e => kp2 C1 o (Nat.ne_of_gt hCC) e⟩)
    (DAt.move D (let ⟨o, nm, qn, ho, r⟩ := D.1; ⟨o, nm, qn, kp2 a o haC ho, r⟩) hcs ⟨fun b o hb e => kp2 b o (fun q => ?_) e, fun _ _ _ => rfl, Nat.le_refl _⟩)
  subst q
  rcases hb with q | q | ⟨o', q⟩
  · exact Nat.lt_irrefl _ (q ▸ hCC)
  · exact o3.2.1 q.symm
  · exact Nat.lt_irrefl _ (Nat.lt_of_lt_of_le (Heap.lt_size q) F2.above)
end
end Mine
end
section
open PySem PySem.W PyProof.Rows
set_option Elab.async false
set_option linter.unusedVariables false
set_option maxRecDepth 100000
set_option maxHeartbeats 4000000
namespace Mine
def testOf : Stmt → Expr
  | .If t _ _ _ => t
  | _ => .Tuple [] 0 ⟨0, 0, 0, 0⟩
def ifPos : Stmt → Pos
  | .If _ _ _ p => p
  | _ => ⟨0, 0, 0, 0⟩
theorem prS1_eq : prS 1 = .If (testOf (prS 1)) (thenOf (prS 1)) (elseOf (prS 1)) (ifPos (prS 1)) := by kernel_rfl
theorem then_eq : thenOf (prS 1) = [nth (thenOf (prS 1)) 0, nth (thenOf (prS 1)) 1] := by kernel_rfl
theorem else_eq : elseOf (prS 1) = [nth (elseOf (prS 1)) 0, nth (elseOf (prS 1)) 1] := by kernel_rfl
section
variable {w : World} {A : Around} {h₀ : Heap} {p : Program} {ls : List Str} {mg mb : Str → Option Value} {s : Shared}
theorem Array.getElem?_push_lt_ {α : Type} {xs : Array α} {x : α} {k : Nat} (h : k < xs.size) : (xs.push x)[k]? = xs[k]? := by
  rw [Array.getElem?_push]; exact if_neg (Nat.ne_of_lt h)
theorem pr_test {C : Addr} {m : Str → Option Value} {alo ahi blo bhi : Int} {t1 t2 t3 t4 : Tok} {Q : Bool → Shared → Prop} (X : (K w.params).In h₀) (T : TopRead p ls mg mb h₀) (F : Fr h₀ C s.heap m)
    (h1 : m (Str.ofString "alo") = some (.int alo t1)) (h2 : m (Str.ofString "ahi") = some (.int ahi t2)) (h3 : m (Str.ofString "blo") = some (.int blo t3)) (h4 : m (Str.ofString "bhi") = some (.int bhi t4))
    (h : ∀ tk, s.toks ≤ tk → Q (decide (bhi - blo < ahi - alo)) { s with toks := tk }) :
    wpAny (model prog w) A (isTrue (testOf (prS 1)) (prEnv C) (eval (testOf (prS 1)) (prEnv C))) Q (fun _ _ => False) s := by
  have KN := fun y => kn4 h1 h2 h3 h4 y
  replace F := Fr.congr F (fun y => (KN y).symm)
  clear h1 h2 h3 h4
  have X' := X
  have hrow : row = row := rfl
  revert hrow X
  k_fill
  intro _ X
  show wpAny _ _ (isTrue (Expr.Compare _ _ _ _) _ (eval (Expr.Compare _ _ _ _) _)) _ _ _
  w_on
  try k_fold
  k_steps
  all_goals first | exact h _ (by first | exact Nat.le_refl _ | (dsimp only; omega)) | (trace_state; skip)
theorem dat_kp {C C1 a lx : Addr} {g : Nat} {q : List Str} {m' : Str → Option Value} {s' : Shared} (T : TopRead p ls mg mb h₀) (F : Fr h₀ C s'.heap m') (hC : C < C1) (ha : C1 < a) (hlx : lx ≠ C)
    (D : DAt w h₀ a g C1 lx q s) (kp : Kp C s.heap s'.heap) (hg : g < s.gens.size → s'.gens[g]? = s.gens[g]?) (hsz : s.gens.size ≤ s'.gens.size) : DAt w h₀ a g C1 lx q s' := by
  have haC : a ≠ C := Nat.ne_of_gt (Nat.lt_trans hC ha)
  refine DAt.move D (let ⟨o, nm, qn, ho, r⟩ := D.1; ⟨o, nm, qn, kp a o haC ho, r⟩) (fun o e => kp cStatics o (fun q => ?_) e) ⟨fun b o hb e => kp b o (fun q => ?_) e, fun k hk hl => hk ▸ hg (hk ▸ hl), hsz⟩
  · obtain ⟨mc, ⟨os, _, _, hos, _⟩, _⟩ := id T.nolimit
    exact absurd (Nat.lt_of_lt_of_le (Heap.lt_size hos) F.above) (q ▸ Nat.lt_irrefl _)
  · subst q
    rcases hb with q | q | ⟨o', q⟩
    · exact Nat.lt_irrefl _ (q ▸ hC)
    · exact hlx q.symm
    · exact Nat.lt_irrefl _ (Nat.lt_of_lt_of_le (Heap.lt_size q) F.above)
theorem pr_if {C xi dx la lb : Addr} {m : Str → Option Value} {t1 t2 u1 v1 u2 v2 : Tok} {xs ys : List Str} {vs us : List Value} {lo1 n1 lo2 n2 c d : Nat} {Q : Flow → Shared → Prop} (X : (K w.params).In h₀) (T : TopRead p ls mg mb h₀) (hroom : A.depth < recursionLimit) (F : Fr h₀ C s.heap m)
    (h0 : m (Str.ofString "self") = some (.ref xi)) (h1 : m (Str.ofString "a") = some (.ref la)) (h2 : m (Str.ofString "alo") = some (.int (lo1 : Int) u1)) (h3 : m (Str.ofString "ahi") = some (.int ((lo1 + n1 : Nat) : Int) v1))
    (h4 : m (Str.ofString "b") = some (.ref lb)) (h5 : m (Str.ofString "blo") = some (.int (lo2 : Int) u2)) (h6 : m (Str.ofString "bhi") = some (.int ((lo2 + n2 : Nat) : Int) v2))
    (o1 : Own h₀ C s.heap xi (instObj 313 dx)) (o2 : Own h₀ C s.heap dx (dictOf (difEs w t1 t2) 2)) (o3 : Own h₀ C s.heap la (listOf vs.toArray c)) (o4 : Own h₀ C s.heap lb (listOf us.toArray d)) (hvs : StrsAre vs xs) (hus : StrsAre us ys)
    (hl1 : lo1 + n1 ≤ xs.length) (hl2 : lo2 + n2 ≤ ys.length) (hx : xs.length < 2 ^ 61) (hy : ys.length < 2 ^ 61) (hxs : ∀ x ∈ xs, 2 + x.length ≤ sizeLine) (hys : ∀ x ∈ ys, 2 + x.length ≤ sizeLine)
    (h : ∀ (C1 a1 C2 a2 l1 l2 : Addr) (q1 q2 : List Str) (h' : Heap) (gs : Array GenState) (tk : Nat), s.toks ≤ tk → (q1, q2) = (if n2 < n1 then (dumpOut (Str.ofString "+") ys lo2 n2, dumpOut (Str.ofString "-") xs lo1 n1) else (dumpOut (Str.ofString "-") xs lo1 n1, dumpOut (Str.ofString "+") ys lo2 n2)) →
      (l1 = la ∨ l1 = lb) → (l2 = la ∨ l2 = lb) → C < C1 → C1 < a1 → a1 < C2 → C2 < a2 → a2 < h'.objs.size → s.heap.objs.size ≤ C1 → Kp C s.heap h' →
      Fr h₀ C h' (fun y => if y = Str.ofString "second" then some (.ref a2) else if y = Str.ofString "first" then some (.ref a1) else m y) → (∃ m', h'.Ns C1 m') → (∃ m', h'.Ns C2 m') →
      gs.size = s.gens.size + 2 → (∀ k, k < s.gens.size → gs[k]? = s.gens[k]?) → (AllBare s.gens → AllBare gs) →
      DAt w h₀ a1 s.gens.size C1 l1 q1 { s with heap := h', gens := gs, toks := tk } → DAt w h₀ a2 (s.gens.size + 1) C2 l2 q2 { s with heap := h', gens := gs, toks := tk } →
      Q .next { s with heap := h', gens := gs, toks := tk }) :
    wpAny (model prog w) A (exec (prS 1) (prEnv C)) Q (fun _ _ => False) s := by
  rw [prS1_eq, arm_exec_If]
  refine wpAny_bind (wpAny_standAt (wpAny_bind (pr_test X T F h2 h3 h5 h6 fun tk htk => ?_)))
  by_cases hlt : n2 < n1
  · rw [show decide (((lo2 + n2 : Nat) : Int) - (lo2 : Int) < ((lo1 + n1 : Nat) : Int) - (lo1 : Int)) = true from decide_eq_true (by omega)]
    show wpAny _ _ (execs (thenOf (prS 1)) (prEnv C)) _ _ _
    rw [then_eq]
    refine wpAny_execs_cons (pr_d1 (s := { s with toks := tk }) (n := n2) (lo := lo2) (xs := ys) X T hroom F h0 h4 h5 h6 o1 o2 o4 hus hl2 hy hys ?_)
    intro C1 a1 e1 tk1 ht1 hC1 ha1 hs1 hz1 kp1 F1 ns1 D1
    refine wpAny_execs_cons (pr_d2 (s := { s with heap := e1, gens := s.gens.push _, toks := tk1 }) (n := n1) (lo := lo1) (xs := xs) X T hroom F1 ((if_neg (by decide)).trans h0) ((if_neg (by decide)).trans h1) ((if_neg (by decide)).trans h2) ((if_neg (by decide)).trans h3) (o1.kp kp1) (o2.kp kp1) (o3.kp kp1) hvs hl1 hx hxs ?_)
    intro C2 a2 e2 tk2 ht2 hC2 ha2 hs2 hz2 kp2 F2 ns2 D2
    have haC2 : a1 < C2 := Nat.lt_of_lt_of_le hz1 hs2
    refine wpAny_execs_nil (h C1 a1 C2 a2 lb la _ _ e2 _ tk2 (by dsimp only at ht1 ht2; omega) ?_ (by first | exact .inl rfl | exact .inr rfl) (by first | exact .inl rfl | exact .inr rfl) hC1 ha1 haC2 ha2 hz2 hs1 (fun b o hb e => kp2 b o hb (kp1 b o hb e)) F2
      (let ⟨m', q⟩ := ns1; ⟨m', q.at' fun o e => kp2 C1 o (Nat.ne_of_gt hC1) e⟩) ns2 ?_ (fun k hk => ?_) (fun hb z hz => ?_) (dat_kp T F2 hC1 ha1 o4.2.1 D1 kp2 (fun hk => ?_) ?_) (by rw [Array.size_push] at D2; exact D2))
    · rw [if_pos hlt]
    · simp
    · exact (Array.getElem?_push_lt_ (Nat.lt_of_lt_of_eq (Nat.lt_succ_of_lt hk) (Array.size_push ..).symm)).trans (Array.getElem?_push_lt_ hk)
    · rcases Array.mem_push.mp hz with hz | hz
      · rcases Array.mem_push.mp hz with hz | hz
        · exact hb z hz
        · subst hz; rfl
      · subst hz; rfl
    · exact Array.getElem?_push_lt_ hk
    · simp
  · rw [show decide (((lo2 + n2 : Nat) : Int) - (lo2 : Int) < ((lo1 + n1 : Nat) : Int) - (lo1 : Int)) = false from decide_eq_false (by omega)]
    show wpAny _ _ (execs (elseOf (prS 1)) (prEnv C)) _ _ _
    rw [else_eq]
    refine wpAny_execs_cons (pr_d3 (s := { s with toks := tk }) (n := n1) (lo := lo1) (xs := xs) X T hroom F h0 h1 h2 h3 o1 o2 o3 hvs hl1 hx hxs ?_)
    intro C1 a1 e1 tk1 ht1 hC1 ha1 hs1 hz1 kp1 F1 ns1 D1
    refine wpAny_execs_cons (pr_d4 (s := { s with heap := e1, gens := s.gens.push _, toks := tk1 }) (n := n2) (lo := lo2) (xs := ys) X T hroom F1 ((if_neg (by decide)).trans h0) ((if_neg (by decide)).trans h4) ((if_neg (by decide)).trans h5) ((if_neg (by decide)).trans h6) (o1.kp kp1) (o2.kp kp1) (o4.kp kp1) hus hl2 hy hys ?_)
    intro C2 a2 e2 tk2 ht2 hC2 ha2 hs2 hz2 kp2 F2 ns2 D2
    have haC2 : a1 < C2 := Nat.lt_of_lt_of_le hz1 hs2
    refine wpAny_execs_nil (h C1 a1 C2 a2 la lb _ _ e2 _ tk2 (by dsimp only at ht1 ht2; omega) ?_ (by first | exact .inl rfl | exact .inr rfl) (by first | exact .inl rfl | exact .inr rfl) hC1 ha1 haC2 ha2 hz2 hs1 (fun b o hb e => kp2 b o hb (kp1 b o hb e)) F2
      (let ⟨m', q⟩ := ns1; ⟨m', q.at' fun o e => kp2 C1 o (Nat.ne_of_gt hC1) e⟩) ns2 ?_ (fun k hk => ?_) (fun hb z hz => ?_) (dat_kp T F2 hC1 ha1 o3.2.1 D1 kp2 (fun hk => ?_) ?_) (by rw [Array.size_push] at D2; exact D2))
    · rw [if_neg hlt]
    · simp
    · exact (Array.getElem?_push_lt_ (Nat.lt_of_lt_of_eq (Nat.lt_succ_of_lt hk) (Array.size_push ..).symm)).trans (Array.getElem?_push_lt_ hk)
    · rcases Array.mem_push.mp hz with hz | hz
      · rcases Array.mem_push.mp hz with hz | hz
        · exact hb z hz
        · subst hz; rfl
      · subst hz; rfl
    · exact Array.getElem?_push_lt_ hk
    · simp
end
end Mine
end
section
open PySem PySem.W PyProof.Rows
set_option Elab.async false
set_option linter.unusedVariables false
set_option maxRecDepth 100000
set_option maxHeartbeats 4000000
namespace Mine
theorem prBody_eq : fBody (mt 7 4) = [prS 0, prS 1, prS 2] := by kernel_rfl
theorem prS2_eq : prS 2 = .For (.Name (Str.ofString "g") ⟨651, 12, 651, 13⟩) (forIter (prS 2)) (forBody (prS 2)) [] ⟨651, 8, 652, 24⟩ := by kernel_rfl
theorem prFor_eq : forBody (prS 2) = [.Expr (.YieldFrom (.Name (Str.ofString "g") ⟨652, 23, 652, 24⟩) ⟨652, 12, 652, 24⟩) ⟨652, 12, 652, 24⟩] := by kernel_rfl
section
variable {w : World} {A : Around} {h₀ : Heap} {p : Program} {ls : List Str} {mg mb : Str → Option Value} {s : Shared}
theorem pr_iter {C a1 a2 : Addr} {m : Str → Option Value} {Q : Value → Shared → Prop} (X : (K w.params).In h₀) (T : TopRead p ls mg mb h₀) (F : Fr h₀ C s.heap m)
    (h1 : m (Str.ofString "first") = some (.ref a1)) (h2 : m (Str.ofString "second") = some (.ref a2))
    (h : ∀ n tk, s.toks ≤ tk → Q (.ref s.heap.objs.size) { s with heap := s.heap.push { cls := .type "tuple", data := .seq #[.ref a1, .ref a2] n }, toks := tk }) :
    wpAny (model prog w) A (eval (forIter (prS 2)) (prEnv C)) Q (fun _ _ => False) s := by
  have KN := fun y => kn2 h1 h2 y
  replace F := Fr.congr F (fun y => (KN y).symm)
  clear h1 h2
  have X' := X
  have hrow : row = row := rfl
  revert hrow X
  k_fill
  intro _ X
  show wpAny _ _ (eval (Expr.Tuple _ _ _) _) _ _ _
  w_on
  try k_fold
  k_steps
  simp only [newTuple]
  exact wpAny_newObj_type (h _ _ (by first | exact Nat.le_refl _ | (dsimp only; omega))) (by size_fits)
def prFp (S : Addr) : Addr → Obj → Prop := fun b _ => b ≠ S
def prWr (C a S : Addr) : Addr → Obj → Prop := fun b _ => b = C ∨ (a < b ∧ b ≠ S)
def prGi (g : Nat) : Nat → Prop := fun k => g < k
abbrev prLoop (C I : Addr) : Code := .forLoop (.Name (Str.ofString "g") ⟨651, 12, 651, 13⟩) (.ref I) (forBody (prS 2)) [] (prEnv C)
theorem pr_item {C a S t I ai Ci li : Addr} {g gi rest i : Nat} {items : Array Value} {qi outs : List Str} {c : Code} {p₁ : Pos} {K : Flow → Sem Fin} {H : Value → Sem Fin} {J : Shared → Prop} {m : Str → Option Value} {s₀ : Shared}
    (T : TopRead p ls mg mb h₀) (hh : A.handled = none) (hroom : A.depth + 8 < recursionLimit) (hc : c.weight ≤ 4) (hCa : C < a) (haS : a < S) (hSC : S < Ci) (hCi : Ci < ai) (hg : g < gi) (hli : li ≠ S) (hat : a < t) (htS : t ≠ S) (haI : a < I) (hIS : I ≠ S) (htI : t ≠ I)
    (hta : t ≠ ai) (htC : t ≠ Ci) (hIa : I ≠ ai) (hIC : I ≠ Ci)
    (F : Fr h₀ C s.heap m) (ht : s.heap.IsTuple t items) (hit : s.heap.IsTupleIter I t i) (hi : items[i]? = some (.ref ai)) (D : DAt w h₀ ai gi Ci li qi s) (haI2 : ai < I) (hIz : I < s.heap.objs.size) (hliC : li ≠ C) (hliI : li ≠ I) (hlia : li < a) (hI0 : h₀.get? I = none)
    (hJ : J s) (hJ1 : ∀ s s', J s → (∀ b o, b ≠ C → b ≠ I → b ≠ ai → ¬ dWr Ci I b o → s.heap.get? b = some o → s'.heap.get? b = some o) → (∀ k, k ≠ gi → k < s.gens.size → s'.gens[k]? = s.gens[k]?) → s.gens.size ≤ s'.gens.size → J s')
    (hJ2 : ∀ s s', J s → Still (prFp S) (prGi g) s s' → J s')
    (hout : ∀ j x, qi[j]? = some x → outs[outs.length - (qi.length - j + rest)]? = some x) (hlen : qi.length + rest ≤ outs.length)
    (hnext : ∀ s₁ s m', Fr h₀ C s.heap m' → s.heap.IsTuple t items → s.heap.IsTupleIter I t (i + 1) → J s → Kept (prWr C a S) (prGi g) s₁ s → s.gens[gi]? = some .finished →
      SegL (model prog w) A (retF (prWr C a S) (prGi g)) (protoF (prFp S) (prWr C a S) (prGi g) outs) rest s₁ (prLoop C I) ((model prog w).den (prLoop C I)) [waitF (prEnv C) K H id id c p₁] s)
    (hkp : Kept (prWr C a S) (prGi g) s₀ s) :
    SegL (model prog w) A (retF (prWr C a S) (prGi g)) (protoF (prFp S) (prWr C a S) (prGi g) outs) (qi.length + rest) s₀ (prLoop C I) ((model prog w).den (prLoop C I)) [waitF (prEnv C) K H id id c p₁] s := by
  have hCC : C < Ci := Nat.lt_trans hCa (Nat.lt_trans haS hSC)
  have hbase : ∀ b o, h₀.get? b = some o → b < C := fun b o e => Nat.lt_of_lt_of_le (Heap.lt_size e) F.above
  refine segL_forLoop (wpAny_pyNext_tuple_item hit ht hi fun h1 hit1 hs1 => ?_)
  refine wpAny_storeName_local (env := prEnv C) (by rfl) (F.ns.sameBut hs1 (Nat.ne_of_lt (Nat.lt_trans hCa haI))) (fun h2 hns2 hs2 => ?_) (by rfl)
  have kp : ∀ b o, b ≠ C → b ≠ I → s.heap.get? b = some o → h2.get? b = some o := fun b o h1' h2' e => (hs2.2 b h1').trans ((hs1.2 b h2').trans e)
  have F2 : Fr h₀ C h2 (fun y => if y = Str.ofString "g" then some (.ref ai) else m y) := ⟨hns2, fun b o e => kp b o (Nat.ne_of_lt (hbase b o e)) (fun q => by subst q; rw [hI0] at e; cases e) (F.keep b o e), F.above⟩
  refine Eq.mpr (congrArg (fun b => SegL (model prog w) A (retF (prWr C a S) (prGi g)) (protoF (prFp S) (prWr C a S) (prGi g) outs) (qi.length + rest) s₀ (prLoop C I) ((execs b (prEnv C)).wrap (turnK (prLoop C I)) (noteH (prEnv C)) id id) [waitF (prEnv C) K H id id c p₁] _) prFor_eq) ?_
  refine segL_cons (segL_YieldFrom (a := ai) (g := gi) (by rfl) ?_)
  refine ld F2 (by rw [if_pos rfl]) ?_
  have ht2 : h2.IsTuple t items := let ⟨o, ho, r⟩ := ht; ⟨o, kp t o (Nat.ne_of_gt (Nat.lt_trans hCa hat)) htI ho, r⟩
  have hit2 : h2.IsTupleIter I t (i + 1) := let ⟨o, ho, r⟩ := hit1; ⟨o, (hs2.2 I (Nat.ne_of_gt (Nat.lt_trans hCa haI))).trans ho, r⟩
  have haiC : ai ≠ C := Nat.ne_of_gt (Nat.lt_trans hCC hCi)
  have D2 : DAt w h₀ ai gi Ci li qi { s with heap := h2, toks := s.toks + 1 } := by
    refine DAt.move D (let ⟨o, nm, qn, ho, r⟩ := D.1; ⟨o, nm, qn, kp ai o haiC (Ne.symm hIa) ho, r⟩) (fun o e => ?_) ⟨fun b o hb e => ?_, fun _ _ _ => rfl, Nat.le_refl _⟩
    · obtain ⟨mc, ⟨os, _, _, hos, _⟩, _⟩ := id T.nolimit
      exact kp cStatics o (Nat.ne_of_lt (hbase _ _ hos)) (fun q => by rw [q, hI0] at hos; cases hos) e
    · rcases hb with q | q | ⟨o', q⟩
      · exact kp b o (q ▸ Nat.ne_of_gt hCC) (q ▸ Ne.symm hIC) e
      · exact kp b o (q ▸ hliC) (q ▸ hliI) e
      · exact kp b o (Nat.ne_of_lt (hbase b o' q)) (fun x => by rw [x, hI0] at q; cases q) e
  obtain ⟨dg, dl, gs, dgs, db, dgo⟩ := D2
  refine ⟨rfl, dg, fun k₀ l₀ p₀ hk => ?_⟩
  have hCS : C < S := Nat.lt_trans hCa haS
  have hcs : cStatics < C := by
    obtain ⟨mc, ⟨os, _, _, hos, _⟩, _⟩ := id T.nolimit
    exact hbase _ _ hos
  have key := yf_loop (prog := prog) (w := w) (A := A) (fs := .ret k₀ none (id false) l₀ (prLoop C I) p₀ [] :: [waitF (prEnv C) K H id id c p₁]) (c := prLoop C I) (k₀ := k₀) (g₀ := id false) (l₀ := l₀) (p₀ := p₀) (fs₀ := [waitF (prEnv C) K H id id c p₁])
    (FpO := prFp S) (WrO := prWr C a S) (GiO := prGi g) (outsO := outs) (a := ai) (g := gi) (Fp := dFp h₀ Ci I li) (Wr := dWr Ci I) (outs := qi) (rest := rest)
    (Z := I) (Inv := fun s => ∃ m, Fr h₀ C s.heap m ∧ s.heap.IsTuple t items ∧ s.heap.IsTupleIter I t (i + 1) ∧ J s)
    (fun s hI' => let ⟨_, _, _, hit', _⟩ := hI'; let ⟨_, ho, _⟩ := hit'; Heap.lt_size ho) rfl rfl rfl ?_ ?_ ?_ ?_ ?_ ?_ ?_ ?_ ?_ ?_ hg ?_ ?_ ?_ hout hlen ?_ qi.length 0 s₀ { s with heap := h2, toks := s.toks + 1 } (by omega) (Nat.zero_le _) ⟨dg, dl, gs, dgs, fun s'' hs'' hz => ?_⟩ ⟨_, F2, ht2, hit2, ?_⟩ ?_
  · rw [Nat.sub_zero] at key; exact key
  · exact hh
  · have w1 : (prLoop C I).weight = 0 := rfl
    have w2 : (cY ai).weight = 0 := rfl
    show A.depth + frameCount [((prLoop C I), p₀), (c, p₁)] + (cY ai).weight < recursionLimit
    rw [frameCount_cons, frameCount_cons, w1, w2]
    simp only [frameCount, List.map_nil, List.sum_nil]
    omega
  · rintro s b o _ e (q | q | ⟨o', q⟩ | ⟨q, _⟩)
    · exact q ▸ Nat.ne_of_gt hSC
    · exact q ▸ hli
    · exact Nat.ne_of_lt (Nat.lt_trans (hbase b o' q) hCS)
    · exact Nat.ne_of_gt (Nat.lt_trans (Nat.lt_trans (Nat.lt_trans hSC hCi) haI2) q)
  · exact fun o _ => Nat.ne_of_gt (Nat.lt_trans hSC hCi)
  · exact fun o => Nat.ne_of_lt (Nat.lt_trans hcs hCS)
  · rintro o (q | q | ⟨o', q⟩ | ⟨q, _⟩)
    · exact Nat.lt_irrefl _ (q ▸ hCi)
    · exact Nat.lt_irrefl _ (q ▸ Nat.lt_trans hlia (Nat.lt_trans haS (Nat.lt_trans hSC hCi)))
    · exact Nat.lt_irrefl _ (Nat.lt_trans (hbase _ _ q) (Nat.lt_trans hCC hCi))
    · exact Nat.lt_irrefl _ (Nat.lt_trans q haI2)
  · rintro o (q | ⟨q, _⟩)
    · exact Nat.lt_irrefl _ (q ▸ hCi)
    · exact Nat.lt_irrefl _ (Nat.lt_trans q haI2)
  · rintro o (q | ⟨q, _⟩)
    · exact Nat.lt_irrefl _ (q ▸ Nat.lt_trans hcs hCC)
    · exact Nat.lt_irrefl _ (Nat.lt_trans (Nat.lt_trans haI2 q) (Nat.lt_trans hcs (Nat.lt_trans hCC hCi)))
  · rintro s b o _ e (q | ⟨q, _⟩)
    · exact .inr ⟨q ▸ Nat.lt_trans haS hSC, q ▸ Nat.ne_of_gt hSC⟩
    · exact .inr ⟨Nat.lt_trans haI q, Nat.ne_of_gt (Nat.lt_trans (Nat.lt_trans (Nat.lt_trans hSC hCi) haI2) q)⟩
  · exact fun s o _ _ => .inr ⟨Nat.lt_trans haS (Nat.lt_trans hSC hCi), Nat.ne_of_gt (Nat.lt_trans hSC hCi)⟩
  · exact Nat.ne_of_gt (Nat.lt_trans hcs (Nat.lt_trans hCC hCi))
  · rintro s s' ⟨m, F', ht', hit', hJ'⟩ Kx
    have low : ∀ b o, b ≤ C → s.heap.get? b = some o → s'.heap.get? b = some o := fun b o hb e => Kx.heap b o (fun q => by
      rcases q with q | q | ⟨q, _⟩
      · exact Nat.lt_irrefl _ (Nat.lt_of_lt_of_le (Nat.lt_trans hCC hCi) (q ▸ hb))
      · exact Nat.lt_irrefl _ (Nat.lt_of_lt_of_le hCC (q ▸ hb))
      · exact Nat.lt_irrefl _ (Nat.lt_of_lt_of_le (Nat.lt_trans (Nat.lt_trans (Nat.lt_trans hCC hCi) haI2) q) hb)) e
    refine ⟨m, ⟨F'.ns.at' fun o e => low C o (Nat.le_refl _) e, fun b o e => low b o (Nat.le_of_lt (hbase b o e)) (F'.keep b o e), F'.above⟩, ?_, ?_, hJ1 s s' hJ' (fun b o _ _ h3 h4 e => Kx.heap b o (fun q => q.elim h3 h4) e) (fun k hk hl => Kx.gens k hk hl) Kx.gsize⟩
    · obtain ⟨o, ho, hc', r⟩ := ht'
      refine ⟨o, Kx.heap t o (fun q => ?_) ho, hc', r⟩
      rcases q with q | q | ⟨_, q⟩
      · exact hta q
      · exact htC q
      · rw [hc'] at q; exact absurd (Value.type.inj q) (by decide)
    · obtain ⟨o, ho, hc', r⟩ := hit'
      refine ⟨o, Kx.heap I o (fun q => ?_) ho, hc', r⟩
      rcases q with q | q | ⟨_, q⟩
      · exact hIa q
      · exact hIC q
      · rw [hc'] at q; exact absurd (Value.type.inj q) (by decide)
  · rintro s s' ⟨m, F', ht', hit', hJ'⟩ Hs
    exact ⟨m, ⟨F'.ns.at' fun o e => Hs.heap C o (Nat.ne_of_lt hCS) e, fun b o e => Hs.heap b o (Nat.ne_of_lt (Nat.lt_trans (hbase b o e) hCS)) (F'.keep b o e), F'.above⟩,
      let ⟨o, ho, r⟩ := ht'; ⟨o, Hs.heap t o htS ho, r⟩, let ⟨o, ho, r⟩ := hit'; ⟨o, Hs.heap I o hIS ho, r⟩, hJ2 s s' hJ' Hs⟩
  · rintro s₁ s ⟨m, F', ht', hit', hJ'⟩ Kx hf
    refine hk rest s₁ s ?_
    exact segL_again rfl (hnext s₁ s m F' ht' hit' hJ' Kx hf)
  · rw [Nat.sub_zero]
    refine dgo (A.over (cY ai) [Frame.ret k₀ none (id false) l₀ (prLoop C I) p₀ [], waitF (prEnv C) K H id id c p₁]) I hh (Nat.lt_trans hCi haI2) s'' ⟨fun b o hb e => hs''.heap b o ?_ e, hs''.gens, hs''.gsize⟩ ?_
    · rcases hb with q | q | q
      · exact .inl q
      · exact .inr (.inl q)
      · exact .inr (.inr (.inl q))
    · exact Nat.le_of_lt hz
  · exact hJ1 s _ hJ (fun b o h1 h2 _ _ e => kp b o h1 h2 e) (fun _ _ _ => rfl) (Nat.le_refl _)
  · exact hkp.trans ⟨fun b o hb e => kp b o (fun q => hb (.inl q)) (fun q => hb (.inr ⟨q ▸ haI, q ▸ hIS⟩)) e, Nat.le_refl _, fun _ _ _ => rfl, id, rfl, rfl, Nat.le_succ _⟩
end
end Mine
end
section
open PySem PySem.W PyProof.Rows
set_option Elab.async false
set_option linter.unusedVariables false
set_option maxRecDepth 100000
set_option maxHeartbeats 4000000
namespace Mine
section
variable {w : World} {A : Around} {h₀ : Heap} {p : Program} {ls : List Str} {mg mb : Str → Option Value} {s : Shared}
/-- what _plain_replace tells -/
def prOut (xs : List Str) (lo1 n1 : Nat) (ys : List Str) (lo2 n2 : Nat) : List Str :=
  if n2 < n1 then dumpOut (Str.ofString "+") ys lo2 n2 ++ dumpOut (Str.ofString "-") xs lo1 n1 else dumpOut (Str.ofString "-") xs lo1 n1 ++ dumpOut (Str.ofString "+") ys lo2 n2
abbrev prCode (C : Addr) : Code := .func (fBody (mt 7 4)) (prEnv C)
theorem pr_seg {C a S xi dx la lb : Addr} {g : Nat} {m : Str → Option Value} {t1 t2 u1 v1 u2 v2 : Tok} {xs ys : List Str} {vs us : List Value} {lo1 n1 lo2 n2 c d : Nat} {s₀ : Shared} (X : (K w.params).In h₀) (T : TopRead p ls mg mb h₀)
    (hh : A.handled = none) (hroom : A.depth + 12 < recursionLimit) (hCa : C < a) (haS : a < S) (hS : S < s.heap.objs.size) (hg : g < s.gens.size) (F : Fr h₀ C s.heap m)
    (h0 : m (Str.ofString "self") = some (.ref xi)) (h1 : m (Str.ofString "a") = some (.ref la)) (h2 : m (Str.ofString "alo") = some (.int (lo1 : Int) u1)) (h3 : m (Str.ofString "ahi") = some (.int ((lo1 + n1 : Nat) : Int) v1))
    (h4 : m (Str.ofString "b") = some (.ref lb)) (h5 : m (Str.ofString "blo") = some (.int (lo2 : Int) u2)) (h6 : m (Str.ofString "bhi") = some (.int ((lo2 + n2 : Nat) : Int) v2))
    (o1 : Own h₀ C s.heap xi (instObj 313 dx)) (o2 : Own h₀ C s.heap dx (dictOf (difEs w t1 t2) 2)) (o3 : Own h₀ C s.heap la (listOf vs.toArray c)) (o4 : Own h₀ C s.heap lb (listOf us.toArray d)) (hvs : StrsAre vs xs) (hus : StrsAre us ys)
    (hla : la < a) (hlb : lb < a) (hn1 : 0 < n1) (hn2 : 0 < n2)
    (hl1 : lo1 + n1 ≤ xs.length) (hl2 : lo2 + n2 ≤ ys.length) (hx : xs.length < 2 ^ 61) (hy : ys.length < 2 ^ 61) (hxs : ∀ x ∈ xs, 2 + x.length ≤ sizeLine) (hys : ∀ x ∈ ys, 2 + x.length ≤ sizeLine)
    (hkp : Kept (prWr C a S) (prGi g) s₀ s) :
    SegL (model prog w) A (retF (prWr C a S) (prGi g)) (protoF (prFp S) (prWr C a S) (prGi g) (prOut xs lo1 n1 ys lo2 n2)) (prOut xs lo1 n1 ys lo2 n2).length s₀ (prCode C) ((model prog w).den (prCode C)) [] s := by
  have hw : (prCode C).weight = 1 := rfl
  have hd : (A.over (prCode C) []).depth < recursionLimit := by
    show A.depth + frameCount [] + (prCode C).weight < recursionLimit
    rw [hw]; simp only [frameCount, List.map_nil, List.sum_nil]; omega
  refine segL_func ?_
  generalize hR : retF (prWr C a S) (prGi g) = R
  generalize hY : protoF (prFp S) (prWr C a S) (prGi g) (prOut xs lo1 n1 ys lo2 n2) = Y
  refine Eq.mpr (congrArg (fun b => SegL (model prog w) A R Y (prOut xs lo1 n1 ys lo2 n2).length s₀ (prCode C) ((execs b (prEnv C)).wrap fnK (fnH (prEnv C)) id id) [] s) prBody_eq) ?_
  refine segL_plain (pr_assert X T F h2 h3 h5 h6 (by omega) (by omega) fun tk htk => ⟨rfl, ?_⟩)
  refine segL_plain (pr_if (s := { s with toks := tk }) X T hd F h0 h1 h2 h3 h4 h5 h6 o1 o2 o3 o4 hvs hus hl1 hl2 hx hy hxs hys ?_)
  intro C1 a1 C2 a2 l1 l2 q1 q2 h' gs tk' htk' hq hl1' hl2' hCC1 hCa1 haC2 hCa2 hz2 hs1 kp1 F1 ns1 ns2 hgs hgk hgb D1 D2
  refine ⟨rfl, ?_⟩
  have hout : prOut xs lo1 n1 ys lo2 n2 = q1 ++ q2 := by
    unfold prOut
    split at hq
    · rename_i hc; rw [if_pos hc]; injection hq with e1 e2; rw [e1, e2]
    · rename_i hc; rw [if_neg hc]; injection hq with e1 e2; rw [e1, e2]
  subst hR hY
  rw [hout]
  have hbase : ∀ b o, h₀.get? b = some o → b < C := fun b o e => Nat.lt_of_lt_of_le (Heap.lt_size e) F.above
  have hSC1 : S < C1 := Nat.lt_of_lt_of_le hS hs1
  have hli1 : l1 < a := by rcases hl1' with rfl | rfl <;> assumption
  have hli2 : l2 < a := by rcases hl2' with rfl | rfl <;> assumption
  have hlC1 : l1 ≠ C := by rcases hl1' with rfl | rfl <;> first | exact o3.2.1 | exact o4.2.1
  have hlC2 : l2 ≠ C := by rcases hl2' with rfl | rfl <;> first | exact o3.2.1 | exact o4.2.1
  have hkp1 : Kept (prWr C a S) (prGi g) s₀ { s with heap := h', gens := gs, toks := tk' } := by
    refine hkp.trans ⟨fun b o hb e => kp1 b o (fun q => hb (.inl q)) e, by rw [hgs]; exact Nat.le_add_right _ _, fun k hk hl => hgk k hl, hgb, rfl, rfl, Nat.le_trans htk htk'⟩
  refine segL_cons ?_
  refine Eq.mpr (congrArg (fun st => SegL (model prog w) A (retF (prWr C a S) (prGi g)) (protoF (prFp S) (prWr C a S) (prGi g) (q1 ++ q2)) (q1 ++ q2).length s₀ (prCode C) ((exec st (prEnv C)).wrap (fun f => match f with | .next => (execs [] (prEnv C)).wrap fnK (fnH (prEnv C)) id id | f => fnK f) (fnH (prEnv C)) id id) [] _) prS2_eq) ?_
  refine segL_For (pr_iter (s := { s with heap := h', gens := gs, toks := tk' }) X T F1 ((if_neg (by decide)).trans (if_pos rfl)) (if_pos rfl) fun nt tk2 htk2 => ?_) (by intro _; rfl)
  refine wpAny_pyIter_tuple (items := #[.ref a1, .ref a2]) ⟨_, Heap.get?_push_size _ rfl, rfl, nt, rfl⟩ fun pp => ?_
  have main : ∀ (H2 : Heap) (t I : Addr), t = h'.objs.size → I = h'.objs.size + 1 → (∀ b o, h'.get? b = some o → H2.get? b = some o) → H2.IsTuple t #[.ref a1, .ref a2] → H2.IsTupleIter I t 0 → 
      SegL (model prog w) A (retF (prWr C a S) (prGi g)) (protoF (prFp S) (prWr C a S) (prGi g) (q1 ++ q2)) (q1 ++ q2).length s₀ (prLoop C I) ((model prog w).den (prLoop C I))
        [waitF (prEnv C) (fun f => match f with | .next => (execs [] (prEnv C)).wrap fnK (fnH (prEnv C)) id id | f => fnK f) (fnH (prEnv C)) id id (prCode C) pp] { s with heap := H2, gens := gs, toks := tk2 } := by
    intro H2 t I et eI keep hT hI
    have hIz : I < H2.objs.size := let ⟨_, ho, _⟩ := hI; Heap.lt_size ho
    have lt2 : a2 < t := et ▸ hz2
    have ltI : t < I := by rw [et, eI]; exact Nat.lt_succ_self _
    have l12 : C1 < a2 := Nat.lt_trans hCa1 (Nat.lt_trans haC2 hCa2)
    have laC1 : a < C1 := Nat.lt_trans haS hSC1
    have laC2 : a < C2 := Nat.lt_trans laC1 (Nat.lt_trans hCa1 haC2)
    have lC2t : C2 < t := Nat.lt_trans hCa2 lt2
    have la1t : a1 < t := Nat.lt_trans haC2 lC2t
    have lC1t : C1 < t := Nat.lt_trans hCa1 la1t
    have lat : a < t := Nat.lt_trans laC1 lC1t
    have lSC2 : S < C2 := Nat.lt_trans hSC1 (Nat.lt_trans hCa1 haC2)
    have lSt : S < t := Nat.lt_trans hSC1 lC1t
    have lCC2 : C < C2 := Nat.lt_trans hCa laC2
    have hI0 : h₀.get? I = none := by
      cases e : h₀.get? I with
      | none => rfl
      | some o => exact absurd (hbase I o e) (Nat.lt_asymm (Nat.lt_trans hCa (Nat.lt_trans lat ltI)))
    have mv : ∀ {ai : Addr} {gi : Nat} {Ci li : Addr} {qi : List Str}, DAt w h₀ ai gi Ci li qi { s with heap := h', gens := gs, toks := tk' } → DAt w h₀ ai gi Ci li qi { s with heap := H2, gens := gs, toks := tk2 } := fun D =>
      DAt.move D (let ⟨o, nm, qn, ho, r⟩ := D.1; ⟨o, nm, qn, keep _ o ho, r⟩) (fun o e => keep _ o e) ⟨fun b o _ e => keep b o e, fun _ _ _ => rfl, Nat.le_refl _⟩
    rw [List.length_append]
    have hcw : (prCode C).weight ≤ 4 := by rw [hw]; decide
    refine pr_item (t := t) (items := #[.ref a1, .ref a2]) (i := 0) (ai := a1) (Ci := C1) (li := l1) (gi := s.gens.size) (rest := q2.length) (qi := q1) (outs := q1 ++ q2) (J := DAt w h₀ a2 (s.gens.size + 1) C2 l2 q2)
      T hh (by omega) hcw hCa haS hSC1 hCa1 hg (Nat.ne_of_lt (Nat.lt_trans hli1 haS)) lat (Nat.ne_of_gt lSt) (Nat.lt_trans lat ltI) (Nat.ne_of_gt (Nat.lt_trans lSt ltI)) (Nat.ne_of_lt ltI)
      (Nat.ne_of_gt la1t) (Nat.ne_of_gt lC1t) (Nat.ne_of_gt (Nat.lt_trans la1t ltI)) (Nat.ne_of_gt (Nat.lt_trans lC1t ltI)) ⟨F1.ns.at' fun o e => keep C o e, fun b o e => keep b o (F1.keep b o e), F1.above⟩ hT hI rfl (mv D1) (Nat.lt_trans la1t ltI) hIz
      hlC1 (Nat.ne_of_lt (Nat.lt_trans hli1 (Nat.lt_trans lat ltI))) hli1 hI0 (mv D2) ?_ ?_ ?_ ?_ ?_ ?_
    · intro x x' D hk hg' hgz
      have hh2 : ∀ b o, b ≠ C → b ≠ a1 → b ≠ C1 → b < I → x.heap.get? b = some o → x'.heap.get? b = some o := fun b o e1 e2 e3 e4 e => hk b o e1 (Nat.ne_of_lt e4) e2 (fun q => by
        rcases q with q | ⟨q, _⟩
        · exact e3 q
        · exact Nat.lt_asymm q e4) e
      have hb' : ∀ b o, b < C → x.heap.get? b = some o → x'.heap.get? b = some o := fun b o hb e => hh2 b o (Nat.ne_of_lt hb) (Nat.ne_of_lt (Nat.lt_trans hb (Nat.lt_trans hCC1 hCa1))) (Nat.ne_of_lt (Nat.lt_trans hb hCC1)) (Nat.lt_trans hb (Nat.lt_trans hCa (Nat.lt_trans lat ltI))) e
      refine DAt.move D (let ⟨o, nm, qn, ho, r⟩ := D.1; ⟨o, nm, qn, hh2 a2 o (Nat.ne_of_gt (Nat.lt_trans lCC2 hCa2)) (Nat.ne_of_gt (Nat.lt_trans haC2 hCa2)) (Nat.ne_of_gt l12) (Nat.lt_trans lt2 ltI) ho, r⟩) (fun o e => ?_) ⟨fun b o hb e => ?_, fun k hk' hl => hg' k (hk' ▸ Nat.ne_of_gt (Nat.lt_succ_self _)) hl, hgz⟩
      · obtain ⟨mc, ⟨os, _, _, hos, _⟩, _⟩ := id T.nolimit
        exact hb' _ o (hbase _ _ hos) e
      · rcases hb with q | q | ⟨o', q⟩
        · exact q ▸ hh2 C2 o (Nat.ne_of_gt lCC2) (Nat.ne_of_gt haC2) (Nat.ne_of_gt (Nat.lt_trans hCa1 haC2)) (Nat.lt_trans lC2t ltI) (q ▸ e)
        · exact q ▸ hh2 l2 o hlC2 (Nat.ne_of_lt (Nat.lt_trans hli2 (Nat.lt_trans laC1 hCa1))) (Nat.ne_of_lt (Nat.lt_trans hli2 laC1)) (Nat.lt_trans hli2 (Nat.lt_trans lat ltI)) (q ▸ e)
        · exact hb' b o (hbase b o' q) e
    · intro x x' D Hs
      have hne : ∀ b, b < S ∨ S < b → b ≠ S := fun b q e => by rcases q with q | q <;> exact Nat.lt_irrefl _ (e ▸ q)
      refine DAt.move D (let ⟨o, nm, qn, ho, r⟩ := D.1; ⟨o, nm, qn, Hs.heap a2 o (hne _ (.inr (Nat.lt_trans hSC1 l12))) ho, r⟩) (fun o e => ?_) ⟨fun b o hb e => ?_, fun k hk' hl => Hs.gens k (hk' ▸ Nat.lt_succ_of_lt hg) hl, Hs.gsize⟩
      · obtain ⟨mc, ⟨os, _, _, hos, _⟩, _⟩ := id T.nolimit
        exact Hs.heap _ o (hne _ (.inl (Nat.lt_trans (hbase _ _ hos) (Nat.lt_trans hCa haS)))) e
      · rcases hb with q | q | ⟨o', q⟩
        · exact Hs.heap b o (hne _ (.inr (q ▸ lSC2))) e
        · exact Hs.heap b o (hne _ (.inl (q ▸ Nat.lt_trans hli2 haS))) e
        · exact Hs.heap b o (hne _ (.inl (Nat.lt_trans (hbase _ _ q) (Nat.lt_trans hCa haS)))) e
    · intro j x e
      have hj : j < q1.length := by
        rcases Nat.lt_or_ge j q1.length with h | h
        · exact h
        · rw [List.getElem?_eq_none h] at e; cases e
      rw [List.length_append, show q1.length + q2.length - (q1.length - j + q2.length) = j by omega, List.getElem?_append_left hj]; exact e
    · rw [List.length_append]; exact Nat.le_refl _
    · intro s₁ x m' F' ht' hit' D' K' hf
      have hIz' : I < x.heap.objs.size := let ⟨_, ho, _⟩ := hit'; Heap.lt_size ho
      refine pr_item (t := t) (items := #[.ref a1, .ref a2]) (i := 1) (ai := a2) (Ci := C2) (li := l2) (gi := s.gens.size + 1) (rest := 0) (qi := q2) (outs := q1 ++ q2) (J := fun _ => True)
        T hh (by omega) hcw hCa haS lSC2 hCa2 (Nat.lt_succ_of_lt hg) (Nat.ne_of_lt (Nat.lt_trans hli2 haS)) lat (Nat.ne_of_gt lSt) (Nat.lt_trans lat ltI) (Nat.ne_of_gt (Nat.lt_trans lSt ltI)) (Nat.ne_of_lt ltI)
        (Nat.ne_of_gt lt2) (Nat.ne_of_gt lC2t) (Nat.ne_of_gt (Nat.lt_trans lt2 ltI)) (Nat.ne_of_gt (Nat.lt_trans lC2t ltI)) F' ht' hit' rfl D' (Nat.lt_trans lt2 ltI) hIz'
        hlC2 (Nat.ne_of_lt (Nat.lt_trans hli2 (Nat.lt_trans lat ltI))) hli2 hI0 trivial (fun _ _ _ _ _ _ => trivial) (fun _ _ _ _ => trivial) ?_ ?_ ?_ K'
      · intro j y e
        have hj : j < q2.length := by
          rcases Nat.lt_or_ge j q2.length with h | h
          · exact h
          · rw [List.getElem?_eq_none h] at e; cases e
        rw [List.length_append, show q1.length + q2.length - (q2.length - j + 0) = q1.length + j by omega, List.getElem?_append_right (Nat.le_add_right _ _), Nat.add_sub_cancel_left]; exact e
      · rw [List.length_append]; omega
      · intro s₂ x2 m2 F2 ht2 hit2 _ K2 _
        refine segL_forLoop (wpAny_pyNext_tuple_end hh hit2 ht2 rfl fun h3 he => ?_)
        refine segL_block_nil ?_
        exact segL_end (.ok (.ret .none)) ⟨rfl, rfl, K2.trans ⟨fun b o hb e => he b o (fun q => hb (.inr ⟨q ▸ Nat.lt_trans lat ltI, q ▸ Nat.ne_of_gt (Nat.lt_trans lSt ltI)⟩)) e, Nat.le_refl _, fun _ _ _ => rfl, id, rfl, rfl, Nat.le_refl _⟩⟩
    · exact hkp1.trans ⟨fun b o _ e => keep b o e, Nat.le_refl _, fun _ _ _ => rfl, id, rfl, rfl, htk2⟩
  refine main _ _ _ rfl ?_ (fun b o e => Heap.get?_push_of_some _ (Heap.get?_push_of_some _ e)) ⟨_, Heap.get?_push_of_some _ (Heap.get?_push_size _ rfl), rfl, nt, rfl⟩ ⟨_, Heap.get?_push_size _ rfl, rfl, rfl⟩
  exact Heap.size_push ..
end
end Mine
end
section
open PySem PySem.W PyProof.Rows
set_option Elab.async false
set_option linter.unusedVariables false
set_option maxRecDepth 100000
set_option maxHeartbeats 4000000
namespace Mine
theorem k_plain (P : Params) : (K P).lookup 289 = some (o8x289 P) := by kernel_rfl
theorem c_plain (P : Params) : codeIn (K P) (.ref 288) (Str.ofString "Differ._plain_replace") = true := by kernel_rfl
abbrev plainFd : FuncData := ⟨Str.ofString "_plain_replace", Str.ofString "Differ._plain_replace", fArgs (mt 7 4), .stmts (fBody (mt 7 4)), fScope (mt 7 4), 3, [], .none, .none, .none, .str (Str.ofString "cpy313.difflib") 194, none, .ref 288, .none, 0⟩
abbrev plainBinds (self v1 v2 v3 v4 v5 v6 : Value) : List (Str × Value) := [(Str.ofString "self", self), (Str.ofString "a", v1), (Str.ofString "alo", v2), (Str.ofString "ahi", v3), (Str.ofString "b", v4), (Str.ofString "blo", v5), (Str.ofString "bhi", v6)]
theorem plain_binds (self v1 v2 v3 v4 v5 v6 : Value) : bindArgs plainFd ⟨[self, v1, v2, v3, v4, v5, v6], []⟩ = pure (plainBinds self v1 v2 v3 v4 v5 v6) := by kernel_rfl
theorem plain_locs (self v1 v2 v3 v4 v5 v6 : Value) : ∀ y ∈ plainBinds self v1 v2 v3 v4 v5 v6, (fScope (mt 7 4)).names.lookup y.1 = some .local := by
  intro y hy
  simp only [plainBinds, List.mem_cons, List.not_mem_nil, or_false] at hy
  rcases hy with rfl | rfl | rfl | rfl | rfl | rfl | rfl <;> rfl
theorem plain_cells : ∀ x ∈ (fScope (mt 7 4)).names, x.2 ≠ .cell := by decide +kernel
section
variable {w : World} {A : Around} {h₀ : Heap} {p : Program} {ls : List Str} {mg mb : Str → Option Value} {s : Shared}
theorem mk_plain {L xi dx la lb : Addr} {m : Str → Option Value} {news : List (Addr × Obj)} {t1 t2 u1 v1 u2 v2 : Tok} {xs ys : List Str} {vs us : List Value} {lo1 n1 lo2 n2 c d : Nat} {R : Result → Shared → Prop}
    (X : (K w.params).In h₀) (T : TopRead p ls mg mb h₀) (hroom : A.depth < recursionLimit) (F : Fr h₀ L s.heap m) (N : News h₀ L s.heap news)
    (i1 : (xi, instObj 313 dx) ∈ news) (i2 : (dx, dictOf (difEs w t1 t2) 2) ∈ news) (i3 : (la, listOf vs.toArray c) ∈ news) (i4 : (lb, listOf us.toArray d) ∈ news) (hvs : StrsAre vs xs) (hus : StrsAre us ys) (hn1 : 0 < n1) (hn2 : 0 < n2)
    (hl1 : lo1 + n1 ≤ xs.length) (hl2 : lo2 + n2 ≤ ys.length) (hx : xs.length < 2 ^ 61) (hy : ys.length < 2 ^ 61) (hxs : ∀ x ∈ xs, 2 + x.length ≤ sizeLine) (hys : ∀ x ∈ ys, 2 + x.length ≤ sizeLine)
    (h : ∀ C a h' tk, s.toks ≤ tk → C < a → s.heap.objs.size ≤ C → h'.objs.size = a + 1 → (∀ b o, s.heap.get? b = some o → h'.get? b = some o) → Fr h₀ L h' m → News h₀ L h' news →
      h'.IsGen a s.gens.size → (∀ (A' : Around) (s' : Shared) (S : Addr), A'.handled = none → A'.depth + 12 < recursionLimit → (∀ b o, h'.get? b = some o → s'.heap.get? b = some o) → s'.gens = s.gens.push (.fresh (prCode C)) → a < S →
        GenAtL prog w A' a s.gens.size (prFp S) (prWr C a S) (prGi s.gens.size) (prOut xs lo1 n1 ys lo2 n2) S 0 s') →
      R (.ok (.ret (.ref a))) { s with heap := h', gens := s.gens.push (.fresh (prCode C)), toks := tk }) :
    codeAny (model prog w) A (.call (.ref 289) ⟨[.ref xi, .ref la, .int (lo1 : Int) u1, .int ((lo1 + n1 : Nat) : Int) v1, .ref lb, .int (lo2 : Int) u2, .int ((lo2 + n2 : Nat) : Int) v2], []⟩) R s := by
  have Xs := X.keeps F.keep
  refine codeAny_call_generator (fd := plainFd) (body := fBody (mt 7 4)) hroom (Xs _ _ (k_plain _)) rfl rfl rfl rfl (codeRec_of Xs (c_plain _)) ?_
  refine BindsTo.of_eq (plain_binds _ _ _ _ _ _ _) _ _ _ _ ?_
  refine wpAny_newFunctionEnv plain_cells (plain_locs _ _ _ _ _ _ _) (fun h' hns hsb => ?_)
  have hsz' : h'.objs.size = s.heap.objs.size + 1 := by rw [hsb.1, Heap.size_push]
  have keep' : ∀ b o, s.heap.get? b = some o → h'.get? b = some o := fun b o e => hsb.extBut b o (Nat.ne_of_lt (Heap.lt_size e)) (Heap.get?_push_of_some _ e)
  refine ⟨T.nolimit.keeps fun b o e => keep' b o (F.keep b o e), ?_⟩
  have hLC : L < s.heap.objs.size := F.ns.lt
  have keep2 : ∀ (o' : Obj) b o, s.heap.get? b = some o → (h'.push o').get? b = some o := fun o' b o e => Heap.get?_push_of_some _ (keep' b o e)
  have ca : s.heap.objs.size < h'.objs.size := by rw [hsz']; exact Nat.lt_succ_self _
  refine h s.heap.objs.size h'.objs.size (h'.push _) _ (by dsimp only; omega) ca (Nat.le_refl _) (Heap.size_push ..) (keep2 _) ⟨F.ns.keeps (keep2 _), fun b o e => keep2 _ b o (F.keep b o e), F.above⟩
    (fun q hq => ⟨keep2 _ _ _ (N q hq).1, (N q hq).2⟩) ⟨_, _, _, Heap.get?_push_size _ rfl, rfl, rfl, rfl⟩ fun A' s' S hA' hd' hk hg' haS => ?_
  refine ⟨⟨_, _, _, hk _ _ (Heap.get?_push_size _ rfl), rfl, rfl, rfl⟩, T.nolimit.keeps fun b o e => hk _ _ (keep2 _ b o (F.keep b o e)), _, by rw [hg']; exact Array.getElem?_push_size .., fun s'' hst hSz => ?_⟩
  rw [Nat.sub_zero]
  have hne : ∀ b, b < S → b ≠ S := fun b q e => Nat.lt_irrefl _ (e ▸ q)
  have kF : ∀ b o, b < S → (h'.push _).get? b = some o → s''.heap.get? b = some o := fun b o hb e => hst.heap b o (hne b hb) (hk b o e)
  have low : ∀ b o, s.heap.get? b = some o → s''.heap.get? b = some o := fun b o e => kF b o (Nat.lt_trans (Heap.lt_size e) (Nat.lt_trans ca haS)) (keep2 _ b o e)
  have own : ∀ {b : Addr} {o : Obj}, (b, o) ∈ news → Own h₀ s.heap.objs.size s''.heap b o := fun hm => ⟨low _ _ (N _ hm).1, Nat.ne_of_lt (Heap.lt_size (N _ hm).1), (N _ hm).2.2⟩
  have lt : ∀ {b : Addr} {o : Obj}, (b, o) ∈ news → b < h'.objs.size := fun hm => Nat.lt_trans (Heap.lt_size (N _ hm).1) ca
  refine ⟨rfl, pr_seg (m := fun y => (plainBinds (.ref xi) (.ref la) (.int (lo1 : Int) u1) (.int ((lo1 + n1 : Nat) : Int) v1) (.ref lb) (.int (lo2 : Int) u2) (.int ((lo2 + n2 : Nat) : Int) v2)).reverse.lookup y) X T hA' hd' ca haS hSz ?_ ⟨?_, ?_, ?_⟩ rfl rfl rfl rfl rfl rfl rfl
    (own i1) (own i2) (own i3) (own i4) hvs hus (lt i3) (lt i4) hn1 hn2 hl1 hl2 hx hy hxs hys .refl⟩
  · refine Nat.lt_of_lt_of_le ?_ hst.gsize
    rw [hg', Array.size_push]; exact Nat.lt_succ_self _
  · exact (hns.push _).at' fun o e => kF _ o (Nat.lt_trans ca haS) e
  · exact fun b o e => low b o (F.keep b o e)
  · exact Nat.le_of_lt (Nat.lt_of_le_of_lt F.above hLC)
end
end Mine
end
section
open PySem PySem.W PyProof.Rows
set_option Elab.async false
set_option linter.unusedVariables false
set_option maxRecDepth 100000
set_option maxHeartbeats 4000000
namespace Mine
section
variable {w : World} {A : Around} {R : GenEnd} {Y : Protocol} {n : Nat} {s₀ : Shared} {c : Code} {fs : List Frame} {h₀ : Heap} {p : Program} {ls : List Str} {mg mb : Str → Option Value} {s : Shared} {E : Value → Shared → Prop}
theorem bare_fin {g : Nat} (hb : AllBare s.gens) : AllBare (fin g s).gens := fun q hq => by
  rcases Array.mem_or_eq_of_mem_setIfInBounds hq with q1 | q1
  · exact hb q q1
  · exact q1 ▸ rfl
/-- list of _plain_replace's generator -/
theorem list_plain {L C a : Addr} {g : Nat} {m : Str → Option Value} {news : List (Addr × Obj)} {outs : List Str} {Q : Value → Shared → Prop}
    (T : TopRead p ls mg mb h₀) (hh : (A.over c fs).handled = none) (hroom : (A.over c fs).depth + 12 < recursionLimit) (F : Fr h₀ L s.heap m) (N : News h₀ L s.heap news) (hb : AllBare s.gens)
    (hg : s.heap.IsGen a g) (hLC : L < C) (hCa : C < a) (hnC : ∀ q ∈ news, q.1 < C) (hn : outs.length ≤ sizeLine)
    (G : ∀ (A' : Around) (s' : Shared) (S : Addr), A'.handled = none → A'.depth + 12 < recursionLimit → (∀ b o, s.heap.get? b = some o → s'.heap.get? b = some o) → s'.gens = s.gens → a < S → GenAtL prog w A' a g (prFp S) (prWr C a S) (prGi g) outs S 0 s')
    (h : ∀ S vs c h' gs tk, s.heap.objs.size = S → Fr h₀ L h' m → News h₀ L h' ((S, listOf vs.toArray c) :: news) → StrsAre vs outs → AllBare gs → (∀ q ∈ news, q.1 < S) → Q (.ref S) { s with heap := h', gens := gs, toks := tk }) :
    LW (model prog w) A R Y n s₀ c fs (call (.type "list") [.ref a]) Q E s := by
  obtain ⟨oa, _, _, hoa, _⟩ := id hg
  have haS : a < s.heap.objs.size := Heap.lt_size hoa
  obtain ⟨mc, ⟨os, _, _, hos, _⟩, _⟩ := id T.nolimit
  have hsL : cStatics < L := Nat.lt_of_lt_of_le (Heap.lt_size hos) F.above
  have hsC : cStatics < C := Nat.lt_trans hsL hLC
  have hCS : C < s.heap.objs.size := Nat.lt_trans hCa haS
  refine call_listL (Fp := prFp s.heap.objs.size) (Wr := prWr C a s.heap.objs.size) (Gi := prGi g) (I := a) (g := g) (outs := outs)
    ⟨fun o => Nat.ne_of_lt haS, fun o => Nat.ne_of_lt (Nat.lt_trans hsC hCS), fun o q => q.elim (fun q => Nat.lt_irrefl _ (q ▸ hCa)) fun q => Nat.lt_irrefl _ q.1, fun o q => q.elim (fun q => Nat.lt_irrefl _ (q ▸ hsC)) fun q => Nat.lt_irrefl _ (Nat.lt_trans q.1 (Nat.lt_trans hsC hCa)), fun q => Nat.lt_irrefl _ q⟩
    hh (Nat.lt_of_le_of_lt (Nat.le_add_right _ _) hroom) hn (fun its c q => q rfl) (fun its c q => q.elim (fun q => Nat.lt_irrefl _ (q ▸ hCS)) fun q => q.2 rfl) hg
    (G _ _ _ hh hroom (fun b o e => Heap.get?_push_of_some _ e) rfl haS) fun s' vs c' hgf hk hS hvs => ?_
  have low : ∀ b o, b < C → s.heap.get? b = some o → s'.heap.get? b = some o := fun b o hb' e => hk.heap b o (fun q => by
    rcases q with q | q | ⟨q, _⟩
    · exact Nat.lt_irrefl _ (q ▸ Nat.lt_trans hb' hCS)
    · exact Nat.lt_irrefl _ (q ▸ hb')
    · exact Nat.lt_irrefl _ (Nat.lt_trans q (Nat.lt_trans hb' hCa))) e
  have hbare := hk.bare (bare_fin hb)
  obtain ⟨h', gs, d, tk, os'⟩ := s'
  obtain rfl : d = s.drawn := hk.drawn
  obtain rfl : os' = s.os := hk.os
  refine h _ vs c' h' gs tk rfl ⟨F.ns.at' fun o e => low L o hLC e, fun b o e => low b o (Nat.lt_trans (Nat.lt_of_lt_of_le (Heap.lt_size e) F.above) hLC) (F.keep b o e), F.above⟩ (fun q hq => ?_) hvs hbare (fun q hq => Nat.lt_trans (hnC q hq) hCS)
  rcases List.mem_cons.mp hq with rfl | hq
  · refine ⟨hS, fun q => Nat.lt_irrefl L (Nat.lt_of_lt_of_eq (Nat.lt_trans hLC hCS) q), ?_⟩
    cases e : h₀.get? s.heap.objs.size with
    | none => rfl
    | some o => exact absurd (Heap.lt_size (F.keep _ _ e)) (Nat.lt_irrefl _)
  · exact ⟨low _ _ (hnC q hq) (N q hq).1, (N q hq).2⟩
end
end Mine
end
section
open PySem PySem.W PyProof.Rows
set_option Elab.async false
set_option linter.unusedVariables false
set_option maxRecDepth 100000
namespace Mine
open Sem (wp)
section
variable {prog : Program} {w : World} {A : Around} {R : GenEnd} {Y : Protocol} {n : Nat} {s₀ : Shared} {c : Code} {fs : List Frame} {s : Shared}
/-- a Python function's call, whose body may pass tame yields -/
theorem cl_call_function {a : Addr} {args : Args} {o : Obj} {fd : FuncData} {body : List Stmt} {P : Result → Shared → Prop} (hroom : (A.over c fs).depth < recursionLimit)
    (ho : s.heap.get? a = some o) (hd' : o.data = .func fd) (hco : fd.scope.isCoroutine = false) (hgen : fd.scope.isGenerator = false) (hbody : fd.body = .stmts body) (hcd : s.heap.CodeRec fd.code fd.qualname)
    (h : wpAny (model prog w) (A.over c fs).in1 (bindArgs fd args) (fun binds s₁ =>
      wpAny (model prog w) (A.over c fs).in1 (newFunctionEnv fd.scope fd.globals fd.closure binds (fd.qualname ++ ".<locals>.") (some a) fd.code none fd.builtins)
        (fun env s₂ => s₂.heap.NoLimit ∧ CL (model prog w) A R Y n s₀ c fs (.func body env) P s₂) (fun e s' => P (.error e) s') s₁) (fun e s' => P (.error e) s') s) :
    CL (model prog w) A R Y n s₀ c fs (.call (.ref a) args) P s := by
  refine cl_of_tree fun k g l p => lw_of ?_
  rw [over_under]
  show wpAny _ (A.over c fs).in1 (callAny (.ref a) args) _ _ s
  simp only [callAny]
  refine wpAny_bind (wpAny_load ho ?_)
  obtain ⟨c', oc, vs, tq, hc, hoc, hdc, hq⟩ := hcd
  simp only [hd', callFunction, hco, hgen, hbody, hc]
  rw [hc] at h
  refine wpAny_bind (m := field (.ref c') 1) (wpAny_field hoc hdc hq (wpAny_bind (wpAny_pure ?_)))
  exact wpAny_bind (wpAny_mono h (fun binds s₁ h₁ => wpAny_bind (wpAny_mono h₁ (fun env s₂ h₂ => wpAny_bind (wpAny_enterFrame h₂.1 hroom
    (wpAny_pure ⟨rfl, h₂.2⟩))) fun _ _ h' => h')) fun _ _ h' => h')
theorem cl_func {body : List Stmt} {env : Env} {P : Result → Shared → Prop}
    (h : ∀ k g l p, (∀ r s', P r s' → SegL (model prog w) A R Y n s₀ c (k r) fs s') → SegL (model prog w) A R Y n s₀ (.func body env) ((execs body env).wrap (fun f => .pure (.done (.ret (match f with | .ret v => v | _ => .none))))
      (fun e => (leaving env e).wrap (fun _ => .raise e) .raise id id) id id) (.ret k none g l c p [] :: fs) s) : CL (model prog w) A R Y n s₀ c fs (.func body env) P s :=
  fun k g l p hk => segL_func (h k g l p hk)
/-- the law's own call -/
theorem segL_top {f : Value} {vs : List Value} {R' : Result → Shared → Prop}
    (h : CL (model prog w) A0 (fun _ _ r s' => R' r s') noY 0 s₀ cC [] (.call f ⟨vs, []⟩) (fun r s' => match r with | .ok (.ret v) => R' (.ok (.ret v)) s' | .ok _ => False | .error e => R' (.error e) s') s) :
    SegL (model prog w) A0 (fun _ _ r s' => R' r s') noY 0 s₀ cC ((PySem.call f vs).wrap (fun v => .pure (.done (.ret v))) .raise id id) [] s := by
  refine lw_call (Q := fun v s' => R' (.ok (.ret v)) s') (E := fun e s' => R' (.error e) s') h _ _ _ _ (fun v s' x => segL_end (.ok (.ret v)) x) fun e s' x => segL_end (.error e) x
end
end Mine
end
section
open PySem PySem.W PyProof.Rows
set_option Elab.async false
set_option linter.unusedVariables false
set_option maxRecDepth 100000
set_option maxHeartbeats 4000000
namespace Mine
abbrev lawEnv (L fa : Addr) (cd : Value) : Env := envOfC (Str.ofString "law") (fScope (st 11)) L fa cd
abbrev lawC (L fa : Addr) (cd : Value) : Code := .func (fBody (st 11)) (lawEnv L fa cd)
/-- what the law's body must come to -/
def LawEnd (s₁ : Shared) (s' : Shared) : Prop := (∀ b o, s₁.heap.get? b = some o → s'.heap.get? b = some o) ∧ s'.os = s₁.os ∧ AllBare s'.gens
def LawBodyL : Prop := ∀ (w : World) (s₁ : Shared) (mg mb : Str → Option Value) (p : Program) (ls : List Str) (mean : ExcName → Option Value) (fa l : Addr) (cd : Value) (vs : List Value) (ns : List Int) (h : Heap) (tk : Nat) (m : Str → Option Value),
  (K w.params).In s₁.heap → Top p ls mean mg mb s₁.heap → Below callerA s₁.heap [] s₁.heap → s₁.gens = #[] → s₁.heap.IsList l vs.toArray → IntsAre vs ns → ns.length ≤ 63 → (PyData.list (ns.map PyData.int)).layable0 = true →
  Fr s₁.heap s₁.heap.objs.size h m → m (Str.ofString "script") = some (.ref l) → (∀ n c, (lawEnv s₁.heap.objs.size fa cd).cells.lookup n = some c → h.IsCell c none) →
  ∀ (R : GenEnd) (k : Result → Sem Fin) (g : Bool) (lv : List Value) (pp : Pos), (∀ s', LawEnd s₁ s' → SegL (model prog w) A0 R noY 0 s₁ cC (k (.ok (.ret (.bool true)))) [] s') →
  SegL (model prog w) A0 R noY 0 s₁ (lawC s₁.heap.objs.size fa cd) ((execs (fBody (st 11)) (lawEnv s₁.heap.objs.size fa cd)).wrap fnK (fnH (lawEnv s₁.heap.objs.size fa cd)) id id) [.ret k none g lv cC pp []] { s₁ with heap := h, toks := tk }
theorem law_kinds (v : Value) (n : Nat) : ∀ x ∈ [(Str.ofString "script", v)], (fScope (st 11)).names.lookup x.1 = some .local ∨ ((fScope (st 11)).names.lookup x.1 = some .cell ∧ ((cellsFrom n (fScope (st 11)).names []).lookup x.1).isSome = true) := by
  intro y hy
  simp only [List.mem_cons, List.not_mem_nil, or_false] at hy
  subst hy; exact .inl rfl
theorem walk (hb : LawBodyL) : WalkOL qv loose (XL qv []) (InK K) row.toRowW dLaw [] := by
  w_on
  intro w s₀ s₁ mg mb G Y fa o pm cd doc dV kV ho hd hcd hD hmg hg args vals as hpre hlay hrd hwl hlo
  have KX : (K w.params).In s₁.heap := Y
  refine Ground.open G ?_
  intro T B D TE TW
  clear hmg
  wrow_args hpre hlay hrd hwl hlo
  rename_i ns _ _ hL1 _ _ _ _ l vs _ hL _ _ _ hI _ hc _
  refine segL_top ?_
  obtain ⟨rfl, rfl⟩ : dV = .none ∧ kV = .none := ⟨hD.pos.elim (·.2) fun q => absurd (by kernel_rfl) q.1, hD.kw.elim (·.2) fun q => absurd rfl q.1⟩
  refine cl_call_function (fd := { Calls.docDef dLaw.name dLaw.params dLaw.body dLaw.scope pm cd doc with defaults := .none, kwdefaults := .none }) (body := fBody (st 11)) (by decide) ho hd (by rfl) (by rfl) rfl hcd ?_
  refine BindsTo.of_eq (binds := [(Str.ofString "script", Value.ref l)]) (by kernel_rfl) _ _ _ _ ?_
  refine wpAny_newFunctionEnv_cells (by rfl) (law_kinds _ _) fun env' he s' x => ?_
  subst he
  refine ⟨T.nolimit.keeps x.toInCall.keep, cl_func fun k g lv pp hk => ?_⟩
  obtain ⟨h₁, tk, rfl, _⟩ := x.done
  refine hb w s₁ mg mb _ _ _ fa l cd vs ns h₁ tk _ KX T (below_caller (Top.heap T)) hg hL hI (by omega) hL1 ⟨x.toInCall.ns, x.toInCall.keep, Nat.le_refl _⟩ (by rfl) (fun n c e => ?_) _ k g lv pp fun s' hf => ?_
  · exact x.cell n c e
  obtain ⟨keep, hos, hbr⟩ := hf
  exact hk _ _ ⟨.inl ⟨.bool true, .bool true, [], rfl, fun _ => rfl, .bool _, by kernel_rfl, fun _ => ⟨.nil, fun _ h => (nomatch h)⟩⟩, .of_keep keep, hos, hbr⟩
theorem law10 (hb : LawBodyL) : PySem.Challenge.rw_dm0050_10.Holds := hd (walk hb)
end Mine
end
section
open PySem PySem.W PyProof.Rows
set_option Elab.async false
set_option linter.unusedVariables false
set_option maxRecDepth 100000
namespace Mine
open Sem (wp)
section
variable {prog : Program} {w : World} {A : Around} {R : GenEnd} {Y : Protocol} {n : Nat} {s₀ : Shared} {c : Code} {fs : List Frame} {s : Shared} {env : Env} {E : Value → Shared → Prop}
  {K : Flow → Sem Fin} {H : Value → Sem Fin} {gd : Bool → Bool} {lv : List Value → List Value}
/-- T(args) where the call itself may pass tame yields -/
theorem lw_callWith_type {T : String} {pos : Pos} {args : List (Bool × Sem Value)} {Q : Value → Shared → Prop} (hst : args.any (·.1) = false)
    (h : wpAny (model prog w) (A.over c fs) (evalArgs (.type T) true args []) (fun a s' => LW (model prog w) A R Y n s₀ c fs (call (.type T) a.pos a.kw) Q E s') E s) :
    LW (model prog w) A R Y n s₀ c fs (callWith pos (.type T) [] args []) Q E s := by
  unfold callWith
  refine lw_bw (wpAny_holding (wpAny_mono h (fun a s' h' => ?_) fun _ _ x => x))
  refine lw_bw (wpAny_standAt ?_)
  simp only [hst, List.any_nil, Bool.or_false, List.nil_append]
  refine lw_bw (m := keeperOf (.type T)) (wpAny_pure ?_)
  refine lw_bind (lw_mono h' (fun v s'' hv => ?_) fun _ _ x => x)
  refine lw_bw (wpAny_holding (wpAny_point ?_))
  exact lw_pure hv
/-- x = e, where e's value comes past tame yields -/
theorem segL_Assign {x : Str} {px pos : Pos} {e : Expr} (hs : swapsWith e (some (.Name x px)) pos.line env = pure false)
    (h : LW (model prog w) A R Y n s₀ c fs (eval e env) (fun v s' => wpAny (model prog w) (A.over c fs) (storeName env x v) (fun _ s'' => SegL (model prog w) A R Y n s₀ c (K .next) fs s'') (fun _ _ => False) s') (fun _ _ => False) s) :
    SegL (model prog w) A R Y n s₀ c ((exec (.Assign [.Name x px] e pos) env).wrap K H gd lv) fs s := by
  rw [exec_Assign_Name env x px e pos hs]
  refine segL_bw (wpAny_standAt ?_)
  rw [Sem.bind_eq_wrap', Sem.wrap_wrap]
  refine h _ _ _ _ (fun v s' h' => ?_) fun _ _ q => q.elim
  refine segL_bw (wpAny_standAt ?_)
  refine segL_bw (wpAny_bindName (wpAny_mono h' (fun _ s'' q => ?_) fun _ _ q => q.elim))
  exact q
theorem eval_CallName (f : Str) (pf pos : Pos) (args : List Expr) (kws) : eval (.Call (.Name f pf) args kws pos) env = (eval (.Name f pf) env >>= fun fv => callWith pos fv [] (backTo pos (starEach args env)) (backToKw pos (keywordEach kws env))) := by
  first | rfl | (simp only [eval]) | (with_unfolding_all rfl)
end
end Mine
end
section
open PySem PySem.W PyProof.Rows
set_option Elab.async false
set_option linter.unusedVariables false
set_option maxRecDepth 100000
set_option maxHeartbeats 4000000
namespace Mine
def lS (i : Nat) : Stmt := nth (fBody (st 11)) i
/-- the inner loop's statements -/
def iS (i : Nat) : Stmt := nth (forBody (nth (forBody (lS 5)) 0)) i
def valOf : Stmt → Expr
  | .Assign _ v _ => v
  | _ => .Tuple [] 0 ⟨0, 0, 0, 0⟩
def argOf : Expr → Expr
  | .Call _ (a :: _) _ _ => a
  | _ => .Tuple [] 0 ⟨0, 0, 0, 0⟩
def fnOf : Expr → Expr
  | .Call f _ _ _ => f
  | _ => .Tuple [] 0 ⟨0, 0, 0, 0⟩
def posOf : Expr → Pos
  | .Call _ _ _ p => p
  | _ => ⟨0, 0, 0, 0⟩
def nposOf : Expr → Pos
  | .Name _ p => p
  | _ => ⟨0, 0, 0, 0⟩
theorem told_eq : valOf (iS 2) = .Call (.Name (Str.ofString "list") (nposOf (fnOf (valOf (iS 2))))) [argOf (valOf (iS 2))] [] (posOf (valOf (iS 2))) := by kernel_rfl
theorem k_list (P : Params) : nsIn (K P) mainGlobals (Str.ofString "list") = some none := by kernel_rfl
theorem b_list : bootBuiltins (Str.ofString "list") = some (.type "list") := by kernel_rfl
section
variable {w : World} {A : Around} {h₀ : Heap} {p : Program} {ls : List Str} {mg mb : Str → Option Value} {s : Shared} {fa : Addr} {cd : Value}
theorem kn7 {m : Str → Option Value} {xa xb x1 x2 x3 x4 x5 : Str} {va vb v1 v2 v3 v4 v5 : Value} (ha : m xa = some va) (hb : m xb = some vb) (h1 : m x1 = some v1) (h2 : m x2 = some v2) (h3 : m x3 = some v3) (h4 : m x4 = some v4) (h5 : m x5 = some v5) (y : Str) :
    (if y = xa then some va else if y = xb then some vb else if y = x1 then some v1 else if y = x2 then some v2 else if y = x3 then some v3 else if y = x4 then some v4 else if y = x5 then some v5 else m y) = m y := by
  rw [kn5 h1 h2 h3 h4 h5 y]; exact kn2 ha hb y
theorem told_arg {L xi dx la lb lr : Addr} {m : Str → Option Value} {t1 t2 u1 u2 u3 : Tok} {xs rs bs : List Str} {vs us bv : List Value} {lo mi hi c d e : Nat} {Q : Value → Shared → Prop} (X : (K w.params).In h₀) (T : TopRead p ls mg mb h₀) (hh : A.handled = none) (hroom : A.depth < recursionLimit) (F : Fr h₀ L s.heap m)
    (h0 : m (Str.ofString "differ") = some (.ref xi)) (h1 : m (Str.ofString "rows") = some (.ref la)) (h2 : m (Str.ofString "low") = some (.int (lo : Int) u1)) (h3 : m (Str.ofString "middle") = some (.int (mi : Int) u2)) (h4 : m (Str.ofString "high") = some (.int (hi : Int) u3))
    (o1 : Own h₀ L s.heap xi (instObj 313 dx)) (o2 : Own h₀ L s.heap dx (dictOf (difEs w t1 t2) 2)) (o3 : Own h₀ L s.heap la (listOf vs.toArray c)) (h5 : m (Str.ofString "right") = some (.ref lr)) (h6 : m (Str.ofString "behind") = some (.ref lb)) (o4 : Own h₀ L s.heap lr (listOf us.toArray d)) (o5 : Own h₀ L s.heap lb (listOf bv.toArray e)) (hvs : StrsAre vs xs) (hus : StrsAre us rs) (hbv : StrsAre bv bs) (hsz : us.length + bv.length ≤ 1000) (hlm : lo < mi) (hmh : mi < hi) (hmx : mi ≤ xs.length) (hxl : xs.length ≤ 1000) (hrl : hi - mi = rs.length) (hx1 : ∀ x ∈ xs, x.length ≤ 1000) (hr1 : ∀ x ∈ rs, x.length ≤ 1000) (hb1 : ∀ x ∈ bs, x.length ≤ 1000) (hb : AllBare s.gens)
    (h : ∀ C a h' gs tk, s.toks ≤ tk → C < a → s.heap.objs.size ≤ C → Kp L s.heap h' → Fr h₀ L h' m → AllBare gs → h'.IsGen a s.gens.size → (∀ b o, h'.get? b = some o → b ≤ a) →
      (∀ (A' : Around) (s' : Shared) (S : Addr), A'.handled = none → A'.depth + 12 < recursionLimit → (∀ b o, h'.get? b = some o → s'.heap.get? b = some o) → s'.gens = gs → a < S →
        GenAtL prog w A' a s.gens.size (prFp S) (prWr C a S) (prGi s.gens.size) (prOut xs lo (mi - lo) (rs ++ bs) 0 (hi - mi)) S 0 s') → Q (.ref a) { s with heap := h', gens := gs, toks := tk }) :
    wpAny (model prog w) A (eval (argOf (valOf (iS 2))) (lawEnv L fa cd)) Q (fun _ _ => False) s := by
  have KN := fun y => kn7 h5 h6 h0 h1 h2 h3 h4 y
  replace F := Fr.congr F (fun y => (KN y).symm)
  obtain ⟨oth, N, hoth, hfr, -⟩ := led4 F
  replace N := o1.news (o2.news (o3.news (o4.news (o5.news N))))
  clear h0 h1 h2 h3 h4 h5 h6
  have X' := X
  have hrow : row = row := rfl
  revert hrow X
  k_fill
  intro _ X
  show wpAny _ _ (eval (Expr.Call _ _ _ _) _) _ _ _
  w_on
  try k_fold
  k_steps
  rename Fr _ _ _ _ => F1
  rename News _ _ _ _ => N1
  rename StrsAre vs xs => hvs'
  rename StrsAre us rs => hus'
  rename StrsAre bv bs => hbv'
  have kp := hoth F1 N1 (by intro q hq; repeat (first | exact hq | apply List.mem_cons_of_mem))
  rw [show (hi : Int) - (mi : Int) = ((0 + (hi - mi) : Nat) : Int) by omega, show (mi : Int) = ((lo + (mi - lo) : Nat) : Int) by omega]
  refine wpAny_call (mk_plain (lo1 := lo) (n1 := mi - lo) (lo2 := 0) (n2 := hi - mi) (xs := xs) (ys := rs ++ bs) (vs := vs) (us := us ++ bv) (d := 0) X' T hroom F1 N1 (.tail _ (.head _)) (.tail _ (.tail _ (.head _))) (.tail _ (.tail _ (.tail _ (.head _)))) ?_ hvs' (strsAre_append hus' hbv') (by omega) (by omega) (by omega) (by simp; omega) (by omega) ?_ ?_ ?_ ?_)
  · simpa using List.mem_cons_self ..
  · have := hus'.length; have := hbv'.length; simp only [List.length_append]; omega
  · intro x hx; have := hx1 x hx; rw [PySem.sizeLine_eq]; omega
  · intro x hx; rw [PySem.sizeLine_eq]
    rcases List.mem_append.mp hx with hx | hx
    · have := hr1 x hx; omega
    · have := hb1 x hx; omega
  · intro C a h' tk htk hCa hsC hsz' keep F2 N2 hg G
    refine h C a h' _ tk (by dsimp only at htk; omega) hCa (Nat.le_trans ?_ hsC) (fun b o hb1 e => keep b o (kp b o hb1 e)) (Fr.congr F2 KN) ?_ hg (fun b o e => Nat.le_of_lt_succ (Nat.lt_of_lt_of_eq (Heap.lt_size e) hsz')) fun A' s' S q1 q2 q3 q4 q5 => G A' s' S q1 q2 q3 q4 q5
    · exact Nat.le_of_lt (Heap.lt_size (N1 _ (.head _)).1)
    · intro z hz
      rcases Array.mem_push.mp hz with hz | hz
      · exact hb z hz
      · subst hz; rfl
end
end Mine
end
section
open PySem PySem.W PyProof.Rows PySem.Calls
set_option Elab.async false
set_option linter.unusedVariables false
set_option maxRecDepth 100000
set_option maxHeartbeats 4000000
namespace Mine
theorem n_list : Str.ofString "list" ≠ Str.ofString "__name__" := by decide
def tposOf : Stmt → Pos
  | .Assign [.Name _ p] _ _ => p
  | _ => ⟨0, 0, 0, 0⟩
def sposOf : Stmt → Pos
  | .Assign _ _ p => p
  | _ => ⟨0, 0, 0, 0⟩
theorem toldS_eq : iS 2 = .Assign [.Name (Str.ofString "told") (tposOf (iS 2))] (valOf (iS 2)) (sposOf (iS 2)) := by kernel_rfl
section
variable {w : World} {A : Around} {R : GenEnd} {Y : Protocol} {n : Nat} {s₀ : Shared} {c₀ : Code} {fs : List Frame} {h₀ : Heap} {p : Program} {ls : List Str} {mg mb : Str → Option Value} {s : Shared} {fa : Addr} {cd : Value}
theorem told_swap (L : Addr) : swapsWith (valOf (iS 2)) (some (.Name (Str.ofString "told") (tposOf (iS 2)))) (sposOf (iS 2)).line (lawEnv L fa cd) = pure false := by kernel_rfl
theorem dumpOut_le {tag : Str} {xs : List Str} {lo n : Nat} : (dumpOut tag xs lo n).length ≤ xs.length := by
  simp only [dumpOut, List.length_map, List.length_take, List.length_drop]; omega
theorem prOut_fits {xs ys : List Str} {lo1 n1 lo2 n2 : Nat} (hx : xs.length ≤ 1000) (hy : ys.length ≤ 1000) : (prOut xs lo1 n1 ys lo2 n2).length ≤ sizeLine := by
  rw [PySem.sizeLine_eq]
  have a1 := @dumpOut_le (Str.ofString "-") xs lo1 n1
  have a2 := @dumpOut_le (Str.ofString "+") ys lo2 n2
  unfold prOut
  split <;> simp only [List.length_append] <;> omega
theorem told_eval {L xi dx la lb lr : Addr} {m : Str → Option Value} {t1 t2 u1 u2 u3 : Tok} {xs rs bs : List Str} {vs us bv : List Value} {lo mi hi c d e : Nat} {Q : Value → Shared → Prop} (X : (K w.params).In h₀) (T : TopRead p ls mg mb h₀) (hh : (A.over c₀ fs).handled = none) (hroom : (A.over c₀ fs).depth + 12 < recursionLimit) (F : Fr h₀ L s.heap m)
    (h0 : m (Str.ofString "differ") = some (.ref xi)) (h1 : m (Str.ofString "rows") = some (.ref la)) (h2 : m (Str.ofString "low") = some (.int (lo : Int) u1)) (h3 : m (Str.ofString "middle") = some (.int (mi : Int) u2)) (h4 : m (Str.ofString "high") = some (.int (hi : Int) u3))
    (o1 : Own h₀ L s.heap xi (instObj 313 dx)) (o2 : Own h₀ L s.heap dx (dictOf (difEs w t1 t2) 2)) (o3 : Own h₀ L s.heap la (listOf vs.toArray c)) (h5 : m (Str.ofString "right") = some (.ref lr)) (h6 : m (Str.ofString "behind") = some (.ref lb)) (o4 : Own h₀ L s.heap lr (listOf us.toArray d)) (o5 : Own h₀ L s.heap lb (listOf bv.toArray e)) (hvs : StrsAre vs xs) (hus : StrsAre us rs) (hbv : StrsAre bv bs) (hsz : us.length + bv.length ≤ 1000) (hlm : lo < mi) (hmh : mi < hi) (hmx : mi ≤ xs.length) (hxl : xs.length ≤ 1000) (hrl : hi - mi = rs.length) (hx1 : ∀ x ∈ xs, x.length ≤ 1000) (hr1 : ∀ x ∈ rs, x.length ≤ 1000) (hb1 : ∀ x ∈ bs, x.length ≤ 1000) (hb : AllBare s.gens)
    (h : ∀ S vs c h' gs tk, Fr h₀ L h' m → Kp L s.heap h' → Own h₀ L h' S (listOf (List.toArray vs) c) → StrsAre vs (prOut xs lo (mi - lo) (rs ++ bs) 0 (hi - mi)) → AllBare gs → Fresh L s.heap S → Q (.ref S) { s with heap := h', gens := gs, toks := tk }) :
    LW (model prog w) A R Y n s₀ c₀ fs (eval (valOf (iS 2)) (lawEnv L fa cd)) Q (fun _ _ => False) s := by
  rw [told_eq, eval_CallName]
  refine lw_bw (Name_function_global (env := lawEnv L fa cd) (by rfl) (by rfl) (loadGlobal_builtin (env := lawEnv L fa cd) (show s.heap.Ns mainGlobals mg from (T.keeps F.keep).g) (mg_none_of X T.g (k_list _)) (show s.heap.Ns builtinsNs mb from (T.keeps F.keep).b) ((T.builtins _ n_list).trans b_list) ?_) (by decide))
  refine lw_callWith_type (by rfl) ?_
  obtain ⟨oth, N, hoth, hfr, -⟩ := led4 F
  refine Calls.evalArgs_plain (Calls.spliced_cons (wpAny_mono (told_arg (A := A.over c₀ fs) X T hh (Nat.lt_of_le_of_lt (Nat.le_add_right _ _) hroom) F h0 h1 h2 h3 h4 o1 o2 o3 h5 h6 o4 o5 hvs hus hbv hsz hlm hmh hmx hxl hrl hx1 hr1 hb1 hb ?_) (fun _ _ q => q) fun _ _ q => q))
  intro C a h' gs tk htk hCa hsC kp F' hbr hg hle G
  refine Calls.spliced_nil ?_
  have N' : News h₀ L h' oth := fun q hq => ⟨kp _ _ (N q hq).2.1 (N q hq).1, (N q hq).2⟩
  have hnC : ∀ q ∈ oth, q.1 < C := fun q hq => Nat.lt_of_lt_of_le (Heap.lt_size (N q hq).1) hsC
  have hLC : L < C := Nat.lt_of_lt_of_le F.ns.lt hsC
  refine list_plain (g := s.gens.size) (s := { s with heap := h', gens := gs, toks := tk }) T hh hroom F' N' hbr hg hLC hCa hnC (prOut_fits hxl (by have := hus.length; have := hbv.length; simp only [List.length_append]; omega)) (fun A' s' S q1 q2 q3 q4 q5 => G A' s' S q1 q2 q3 q4 q5) ?_
  intro S vs' c' h2 gs2 tk2 hS F2 N2 hv2 hb2 hlt
  exact h S vs' c' h2 gs2 tk2 F2 (hoth F2 N2 (fun q hq => .tail _ hq)) (Own.of N2 (.head _)) hv2 hb2 (hfr (Own.of N2 (.head _)).2.2 hlt)
end
end Mine
end
section
open PySem PySem.W PyProof.Rows
set_option Elab.async false
set_option linter.unusedVariables false
set_option maxRecDepth 100000
set_option maxHeartbeats 4000000
namespace Mine
theorem pickNat (vs : List Value) (a b : Nat) (hb : b ≤ vs.length) : slicePick vs.toArray (some (a : Int)) (some (b : Int)) none = ((vs.drop a).take (b - a)).toArray := by
  by_cases h : a ≤ vs.length
  · refine kmk_pick_nat _ ?_
    simp [sliceBounds]; omega
  · rw [kmk_pick_nat (a := vs.length) (b := b) _ (by simp [sliceBounds]; omega)]
    simp
    omega
theorem pickFrom (vs : List Value) (a : Nat) (h : a ≤ vs.length) : slicePick vs.toArray (some (a : Int)) none none = (vs.drop a).toArray := by
  rw [kmk_pick_nat (a := a) (b := vs.length) _ (by simp [sliceBounds]; omega), List.take_of_length_le (by simp)]
theorem pickTo (vs : List Value) (a : Nat) (h : a ≤ vs.length) : slicePick vs.toArray none (some (a : Int)) none = (vs.take a).toArray := by
  rw [kmk_pick_nat (a := 0) (b := a) _ (by simp [sliceBounds]; omega)]
  simp
theorem st3 {m f : Str → Option Value} {a b c : Str} {va vb vc : Option Value} (e : ∀ y, f y = m y) (y : Str) : (if y = a then va else if y = b then vb else if y = c then vc else f y) = if y = a then va else if y = b then vb else if y = c then vc else m y := by rw [e]
section
variable {w : World} {A : Around} {h₀ : Heap} {p : Program} {ls : List Str} {mg mb : Str → Option Value} {s : Shared} {fa : Addr} {cd : Value}
theorem i1 {L la : Addr} {m : Str → Option Value} {u1 u2 u3 : Tok} {vs : List Value} {lo mi hi c : Nat} {Q : Flow → Shared → Prop} (X : (K w.params).In h₀) (T : TopRead p ls mg mb h₀) (hh : A.handled = none) (F : Fr h₀ L s.heap m)
    (h1 : m (Str.ofString "rows") = some (.ref la)) (h2 : m (Str.ofString "low") = some (.int (lo : Int) u1)) (h3 : m (Str.ofString "middle") = some (.int (mi : Int) u2)) (h4 : m (Str.ofString "high") = some (.int (hi : Int) u3))
    (o3 : Own h₀ L s.heap la (listOf vs.toArray c)) (hlm : lo ≤ mi) (hmh : mi ≤ hi) (hmx : hi ≤ vs.length) (hxl : vs.length ≤ 1000)
    (h : ∀ h' tk l r b, Fr h₀ L h' (fun y => if y = Str.ofString "left" then some (.ref l) else if y = Str.ofString "right" then some (.ref r) else if y = Str.ofString "behind" then some (.ref b) else m y) → Kp L s.heap h' →
      Own h₀ L h' l (listOf ((vs.drop lo).take (mi - lo)).toArray 0) → Own h₀ L h' r (listOf ((vs.drop mi).take (hi - mi)).toArray 0) → Own h₀ L h' b (listOf (vs.drop hi).toArray 0) → Q .next { s with heap := h', toks := tk }) :
    wpAny (model prog w) A (exec (iS 1) (lawEnv L fa cd)) Q (fun _ _ => False) s := by
  cases A; cases hh
  have KN := fun y => kn4 h1 h2 h3 h4 y
  replace F := Fr.congr F (fun y => (KN y).symm)
  obtain ⟨oth, N, hoth, hfr, -⟩ := led4 F
  replace N := o3.news N
  clear h1 h2 h3 h4
  have X' := X
  have hrow : row = row := rfl
  revert hrow X
  k_fill
  intro _ X
  show wpAny _ _ (exec (Stmt.Assign _ _ _) _) _ _ _
  w_on
  try k_fold
  k_steps
  rename Fr _ _ _ _ => F'
  rename News _ _ _ _ => N'
  have ob := Own.of N' (.tail _ (.head _))
  have or := Own.of N' (.tail _ (.tail _ (.head _)))
  have ol := Own.of N' (.tail _ (.tail _ (.tail _ (.head _))))
  rw [pickNat _ _ _ (by omega)] at or ol
  rw [pickFrom _ _ (by omega)] at ob
  exact h _ _ _ _ _ (Fr.congr F' (st3 KN)) (hoth F' N' (by intro q hq; repeat (first | exact hq | apply List.mem_cons_of_mem))) ol or ob
theorem i0 {L le : Addr} {m : Str → Option Value} {t : Tok} {es : List Value} {ds : List Int} {k c : Nat} {Q : Flow → Shared → Prop} (X : (K w.params).In h₀) (T : TopRead p ls mg mb h₀) (hh : A.handled = none) (F : Fr h₀ L s.heap m)
    (h1 : m (Str.ofString "ends") = some (.ref le)) (h2 : m (Str.ofString "k") = some (.int (k : Int) t)) (o : Own h₀ L s.heap le (listOf es.toArray c)) (he : IntsAre es ds) (hk : k + 2 < ds.length) (hx : k ≤ 1000)
    (h : ∀ h' tk t1 t2 t3, Fr h₀ L h' (fun y => if y = Str.ofString "low" then some (.int (ds.getD k 0) t1) else if y = Str.ofString "middle" then some (.int (ds.getD (k + 1) 0) t2) else if y = Str.ofString "high" then some (.int (ds.getD (k + 2) 0) t3) else m y) → Kp L s.heap h' →
      Q .next { s with heap := h', toks := tk }) :
    wpAny (model prog w) A (exec (iS 0) (lawEnv L fa cd)) Q (fun _ _ => False) s := by
  cases A; cases hh
  have KN := fun y => kn2 h1 h2 y
  replace F := Fr.congr F (fun y => (KN y).symm)
  obtain ⟨oth, N, hoth, hfr, -⟩ := led4 F
  replace N := o.news N
  clear h1 h2
  have X' := X
  have hrow : row = row := rfl
  revert hrow X
  k_fill
  intro _ X
  show wpAny _ _ (exec (Stmt.Assign _ _ _) _) _ _ _
  w_on
  try k_fold
  k_steps
  rename Fr _ _ _ _ => F'
  rename News _ _ _ _ => N'
  rw [show (k : Int).toNat = k by omega, show ((k : Int) + 1).toNat = k + 1 by omega, show ((k : Int) + 2).toNat = k + 2 by omega] at F'
  exact h _ _ _ _ _ (Fr.congr F' (st3 KN)) (hoth F' N' (by intro q hq; repeat (first | exact hq | apply List.mem_cons_of_mem)))
end
end Mine
end
section
open PySem PySem.W PyProof.Rows
set_option Elab.async false
set_option linter.unusedVariables false
set_option maxRecDepth 100000
set_option maxHeartbeats 4000000
namespace Mine
/-- a cell of the call's own -/
def CellAt (h₀ : Heap) (L : Addr) (h : Heap) (c : Addr) (v : Option Value) : Prop := ∃ o, Own h₀ L h c o ∧ o.data = .cell v
theorem CellAt.is {h₀ h : Heap} {L c : Addr} {v : Option Value} (x : CellAt h₀ L h c v) : h.IsCell c v := let ⟨o, ho, hd⟩ := x; ⟨o, ho.1, hd⟩
theorem CellAt.of {h₀ h : Heap} {L c : Addr} {v : Option Value} (x : h.IsCell c v) (hL : c ≠ L) (h0 : h₀.get? c = none) : CellAt h₀ L h c v := let ⟨o, ho, hd⟩ := x; ⟨o, ⟨ho, hL, h0⟩, hd⟩
theorem CellAt.kp {h₀ h h' : Heap} {L c : Addr} {v : Option Value} (x : CellAt h₀ L h c v) (k : Kp L h h') : CellAt h₀ L h' c v := let ⟨o, ho, hd⟩ := x; ⟨o, ho.kp k, hd⟩
/-- where the walk is to halt -/
def Halt (P : Prop) : Prop := P
theorem halt_ {P : Prop} (h : Halt P) : P := h
theorem txt_fits {xs : List Str} {x : Str} (h : ∀ x ∈ xs, x.length ≤ 1000) (hx : x ∈ xs) : x.length ≤ sizeLine := by have := h x hx; rw [PySem.sizeLine_eq]; omega
section
variable {prog : Program} {w : World} {A : Around} {s : Shared} {h₀ : Heap} {L : Addr} {m : Str → Option Value} {env : Env} {ct elt : Expr} {x : Str} {scope : Scope} {cl : List (Str × Addr)} {S : List (Addr × Obj) → Prop} {P : Nat → Value → Prop} {Fin : List Value → List (Addr × Obj) → Prop} {news : List (Addr × Obj)} {n : Nat}
theorem compEnd_mono {s₁ s₂ : Shared} {I C D : Addr} {oI oC oD : Obj} {r r' : Value → List (Addr × Obj) → Prop} {y : Value} (h : LCg.CompEnd h₀ L m s₁ I oI C oC D oD S r y s₂) (k : ∀ nw, r y nw → r' y nw) : LCg.CompEnd h₀ L m s₁ I oI C oC D oD S r' y s₂ :=
  let ⟨h', tk, nw, e, F, N, off, hs, hr⟩ := h; ⟨h', tk, nw, e, F, N, off, hs, k nw hr⟩
/-- a comprehension with a test, by what holds between its turns -/
theorem restT_inv (J : Nat → List Value → Prop)
    (turn : ∀ i ys v I oI C oC D m₂ h tk (E' : Value → Shared → Prop), i < n → J i ys → P i v → LCg.NsObj oC m₂ → m₂ x = some v → Fr h₀ L h m → News h₀ L h ((I, oI) :: (C, oC) :: (D, LCg.lst ys) :: news) → LCg.Off3 I C D news → ((@Ne Nat I C) ∧ (@Ne Nat I D) ∧ (@Ne Nat C D)) →
      wpAny (model prog w) A (PySem.isTrue ct (compEnvC scope cl C env) (eval ct (compEnvC scope cl C env))) (fun ok s' => if ok = true then
        wpAny (model prog w) A (eval elt (compEnvC scope cl C env)) (LCg.CompEnd h₀ L m { s with heap := h, toks := tk } I oI C oC D (LCg.lst ys) S (fun y news' => news' = news ∧ J (i + 1) (ys ++ [y]))) E' s'
        else LCg.CompEnd h₀ L m { s with heap := h, toks := tk } I oI C oC D (LCg.lst ys) S (fun _ news' => news' = news ∧ J (i + 1) ys) Value.none s') E' { s with heap := h, toks := tk })
    (fin : ∀ ys, J n ys → Fin ys news) : ∀ k i ys, i + k = n → J i ys → LCt.CompRestT prog w A h₀ L m env ct elt x scope cl s S P Fin k i ys news := by
  intro k
  induction k with
  | zero => intro i ys hk hJ; exact LCt.CompRestT.zero (fin ys ((by omega : i = n) ▸ hJ))
  | succ k ih =>
    intro i ys hk hJ
    refine LCt.CompRestT.succ fun v I oI C oC D m₂ h tk E' hP hO hx F N off ne => ?_
    refine wpAny_mono (turn i ys v I oI C oC D m₂ h tk E' (by omega) hJ hP hO hx F N off ne) (fun ok s' hq => ?_) fun _ _ q => q
    cases ok with
    | true =>
      rw [if_pos rfl] at hq ⊢
      exact wpAny_mono hq (fun y s'' h2 => compEnd_mono h2 fun nw ⟨e, hJ'⟩ => e ▸ ih (i + 1) _ (by omega) hJ') fun _ _ q => q
    | false =>
      rw [if_neg Bool.false_ne_true] at hq ⊢
      exact compEnd_mono hq fun nw ⟨e, hJ'⟩ => e ▸ ih (i + 1) _ (by omega) hJ'
/-- a comprehension without a test, by what holds between its turns -/
theorem rest_inv (J : Nat → List Value → Prop)
    (turn : ∀ i ys v I oI C oC D m₂ h tk (E' : Value → Shared → Prop), i < n → J i ys → P i v → LCg.NsObj oC m₂ → m₂ x = some v → Fr h₀ L h m → News h₀ L h ((I, oI) :: (C, oC) :: (D, LCg.lst ys) :: news) → LCg.Off3 I C D news → ((@Ne Nat I C) ∧ (@Ne Nat I D) ∧ (@Ne Nat C D)) →
      wpAny (model prog w) A (eval elt (compEnvC scope cl C env)) (LCg.CompEnd h₀ L m { s with heap := h, toks := tk } I oI C oC D (LCg.lst ys) S (fun y news' => news' = news ∧ J (i + 1) (ys ++ [y]))) E' { s with heap := h, toks := tk })
    (fin : ∀ ys, J n ys → Fin ys news) : ∀ k i ys, i + k = n → J i ys → LCg.CompRest prog w A h₀ L m env elt x scope cl s S P Fin k i ys news := by
  intro k
  induction k with
  | zero => intro i ys hk hJ; exact LCg.CompRest.zero (fin ys ((by omega : i = n) ▸ hJ))
  | succ k ih =>
    intro i ys hk hJ
    refine LCg.CompRest.succ fun v I oI C oC D m₂ h tk E' hP hO hx F N off ne => ?_
    exact wpAny_mono (turn i ys v I oI C oC D m₂ h tk E' (by omega) hJ hP hO hx F N off ne) (fun y s'' h2 => compEnd_mono h2 fun nw ⟨e, hJ'⟩ => e ▸ ih (i + 1) _ (by omega) hJ') fun _ _ q => q
end
local macro_rules | `(tactic| size_fits) => `(tactic| exact txt_fits (by assumption) (by assumption))
local macro_rules | `(tactic| walk_at "CompSrcT") => `(tactic| refine halt_ ?_)
local macro_rules | `(tactic| walk_at "CompSrc") => `(tactic| refine halt_ ?_)
local macro_rules | `(tactic| walk_at "CompEnd") => `(tactic| refine halt_ ?_)
section
variable {w : World} {A : Around} {h₀ : Heap} {p : Program} {ls : List Str} {mg mb : Str → Option Value} {s : Shared} {fa : Addr} {cd : Value}
theorem i4 {L lt : Addr} {m : Str → Option Value} {ts : List Str} {tv : List Value} {c : Nat} {Q : Flow → Shared → Prop} (X : (K w.params).In h₀) (T : TopRead p ls mg mb h₀) (hh : A.handled = none) (hroom : A.depth + 12 < recursionLimit) (F : Fr h₀ L s.heap m)
    (hc : CellAt h₀ L s.heap (L + 1) (some (.ref lt))) (ot : Own h₀ L s.heap lt (listOf tv.toArray c)) (hts : StrsAre tv ts) (hl : ts.length ≤ 1000) (hl1 : ∀ x ∈ ts, x.length ≤ 1000) (hpos : 0 < ts.length)
    (h : ∀ R ys h' tk n, Fr h₀ L h' (set1 m (Str.ofString "first") (.ref R)) → Kp L s.heap h' → Own h₀ L h' R (listOf ys.toArray n) → StrsAre ys (ts.filter fun r => Txt.slice r none (some 2) == Txt.slice (ts.getD 0 Str.empty) none (some 2)) → Q .next { s with heap := h', toks := tk }) :
    wpAny (model prog w) A (exec (iS 4) (lawEnv L fa cd)) Q (fun _ _ => False) s := by
  cases A; cases hh
  obtain ⟨oth, N, hoth, hfr, -⟩ := led4 F
  obtain ⟨oc, hoc, hdc⟩ := hc
  replace N := hoc.news (ot.news N)
  have X' := X
  have hrow : row = row := rfl
  revert hrow X
  k_fill
  intro _ X
  show wpAny _ _ (exec (Stmt.Assign _ _ _) _) _ _ _
  w_on
  try k_fold
  refine LCt.Assign_ListComp_T F rfl (by rfl) (by rfl) (by decide) rfl (by decide) (by rfl) (by rfl) (by rfl) ?_
  k_steps
  rename Fr _ _ _ _ => F1
  rename News _ _ _ _ => N1
  change LCt.CompSrcT _ _ _ _ _ _ _ _ _ _ _ _ _ _ _
  refine LCt.CompSrcT.ledger rfl F1 N1 (.tail _ (.head _)) (by have := hts.length; rw [List.size_toArray, PySem.sizeLine_eq]; omega) ?_
  intro g
  refine restT_inv (fun i ys => StrsAre ys ((ts.take i).filter fun r => Txt.slice r none (some 2) == Txt.slice (ts.getD 0 Str.empty) none (some 2))) ?_ ?_ _ 0 [] (Nat.zero_add _) .nil
  · intro i ys v I oI C oC D' m₂ h' tk' E' hi hJ hP hO hx F2 N2 off ne
    clear F1 N1
    obtain ⟨x, t, rfl, hxi⟩ := hts.item i v (by simpa using hP)
    have hm : x ∈ ts := List.mem_of_getElem? hxi
    have hm0 : ts.getD (Int.toNat 0) Str.empty ∈ ts := by
      cases ts with
      | nil => simp at hpos
      | cons a r => exact .head _
    have tk1 : ts.take (i + 1) = ts.take i ++ [x] := by rw [List.take_add_one, hxi]; rfl
    k_steps
    · rename (_ == _) = true => hq
      rename Fr _ L _ _ => F3
      rename News _ L _ _ => N3
      change LCg.CompEnd _ _ _ _ _ _ _ _ _ _ _ _ _ _
      refine LCg.CompEnd.intro F3 N3 _ (by intro q hq; repeat (first | exact hq | apply List.mem_cons_of_mem)) off (.inr ⟨_, .tail _ (.head _), rfl, _, rfl⟩) ⟨rfl, ?_⟩
      rw [tk1, List.filter_append, List.filter_cons_of_pos (by exact hq)]
      exact StrsAre.append' hJ (.cons _ _ .nil)
    · rename (_ == _) = false => hq
      rename Fr _ L _ _ => F3
      rename News _ L _ _ => N3
      change LCg.CompEnd _ _ _ _ _ _ _ _ _ _ _ _ _ _
      refine LCg.CompEnd.intro F3 N3 _ (by intro q hq; repeat (first | exact hq | apply List.mem_cons_of_mem)) off (.inr ⟨_, .tail _ (.head _), rfl, _, rfl⟩) ⟨rfl, ?_⟩
      have hq' : (Txt.slice x none (some 2) == Txt.slice (ts.getD 0 Str.empty) none (some 2)) = false := hq
      rw [tk1, List.filter_append]
      simp only [List.filter_cons, hq', List.filter_nil, Bool.false_eq_true, if_false, List.append_nil]
      exact hJ
  · intro ys hJ R h' tk F3 N3 off
    have tt : ts.take tv.toArray.size = ts := List.take_of_length_le (by rw [List.size_toArray, hts.length]; exact Nat.le_refl _)
    rw [tt] at hJ
    exact h R ys h' tk _ F3 (hoth F3 N3 (by intro q hq; repeat (first | exact hq | apply List.mem_cons_of_mem))) (Own.of N3 (.head _)) hJ
end
end Mine
end
section
open PySem PySem.W PyProof.Rows
set_option Elab.async false
set_option linter.unusedVariables false
set_option maxRecDepth 100000
set_option maxHeartbeats 4000000
namespace Mine
local macro_rules | `(tactic| size_fits) => `(tactic| exact txt_fits (by assumption) (by assumption))
local macro_rules | `(tactic| walk_at "eval ListComp") => `(tactic| refine halt_ ?_)
local macro_rules | `(tactic| walk_at "CompSrc") => `(tactic| refine halt_ ?_)
local macro_rules | `(tactic| walk_at "CompEnd") => `(tactic| refine halt_ ?_)
theorem strsAre_len {vs : List Value} {xs : List Str} (h : StrsAre vs xs) : vs.length = xs.length := h.length
section
variable {w : World} {A : Around} {h₀ : Heap} {p : Program} {ls : List Str} {mg mb : Str → Option Value} {s : Shared} {fa : Addr} {cd : Value}
theorem i5 {L lt la lb : Addr} {m : Str → Option Value} {u1 : Tok} {ts : List Str} {vs bv tv : List Value} {lo c d e : Nat} {Q : Flow → Shared → Prop} (X : (K w.params).In h₀) (T : TopRead p ls mg mb h₀) (hh : A.handled = none) (hroom : A.depth + 12 < recursionLimit) (F : Fr h₀ L s.heap m)
    (h1 : m (Str.ofString "rows") = some (.ref la)) (h2 : m (Str.ofString "low") = some (.int (lo : Int) u1)) (h3 : m (Str.ofString "behind") = some (.ref lb)) 
    (hc : CellAt h₀ L s.heap (L + 1) (some (.ref lt))) (ot : Own h₀ L s.heap lt (listOf tv.toArray c)) (oa : Own h₀ L s.heap la (listOf vs.toArray d)) (ob : Own h₀ L s.heap lb (listOf bv.toArray e)) (hts : StrsAre tv ts) (hl : ts.length ≤ 1000) (hl1 : ∀ x ∈ ts, x.length ≤ 1000)
    (hlo : lo ≤ vs.length) (hv : vs.length ≤ 1000) (hbv : bv.length ≤ 1000)
    (h : ∀ R ys h' tk n, Fr h₀ L h' (set1 m (Str.ofString "rows") (.ref R)) → Kp L s.heap h' → Fresh L s.heap R → Own h₀ L h' R (listOf (vs.take lo ++ ys ++ bv).toArray n) → StrsAre ys (ts.map fun r => Txt.slice r (some 2) none) → Q .next { s with heap := h', toks := tk }) :
    wpAny (model prog w) A (exec (iS 5) (lawEnv L fa cd)) Q (fun _ _ => False) s := by
  cases A; cases hh
  have KN := fun y => kn3 h1 h2 h3 y
  replace F := Fr.congr F (fun y => (KN y).symm)
  obtain ⟨oth, N, hoth, hfr, -⟩ := led4 F
  obtain ⟨oc, hoc, hdc⟩ := hc
  replace N := hoc.news (ot.news (oa.news (ob.news N)))
  clear h1 h2 h3
  have X' := X
  have hrow : row = row := rfl
  revert hrow X
  k_fill
  intro _ X
  show wpAny _ _ (exec (Stmt.Assign _ _ _) _) _ _ _
  w_on
  try k_fold
  k_steps
  rename Fr _ _ _ _ => F1
  rename News _ _ _ _ => N1
  show wpAny _ _ (eval (Expr.ListComp _ _ _ _) _) _ _ _
  refine LCg.ListComp_U F1 (by rfl) (by decide) rfl (by decide) (by rfl) ?_
  k_steps
  rename Fr _ _ _ _ => F1
  rename News _ _ _ _ => N1
  change LCg.CompSrc _ _ _ _ _ _ _ _ _ _ _ _ _ _
  refine LCg.CompSrc.ledger rfl F1 N1 (.tail _ (.tail _ (.head _))) (by have := hts.length; rw [List.size_toArray, PySem.sizeLine_eq]; omega) ?_
  intro g
  refine rest_inv (fun i ys => StrsAre ys ((ts.take i).map fun r => Txt.slice r (some 2) none)) ?_ ?_ _ 0 [] (Nat.zero_add _) .nil
  · intro i ys v I oI C oC D' m₂ h' tk' E' hi hJ hP hO hx F2 N2 off ne
    clear F1 N1
    obtain ⟨x, t, rfl, hxi⟩ := hts.item i v (by simpa using hP)
    have hm : x ∈ ts := List.mem_of_getElem? hxi
    have tk1 : ts.take (i + 1) = ts.take i ++ [x] := by rw [List.take_add_one, hxi]; rfl
    k_steps
    rename Fr _ L _ _ => F3
    rename News _ L _ _ => N3
    change LCg.CompEnd _ _ _ _ _ _ _ _ _ _ _ _ _ _
    refine LCg.CompEnd.intro F3 N3 _ (by intro q hq; repeat (first | exact hq | apply List.mem_cons_of_mem)) off (.inr ⟨_, .tail _ (.tail _ (.head _)), rfl, _, rfl⟩) ⟨rfl, ?_⟩
    rw [tk1, List.map_append]
    exact StrsAre.append' hJ (.cons _ _ .nil)
  · intro ys hJ R h' tk F3 N3 off
    have tt : ts.take tv.toArray.size = ts := List.take_of_length_le (by rw [List.size_toArray, hts.length]; exact Nat.le_refl _)
    rw [tt] at hJ
    have hyl : ys.length = ts.length := by rw [hJ.length, List.length_map]
    clear F1 N1
    rw [pickTo _ _ hlo] at N3
    refine add_lists (vs := vs.take lo) (ws := ys) F3 N3 (isL N3 (.tail _ (.head _))) (isL N3 (.head _)) ?_ (hsz := by rw [PySem.sizeLine_eq, List.length_take]; omega)
    intro h1 F4 N4
    have kp4 := hoth F4 N4 (by intro q hq; repeat (first | exact hq | apply List.mem_cons_of_mem))
    clear F3 N3 off
    k_steps
    rename Fr _ _ _ _ => F5
    rename News _ _ _ _ => N5
    refine add_lists (vs := vs.take lo ++ ys) (ws := bv) F5 N5 (isL N5 (.head _)) (isL N5 (.tail _ (.tail _ (.tail _ (.tail _ (.tail _ (.tail _ (.head _)))))))) ?_ (hsz := by rw [PySem.sizeLine_eq, List.length_append, List.length_take]; omega)
    intro h6 F6 N6
    clear F5 N5
    k_steps
    rename Fr _ _ _ _ => F7
    rename News _ _ _ _ => N7
    have o7 := Own.of N7 (.head _)
    exact h _ ys _ _ _ (Fr.congr F7 (st1 KN)) (hoth F7 N7 (by intro q hq; repeat (first | exact hq | apply List.mem_cons_of_mem))) (fun b o hb e => Nat.ne_of_lt (Heap.lt_size (kp4 b o hb e))) o7 hJ
end
end Mine
end
section
open PySem PySem.W PyProof.Rows
set_option Elab.async false
set_option linter.unusedVariables false
set_option maxRecDepth 100000
set_option maxHeartbeats 1000000
namespace Mine
section
variable {prog : Program} {w : World} {A : Around} {E : Value → Shared → Prop} {s : Shared}
theorem setItem_obj {l : Addr} {o : Obj} {items : Array Value} {ne : Nat} {k : Int} {t : Tok} {v : Value} {Q : Unit → Shared → Prop} (ho : s.heap.get? l = some o) (hc : o.cls = .type "list") (hd : o.data = .seq items ne) (h0 : 0 ≤ k) (hfit : k < 2 ^ 63) (hn : k < items.size)
    (hQ : ∀ h', h'.get? l = some (Obj.mapSeq (·.setIfInBounds k.toNat v) o) → Heap.SameBut l s.heap h' → Q () { s with heap := h' }) :
    wpAny (model prog w) A (setItem (.ref l) (.int k t) v) Q E s := by
  have hl : s.heap.IsList l items := ⟨o, ho, hc, ne, hd⟩
  unfold setItem
  try with_reducible refine wpAny_holding ?_
  first | refine wpAny_bind (wpAny_pure ?_) | skip
  refine wpAny_bind (wpAny_sequenceKey hl.typeIs (by decide) ?_)
  refine wpAny_bind (wpAny_callSpecial?_slot (name := Str.ofString "__setitem__") hl.typeIs slot_list_setitem
    (wpAny_call_entry slot_list_setitem hl.typeIs entry_list_setitem ?_ (args_list_setitem _ _ _)))
  show wpAny _ _ (Builtin.List.listSubscript? (.int k t) >>= _) _ _ s
  refine wpAny_bind (wpAny_listSubscript_int (fitsIndex_of h0 hfit) ?_)
  clear hfit
  obtain ⟨j, rfl⟩ := Int.eq_ofNat_of_zero_le h0
  have hj : j < items.size := by omega
  have hx' : items[j]? = some items[j] := Array.getElem?_eq_getElem hj
  show wpAny _ _ ((seqItemAt l j >>= fun r => pure (r.map (j, ·))) >>= _) _ _ s
  refine wpAny_bind (wpAny_bind (wpAny_seqItemAt ho hd (wpAny_pure ?_)))
  rw [hx']
  show wpAny _ _ (setSeqItemAt l j v >>= _) _ _ s
  obtain ⟨n', hd'⟩ := Obj.data_mapSeq hd (·.setIfInBounds j v)
  have hfin := Heap.get?_update_self (Obj.mapSeq (·.setIfInBounds j v)) ho (Obj.isFreed_of_seq hd')
  refine wpAny_bind (wpAny_setSeqItemAt ho hd ?_)
  first
    | exact wpAny_bind (wpAny_pure (wpAny_pure ⟨.none, rfl, wpAny_pure (hQ _ hfin (Heap.SameBut.update ..))⟩))
    | exact wpAny_pure ⟨.none, rfl, wpAny_pure (hQ _ hfin (Heap.SameBut.update ..))⟩
/-- xs[k] = v, of a list of the call's own -/
theorem setItem_own {l : Addr} {its : Array Value} {n k : Nat} {kv : Int} {t : Tok} {v : Value} {Q : Unit → Shared → Prop} (hS : s.heap.get? l = some (listOf its n)) (hk : kv = (k : Int)) (hn : k < its.size) (hfit : k < 2 ^ 62)
    (hQ : ∀ h' n', h'.get? l = some (listOf (its.setIfInBounds k v) n') → Heap.SameBut l s.heap h' → Q () { s with heap := h' }) :
    wpAny (model prog w) A (setItem (.ref l) (.int kv t) v) Q E s := by
  subst hk
  exact setItem_obj hS rfl rfl (by omega) (by omega) (by omega) fun h' e sb => hQ h' _ e sb
/-- xs[-1] -/
theorem last_own {value slice : Expr} {l : Addr} {us : List Value} {x : Value} {t : Tok} {Q : Value → Shared → Prop} (hl : s.heap.IsList l (us ++ [x]).toArray) (h : Q x s)
    (hs : subscripted slice false (.ref l) (.int (-1) t) = operate [.ref l, .int (-1) t] (getItem (.ref l) (.int (-1) t))) :
    wpAny (model prog w) A (subscriptTail value slice (.ref l) (.int (-1) t)) Q E s := by
  refine tail_any hl.typeIs slot_list_getitem.lookup (wpAny_getItem_list_neg hl (by decide) ?_ (by decide) ?_ h) hs
  · simp only [List.size_toArray, List.length_append, List.length_singleton]; omega
  · simp only [List.size_toArray, List.length_append, List.length_singleton, List.getElem?_toArray]
    rw [show ((-1 : Int) + ((us.length + 1 : Nat) : Int)).toNat = us.length by omega]
    simp
/-- xs[k] -/
theorem item_own {value slice : Expr} {l : Addr} {us : List Value} {x : Value} {kv : Int} {k : Nat} {t : Tok} {Q : Value → Shared → Prop} (hl : s.heap.IsList l us.toArray) (hk : kv = (k : Int)) (hx : us[k]? = some x) (hfit : k < 2 ^ 62) (h : Q x s)
    (hs : subscripted slice false (.ref l) (.int kv t) = operate [.ref l, .int kv t] (getItem (.ref l) (.int kv t))) :
    wpAny (model prog w) A (subscriptTail value slice (.ref l) (.int kv t)) Q E s := by
  subst hk
  exact tail_any hl.typeIs slot_list_getitem.lookup (wpAny_getItem_list hl (by omega) (by omega) (by simpa using hx) h) hs
end
end Mine
end
section
open PySem PySem.W PyProof.Rows
set_option Elab.async false
set_option linter.unusedVariables false
set_option maxRecDepth 100000
set_option maxHeartbeats 4000000
namespace Mine
local macro_rules | `(tactic| walk_at "compareOp NotEq ref ref") => `(tactic| refine halt_ ?_)
section
variable {w : World} {A : Around} {h₀ : Heap} {p : Program} {ls : List Str} {mg mb : Str → Option Value} {s : Shared} {fa : Addr} {cd : Value}
theorem i6 {L le lf : Addr} {m : Str → Option Value} {t1 t2 : Tok} {es fv : List Value} {ds : List Int} {k lo c d : Nat} {Q : Flow → Shared → Prop} (X : (K w.params).In h₀) (T : TopRead p ls mg mb h₀) (hh : A.handled = none) (F : Fr h₀ L s.heap m)
    (h1 : m (Str.ofString "ends") = some (.ref le)) (h2 : m (Str.ofString "k") = some (.int (k : Int) t1)) (h3 : m (Str.ofString "low") = some (.int (lo : Int) t2)) (h4 : m (Str.ofString "first") = some (.ref lf)) (o : Own h₀ L s.heap le (listOf es.toArray c)) (of : Own h₀ L s.heap lf (listOf fv.toArray d)) (he : IntsAre es ds) (hk : k + 1 < ds.length) (hx : k ≤ 1000) (hfl : fv.length ≤ 1000) (hlx : lo ≤ 1000)
    (h : ∀ h' tk n' t, Fr h₀ L h' m → KpB L le s.heap h' → Own h₀ L h' le (listOf (es.toArray.setIfInBounds (k + 1) (.int ((lo : Int) + (fv.length : Int)) t)) n') → Q .next { s with heap := h', toks := tk }) :
    wpAny (model prog w) A (exec (iS 6) (lawEnv L fa cd)) Q (fun _ _ => False) s := by
  cases A; cases hh
  have KN := fun y => kn4 h1 h2 h3 h4 y
  replace F := Fr.congr F (fun y => (KN y).symm)
  obtain ⟨oth, N, hoth, hfr, -⟩ := led4 F
  replace N := o.news (of.news N)
  clear h1 h2 h3 h4
  have X' := X
  have hrow : row = row := rfl
  revert hrow X
  k_fill
  intro _ X
  show wpAny _ _ (exec (Stmt.Assign _ _ _) _) _ _ _
  w_on
  try k_fold
  k_steps
  refine len_list (isL N (.tail _ (.head _))) (by simp; omega) ?_
  rw [List.size_toArray]
  k_steps
  rename Fr _ _ _ _ => F1
  rename News _ _ _ _ => N1
  have kp := hoth F1 N1 (by intro q hq; repeat (first | exact hq | apply List.mem_cons_of_mem))
  have hm := N1 _ (.head _)
  have hel : es.length = ds.length := he.length
  refine setItem_own (k := k + 1) hm.1 (by omega) (by rw [List.size_toArray, hel]; exact hk) (by omega) fun h2 n2 hl2 sb => ?_
  have F3 := F1.update N1 (.head _) sb
  exact h h2 _ n2 _ (Fr.congr F3 KN) (fun b o hb1 hb2 e => (sb.2 b hb2).trans (kp b o hb1 e)) ⟨hl2, hm.2⟩
theorem i3 {L lt ll lr : Addr} {m : Str → Option Value} {ts as bs : List Str} {tv av bv : List Value} {c d e : Nat} {Q : Flow → Shared → Prop} (X : (K w.params).In h₀) (T : TopRead p ls mg mb h₀) (hh : A.handled = none) (hroom : A.depth + 12 < recursionLimit) (hun : A.units + 64 < cLine) (F : Fr h₀ L s.heap m)
    (h1 : m (Str.ofString "left") = some (.ref ll)) (h2 : m (Str.ofString "right") = some (.ref lr)) (hc : CellAt h₀ L s.heap (L + 1) (some (.ref lt))) (ot : Own h₀ L s.heap lt (listOf tv.toArray c)) (oa : Own h₀ L s.heap ll (listOf av.toArray d)) (ob : Own h₀ L s.heap lr (listOf bv.toArray e))
    (hts : StrsAre tv ts) (has : StrsAre av as) (hbs : StrsAre bv bs) (hl : ts.length ≤ 1000) (hl1 : ∀ x ∈ ts, x.length ≤ 1000) (hb : AllBare s.gens) (r1 : resOut (Str.ofString "- ") ts = as) (r2 : resOut (Str.ofString "+ ") ts = bs) (ka : oks as) (kb : oks bs)
    (h : ∀ h' gs tk, Fr h₀ L h' m → Kp L s.heap h' → AllBare gs → Q .next { s with heap := h', gens := gs, toks := tk }) :
    wpAny (model prog w) A (exec (iS 3) (lawEnv L fa cd)) Q (fun _ _ => False) s := by
  cases A; cases hh
  have KN := fun y => kn2 h1 h2 y
  replace F := Fr.congr F (fun y => (KN y).symm)
  obtain ⟨oth, N, hoth, hfr, -⟩ := led4 F
  obtain ⟨oc, hoc, hdc⟩ := hc
  replace N := hoc.news (ot.news (oa.news (ob.news N)))
  clear h1 h2
  have X' := X
  have hrow : row = row := rfl
  revert hrow X
  k_fill
  intro _ X
  show wpAny _ _ (exec (Stmt.If _ _ _ _) _) _ _ _
  w_on
  try k_fold
  k_steps
  have hsz : ∀ x ∈ ts, x.length ≤ sizeLine := fun x hx => txt_fits hl1 hx
  refine resL_call (tag := Str.ofString "- ") X' T (by show _ < _; omega) F N (.tail _ (.head _)) hts hsz (asks_one _) hb ?_
  intro lo a g h1 gs1 tk1 Fp Wr hlo kp1 F1 N1 hb1 hFp G
  have hLlo : L < lo := Nat.lt_of_lt_of_le F.ns.lt hlo
  have hnl : ∀ q ∈ (L + 1, oc) :: (lt, listOf tv.toArray c) :: (ll, listOf av.toArray d) :: (lr, listOf bv.toArray e) :: oth, q.1 < lo := fun q hq => Nat.lt_of_lt_of_le (Heap.lt_size (N q hq).1) hlo
  k_steps
  refine list_genW T rfl (by show _ < _; omega) F1 N1 hb1 G hLlo hnl (Nat.le_trans (resOut_len _ _) (by rw [PySem.sizeLine_eq]; omega)) ?_
  intro S1 v1 c1 h2 gs2 tk2 hS1 F2 N2 hv1 hb2 hlt1
  rw [r1] at hv1
  clear F1 N1 F N G
  k_steps
  rename Fr _ _ _ _ => F3
  rename News _ _ _ _ => N3
  change wpAny _ _ (compareOp _ _ _) _ _ _
  refine ne_strs (isL N3 (.head _)) (isL N3 (.tail _ (.tail _ (.tail _ (.head _))))) hv1 has ka ka hun ?_
  rw [decide_eq_true rfl]
  k_steps
  rename Fr _ _ _ _ => F4
  rename News _ _ _ _ => N4
  refine resL_call (tag := Str.ofString "+ ") X' T (by show _ < _; omega) F4 N4 (.tail _ (.tail _ (.head _))) hts hsz (asks_two _) hb2 ?_
  intro lo2 a2 g2 h3 gs3 tk3 Fp2 Wr2 hlo2 kp3 F5 N5 hb3 hFp2 G2
  have hLlo2 : L < lo2 := Nat.lt_of_lt_of_le F4.ns.lt hlo2
  have hnl2 : ∀ q ∈ (S1, listOf v1.toArray c1) :: (L + 1, oc) :: (lt, listOf tv.toArray c) :: (ll, listOf av.toArray d) :: (lr, listOf bv.toArray e) :: oth, q.1 < lo2 := fun q hq => Nat.lt_of_lt_of_le (Heap.lt_size (N4 q hq).1) hlo2
  clear F4 N4
  k_steps
  refine list_genW T rfl (by show _ < _; omega) F5 N5 hb3 G2 hLlo2 hnl2 (Nat.le_trans (resOut_len _ _) (by rw [PySem.sizeLine_eq]; omega)) ?_
  intro S3 v3 c3 h4 gs4 tk4 hS3 F6 N6 hv3 hb4 hlt3
  rw [r2] at hv3
  clear F5 N5 G2
  k_steps
  rename Fr _ _ _ _ => F7
  rename News _ _ _ _ => N7
  change wpAny _ _ (compareOp _ _ _) _ _ _
  refine ne_strs (isL N7 (.head _)) (isL N7 (.tail _ (.tail _ (.tail _ (.tail _ (.tail _ (.head _))))))) hv3 hbs kb kb hun ?_
  rw [decide_eq_true rfl]
  k_steps
  rename Fr _ _ _ _ => F8
  rename News _ _ _ _ => N8
  exact h _ _ _ (Fr.congr F8 KN) (hoth F8 N8 (by intro q hq; repeat (first | exact hq | apply List.mem_cons_of_mem))) hb4
end
end Mine
end
section
open PySem PySem.W PyProof.Rows
set_option Elab.async false
set_option linter.unusedVariables false
set_option maxRecDepth 100000
set_option maxHeartbeats 1000000
namespace Mine
theorem sl_to2 (x : Str) (h : 2 ≤ x.length) : Txt.slice x none (some 2) = ⟨(x.cps.toList.take 2).toArray⟩ := by
  have := beq_iff_eq.mp (slice_closes_toL (x := x) (j := 2) (by decide) (by omega))
  rw [this]; rfl
theorem sl_from2 (x : Str) (h : 2 ≤ x.length) : Txt.slice x (some 2) none = ⟨(x.cps.toList.drop 2).toArray⟩ := by
  rw [slice_from_eq (x := x) (i := 2) (b := x.length) (by decide) (by omega) rfl]
  have : ((x.length : Int) - 2).toNat = (x.cps.toList.drop 2).length := by simp [Str.length]; omega
  rw [this]
  show (⟨((x.cps.toList.drop 2).take _).toArray⟩ : Str) = _
  rw [List.take_length]
theorem row_toList (c x : Str) : (c ++ Str.ofString " " ++ x).cps.toList = c.cps.toList ++ 32 :: x.cps.toList := by
  rw [sapp, sapp]
  show ((c.cps ++ #[32]) ++ x.cps).toList = _
  simp
theorem code_toList (c : Str) : (c ++ Str.ofString " ").cps.toList = c.cps.toList ++ [32] := by
  rw [sapp]
  show (c.cps ++ #[32]).toList = _
  simp
theorem len_sp : (Str.ofString " ").length = 1 := rfl
theorem keep_dump (tag c x : Str) (hc : 1 ≤ c.length) : resKeep tag (c ++ Str.ofString " " ++ x) = resKeep tag (c ++ Str.ofString " ") := by
  have h1 : 1 ≤ c.cps.toList.length := by simpa [Str.length] using hc
  unfold resKeep
  rw [sl_to2 _ (by rw [len_app, len_app, len_sp]; omega), sl_to2 (c ++ Str.ofString " ") (by rw [len_app, len_sp]; omega), row_toList, code_toList]
  have : List.take 2 (c.cps.toList ++ 32 :: x.cps.toList) = List.take 2 (c.cps.toList ++ [32]) := by
    match c.cps.toList, h1 with
    | [a], _ => rfl
    | a :: b :: r, _ => rfl
  rw [this]
theorem from_dump (c x : Str) (hc : c.length = 1) : Txt.slice (c ++ Str.ofString " " ++ x) (some 2) none = x := by
  have h1 : c.cps.toList.length = 1 := by simpa [Str.length] using hc
  rw [sl_from2 _ (by rw [len_app, len_app, len_sp]; omega), row_toList]
  match c.cps.toList, h1 with
  | [a], _ =>
    show (⟨(x.cps.toList).toArray⟩ : Str) = x
    simp
theorem res_all {tag c : Str} (hk : resKeep tag (c ++ Str.ofString " ") = true) (hc : c.length = 1) (xs : List Str) (lo n : Nat) : resOut tag (dumpOut c xs lo n) = (xs.drop lo).take n := by
  unfold dumpOut
  generalize (xs.drop lo).take n = l
  induction l with
  | nil => rfl
  | cons x r ih => rw [List.map_cons, resOut_cons, keep_dump _ _ _ (by omega), hk, if_pos rfl, ih, from_dump _ _ hc]
theorem res_none {tag c : Str} (hk : resKeep tag (c ++ Str.ofString " ") = false) (hc : 1 ≤ c.length) (xs : List Str) (lo n : Nat) : resOut tag (dumpOut c xs lo n) = [] := by
  unfold dumpOut
  generalize (xs.drop lo).take n = l
  induction l with
  | nil => rfl
  | cons x r ih => rw [List.map_cons, resOut_cons, keep_dump _ _ _ hc, hk, ih]; rfl


abbrev plus : Str := Str.ofString "+"
abbrev minus : Str := Str.ofString "-"
/-- rows under one code -/
def coded (c : Str) (xs : List Str) : List Str := xs.map fun x => c ++ Str.ofString " " ++ x
theorem dump_coded (c : Str) (xs : List Str) (lo n : Nat) : dumpOut c xs lo n = coded c ((xs.drop lo).take n) := rfl
theorem pr_split (p x y q : List Str) : prOut (p ++ x ++ y ++ q) p.length x.length (y ++ q) 0 y.length = if y.length < x.length then coded plus y ++ coded minus x else coded minus x ++ coded plus y := by
  unfold prOut
  rw [dump_coded, dump_coded]
  have e1 : ((p ++ x ++ y ++ q).drop p.length).take x.length = x := by simp [List.append_assoc]
  have e2 : ((y ++ q).drop 0).take y.length = y := by simp
  rw [e1, e2]
theorem keep_mm : resKeep (Str.ofString "- ") (minus ++ Str.ofString " ") = true := by decide +kernel
theorem keep_mp : resKeep (Str.ofString "- ") (plus ++ Str.ofString " ") = false := by decide +kernel
theorem keep_pm : resKeep (Str.ofString "+ ") (minus ++ Str.ofString " ") = false := by decide +kernel
theorem keep_pp : resKeep (Str.ofString "+ ") (plus ++ Str.ofString " ") = true := by decide +kernel
theorem res_in {tag c : Str} (hk : resKeep tag (c ++ Str.ofString " ") = true) (hc : c.length = 1) (xs : List Str) : resOut tag (coded c xs) = xs := by
  have h := res_all hk hc xs 0 xs.length
  rw [dump_coded] at h
  simpa using h
theorem res_out {tag c : Str} (hk : resKeep tag (c ++ Str.ofString " ") = false) (hc : 1 ≤ c.length) (xs : List Str) : resOut tag (coded c xs) = [] := by
  have h := res_none hk hc xs 0 xs.length
  rw [dump_coded] at h
  simpa using h
def toldOf (x y : List Str) : List Str := if y.length < x.length then coded plus y ++ coded minus x else coded minus x ++ coded plus y
theorem told_one (x y : List Str) : resOut (Str.ofString "- ") (toldOf x y) = x := by
  unfold toldOf
  split <;> rw [resOut_app, res_in keep_mm rfl, res_out keep_mp (by decide)] <;> simp
theorem told_two (x y : List Str) : resOut (Str.ofString "+ ") (toldOf x y) = y := by
  unfold toldOf
  split <;> rw [resOut_app, res_in keep_pp rfl, res_out keep_pm (by decide)] <;> simp
theorem from_coded {c : Str} (hc : c.length = 1) (xs : List Str) : (coded c xs).map (fun r => Txt.slice r (some 2) none) = xs := by
  unfold coded
  rw [List.map_map]
  refine (List.map_congr_left (g := id) fun x _ => from_dump c x hc).trans (List.map_id _)
theorem told_text (x y : List Str) : (toldOf x y).map (fun r => Txt.slice r (some 2) none) = if y.length < x.length then y ++ x else x ++ y := by
  unfold toldOf
  split <;> rw [List.map_append, from_coded rfl, from_coded rfl]
theorem head_coded {c : Str} (hc : c.length = 1) (x : Str) : Txt.slice (c ++ Str.ofString " " ++ x) none (some 2) = c ++ Str.ofString " " := by
  have h1 : c.cps.toList.length = 1 := by simpa [Str.length] using hc
  rw [sl_to2 _ (by rw [len_app, len_app, len_sp]; omega), row_toList]
  match hh : c.cps.toList, h1 with
  | [a], _ =>
    have hx : c.cps = #[a] := by rw [← Array.toArray_toList (xs := c.cps), hh]
    rw [sapp, hx]; rfl
theorem filter_coded {c d : Str} (hc : c.length = 1) (xs : List Str) : (coded c xs).filter (fun r => Txt.slice r none (some 2) == d ++ Str.ofString " ") = if c ++ Str.ofString " " == d ++ Str.ofString " " then coded c xs else [] := by
  unfold coded
  induction xs with
  | nil => simp
  | cons x r ih => rw [List.map_cons, List.filter_cons, head_coded hc, ih]; split <;> rfl
theorem ne_pm : (plus ++ Str.ofString " " == minus ++ Str.ofString " ") = false := by decide +kernel
theorem ne_mp : (minus ++ Str.ofString " " == plus ++ Str.ofString " ") = false := by decide +kernel
theorem told_first {x y : List Str} (hx : 0 < x.length) (hy : 0 < y.length) :
    ((toldOf x y).filter fun r => Txt.slice r none (some 2) == Txt.slice ((toldOf x y).getD 0 Str.empty) none (some 2)).length = if y.length < x.length then y.length else x.length := by
  cases x with
  | nil => simp at hx
  | cons a x =>
    cases y with
    | nil => simp at hy
    | cons b y =>
      unfold toldOf
      split
      · have e : (coded plus (b :: y) ++ coded minus (a :: x)).getD 0 Str.empty = plus ++ Str.ofString " " ++ b := rfl
        rw [e, head_coded rfl, List.filter_append, filter_coded rfl, filter_coded rfl, ne_mp]
        simp [coded]
      · have e : (coded minus (a :: x) ++ coded plus (b :: y)).getD 0 Str.empty = minus ++ Str.ofString " " ++ a := rfl
        rw [e, head_coded rfl, List.filter_append, filter_coded rfl, filter_coded rfl, ne_pm]
        simp [coded]
theorem told_len (x y : List Str) : (toldOf x y).length = x.length + y.length := by unfold toldOf; split <;> simp [coded] <;> omega
theorem told_each {x y : List Str} {b : Nat} (hx : ∀ r ∈ x, r.length ≤ b) (hy : ∀ r ∈ y, r.length ≤ b) : ∀ r ∈ toldOf x y, r.length ≤ b + 2 := by
  intro r hr
  have : r ∈ coded plus y ∨ r ∈ coded minus x := by
    unfold toldOf at hr
    split at hr <;> rcases List.mem_append.mp hr with h | h <;> simp [h]
  unfold coded at this
  rcases this with h | h
  · obtain ⟨z, hz, rfl⟩ := List.mem_map.mp h
    have := hy z hz
    rw [len_app, len_app]; show 1 + 1 + z.length ≤ _; omega
  · obtain ⟨z, hz, rfl⟩ := List.mem_map.mp h
    have := hx z hz
    rw [len_app, len_app]; show 1 + 1 + z.length ≤ _; omega
end Mine
end
section
open PySem PySem.W PyProof.Rows
set_option Elab.async false
set_option linter.unusedVariables false
set_option maxRecDepth 100000
namespace Mine
open Sem (wp)
section
variable {prog : Program} {w : World} {A : Around} {R : GenEnd} {Y : Protocol} {n : Nat} {s₀ : Shared} {c : Code} {fs : List Frame} {s : Shared} {env : Env} {Q : Flow → Shared → Prop} {E : Value → Shared → Prop}
theorem lw_execs_nil (h : Q .next s) : LW (model prog w) A R Y n s₀ c fs (execs [] env) Q E s := lw_of (wpAny_execs_nil h)
theorem lw_execs_cons {st : Stmt} {rest : List Stmt}
    (h : LW (model prog w) A R Y n s₀ c fs (exec st env) (fun f s' => match f with | .next => LW (model prog w) A R Y n s₀ c fs (execs rest env) Q E s' | f => Q f s') E s) :
    LW (model prog w) A R Y n s₀ c fs (execs (st :: rest) env) Q E s := by
  intro K H gd lv hQ hE
  refine segL_cons (h _ _ _ _ (fun f s' q => ?_) hE)
  cases f with
  | next => exact q K H gd lv hQ hE
  | _ => exact hQ _ _ q
/-- a plain statement, then the rest -/
theorem lw_plain {st : Stmt} {rest : List Stmt}
    (h : wpAny (model prog w) (A.over c fs) (exec st env) (fun f s' => f = .next ∧ LW (model prog w) A R Y n s₀ c fs (execs rest env) Q E s') E s) :
    LW (model prog w) A R Y n s₀ c fs (execs (st :: rest) env) Q E s :=
  lw_execs_cons (lw_of (wpAny_mono h (fun f s' q => by obtain ⟨rfl, q⟩ := q; exact q) fun _ _ q => q))
theorem lw_Assign {x : Str} {px pos : Pos} {e : Expr} (hs : swapsWith e (some (.Name x px)) pos.line env = pure false)
    (h : LW (model prog w) A R Y n s₀ c fs (eval e env) (fun v s' => wpAny (model prog w) (A.over c fs) (storeName env x v) (fun _ s'' => Q .next s'') (fun _ _ => False) s') (fun _ _ => False) s) :
    LW (model prog w) A R Y n s₀ c fs (exec (.Assign [.Name x px] e pos) env) Q (fun _ _ => False) s := by
  intro K H gd lv hQ hE
  exact segL_Assign hs (lw_mono h (fun v s' q => wpAny_mono q (fun _ s'' q => hQ _ _ q) fun _ _ q => q) fun _ _ q => q)
/-- what the loop behind an iterator wants -/
def LoopL (prog : Program) (w : World) (A : Around) (R : GenEnd) (Y : Protocol) (n : Nat) (s₀ : Shared) (c : Code) (fs : List Frame) (env : Env) (x : Str) (px : Pos) (body : List Stmt) (Q : Flow → Shared → Prop) (it : Value) (s₂ : Shared) : Prop :=
  ∃ (m : Nat) (J : Nat → Shared → Prop) (T : Nat → Shared → Prop), J 0 s₂ ∧
      (∀ K H gd lv p i s, i < m → J i s → wpAny (model prog w) (A.over (.forLoop (.Name x px) it body [] env) (waitF env K H gd lv c p :: fs)) (pyNext it) (fun r s' => match r with
        | none => False
        | some v => wpAny (model prog w) (A.over (.forLoop (.Name x px) it body [] env) (waitF env K H gd lv c p :: fs)) (storeName env x v) (fun _ s'' => T i s'') (fun _ _ => False) s') (fun _ _ => False) s) ∧
      (∀ K H gd lv p i s, i < m → T i s → LW (model prog w) A R Y n s₀ (.forLoop (.Name x px) it body [] env) (waitF env K H gd lv c p :: fs) (execs body env) (fun f s' => f = .next ∧ J (i + 1) s') (fun _ _ => False) s) ∧
      (∀ K H gd lv p s, J m s → wpAny (model prog w) (A.over (.forLoop (.Name x px) it body [] env) (waitF env K H gd lv c p :: fs)) (pyNext it) (fun r s' => r = none ∧ Q .next s') (fun _ _ => False) s)
/-- a for-loop by what holds between its turns -/
theorem lw_For {x : Str} {px pos : Pos} {iter : Expr} {body : List Stmt}
    (h : wpAny (model prog w) (A.over c fs) (eval iter env) (fun xv s₁ => wpAny (model prog w) (A.over c fs) (pyIter xv) (fun it s₂ => LoopL prog w A R Y n s₀ c fs env x px body Q it s₂) (fun _ _ => False) s₁) (fun _ _ => False) s)
    (hs : ∀ x, foldedSetIterable iter env x = pure x := by intro _; rfl) :
    LW (model prog w) A R Y n s₀ c fs (exec (.For (.Name x px) iter body [] pos) env) Q E s := by
  intro K H gd lv hQ hE
  refine segL_For (wpAny_mono h (fun xv s₁ h₁ => wpAny_mono h₁ (fun it s₂ h₂ => ?_) fun _ _ q => q) fun _ _ q => q) hs
  obtain ⟨m, J, T, h0, nx, turn, fin⟩ := h₂
  intro p
  have main : ∀ (k i : Nat) (s : Shared), i + k = m → J i s → SegL (model prog w) A R Y n s₀ (.forLoop (.Name x px) it body [] env) ((model prog w).den (.forLoop (.Name x px) it body [] env)) (waitF env K H gd lv c p :: fs) s := by
    intro k
    induction k with
    | zero =>
      intro i s hi hJ
      obtain rfl : i = m := by omega
      refine segL_forLoop (wpAny_mono (fin K H gd lv p s hJ) (fun r s' q => ?_) fun _ _ q => q)
      obtain ⟨rfl, q⟩ := q
      exact segL_block_nil (hQ _ _ q)
    | succ k ih =>
      intro i s hi hJ
      refine segL_forLoop (wpAny_mono (nx K H gd lv p i s (by omega) hJ) (fun r s' q => ?_) fun _ _ q => q)
      cases r with
      | none => exact q.elim
      | some v =>
        refine wpAny_mono q (fun _ s'' q2 => ?_) fun _ _ q => q
        refine turn K H gd lv p i s'' (by omega) q2 _ _ _ _ (fun f s3 q3 => ?_) fun _ _ q => q.elim
        obtain ⟨rfl, q3⟩ := q3
        exact segL_again rfl (ih (i + 1) s3 (by omega) q3)
  exact main m 0 s₂ (by omega) h0
end
end Mine
end
section
open PySem PySem.W PyProof.Rows
set_option Elab.async false
set_option linter.unusedVariables false
set_option maxRecDepth 100000
set_option maxHeartbeats 4000000
namespace Mine
def offs (bs : List (List Str)) (j : Nat) : Nat := ((bs.take j).flatten).length
def endsZ (bs : List (List Str)) : List Int := (List.range 6).map fun j => (offs bs j : Int)
theorem endsZ_len (bs : List (List Str)) : (endsZ bs).length = 6 := by simp [endsZ]
theorem endsZ_get (bs : List (List Str)) {j : Nat} (h : j < 6) : (endsZ bs).getD j 0 = (offs bs j : Int) := by
  simp [endsZ, List.getD, List.getElem?_map, List.getElem?_range h]
theorem offs0 (p r : List (List Str)) : offs (p ++ r) p.length = p.flatten.length := by simp [offs]
theorem offs1 (p : List (List Str)) (x : List Str) (r : List (List Str)) : offs (p ++ x :: r) (p.length + 1) = p.flatten.length + x.length := by
  have e : (p ++ x :: r).take (p.length + 1) = p ++ [x] := by simp [List.take_append, List.take_of_length_le]
  simp [offs, e]
theorem offs2 (p : List (List Str)) (x y : List Str) (r : List (List Str)) : offs (p ++ x :: y :: r) (p.length + 2) = p.flatten.length + x.length + y.length := by
  have e : (p ++ x :: y :: r).take (p.length + 2) = p ++ [x, y] := by simp [List.take_append, List.take_of_length_le]
  simp [offs, e]; omega
def swap2 (x y : List Str) : List (List Str) := if y.length < x.length then [y, x] else [x, y]
theorem offs_swap (p : List (List Str)) (x y : List Str) (q : List (List Str)) {j : Nat} (h : j ≠ p.length + 1) : offs (p ++ x :: y :: q) j = offs (p ++ y :: x :: q) j := by
  unfold offs
  rcases Nat.lt_or_ge p.length j with h1 | h1
  · have h2 : p.length + 2 ≤ j := by omega
    obtain ⟨i, rfl⟩ := Nat.exists_eq_add_of_le h2
    simp only [List.take_append, List.take_of_length_le (show p.length ≤ p.length + 2 + i by omega)]
    rw [show p.length + 2 + i - p.length = i + 1 + 1 by omega]
    simp; omega
  · simp only [List.take_append, show j - p.length = 0 by omega, List.take_zero]
theorem endsZ_set (p : List (List Str)) (x y : List Str) (q : List (List Str)) (h5 : p.length + 1 < 6) :
    (endsZ (p ++ x :: y :: q)).set (p.length + 1) ((p.flatten.length : Int) + ((if y.length < x.length then y.length else x.length : Nat) : Int)) = endsZ (p ++ (swap2 x y ++ q)) := by
  apply List.ext_getElem
  · simp [endsZ]
  · intro j h1 h2
    have hj : j < 6 := by simpa [endsZ] using h2
    rw [List.getElem_set]
    simp only [endsZ, List.getElem_map, List.getElem_range]
    unfold swap2
    by_cases e : p.length + 1 = j
    · subst e
      rw [if_pos rfl]
      split
      · rw [show p ++ ([y, x] ++ q) = p ++ y :: (x :: q) by simp, offs1]; omega
      · rw [show p ++ ([x, y] ++ q) = p ++ x :: (y :: q) by simp, offs1]; omega
    · rw [if_neg e]
      split
      · rw [show p ++ ([y, x] ++ q) = p ++ y :: (x :: q) by simp, offs_swap p x y q (Ne.symm e)]
      · rfl
/-- what holds ahead of each turn -/
structure St10 (w : World) (h₀ : Heap) (os₀ : OsState) (L xi dx le : Addr) (t1 t2 : Tok) (bs : List (List Str)) (s : Shared) (m : Str → Option Value) : Prop where
  F : Fr h₀ L s.heap m
  bare : AllBare s.gens
  os : s.os = os₀
  hd : m (Str.ofString "differ") = some (.ref xi)
  o1 : Own h₀ L s.heap xi (instObj 313 dx)
  o2 : Own h₀ L s.heap dx (dictOf (difEs w t1 t2) 2)
  rows : ∃ la vs c, m (Str.ofString "rows") = some (.ref la) ∧ la ≠ le ∧ Own h₀ L s.heap la (listOf vs.toArray c) ∧ StrsAre vs bs.flatten
  he : m (Str.ofString "ends") = some (.ref le)
  ends : ∃ es c, Own h₀ L s.heap le (listOf es.toArray c) ∧ IntsAre es (endsZ bs)
  cell : ∃ v, CellAt h₀ L s.heap (L + 1) v
/-- all but the frame, told's cell and the list of ends is kept -/
def KpS (L le : Addr) (h h' : Heap) : Prop := ∀ b o, b ≠ L → b ≠ L + 1 → b ≠ le → h.get? b = some o → h'.get? b = some o
theorem body_eq10 : forBody (nth (forBody (lS 5)) 0) = [iS 0, iS 1, iS 2, iS 3, iS 4, iS 5, iS 6] := by kernel_rfl
theorem own_ne_cell {h₀ h : Heap} {L a c : Addr} {its : Array Value} {n : Nat} {v : Option Value} (o : Own h₀ L h a (listOf its n)) (x : CellAt h₀ L h c v) : a ≠ c := fun q => by
  obtain ⟨o', ho, hd⟩ := x
  subst q
  have := o.1.symm.trans ho.1
  cases this
  cases hd
def okTxt (bs : List (List Str)) : Prop := ∀ b ∈ bs, ∀ r ∈ b, r.length ≤ 100 ∧ PyData.strOk r = true
theorem intsAre_set : ∀ {vs : List Value} {xs : List Int}, IntsAre vs xs → ∀ (k : Nat) (i : Int) (t : Tok), IntsAre (vs.set k (.int i t)) (xs.set k i)
  | _, _, .nil, k, i, t => by simpa using IntsAre.nil
  | _, _, .cons a b r, 0, i, t => .cons _ _ r
  | _, _, .cons a b r, k + 1, i, t => .cons _ _ (intsAre_set r k i t)
section
variable {w : World} {A : Around} {R : GenEnd} {Y : Protocol} {n : Nat} {s₀ : Shared} {c₀ : Code} {fs : List Frame} {h₀ : Heap} {p : Program} {ls : List Str} {mg mb : Str → Option Value} {s : Shared} {fa : Addr} {cd : Value}
theorem turn10 {L xi dx le : Addr} {os₀ : OsState} {t1 t2 t : Tok} {m : Str → Option Value} {bp bq : List (List Str)} {x y : List Str} {Q : Flow → Shared → Prop} (X : (K w.params).In h₀) (T : TopRead p ls mg mb h₀) (hh : (A.over c₀ fs).handled = none) (hroom : (A.over c₀ fs).depth + 12 < recursionLimit) (hun : (A.over c₀ fs).units + 64 < cLine)
    (S : St10 w h₀ os₀ L xi dx le t1 t2 (bp ++ x :: y :: bq) s m) (hk : m (Str.ofString "k") = some (.int (bp.length : Int) t)) (h5 : bp.length + 2 + bq.length = 5) (hx : 0 < x.length) (hy : 0 < y.length) (htot : (bp ++ x :: y :: bq).flatten.length ≤ 100) (hok : okTxt (bp ++ x :: y :: bq))
    (h : ∀ s' m', St10 w h₀ os₀ L xi dx le t1 t2 (bp ++ (swap2 x y ++ bq)) s' m' → KpS L le s.heap s'.heap → m' (Str.ofString "script") = m (Str.ofString "script") → m' (Str.ofString "blocks") = m (Str.ofString "blocks") → Q .next s') :
    LW (model prog w) A R Y n s₀ c₀ fs (execs (forBody (nth (forBody (lS 5)) 0)) (lawEnv L fa cd)) Q (fun _ _ => False) s := by
  rw [body_eq10]
  obtain ⟨F, hb, hos, hd, o1, o2, ⟨la, vs, c, hr, hlale, oa, hvs⟩, he, ⟨es, ce, oe, hes⟩, ⟨v0, hc0⟩⟩ := S
  have hfl : (bp ++ x :: y :: bq).flatten = bp.flatten ++ x ++ y ++ bq.flatten := by simp [List.append_assoc]
  have hvl : vs.length = (bp ++ x :: y :: bq).flatten.length := hvs.length
  have hlen : vs.length = bp.flatten.length + x.length + y.length + bq.flatten.length := by rw [hvl, hfl]; simp only [List.length_append]
  have g0 : (endsZ (bp ++ x :: y :: bq)).getD bp.length 0 = (bp.flatten.length : Int) := by rw [endsZ_get _ (by omega), offs0]
  have g1 : (endsZ (bp ++ x :: y :: bq)).getD (bp.length + 1) 0 = ((bp.flatten.length + x.length : Nat) : Int) := by rw [endsZ_get _ (by omega), offs1]
  have g2 : (endsZ (bp ++ x :: y :: bq)).getD (bp.length + 2) 0 = ((bp.flatten.length + x.length + y.length : Nat) : Int) := by rw [endsZ_get _ (by omega), offs2]
  have hcle : L + 1 ≠ le := (own_ne_cell oe hc0).symm
  refine lw_plain (i0 X T hh F he hk oe hes (by rw [endsZ_len]; omega) (by omega) ?_)
  intro h1 tk1 u1 u2 u3 F1 k1
  rw [g0, g1, g2] at F1
  refine ⟨rfl, ?_⟩
  refine lw_plain (i1 (s := { s with heap := h1, toks := tk1 }) (lo := bp.flatten.length) (mi := bp.flatten.length + x.length) (hi := bp.flatten.length + x.length + y.length) (vs := vs) (la := la) X T hh F1 (by exact hr) (by exact rfl) (by exact rfl) (by exact rfl) (oa.kp k1) (by omega) (by omega) (by omega) (by omega) ?_)
  intro h2 tk2 l r b F2 k2 ol or ob
  refine ⟨rfl, ?_⟩
  have dx1 : (vs.drop bp.flatten.length).take (bp.flatten.length + x.length - bp.flatten.length) = (vs.drop bp.flatten.length).take x.length := by rw [Nat.add_sub_cancel_left]
  have dy1 : (vs.drop (bp.flatten.length + x.length)).take (bp.flatten.length + x.length + y.length - (bp.flatten.length + x.length)) = (vs.drop (bp.flatten.length + x.length)).take y.length := by rw [Nat.add_sub_cancel_left]
  rw [dx1] at ol
  rw [dy1] at or
  rw [hfl] at hvs
  have sl : StrsAre ((vs.drop bp.flatten.length).take x.length) x := by
    have := (hvs.drop' bp.flatten.length).take' x.length
    simpa [List.append_assoc] using this
  have sr : StrsAre ((vs.drop (bp.flatten.length + x.length)).take y.length) y := by
    have := (hvs.drop' (bp.flatten.length + x.length)).take' y.length
    rw [show (bp.flatten ++ x ++ y ++ bq.flatten).drop (bp.flatten.length + x.length) = y ++ bq.flatten by rw [show bp.flatten.length + x.length = (bp.flatten ++ x).length by rw [List.length_append], List.append_assoc, List.drop_left]] at this
    simpa using this
  have sb : StrsAre (vs.drop (bp.flatten.length + x.length + y.length)) bq.flatten := by
    have := hvs.drop' (bp.flatten.length + x.length + y.length)
    have e : (bp.flatten ++ x ++ y ++ bq.flatten).drop (bp.flatten.length + x.length + y.length) = bq.flatten := by rw [show bp.flatten.length + x.length + y.length = (bp.flatten ++ x ++ y).length by rw [List.length_append, List.length_append], List.drop_left]
    rw [e] at this; exact this
  have sp : StrsAre (vs.take bp.flatten.length) bp.flatten := by
    have := hvs.take' bp.flatten.length
    simpa [List.append_assoc] using this
  have hokx : ∀ r ∈ x, r.length ≤ 100 ∧ PyData.strOk r = true := hok x (by simp)
  have hoky : ∀ r ∈ y, r.length ≤ 100 ∧ PyData.strOk r = true := hok y (by simp)
  have hokb : ∀ r ∈ bq.flatten, r.length ≤ 100 ∧ PyData.strOk r = true := fun r hr => by
    obtain ⟨z, hz, hr⟩ := List.mem_flatten.mp hr
    exact hok z (by simp [hz]) r hr
  have hokp : ∀ r ∈ bp.flatten, r.length ≤ 100 ∧ PyData.strOk r = true := fun r hr => by
    obtain ⟨z, hz, hr⟩ := List.mem_flatten.mp hr
    exact hok z (by simp [hz]) r hr
  have hokv : ∀ r ∈ bp.flatten ++ x ++ y ++ bq.flatten, r.length ≤ 100 ∧ PyData.strOk r = true := fun r hr => by
    simp only [List.mem_append] at hr
    rcases hr with ((hr | hr) | hr) | hr
    · exact hokp r hr
    · exact hokx r hr
    · exact hoky r hr
    · exact hokb r hr
  have hvl2 : (bp.flatten ++ x ++ y ++ bq.flatten).length = vs.length := hvs.length.symm
  refine lw_execs_cons ?_
  rw [toldS_eq]
  refine lw_Assign (told_swap _) (told_eval (s := { s with heap := h2, toks := tk2 }) (lo := bp.flatten.length) (mi := bp.flatten.length + x.length) (hi := bp.flatten.length + x.length + y.length) (xs := bp.flatten ++ x ++ y ++ bq.flatten) (rs := y) (bs := bq.flatten) (t1 := t1) (t2 := t2)
    X T hh hroom F2 (by exact hd) (by exact hr) (by exact rfl) (by exact rfl) (by exact rfl) ((o1.kp k1).kp k2) ((o2.kp k1).kp k2) ((oa.kp k1).kp k2) (by exact rfl) (by exact rfl) or ob hvs sr sb ?_ (by omega) (by omega) (by rw [hvl2]; omega) (by rw [hvl2]; omega) (by omega) ?_ ?_ ?_ hb ?_)
  · simp only [List.length_take, List.length_drop]; omega
  · exact fun r hr => Nat.le_trans (hokv r hr).1 (by decide)
  · exact fun r hr => Nat.le_trans (hoky r hr).1 (by decide)
  · exact fun r hr => Nat.le_trans (hokb r hr).1 (by decide)
  intro S tv ct h3 gs3 tk3 F3 k3 oS hts hb3 frS
  have eT : prOut (bp.flatten ++ x ++ y ++ bq.flatten) bp.flatten.length (bp.flatten.length + x.length - bp.flatten.length) (y ++ bq.flatten) 0 (bp.flatten.length + x.length + y.length - (bp.flatten.length + x.length)) = toldOf x y := by
    rw [Nat.add_sub_cancel_left, Nat.add_sub_cancel_left, pr_split]; rfl
  rw [eT] at hts
  have c3 : CellAt h₀ L h3 (L + 1) v0 := ((hc0.kp k1).kp k2).kp k3
  obtain ⟨oc, hoc, hdc⟩ := id c3
  refine wpAny_storeName_cell (by rfl) (by rfl) (by rfl) c3.is fun h4 hv4 sb4 => ?_
  replace sb4 : Heap.SameBut (L + 1) h3 h4 := sb4
  have k4 : ∀ b o, b ≠ L + 1 → h3.get? b = some o → h4.get? b = some o := fun b o hb e => (sb4.2 b hb).trans e
  have F4 : Fr h₀ L h4 _ := fr_but F3 hoc.2.1 hoc.2.2 fun b o hb e => k4 b o hb e
  have mv4 : ∀ {a : Addr} {its : Array Value} {n : Nat}, Own h₀ L h3 a (listOf its n) → Own h₀ L h4 a (listOf its n) := fun {a its n} o => ⟨k4 _ _ (own_ne_cell o c3) o.1, o.2⟩
  have c4 : CellAt h₀ L h4 (L + 1) (some (.ref S)) := CellAt.of hv4 hoc.2.1 hoc.2.2
  have oS4 := mv4 oS
  have ol4 := mv4 (ol.kp k3)
  have or4 := mv4 (or.kp k3)
  have ob4 := mv4 (ob.kp k3)
  have oa4 := mv4 (((oa.kp k1).kp k2).kp k3)
  have oe4 := mv4 (((oe.kp k1).kp k2).kp k3)
  have htl : (toldOf x y).length ≤ 1000 := by rw [told_len]; omega
  have htx : ∀ r ∈ toldOf x y, r.length ≤ 1000 := fun r hr => Nat.le_trans (told_each (b := 100) (fun r hr => (hokx r hr).1) (fun r hr => (hoky r hr).1) r hr) (by decide)
  refine lw_plain (i3 (s := { s with heap := h4, gens := gs3, toks := tk3 }) X T hh hroom hun F4 (by exact rfl) (by exact rfl) c4 oS4 ol4 or4 hts sl sr htl htx hb3 (told_one x y) (told_two x y) (fun r hr => (hokx r hr).2) (fun r hr => (hoky r hr).2) ?_)
  intro h5' gs5 tk5 F5 k5 hb5
  refine ⟨rfl, ?_⟩
  refine lw_plain (i4 (s := { s with heap := h5', gens := gs5, toks := tk5 }) X T hh hroom F5 (c4.kp k5) (oS4.kp k5) hts htl htx (by rw [told_len]; omega) ?_)
  intro R1 fv h6 tk6 nf F6 k6 oF hfv
  refine ⟨rfl, ?_⟩
  refine lw_plain (i5 (s := { s with heap := h6, gens := gs5, toks := tk6 }) (lo := bp.flatten.length) (vs := vs) X T hh hroom F6 (by exact hr) (by exact rfl) (by exact rfl) ((c4.kp k5).kp k6) ((oS4.kp k5).kp k6) ((oa4.kp k5).kp k6) ((ob4.kp k5).kp k6) hts htl htx (by omega) (by omega) (by rw [List.length_drop]; omega) ?_)
  intro R2 ys h7 tk7 n7 F7 k7 fr7 oR2 hys
  refine ⟨rfl, ?_⟩
  have hfl2 : fv.length = if y.length < x.length then y.length else x.length := by rw [hfv.length, told_first hx hy]
  refine lw_plain (i6 (s := { s with heap := h7, gens := gs5, toks := tk7 }) (k := bp.length) (lo := bp.flatten.length) X T hh F7 (by exact he) (by exact hk) (by exact rfl) (by exact rfl) (((oe4.kp k5).kp k6).kp k7) (oF.kp k7) hes (by rw [endsZ_len]; omega) (by omega) (by rw [hfl2]; split <;> omega) (by omega) ?_)
  intro h8 tk8 n8 t8 F8 k8 oe8
  refine ⟨rfl, lw_execs_nil ?_⟩
  have hR2e : R2 ≠ le := fun q => fr7 le _ ((oe4.kp k5).kp k6).2.1 ((oe4.kp k5).kp k6).1 q.symm
  have cle : ∀ {b v}, CellAt h₀ L h7 b v → CellAt h₀ L h8 b v := fun {b v} cc => by
    have hne := (own_ne_cell (((oe4.kp k5).kp k6).kp k7) cc).symm
    obtain ⟨o', ho', hd'⟩ := cc
    exact ⟨o', ⟨k8 _ _ ho'.2.1 hne ho'.1, ho'.2⟩, hd'⟩
  have all : KpS L le s.heap h8 := fun b o q1 q2 q3 e => k8 b o q1 q3 (k7 b o q1 (k6 b o q1 (k5 b o q1 (k4 b o q2 (k3 b o q1 (k2 b o q1 (k1 b o q1 e)))))))
  have ni : ∀ {b : Addr} {o : Obj}, o.cls ≠ .type "list" → Own h₀ L s.heap b o → b ≠ le := fun {b o} hc ho q => by
    subst q
    have := ho.1.symm.trans oe.1
    cases this
    exact hc rfl
  have nc : ∀ {b : Addr} {o : Obj}, (∀ v, o.data ≠ .cell v) → Own h₀ L s.heap b o → b ≠ L + 1 := fun {b o} hc ho q => by
    obtain ⟨o', ho', hd'⟩ := hc0
    subst q
    have := ho.1.symm.trans ho'.1
    cases this
    exact hc _ hd'
  refine h _ _ ⟨F8, hb5, hos, hd, ⟨all _ _ o1.2.1 (nc (fun v e => by cases e) o1) (ni (by show Value.ref 313 ≠ _; exact fun e => by cases e) o1) o1.1, o1.2⟩, ⟨all _ _ o2.2.1 (nc (fun v e => by cases e) o2) (ni (by show Value.type "dict" ≠ _; decide) o2) o2.1, o2.2⟩,
    ⟨R2, _, _, rfl, hR2e, ⟨k8 _ _ oR2.2.1 hR2e oR2.1, oR2.2⟩, ?_⟩, he, ⟨_, _, (by rw [List.setIfInBounds_toArray] at oe8; exact oe8), ?_⟩, ⟨_, cle (((c4.kp k5).kp k6).kp k7)⟩⟩ all rfl rfl
  · have e1 : (bp ++ (swap2 x y ++ bq)).flatten = bp.flatten ++ (if y.length < x.length then y ++ x else x ++ y) ++ bq.flatten := by
      unfold swap2; split <;> simp [List.append_assoc]
    rw [e1, ← told_text]
    exact StrsAre.append' (StrsAre.append' sp hys) sb
  · rw [← endsZ_set bp x y bq (by omega), ← hfl2]
    exact intsAre_set hes _ _ _
end
end Mine
end
section
open PySem PySem.W PyProof.Rows
set_option Elab.async false
set_option linter.unusedVariables false
set_option maxRecDepth 100000
set_option maxHeartbeats 1000000
namespace Mine
/-- all but the frame's own object and these is kept -/
def Ks (Wr : Addr → Prop) (L : Addr) (h h' : Heap) : Prop := ∀ b o, b ≠ L → ¬ Wr b → h.get? b = some o → h'.get? b = some o
/-- no iterator of a list or a range -/
def NotIt (o : Obj) : Prop := (∀ fs, o.data ≠ .fields fs) ∨ (o.cls ≠ .type "list_iterator" ∧ o.cls ≠ .type "range_iterator")
/-- the same, but for iterators -/
def Kn (Wr : Addr → Prop) (L : Addr) (h h' : Heap) : Prop := ∀ b o, b ≠ L → ¬ Wr b → NotIt o → h.get? b = some o → h'.get? b = some o
abbrev noW : Addr → Prop := fun _ => False
theorem Ks.refl {Wr : Addr → Prop} {L : Addr} {h : Heap} : Ks Wr L h h := fun _ _ _ _ e => e
theorem Ks.trans {Wr : Addr → Prop} {L : Addr} {h h' h'' : Heap} (x : Ks Wr L h h') (y : Ks Wr L h' h'') : Ks Wr L h h'' := fun b o hb hw e => y b o hb hw (x b o hb hw e)
theorem Ks.mono {Wr Wr' : Addr → Prop} {L : Addr} {h h' : Heap} (x : Ks Wr L h h') (k : ∀ b, Wr b → Wr' b) : Ks Wr' L h h' := fun b o hb hw e => x b o hb (fun q => hw (k b q)) e
theorem Ks.kn {Wr : Addr → Prop} {L : Addr} {h h' : Heap} (x : Ks Wr L h h') : Kn Wr L h h' := fun b o hb hw _ e => x b o hb hw e
theorem Kn.trans {Wr : Addr → Prop} {L : Addr} {h h' h'' : Heap} (x : Kn Wr L h h') (y : Kn Wr L h' h'') : Kn Wr L h h'' := fun b o hb hw hn e => y b o hb hw hn (x b o hb hw hn e)
theorem Kn.mono {Wr Wr' : Addr → Prop} {L : Addr} {h h' : Heap} (x : Kn Wr L h h') (k : ∀ b, Wr b → Wr' b) : Kn Wr' L h h' := fun b o hb hw hn e => x b o hb (fun q => hw (k b q)) hn e
theorem Kp.ks {Wr : Addr → Prop} {L : Addr} {h h' : Heap} (x : Kp L h h') : Ks Wr L h h' := fun b o hb _ e => x b o hb e
theorem KpB.ks {Wr : Addr → Prop} {L S : Addr} {h h' : Heap} (x : KpB L S h h') (hS : Wr S) : Ks Wr L h h' := fun b o hb hw e => x b o hb (fun q => hw (q ▸ hS)) e
theorem Ks.kp {L : Addr} {h h' : Heap} (x : Ks noW L h h') : Kp L h h' := fun b o hb e => x b o hb id e
theorem notIt_seq {o : Obj} {its : Array Value} {n : Nat} (h : o.data = .seq its n) : NotIt o := .inl fun fs e => by rw [h] at e; cases e
theorem notIt_cell {o : Obj} {v : Option Value} (h : o.data = .cell v) : NotIt o := .inl fun fs e => by rw [h] at e; cases e
theorem notIt_list {its : Array Value} {n : Nat} : NotIt (listOf its n) := notIt_seq rfl
theorem notIt_plain {o : Obj} (h : o.data = .plain) : NotIt o := .inl fun fs e => by rw [h] at e; cases e
theorem notIt_meth {f s : Value} : NotIt (methodObj f s) := .inr ⟨by show Value.type "method" ≠ _; decide, by show Value.type "method" ≠ _; decide⟩

/-- what an assignment to a loop's target does -/
structure Tgt (prog : Program) (w : World) (A : Around) (h₀ : Heap) (env : Env) (target : Expr) (WrT : Addr → Prop) (Pre : Value → Heap → Prop) (Post : Value → (Str → Option Value) → Heap → (Str → Option Value) → Prop) : Prop where
  run : ∀ (v : Value) (s : Shared) (m : Str → Option Value) (Q : Unit → Shared → Prop) (E : Value → Shared → Prop), Pre v s.heap → Fr h₀ env.locals s.heap m →
    (∀ h' tk m', Fr h₀ env.locals h' m' → Ks WrT env.locals s.heap h' → Post v m h' m' → Q () { s with heap := h', toks := tk }) → wpAny (model prog w) A (assign target env v) Q E s
  go : ∀ (I l : Addr) (i : Nat) (v : Value) (s : Shared) (Q : Unit → Shared → Prop) (E : Value → Shared → Prop), s.heap.IsListIter I l i → Pre v s.heap → Q () s → wpAny (model prog w) A (letOwnedTupleGo target (.ref I) v) Q E s

section
variable {prog : Program} {w : World} {A : Around} {s : Shared} {h₀ : Heap} {env : Env} {R : Result → Shared → Prop} {E : Value → Shared → Prop} {m : Str → Option Value} {target : Expr} {body : List Stmt} {WrT Wr : Addr → Prop} {Pre : Value → Heap → Prop} {Post : Value → (Str → Option Value) → Heap → (Str → Option Value) → Prop}

theorem Tgt.name {x : Str} {px : Pos} (hx : env.kindOf x = some .local) (hp : (env.scope.kind == .class || (env.scope.kind == .module && env.locals != env.globals)) = false) :
    Tgt prog w A h₀ env (.Name x px) noW (fun _ _ => True) (fun v m _ m' => m' = set1 m x v) where
  run := fun v s m Q E _ F h => wpAny_assign_Name (wpAny_storeName_local hx F.ns (fun h2 hns2 hs2 => h h2 _ _ (F.set hns2 hs2) (fun b o hb _ e => (hs2.2 b hb).trans e) rfl) hp)
  go := fun I l i v s Q E _ _ h => wpAny_of_eq (rfl : letOwnedTupleGo (.Name x px) (.ref I) v = pure ()) h
theorem Tgt.cell {x : Str} {px : Pos} {c : Addr} (hk : env.scope.kind = .function) (hx : env.kindOf x = some .cell) (hc : env.cells.lookup x = some c) (hcL : c ≠ env.locals) (hc0 : h₀.get? c = none) :
    Tgt prog w A h₀ env (.Name x px) (fun b => b = c) (fun _ h => ∃ v₀, h.IsCell c v₀) (fun v m h' m' => m' = m ∧ h'.IsCell c (some v)) where
  run := fun v s m Q E pre F h => by
    obtain ⟨v₀, hv⟩ := pre
    exact wpAny_assign_Name (wpAny_storeName_cell hk hx hc hv fun h' hv' sb => h h' s.toks m (fr_but F hcL hc0 fun b o hb e => (sb.2 b hb).trans e) (fun b o _ hb e => (sb.2 b hb).trans e) ⟨rfl, hv'⟩)
  go := fun I l i v s Q E _ _ h => wpAny_of_eq (rfl : letOwnedTupleGo (.Name x px) (.ref I) v = pure ()) h
theorem Tgt.pair {x0 x1 : Str} {p0 p1 pt : Pos} {k1 : Nat} (hh : A.handled = none) (hx0 : env.kindOf x0 = some .local) (hx1 : env.kindOf x1 = some .local)
    (hp : (env.scope.kind == .class || (env.scope.kind == .module && env.locals != env.globals)) = false) :
    Tgt prog w A h₀ env (.Tuple [.Name x0 p0, .Name x1 p1] k1 pt) noW (fun v h => ∃ T v0 v1, v = .ref T ∧ h.IsTuple T #[v0, v1])
      (fun v m h' m' => ∃ T v0 v1, v = .ref T ∧ h'.IsTuple T #[v0, v1] ∧ m' = set1 (set1 m x0 v0) x1 v1) where
  run := fun v s m Q E pre F h => by
    obtain ⟨T, v0, v1, rfl, ht⟩ := pre
    refine wpAny_assign_Tuple hh ht rfl rfl fun h3 hx3 => ?_
    replace hx3 : Heap.ExtBut s.heap.objs.size s.heap h3 := hx3
    have up3 : ∀ b o, s.heap.get? b = some o → h3.get? b = some o := fun b o x => hx3 b o (Nat.ne_of_lt (Heap.lt_size x)) x
    have F3 : Fr h₀ env.locals h3 m := ⟨F.ns.at' fun o e => up3 _ o e, fun b o e => up3 b o (F.keep b o e), F.above⟩
    have hTL : T ≠ env.locals := fun q => by
      obtain ⟨o, es, ep, ho, hd, _⟩ := F.ns
      obtain ⟨o', ho', _, n, hd'⟩ := ht
      rw [q, ho] at ho'; cases ho'
      rw [hd] at hd'; cases hd'
    show wpAny _ A (do holding [v1] (assign (.Name x0 p0) env v0); do holding [] (assign (.Name x1 p1) env v1); pure ()) _ _ _
    refine wpAny_bind (wpAny_holding (wpAny_assign_Name (wpAny_storeName_local hx0 F3.ns (fun h4 hn4 hs4 => ?_) hp)))
    replace hs4 : Heap.SameBut env.locals h3 h4 := hs4
    have F4 := F3.set hn4 hs4
    refine wpAny_bind (wpAny_holding (wpAny_assign_Name (wpAny_storeName_local hx1 F4.ns (fun h5 hn5 hs5 => wpAny_pure ?_) hp)))
    replace hs5 : Heap.SameBut env.locals h4 h5 := hs5
    have F5 := F4.set hn5 hs5
    have up5 : ∀ b o, b ≠ env.locals → s.heap.get? b = some o → h5.get? b = some o := fun b o hb e => (hs5.2 b hb).trans ((hs4.2 b hb).trans (up3 b o e))
    exact h h5 _ _ F5 (fun b o hb _ e => up5 b o hb e) ⟨T, v0, v1, rfl, ht.at fun o e => up5 T o hTL e, rfl⟩
  go := fun I l i v s Q E hit pre h => by
    obtain ⟨T, v0, v1, rfl, ht⟩ := pre
    exact wpAny_letOwnedTupleGo_listiter hit h
theorem Tgt.triple {x0 x1 x2 : Str} {p0 p1 p2 pt : Pos} {k1 : Nat} (hh : A.handled = none) (hx0 : env.kindOf x0 = some .local) (hx1 : env.kindOf x1 = some .local) (hx2 : env.kindOf x2 = some .local)
    (hp : (env.scope.kind == .class || (env.scope.kind == .module && env.locals != env.globals)) = false) :
    Tgt prog w A h₀ env (.Tuple [.Name x0 p0, .Name x1 p1, .Name x2 p2] k1 pt) noW (fun v h => ∃ T v0 v1 v2, v = .ref T ∧ h.IsTuple T #[v0, v1, v2])
      (fun v m h' m' => ∃ T v0 v1 v2, v = .ref T ∧ h'.IsTuple T #[v0, v1, v2] ∧ m' = set1 (set1 (set1 m x0 v0) x1 v1) x2 v2) where
  run := fun v s m Q E pre F h => by
    obtain ⟨T, v0, v1, v2, rfl, ht⟩ := pre
    refine wpAny_assign_Tuple hh ht rfl rfl fun h3 hx3 => ?_
    replace hx3 : Heap.ExtBut s.heap.objs.size s.heap h3 := hx3
    have up3 : ∀ b o, s.heap.get? b = some o → h3.get? b = some o := fun b o x => hx3 b o (Nat.ne_of_lt (Heap.lt_size x)) x
    have F3 : Fr h₀ env.locals h3 m := ⟨F.ns.at' fun o e => up3 _ o e, fun b o e => up3 b o (F.keep b o e), F.above⟩
    have hTL : T ≠ env.locals := fun q => by
      obtain ⟨o, es, ep, ho, hd, _⟩ := F.ns
      obtain ⟨o', ho', _, n, hd'⟩ := ht
      rw [q, ho] at ho'; cases ho'
      rw [hd] at hd'; cases hd'
    show wpAny _ A (do holding [v1, v2] (assign (.Name x0 p0) env v0); do holding [v2] (assign (.Name x1 p1) env v1); do holding [] (assign (.Name x2 p2) env v2); pure ()) _ _ _
    refine wpAny_bind (wpAny_holding (wpAny_assign_Name (wpAny_storeName_local hx0 F3.ns (fun h4 hn4 hs4 => ?_) hp)))
    replace hs4 : Heap.SameBut env.locals h3 h4 := hs4
    have F4 := F3.set hn4 hs4
    refine wpAny_bind (wpAny_holding (wpAny_assign_Name (wpAny_storeName_local hx1 F4.ns (fun h5 hn5 hs5 => ?_) hp)))
    replace hs5 : Heap.SameBut env.locals h4 h5 := hs5
    have F5 := F4.set hn5 hs5
    refine wpAny_bind (wpAny_holding (wpAny_assign_Name (wpAny_storeName_local hx2 F5.ns (fun h6 hn6 hs6 => wpAny_pure ?_) hp)))
    replace hs6 : Heap.SameBut env.locals h5 h6 := hs6
    have F6 := F5.set hn6 hs6
    have up5 : ∀ b o, b ≠ env.locals → s.heap.get? b = some o → h6.get? b = some o := fun b o hb e => (hs6.2 b hb).trans ((hs5.2 b hb).trans ((hs4.2 b hb).trans (up3 b o e)))
    exact h h6 _ _ F6 (fun b o hb _ e => up5 b o hb e) ⟨T, v0, v1, v2, rfl, ht.at fun o e => up5 T o hTL e, rfl⟩
  go := fun I l i v s Q E hit pre h => by
    obtain ⟨T, v0, v1, v2, rfl, ht⟩ := pre
    exact wpAny_letOwnedTupleGo_listiter hit h

theorem dict_ne {h : Heap} {L l : Addr} {items : Array Value} {m : Str → Option Value} (F : Fr h₀ L h m) (hl : h.IsList l items) : l ≠ L := fun q => by
  obtain ⟨o, es, ep, ho, hd, _⟩ := F.ns
  obtain ⟨o', ho', _, n, hd'⟩ := hl
  rw [q, ho] at ho'; cases ho'
  rw [hd] at hd'; cases hd'

theorem for_list {l : Addr} {items : Array Value} (hh : A.handled = none) (TG : Tgt prog w A h₀ env target WrT Pre Post) (F : Fr h₀ env.locals s.heap m) (hl : s.heap.IsList l items) (hlW : ¬ Wr l)
    (hW : ∀ b, Wr b → b < s.heap.objs.size) (hWT : ∀ b, WrT b → Wr b) (J : Nat → Shared → (Str → Option Value) → Prop)
    (h0 : ∀ h', Fr h₀ env.locals h' m → Kp env.locals s.heap h' → J 0 { s with heap := h' } m)
    (hPre : ∀ i s' m' v h', J i s' m' → items[i]? = some v → Kn noW env.locals s'.heap h' → Pre v h')
    (turn : ∀ i s' m' v h' tk m1, J i s' m' → items[i]? = some v → Fr h₀ env.locals h' m1 → Kn WrT env.locals s'.heap h' → Post v m' h' m1 →
      wpAny (model prog w) A (execs body env) (fun f s₃ => (f = .next ∨ f = .cont) ∧ ∃ m3, Fr h₀ env.locals s₃.heap m3 ∧ Ks Wr env.locals h' s₃.heap ∧ J (i + 1) s₃ m3) (fun _ _ => False) { s' with heap := h', toks := tk })
    (fin : ∀ s' m' h', J items.size s' m' → Fr h₀ env.locals h' m' → Kn noW env.locals s'.heap h' → Ks Wr env.locals s.heap h' → R (.ok .next) { s' with heap := h' }) :
    wpAny (model prog w) A (pyIter (.ref l)) (fun it s₂ => codeAny (model prog w) A (.forLoop target it body [] env) R s₂) E s := by
  refine wpAny_pyIter_list hl ?_
  have hlL : l ≠ env.locals := dict_ne F hl
  have up : ∀ b o, s.heap.get? b = some o → (s.heap.push { cls := Value.type "list_iterator", data := .fields #[.ref l, .int 0 0] }).get? b = some o := fun b o e => Heap.get?_push_of_some _ e
  have F2 := F.push { cls := Value.type "list_iterator", data := .fields #[.ref l, .int 0 0] }
  have hIL : s.heap.objs.size ≠ env.locals := fun q => by
    have := F.ns.lt
    rw [q] at this
    exact absurd this (Nat.lt_irrefl _)
  have hI0 : h₀.get? s.heap.objs.size = none := by
    cases e : h₀.get? s.heap.objs.size with
    | none => rfl
    | some o => exact absurd (Heap.lt_size (F.keep _ _ e)) (Nat.lt_irrefl _)
  have hIW : ¬ Wr s.heap.objs.size := fun q => Nat.lt_irrefl _ (hW _ q)
  have hIl : l ≠ s.heap.objs.size := fun q => by
    obtain ⟨o, ho, _⟩ := hl
    exact Nat.lt_irrefl _ (q ▸ Heap.lt_size ho)
  have hIn : s.heap.get? s.heap.objs.size = none := by
    cases e : s.heap.get? s.heap.objs.size with
    | none => rfl
    | some o => exact absurd (Heap.lt_size e) (Nat.lt_irrefl _)
  generalize hI : s.heap.objs.size = I at *
  refine codeAny_forLoop_any (fun n s' => ∃ i m', n = items.size - i ∧ i ≤ items.size ∧ J i s' m' ∧ Fr h₀ env.locals s'.heap m' ∧ s'.heap.IsListIter I l i ∧ s'.heap.IsList l items ∧ Ks Wr env.locals s.heap s'.heap) ?_ (items.size - 0)
    ⟨0, m, rfl, Nat.zero_le _, h0 _ F2 fun b o _ e => up b o e, F2, ⟨_, hI ▸ Heap.get?_push_size _ rfl, rfl, rfl⟩, hl.push _, fun b o _ _ e => up b o e⟩
  rintro n s' ⟨i, m', rfl, hi, hJ, F', hit, hl', ks⟩
  by_cases hlt : i < items.size
  · refine wpAny_pyNext_list_item hit hl' (x := items[i]) (by simp [hlt]) fun h1 hit1 hs1 => ?_
    have F1 := fr_but F' hIL hI0 (h' := h1) fun b o hb e => (hs1.2 b hb).trans e
    have nI : ∀ b o, NotIt o → s'.heap.get? b = some o → b ≠ I := fun b o hn e q => by
      subst q
      obtain ⟨o', ho', hc', hd'⟩ := hit
      rw [e] at ho'; cases ho'
      rcases hn with hn | hn
      · exact hn _ hd'
      · exact hn.1 hc'
    have pre1 := hPre i s' m' items[i] h1 hJ (by simp [hlt]) (fun b o hb _ hn e => (hs1.2 b (nI b o hn e)).trans e)
    refine TG.go I l (i + 1) items[i] _ _ _ hit1 pre1 ?_
    refine TG.run items[i] _ m' _ _ pre1 F1 fun h2 tk2 m2 F2 k2 post => ?_
    have hIT : ¬ WrT I := fun q => hIW (hWT _ q)
    have hlT : ¬ WrT l := fun q => hlW (hWT _ q)
    refine wpAny_mono (turn i s' m' items[i] h2 tk2 m2 hJ (by simp [hlt]) F2 (fun b o hb hw hn e => k2 b o hb hw ((hs1.2 b (nI b o hn e)).trans e)) post) (fun f s3 h3 => ?_) fun _ _ q => q.elim
    obtain ⟨hf, m3, F3, k3, hJ3⟩ := h3
    have : ∃ n, n < items.size - i ∧ ∃ j m, n = items.size - j ∧ j ≤ items.size ∧ J j s3 m ∧ Fr h₀ env.locals s3.heap m ∧ s3.heap.IsListIter I l j ∧ s3.heap.IsList l items ∧ Ks Wr env.locals s.heap s3.heap :=
      ⟨items.size - (i + 1), by omega, i + 1, m3, rfl, hlt, hJ3, F3, hit1.at fun o e => k3 I o hIL hIW (k2 I o hIL hIT e), hl'.at fun o e => k3 l o hlL hlW (k2 l o hlL hlT ((hs1.2 l hIl).trans e)),
        fun b o hb hw e => k3 b o hb hw (k2 b o hb (fun q => hw (hWT _ q)) ((hs1.2 b (fun q => by rw [q, hIn] at e; cases e)).trans (ks b o hb hw e)))⟩
    rcases hf with rfl | rfl <;> exact this
  · have hin : i = items.size := by omega
    subst hin
    have nI : ∀ b o, NotIt o → s'.heap.get? b = some o → b ≠ I := fun b o hn e q => by
      subst q
      obtain ⟨o', ho', hc', hd'⟩ := hit
      rw [e] at ho'; cases ho'
      rcases hn with hn | hn
      · exact hn _ hd'
      · exact hn.1 hc'
    refine wpAny_pyNext_list_end hh hit hl' (by simp) fun h' he => ?_
    refine wpAny_execs_nil (fin s' m' h' hJ (fr_but F' hIL hI0 fun b o hb e => he b o hb e) (fun b o _ _ hn e => he b o (nI b o hn e) e) fun b o hb hw e => he b o (fun q => by rw [q, hIn] at e; cases e) (ks b o hb hw e))

theorem for_range {r : Addr} {a n : Nat} {hi : Int} {t u v : Tok} (hh : A.handled = none) (TG : Tgt prog w A h₀ env target WrT Pre Post) (hgo : ∀ it v, letOwnedTupleGo target it v = pure ()) (F : Fr h₀ env.locals s.heap m)
    (hr : IsRange s.heap r (a : Int) hi 1 t u v) (hhi : hi = ((a + n : Nat) : Int)) (hsm : a + n < 2 ^ 62)
    (hW : ∀ b, Wr b → b < s.heap.objs.size) (hWT : ∀ b, WrT b → Wr b) (J : Nat → Shared → (Str → Option Value) → Prop)
    (h0 : ∀ h', Fr h₀ env.locals h' m → Kp env.locals s.heap h' → J 0 { s with heap := h' } m)
    (hPre : ∀ i s' m' v h', J i s' m' → Kn noW env.locals s'.heap h' → Pre v h')
    (turn : ∀ i s' m' t h' tk m1, J i s' m' → i < n → Fr h₀ env.locals h' m1 → Kn WrT env.locals s'.heap h' → Post (.int ((a + i : Nat) : Int) t) m' h' m1 →
      wpAny (model prog w) A (execs body env) (fun f s₃ => (f = .next ∨ f = .cont) ∧ ∃ m3, Fr h₀ env.locals s₃.heap m3 ∧ Ks Wr env.locals h' s₃.heap ∧ J (i + 1) s₃ m3) (fun _ _ => False) { s' with heap := h', toks := tk })
    (fin : ∀ s' m' h', J n s' m' → Fr h₀ env.locals h' m' → Kn noW env.locals s'.heap h' → Ks Wr env.locals s.heap h' → R (.ok .next) { s' with heap := h' }) :
    wpAny (model prog w) A (pyIter (.ref r)) (fun it s₂ => codeAny (model prog w) A (.forLoop target it body [] env) R s₂) E s := by
  subst hhi
  have hsmall : Builtin.Range.small (a : Int) ((a + n : Nat) : Int) 1 = true := small_one (by omega) (by omega) (by omega) (by omega)
  have hrs : Builtin.Range.rangeSize (a : Int) ((a + n : Nat) : Int) 1 = ((n : Nat) : Int) := by
    rw [rangeSize_one]; split <;> omega
  refine wpAny_pyIter_range hr hsmall ?_
  rw [hrs]
  have up : ∀ b o, s.heap.get? b = some o → (s.heap.push { cls := .type "range_iterator", data := .fields #[rawInt (a : Int), rawInt ((n : Nat) : Int), rawInt 1] }).get? b = some o := fun b o e => Heap.get?_push_of_some _ e
  have F2 := F.push { cls := .type "range_iterator", data := .fields #[rawInt (a : Int), rawInt ((n : Nat) : Int), rawInt 1] }
  have hIL : s.heap.objs.size ≠ env.locals := fun q => by
    have := F.ns.lt
    rw [q] at this
    exact absurd this (Nat.lt_irrefl _)
  have hI0 : h₀.get? s.heap.objs.size = none := by
    cases e : h₀.get? s.heap.objs.size with
    | none => rfl
    | some o => exact absurd (Heap.lt_size (F.keep _ _ e)) (Nat.lt_irrefl _)
  have hIW : ¬ Wr s.heap.objs.size := fun q => Nat.lt_irrefl _ (hW _ q)
  have hIn : s.heap.get? s.heap.objs.size = none := by
    cases e : s.heap.get? s.heap.objs.size with
    | none => rfl
    | some o => exact absurd (Heap.lt_size e) (Nat.lt_irrefl _)
  generalize hI : s.heap.objs.size = I at *
  refine codeAny_forLoop_any (fun k s' => ∃ i m', k = n - i ∧ i ≤ n ∧ J i s' m' ∧ Fr h₀ env.locals s'.heap m' ∧ IsRangeIter s'.heap I ((a + i : Nat) : Int) ((n - i : Nat) : Int) 1 ∧ Ks Wr env.locals s.heap s'.heap) ?_ (n - 0)
    ⟨0, m, rfl, Nat.zero_le _, h0 _ F2 fun b o _ e => up b o e, F2, hI ▸ Heap.get?_push_size _ rfl, fun b o _ _ e => up b o e⟩
  rintro k s' ⟨i, m', rfl, hi, hJ, F', hit, ks⟩
  have nI : ∀ b o, NotIt o → s'.heap.get? b = some o → b ≠ I := fun b o hn e q => by
    subst q
    rw [hit] at e; cases e
    rcases hn with hn | hn
    · exact hn _ rfl
    · exact hn.2 rfl
  by_cases hlt : i < n
  · refine wpAny_pyNext_range_item hit (by omega) fun h1 hit1 hs1 => ?_
    have F1 := fr_but F' hIL hI0 (h' := h1) fun b o hb e => (hs1.2 b hb).trans e
    have pre1 := fun v => hPre i s' m' v h1 hJ (fun b o hb _ hn e => (hs1.2 b (nI b o hn e)).trans e)
    refine wpAny_of_eq (hgo _ _) ?_
    refine TG.run _ _ m' _ _ (pre1 _) F1 fun h2 tk2 m2 F2 k2 post => ?_
    have hIT : ¬ WrT I := fun q => hIW (hWT _ q)
    refine wpAny_mono (turn i s' m' _ h2 tk2 m2 hJ hlt F2 (fun b o hb hw hn e => k2 b o hb hw ((hs1.2 b (nI b o hn e)).trans e)) post) (fun f s3 h3 => ?_) fun _ _ q => q.elim
    obtain ⟨hf, m3, F3, k3, hJ3⟩ := h3
    have hit3 : IsRangeIter h1 I ((a + (i + 1) : Nat) : Int) ((n - (i + 1) : Nat) : Int) 1 := by
      have e1 : ((a + (i + 1) : Nat) : Int) = ((a + i : Nat) : Int) + 1 := by omega
      have e2 : ((n - (i + 1) : Nat) : Int) = ((n - i : Nat) : Int) - 1 := by omega
      rw [e1, e2]; exact hit1
    have : ∃ k, k < n - i ∧ ∃ j m, k = n - j ∧ j ≤ n ∧ J j s3 m ∧ Fr h₀ env.locals s3.heap m ∧ IsRangeIter s3.heap I ((a + j : Nat) : Int) ((n - j : Nat) : Int) 1 ∧ Ks Wr env.locals s.heap s3.heap :=
      ⟨n - (i + 1), by omega, i + 1, m3, rfl, hlt, hJ3, F3, k3 I _ hIL hIW (k2 I _ hIL hIT hit3),
        fun b o hb hw e => k3 b o hb hw (k2 b o hb (fun q => hw (hWT _ q)) ((hs1.2 b (fun q => by rw [q, hIn] at e; cases e)).trans (ks b o hb hw e)))⟩
    rcases hf with rfl | rfl <;> exact this
  · have hin : i = n := by omega
    subst hin
    refine wpAny_pyNext_range_end hh hit (by simp) fun h' he => ?_
    refine wpAny_execs_nil (fin s' m' h' hJ (fr_but F' hIL hI0 fun b o hb e => he b o hb e) (fun b o _ _ hn e => he b o (nI b o hn e) e) fun b o hb hw e => he b o (fun q => by rw [q, hIn] at e; cases e) (ks b o hb hw e))
end
end Mine
end
section
open PySem PySem.W PyProof.Rows
set_option Elab.async false
set_option linter.unusedVariables false
set_option maxRecDepth 100000
namespace Mine
open Sem (wp)
section
variable {prog : Program} {w : World} {A : Around} {R : GenEnd} {Y : Protocol} {n : Nat} {s₀ : Shared} {c : Code} {fs : List Frame} {s : Shared} {env : Env} {Q : Flow → Shared → Prop} {E : Value → Shared → Prop} {h₀ : Heap} {m : Str → Option Value}
theorem loopL_list {x : Str} {px : Pos} {body : List Stmt} {l : Addr} {items : Array Value} {Wr : Addr → Prop}
    (hh : ∀ it K H gd lv p, (A.over (.forLoop (.Name x px) it body [] env) (waitF env K H gd lv c p :: fs)).handled = none) (hx : env.kindOf x = some .local)
    (hp : (env.scope.kind == .class || (env.scope.kind == .module && env.locals != env.globals)) = false) (F : Fr h₀ env.locals s.heap m) (hl : s.heap.IsList l items) (hlW : ¬ Wr l)
    (hW : ∀ b, Wr b → b < s.heap.objs.size) (J : Nat → Shared → (Str → Option Value) → Prop)
    (h0 : ∀ h', Fr h₀ env.locals h' m → Kp env.locals s.heap h' → J 0 { s with heap := h' } m)
    (turn : ∀ it K H gd lv p i s' m' v h' tk, J i s' m' → items[i]? = some v → Fr h₀ env.locals h' (set1 m' x v) → Kn noW env.locals s'.heap h' →
      LW (model prog w) A R Y n s₀ (.forLoop (.Name x px) it body [] env) (waitF env K H gd lv c p :: fs) (execs body env) (fun f s₃ => f = .next ∧ ∃ m3, Fr h₀ env.locals s₃.heap m3 ∧ Ks Wr env.locals h' s₃.heap ∧ J (i + 1) s₃ m3) (fun _ _ => False) { s' with heap := h', toks := tk })
    (fin : ∀ s' m' h', J items.size s' m' → Fr h₀ env.locals h' m' → Kn noW env.locals s'.heap h' → Ks Wr env.locals s.heap h' → Q .next { s' with heap := h' }) :
    wpAny (model prog w) (A.over c fs) (pyIter (.ref l)) (fun it s₂ => LoopL prog w A R Y n s₀ c fs env x px body Q it s₂) E s := by
  refine wpAny_pyIter_list hl ?_
  have hlL : l ≠ env.locals := dict_ne F hl
  have up : ∀ b o, s.heap.get? b = some o → (s.heap.push { cls := Value.type "list_iterator", data := .fields #[.ref l, .int 0 0] }).get? b = some o := fun b o e => Heap.get?_push_of_some _ e
  have F2 := F.push { cls := Value.type "list_iterator", data := .fields #[.ref l, .int 0 0] }
  have hIL : s.heap.objs.size ≠ env.locals := fun q => by
    have := F.ns.lt
    rw [q] at this
    exact absurd this (Nat.lt_irrefl _)
  have hI0 : h₀.get? s.heap.objs.size = none := by
    cases e : h₀.get? s.heap.objs.size with
    | none => rfl
    | some o => exact absurd (Heap.lt_size (F.keep _ _ e)) (Nat.lt_irrefl _)
  have hIW : ¬ Wr s.heap.objs.size := fun q => Nat.lt_irrefl _ (hW _ q)
  have hIn : s.heap.get? s.heap.objs.size = none := by
    cases e : s.heap.get? s.heap.objs.size with
    | none => rfl
    | some o => exact absurd (Heap.lt_size e) (Nat.lt_irrefl _)
  have hIl : l ≠ s.heap.objs.size := fun q => by
    obtain ⟨o, ho, _⟩ := hl
    exact Nat.lt_irrefl _ (q ▸ Heap.lt_size ho)
  generalize hI : s.heap.objs.size = I at *
  have nI : ∀ {h : Heap} {i : Nat}, h.IsListIter I l i → ∀ b o, NotIt o → h.get? b = some o → b ≠ I := fun {h i} hit b o hn e q => by
    subst q
    obtain ⟨o', ho', hc', hd'⟩ := hit
    rw [e] at ho'; cases ho'
    rcases hn with hn | hn
    · exact hn _ hd'
    · exact hn.1 hc'
  refine ⟨items.size, fun i s' => ∃ m', J i s' m' ∧ Fr h₀ env.locals s'.heap m' ∧ s'.heap.IsListIter I l i ∧ s'.heap.IsList l items ∧ Ks Wr env.locals s.heap s'.heap,
    fun i s'' => ∃ s' m' v h' tk, s'' = { s' with heap := h', toks := tk } ∧ J i s' m' ∧ items[i]? = some v ∧ Fr h₀ env.locals h' (set1 m' x v) ∧ Kn noW env.locals s'.heap h' ∧ h'.IsListIter I l (i + 1) ∧ h'.IsList l items ∧ Ks Wr env.locals s.heap h',
    ⟨m, h0 _ F2 fun b o _ e => up b o e, F2, ⟨_, hI ▸ Heap.get?_push_size _ rfl, rfl, rfl⟩, hl.push _, fun b o _ _ e => up b o e⟩, ?_, ?_, ?_⟩
  · rintro K H gd lv p i s' hi ⟨m', hJ, F', hit, hl', ks⟩
    refine wpAny_pyNext_list_item hit hl' (x := items[i]) (by simp [hi]) fun h1 hit1 hs1 => ?_
    have F1 := fr_but F' hIL hI0 (h' := h1) fun b o hb e => (hs1.2 b hb).trans e
    refine wpAny_storeName_local hx F1.ns (fun h2 hns2 hs2 => ?_) hp
    replace hs2 : Heap.SameBut env.locals h1 h2 := hs2
    exact ⟨s', m', items[i], h2, _, rfl, hJ, by simp [hi], F1.set hns2 hs2, fun b o hb _ hn e => (hs2.2 b hb).trans ((hs1.2 b (nI hit b o hn e)).trans e), hit1.at fun o e => (hs2.2 I hIL).trans e, hl'.at fun o e => (hs2.2 l hlL).trans ((hs1.2 l hIl).trans e), fun b o hb hw e => (hs2.2 b hb).trans ((hs1.2 b (fun q => by rw [q, hIn] at e; cases e)).trans (ks b o hb hw e))⟩
  · rintro K H gd lv p i s'' hi ⟨s', m', v, h', tk, rfl, hJ, hv, F', kn, hit, hl', ks⟩
    refine lw_mono (turn _ K H gd lv p i s' m' v h' tk hJ hv F' kn) (fun f s3 q => ?_) fun _ _ q => q
    obtain ⟨rfl, m3, F3, k3, hJ3⟩ := q
    exact ⟨rfl, m3, hJ3, F3, hit.at fun o e => k3 I o hIL hIW e, hl'.at fun o e => k3 l o hlL hlW e, fun b o hb hw e => k3 b o hb hw (ks b o hb hw e)⟩
  · rintro K H gd lv p s' ⟨m', hJ, F', hit, hl', ks⟩
    refine wpAny_pyNext_list_end (hh _ K H gd lv p) hit hl' (by simp) fun h' he => ?_
    exact ⟨rfl, fin s' m' h' hJ (fr_but F' hIL hI0 fun b o hb e => he b o hb e) (fun b o _ _ hn e => he b o (nI hit b o hn e) e) fun b o hb hw e => he b o (fun q => by rw [q, hIn] at e; cases e) (ks b o hb hw e)⟩
theorem loopL_range {x : Str} {px : Pos} {body : List Stmt} {r : Addr} {a k : Nat} {hi : Int} {t u v : Tok} {Wr : Addr → Prop}
    (hh : ∀ it K H gd lv p, (A.over (.forLoop (.Name x px) it body [] env) (waitF env K H gd lv c p :: fs)).handled = none) (hx : env.kindOf x = some .local)
    (hp : (env.scope.kind == .class || (env.scope.kind == .module && env.locals != env.globals)) = false) (F : Fr h₀ env.locals s.heap m) (hr : IsRange s.heap r (a : Int) hi 1 t u v) (hhi : hi = ((a + k : Nat) : Int)) (hsm : a + k < 2 ^ 62)
    (hW : ∀ b, Wr b → b < s.heap.objs.size) (J : Nat → Shared → (Str → Option Value) → Prop)
    (h0 : ∀ h', Fr h₀ env.locals h' m → Kp env.locals s.heap h' → J 0 { s with heap := h' } m)
    (turn : ∀ it K H gd lv p i s' m' t h' tk, J i s' m' → i < k → Fr h₀ env.locals h' (set1 m' x (.int ((a + i : Nat) : Int) t)) → Kn noW env.locals s'.heap h' →
      LW (model prog w) A R Y n s₀ (.forLoop (.Name x px) it body [] env) (waitF env K H gd lv c p :: fs) (execs body env) (fun f s₃ => f = .next ∧ ∃ m3, Fr h₀ env.locals s₃.heap m3 ∧ Ks Wr env.locals h' s₃.heap ∧ J (i + 1) s₃ m3) (fun _ _ => False) { s' with heap := h', toks := tk })
    (fin : ∀ s' m' h', J k s' m' → Fr h₀ env.locals h' m' → Kn noW env.locals s'.heap h' → Ks Wr env.locals s.heap h' → Q .next { s' with heap := h' }) :
    wpAny (model prog w) (A.over c fs) (pyIter (.ref r)) (fun it s₂ => LoopL prog w A R Y n s₀ c fs env x px body Q it s₂) E s := by
  subst hhi
  have hsmall : Builtin.Range.small (a : Int) ((a + k : Nat) : Int) 1 = true := small_one (by omega) (by omega) (by omega) (by omega)
  have hrs : Builtin.Range.rangeSize (a : Int) ((a + k : Nat) : Int) 1 = ((k : Nat) : Int) := by
    rw [rangeSize_one]; split <;> omega
  refine wpAny_pyIter_range hr hsmall ?_
  rw [hrs]
  have up : ∀ b o, s.heap.get? b = some o → (s.heap.push { cls := .type "range_iterator", data := .fields #[rawInt (a : Int), rawInt ((k : Nat) : Int), rawInt 1] }).get? b = some o := fun b o e => Heap.get?_push_of_some _ e
  have F2 := F.push { cls := .type "range_iterator", data := .fields #[rawInt (a : Int), rawInt ((k : Nat) : Int), rawInt 1] }
  have hIL : s.heap.objs.size ≠ env.locals := fun q => by
    have := F.ns.lt
    rw [q] at this
    exact absurd this (Nat.lt_irrefl _)
  have hI0 : h₀.get? s.heap.objs.size = none := by
    cases e : h₀.get? s.heap.objs.size with
    | none => rfl
    | some o => exact absurd (Heap.lt_size (F.keep _ _ e)) (Nat.lt_irrefl _)
  have hIW : ¬ Wr s.heap.objs.size := fun q => Nat.lt_irrefl _ (hW _ q)
  have hIn : s.heap.get? s.heap.objs.size = none := by
    cases e : s.heap.get? s.heap.objs.size with
    | none => rfl
    | some o => exact absurd (Heap.lt_size e) (Nat.lt_irrefl _)
  generalize hI : s.heap.objs.size = I at *
  have nI : ∀ {h : Heap} {p q : Int}, IsRangeIter h I p q 1 → ∀ b o, NotIt o → h.get? b = some o → b ≠ I := fun {h p q} hit b o hn e qq => by
    subst qq
    rw [hit] at e; cases e
    rcases hn with hn | hn
    · exact hn _ rfl
    · exact hn.2 rfl
  refine ⟨k, fun i s' => ∃ m', J i s' m' ∧ Fr h₀ env.locals s'.heap m' ∧ IsRangeIter s'.heap I ((a + i : Nat) : Int) ((k - i : Nat) : Int) 1 ∧ Ks Wr env.locals s.heap s'.heap,
    fun i s'' => ∃ s' m' t h' tk, s'' = { s' with heap := h', toks := tk } ∧ J i s' m' ∧ Fr h₀ env.locals h' (set1 m' x (.int ((a + i : Nat) : Int) t)) ∧ Kn noW env.locals s'.heap h' ∧ IsRangeIter h' I ((a + (i + 1) : Nat) : Int) ((k - (i + 1) : Nat) : Int) 1 ∧ Ks Wr env.locals s.heap h',
    ⟨m, h0 _ F2 fun b o _ e => up b o e, F2, hI ▸ Heap.get?_push_size _ rfl, fun b o _ _ e => up b o e⟩, ?_, ?_, ?_⟩
  · rintro K H gd lv p i s' hi ⟨m', hJ, F', hit, ks⟩
    refine wpAny_pyNext_range_item hit (by omega) fun h1 hit1 hs1 => ?_
    have F1 := fr_but F' hIL hI0 (h' := h1) fun b o hb e => (hs1.2 b hb).trans e
    refine wpAny_storeName_local hx F1.ns (fun h2 hns2 hs2 => ?_) hp
    replace hs2 : Heap.SameBut env.locals h1 h2 := hs2
    have hit3 : IsRangeIter h1 I ((a + (i + 1) : Nat) : Int) ((k - (i + 1) : Nat) : Int) 1 := by
      have e1 : ((a + (i + 1) : Nat) : Int) = ((a + i : Nat) : Int) + 1 := by omega
      have e2 : ((k - (i + 1) : Nat) : Int) = ((k - i : Nat) : Int) - 1 := by omega
      rw [e1, e2]; exact hit1
    exact ⟨s', m', _, h2, _, rfl, hJ, F1.set hns2 hs2, fun b o hb _ hn e => (hs2.2 b hb).trans ((hs1.2 b (nI hit b o hn e)).trans e), (hs2.2 I hIL).trans hit3, fun b o hb hw e => (hs2.2 b hb).trans ((hs1.2 b (fun q => by rw [q, hIn] at e; cases e)).trans (ks b o hb hw e))⟩
  · rintro K H gd lv p i s'' hi ⟨s', m', t, h', tk, rfl, hJ, F', kn, hit, ks⟩
    refine lw_mono (turn _ K H gd lv p i s' m' t h' tk hJ hi F' kn) (fun f s3 q => ?_) fun _ _ q => q
    obtain ⟨rfl, m3, F3, k3, hJ3⟩ := q
    exact ⟨rfl, m3, hJ3, F3, k3 I _ hIL hIW hit, fun b o hb hw e => k3 b o hb hw (ks b o hb hw e)⟩
  · rintro K H gd lv p s' ⟨m', hJ, F', hit, ks⟩
    refine wpAny_pyNext_range_end (hh _ K H gd lv p) hit (by simp) fun h' he => ?_
    exact ⟨rfl, fin s' m' h' hJ (fr_but F' hIL hI0 fun b o hb e => he b o hb e) (fun b o _ _ hn e => he b o (nI hit b o hn e) e) fun b o hb hw e => he b o (fun q => by rw [q, hIn] at e; cases e) (ks b o hb hw e)⟩
end
end Mine
end
section
open PySem PySem.W PyProof.Rows
set_option Elab.async false
set_option linter.unusedVariables false
set_option maxRecDepth 100000
set_option maxHeartbeats 4000000
namespace Mine
/-- one turn upon the blocks -/
def bub (bs : List (List Str)) (k : Nat) : List (List Str) := bs.take k ++ (match bs.drop k with | x :: y :: q => swap2 x y ++ q | r => r)
def pass (bs : List (List Str)) (n : Nat) : List (List Str) := (List.range n).foldl bub bs
structure Good5 (bs : List (List Str)) : Prop where
  len : bs.length = 5
  pos : ∀ b ∈ bs, 0 < b.length
  tot : bs.flatten.length ≤ 100
  txt : okTxt bs
theorem bub_at (p : List (List Str)) (x y : List Str) (q : List (List Str)) : bub (p ++ x :: y :: q) p.length = p ++ (swap2 x y ++ q) := by
  unfold bub
  rw [List.take_left' rfl, List.drop_left' rfl]
theorem cut (bs : List (List Str)) {k : Nat} (h : k + 1 < bs.length) : ∃ p x y q, bs = p ++ x :: y :: q ∧ p.length = k := by
  refine ⟨bs.take k, bs[k], bs[k + 1], bs.drop (k + 2), ?_, by simp; omega⟩
  rw [List.getElem_cons_drop (h := h), List.getElem_cons_drop (h := by omega), List.take_append_drop]
theorem mem_swap2 {x y b : List Str} : b ∈ swap2 x y ↔ b = x ∨ b = y := by unfold swap2; split <;> simp [or_comm]
theorem len_swap2 (x y : List Str) : (swap2 x y).length = 2 := by unfold swap2; split <;> rfl
theorem flat_swap2 (x y : List Str) : (swap2 x y).flatten.length = x.length + y.length := by unfold swap2; split <;> simp <;> omega
theorem good_bub {bs : List (List Str)} (g : Good5 bs) {k : Nat} (h : k + 1 < 5) : Good5 (bub bs k) := by
  obtain ⟨p, x, y, q, rfl, rfl⟩ := cut bs (by rw [g.len]; exact h)
  rw [bub_at]
  have hm : ∀ b, b ∈ p ++ (swap2 x y ++ q) → b ∈ p ++ x :: y :: q := fun b hb => by
    simp only [List.mem_append, List.mem_cons, mem_swap2] at hb ⊢
    rcases hb with h | (h | h) | h <;> simp [h]
  refine ⟨?_, fun b hb => g.pos b (hm b hb), ?_, fun b hb => g.txt b (hm b hb)⟩
  · have := g.len
    simp only [List.length_append, List.length_cons, len_swap2] at this ⊢; omega
  · have := g.tot
    simp only [List.flatten_append, List.flatten_cons, List.length_append, flat_swap2] at this ⊢; omega
theorem good_fold {ks : List Nat} (hk : ∀ k ∈ ks, k + 1 < 5) {bs : List (List Str)} (g : Good5 bs) : Good5 (ks.foldl bub bs) := by
  induction ks generalizing bs with
  | nil => exact g
  | cons a r ih => exact ih (fun k h => hk k (.tail _ h)) (good_bub g (hk a (.head _)))
theorem good_pass {bs : List (List Str)} (g : Good5 bs) {n : Nat} (h : n < 5) : Good5 (pass bs n) := good_fold (fun k hk => by have := List.mem_range.mp hk; omega) g
theorem good_passes {ns : List Nat} (hk : ∀ n ∈ ns, n < 5) {bs : List (List Str)} (g : Good5 bs) : Good5 (ns.foldl pass bs) := by
  induction ns generalizing bs with
  | nil => exact g
  | cons a r ih => exact ih (fun k h => hk k (.tail _ h)) (good_pass g (hk a (.head _)))
def Wr10 (L le : Addr) : Addr → Prop := fun b => b = L + 1 ∨ b = le
theorem KpS.ks {L le : Addr} {h h' : Heap} (x : KpS L le h h') : Ks (Wr10 L le) L h h' := fun b o hb hw e => x b o hb (fun q => hw (.inl q)) (fun q => hw (.inr q)) e
theorem notIt_dict {es : _} {n : Nat} : NotIt (dictOf es n) := .inr ⟨by show Value.type "dict" ≠ _; decide, by show Value.type "dict" ≠ _; decide⟩
theorem notIt_inst {d : Addr} : NotIt (instObj 313 d) := .inr ⟨fun e => (by cases (show Value.ref 313 = Value.type "list_iterator" from e)), fun e => (by cases (show Value.ref 313 = Value.type "range_iterator" from e))⟩
theorem Own.kn {h₀ h h' : Heap} {L a : Addr} {o : Obj} (x : Own h₀ L h a o) (k : Kn noW L h h') (hn : NotIt o) : Own h₀ L h' a o := ⟨k a o x.2.1 id hn x.1, x.2⟩
section
variable {w : World} {h₀ : Heap} {os₀ : OsState} {L xi dx le : Addr} {t1 t2 : Tok} {bs : List (List Str)} {s : Shared} {m : Str → Option Value}
theorem St10.move {h' : Heap} {tk : Nat} {x : Str} {v : Value} (S : St10 w h₀ os₀ L xi dx le t1 t2 bs s m) (k : Kn noW L s.heap h') (F : Fr h₀ L h' (set1 m x v)) (h1 : Str.ofString "differ" ≠ x) (h2 : Str.ofString "rows" ≠ x) (h3 : Str.ofString "ends" ≠ x) :
    St10 w h₀ os₀ L xi dx le t1 t2 bs { s with heap := h', toks := tk } (set1 m x v) := by
  obtain ⟨_, hb, hos, hd, o1, o2, ⟨la, vs, c, hr, hla, oa, hvs⟩, he, ⟨es, ce, oe, hes⟩, ⟨v0, o', ho', hd'⟩⟩ := S
  exact ⟨F, hb, hos, lk hd h1, o1.kn k notIt_inst, o2.kn k notIt_dict, ⟨la, vs, c, lk hr h2, hla, oa.kn k notIt_list, hvs⟩, lk he h3, ⟨es, ce, oe.kn k notIt_list, hes⟩, ⟨v0, o', ho'.kn k (notIt_cell hd'), hd'⟩⟩
theorem St10.move' {h' : Heap} (S : St10 w h₀ os₀ L xi dx le t1 t2 bs s m) (k : Kn noW L s.heap h') (F : Fr h₀ L h' m) : St10 w h₀ os₀ L xi dx le t1 t2 bs { s with heap := h' } m := by
  obtain ⟨_, hb, hos, hd, o1, o2, ⟨la, vs, c, hr, hla, oa, hvs⟩, he, ⟨es, ce, oe, hes⟩, ⟨v0, o', ho', hd'⟩⟩ := S
  exact ⟨F, hb, hos, hd, o1.kn k notIt_inst, o2.kn k notIt_dict, ⟨la, vs, c, hr, hla, oa.kn k notIt_list, hvs⟩, he, ⟨es, ce, oe.kn k notIt_list, hes⟩, ⟨v0, o', ho'.kn k (notIt_cell hd'), hd'⟩⟩
/-- the state between two turns, with what stands beside -/
structure Inv10 (w : World) (h₀ : Heap) (os₀ : OsState) (L xi dx le : Addr) (t1 t2 : Tok) (hB : Heap) (sv bv : Option Value) (bs : List (List Str)) (s : Shared) (m : Str → Option Value) : Prop where
  st : St10 w h₀ os₀ L xi dx le t1 t2 bs s m
  kn : Kn (Wr10 L le) L hB s.heap
  sv : m (Str.ofString "script") = sv
  bv : m (Str.ofString "blocks") = bv
end
abbrev outS : Stmt := lS 5
abbrev inS : Stmt := nth (forBody (lS 5)) 0
section
variable {w : World} {A : Around} {h₀ : Heap} {p : Program} {ls : List Str} {mg mb : Str → Option Value} {s : Shared} {fa : Addr} {cd : Value}
theorem in_iter {L : Addr} {m : Str → Option Value} {n : Nat} {t : Tok} {Q : Value → Shared → Prop} (X : (K w.params).In h₀) (T : TopRead p ls mg mb h₀) (hh : A.handled = none) (F : Fr h₀ L s.heap m) (hm : m (Str.ofString "last") = some (.int (n : Int) t)) (hn : n ≤ 5)
    (h : ∀ h' tk r t u v, Fr h₀ L h' m → Kp L s.heap h' → IsRange h' r 0 (n : Int) 1 t u v → Q (.ref r) { s with heap := h', toks := tk }) :
    wpAny (model prog w) A (eval (forIter inS) (lawEnv L fa cd)) Q (fun _ _ => False) s := by
  cases A; cases hh
  have KN := fun y => kn1 hm y
  replace F := Fr.congr F (fun y => (KN y).symm)
  obtain ⟨oth, N, hoth, hfr, -⟩ := led4 F
  clear hm
  have X' := X
  have hrow : row = row := rfl
  revert hrow X
  k_fill
  intro _ X
  show wpAny _ _ (eval (Expr.Call _ _ _ _) _) _ _ _
  w_on
  try k_fold
  k_steps
  rename Fr _ _ _ _ => F1
  rename News _ _ _ _ => N1
  rename IsRange _ _ _ _ _ _ _ _ => hr
  exact h _ _ _ _ _ _ (Fr.congr F1 KN) (hoth F1 N1 (by intro q hq; repeat (first | exact hq | apply List.mem_cons_of_mem))) hr
theorem out_iter {L : Addr} {m : Str → Option Value} {Q : Value → Shared → Prop} (X : (K w.params).In h₀) (T : TopRead p ls mg mb h₀) (hh : A.handled = none) (F : Fr h₀ L s.heap m) 
    (h : ∀ h' tk Z a b c d n, Fr h₀ L h' m → Kp L s.heap h' → Fresh L s.heap Z → Own h₀ L h' Z (listOf #[.int 4 a, .int 3 b, .int 2 c, .int 1 d] n) → Q (.ref Z) { s with heap := h', toks := tk }) :
    wpAny (model prog w) A (eval (forIter outS) (lawEnv L fa cd)) Q (fun _ _ => False) s := by
  cases A; cases hh
  obtain ⟨oth, N, hoth, hfr, -⟩ := led4 F
  have X' := X
  have hrow : row = row := rfl
  revert hrow X
  k_fill
  intro _ X
  show wpAny _ _ (eval (Expr.List _ _) _) _ _ _
  w_on
  try k_fold
  k_steps
  rename Fr _ _ _ _ => F1
  rename News _ _ _ _ => N1
  have oZ := Own.of N1 (.head _)
  rename (∀ q ∈ oth, q.1 < _) => hlt
  exact h _ _ _ _ _ _ _ 0 F1 (hoth F1 N1 (by intro q hq; repeat (first | exact hq | apply List.mem_cons_of_mem))) (hfr oZ.2.2 hlt) oZ
end
def ftPos : Stmt → Pos
  | .For (.Name _ p) _ _ _ _ => p
  | _ => ⟨0, 0, 0, 0⟩
def fPos : Stmt → Pos
  | .For _ _ _ _ p => p
  | _ => ⟨0, 0, 0, 0⟩
theorem inS_eq : inS = .For (.Name (Str.ofString "k") (ftPos inS)) (forIter inS) (forBody inS) [] (fPos inS) := by kernel_rfl
theorem outS_eq : outS = .For (.Name (Str.ofString "last") (ftPos outS)) (forIter outS) [inS] [] (fPos outS) := by kernel_rfl
def Room (A : Around) : Prop := A.handled = none ∧ A.depth + 12 < recursionLimit ∧ A.units + 64 < cLine
section
variable {w : World} {A : Around} {R : GenEnd} {Y : Protocol} {n : Nat} {s₀ : Shared} {c : Code} {fs : List Frame} {h₀ : Heap} {p : Program} {ls : List Str} {mg mb : Str → Option Value} {s : Shared} {fa : Addr} {cd : Value}
theorem in_loop {L xi dx le : Addr} {os₀ : OsState} {t1 t2 t : Tok} {m : Str → Option Value} {bs : List (List Str)} {hB : Heap} {sv bv : Option Value} {k : Nat} {Q : Flow → Shared → Prop} (X : (K w.params).In h₀) (T : TopRead p ls mg mb h₀) (hr0 : Room (A.over c fs))
    (hr1 : ∀ it K H gd lv p, Room (A.over (.forLoop (.Name (Str.ofString "k") (ftPos inS)) it (forBody inS) [] (lawEnv L fa cd)) (waitF (lawEnv L fa cd) K H gd lv c p :: fs)))
    (I : Inv10 w h₀ os₀ L xi dx le t1 t2 hB sv bv bs s m) (g : Good5 bs) (hm : m (Str.ofString "last") = some (.int (k : Int) t)) (hk : k < 5)
    (h : ∀ s' m', Inv10 w h₀ os₀ L xi dx le t1 t2 hB sv bv (pass bs k) s' m' → Ks (Wr10 L le) L s.heap s'.heap → Q .next s') :
    LW (model prog w) A R Y n s₀ c fs (exec inS (lawEnv L fa cd)) Q (fun _ _ => False) s := by
  rw [inS_eq]
  refine lw_For (in_iter X T hr0.1 I.st.F hm (by omega) ?_) (by intro _; rfl)
  intro h1 tk1 r ta tb tc F1 k1 hr
  obtain ⟨St, kn0, hsv, hbv⟩ := I
  have kn1 : Kn noW L s.heap h1 := fun b o hb _ _ e => k1 b o hb e
  refine loopL_range (s := { s with heap := h1, toks := tk1 }) (env := lawEnv L fa cd) (Wr := Wr10 L le) (a := 0) (k := k) (fun it K H gd lv p => (hr1 it K H gd lv p).1) (by rfl) (by rfl) F1 hr (by rw [Nat.zero_add]) (by omega) ?_
    (fun i s m => Inv10 w h₀ os₀ L xi dx le t1 t2 hB sv bv ((List.range i).foldl bub bs) s m) ?_ ?_ ?_
  · intro b hb
    obtain ⟨v0, o', ho', hd'⟩ := St.cell
    obtain ⟨es, ce, oe, hes⟩ := St.ends
    rcases hb with rfl | rfl
    · exact Heap.lt_size (ho'.kp k1).1
    · exact Heap.lt_size (oe.kp k1).1
  · intro h2 F2 k2
    have kn2 : Kn noW L s.heap h2 := fun b o hb _ _ e => k2 b o hb (k1 b o hb e)
    obtain ⟨_, hb, hos, hd, o1, o2, ⟨la, vs, cc, hr, hla, oa, hvs⟩, he, ⟨es, ce, oe, hes⟩, ⟨v0, o', ho', hd'⟩⟩ := St
    exact ⟨⟨F2, hb, hos, hd, o1.kn kn2 notIt_inst, o2.kn kn2 notIt_dict, ⟨la, vs, cc, hr, hla, oa.kn kn2 notIt_list, hvs⟩, he, ⟨es, ce, oe.kn kn2 notIt_list, hes⟩, ⟨v0, o', ho'.kn kn2 (notIt_cell hd'), hd'⟩⟩, fun b o q1 q2 q3 e => kn2 b o q1 id q3 (kn0 b o q1 q2 q3 e), hsv, hbv⟩
  · intro it K H gd lv p i s' m' t' h' tk' J hi F' kn
    obtain ⟨hr1a, hr1b, hr1c⟩ := hr1 it K H gd lv p
    have S' := J.st.move (tk := tk') kn F' (by decide) (by decide) (by decide)
    have gi : Good5 ((List.range i).foldl bub bs) := good_fold (fun j hj => by have := List.mem_range.mp hj; omega) g
    have e1 : (List.range (i + 1)).foldl bub bs = bub ((List.range i).foldl bub bs) i := by rw [List.range_succ, List.foldl_append]; rfl
    obtain ⟨_, kn', hsv', hbv'⟩ := J
    rw [e1]
    generalize (List.range i).foldl bub bs = bi at *
    obtain ⟨bp, x, y, q, rfl, rfl⟩ := cut bi (k := i) (by rw [gi.len]; omega)
    have hlen := gi.len
    simp only [List.length_append, List.length_cons] at hlen
    refine turn10 (t := t') X T hr1a hr1b hr1c S' (by rw [show ((bp.length : Nat) : Int) = ((0 + bp.length : Nat) : Int) by omega]; exact rfl) (by omega) (gi.pos x (by simp)) (gi.pos y (by simp)) gi.tot gi.txt ?_
    intro s3 m3 S3 ks3 e2 e3
    rw [bub_at]
    exact ⟨rfl, m3, S3.F, ks3.ks, S3, fun b o q1 q2 q3 e => ks3.ks b o q1 q2 (kn b o q1 id q3 (kn' b o q1 q2 q3 e)), e2.trans hsv', e3.trans hbv'⟩
  · intro s' m' h' J F' kn ks
    exact h _ m' ⟨J.st.move' kn F', fun b o q1 q2 q3 e => kn b o q1 id q3 (J.kn b o q1 q2 q3 e), J.sv, J.bv⟩ fun b o q1 q2 e => ks b o q1 q2 (k1 b o q1 e)
/-- the four passes -/
theorem out_loop {L xi dx le : Addr} {os₀ : OsState} {t1 t2 : Tok} {m : Str → Option Value} {bs : List (List Str)} {hB : Heap} {sv bv : Option Value} {Q : Flow → Shared → Prop} (X : (K w.params).In h₀) (T : TopRead p ls mg mb h₀) (hr0 : Room (A.over c fs))
    (hr1 : ∀ it K H gd lv p, Room (A.over (.forLoop (.Name (Str.ofString "last") (ftPos outS)) it [inS] [] (lawEnv L fa cd)) (waitF (lawEnv L fa cd) K H gd lv c p :: fs)))
    (hr2 : ∀ it K H gd lv p it' K' H' gd' lv' p', Room (A.over (.forLoop (.Name (Str.ofString "k") (ftPos inS)) it (forBody inS) [] (lawEnv L fa cd)) (waitF (lawEnv L fa cd) K H gd lv (.forLoop (.Name (Str.ofString "last") (ftPos outS)) it' [inS] [] (lawEnv L fa cd)) p :: waitF (lawEnv L fa cd) K' H' gd' lv' c p' :: fs)))
    (I : Inv10 w h₀ os₀ L xi dx le t1 t2 hB sv bv bs s m) (g : Good5 bs)
    (h : ∀ s' m', Inv10 w h₀ os₀ L xi dx le t1 t2 hB sv bv ([4, 3, 2, 1].foldl pass bs) s' m' → Q .next s') :
    LW (model prog w) A R Y n s₀ c fs (exec outS (lawEnv L fa cd)) Q (fun _ _ => False) s := by
  rw [outS_eq]
  refine lw_For (out_iter X T hr0.1 I.st.F ?_) (by intro _; rfl)
  intro h1 tk1 Z ta tb tc td nz F1 k1 frZ oZ
  obtain ⟨St, kn0, hsv, hbv⟩ := I
  have kn1 : Kn noW L s.heap h1 := fun b o hb _ _ e => k1 b o hb e
  refine loopL_list (s := { s with heap := h1, toks := tk1 }) (env := lawEnv L fa cd) (Wr := Wr10 L le) (l := Z) (items := #[.int 4 ta, .int 3 tb, .int 2 tc, .int 1 td]) (fun it K H gd lv p => (hr1 it K H gd lv p).1) (by rfl) (by rfl) F1 oZ.isL ?_ ?_
    (fun i s m => Inv10 w h₀ os₀ L xi dx le t1 t2 hB sv bv (([4, 3, 2, 1].take i).foldl pass bs) s m) ?_ ?_ ?_
  · obtain ⟨v0, o', ho', hd'⟩ := St.cell
    obtain ⟨es, ce, oe, hes⟩ := St.ends
    rintro (q | q)
    · exact frZ _ _ ho'.2.1 ho'.1 q.symm
    · exact frZ _ _ oe.2.1 oe.1 q.symm
  · intro b hb
    obtain ⟨v0, o', ho', hd'⟩ := St.cell
    obtain ⟨es, ce, oe, hes⟩ := St.ends
    rcases hb with rfl | rfl
    · exact Heap.lt_size (ho'.kp k1).1
    · exact Heap.lt_size (oe.kp k1).1
  · intro h2 F2 k2
    have kn2 : Kn noW L s.heap h2 := fun b o hb _ _ e => k2 b o hb (k1 b o hb e)
    obtain ⟨_, hb, hos, hd, o1, o2, ⟨la, vs, cc, hr, hla, oa, hvs⟩, he, ⟨es, ce, oe, hes⟩, ⟨v0, o', ho', hd'⟩⟩ := St
    exact ⟨⟨F2, hb, hos, hd, o1.kn kn2 notIt_inst, o2.kn kn2 notIt_dict, ⟨la, vs, cc, hr, hla, oa.kn kn2 notIt_list, hvs⟩, he, ⟨es, ce, oe.kn kn2 notIt_list, hes⟩, ⟨v0, o', ho'.kn kn2 (notIt_cell hd'), hd'⟩⟩, fun b o q1 q2 q3 e => kn2 b o q1 id q3 (kn0 b o q1 q2 q3 e), hsv, hbv⟩
  · intro it K H gd lv p i s' m' v h' tk' J hv F' kn
    obtain ⟨ln, tt, hi, hln, rfl, e2⟩ : ∃ (ln : Nat) (tt : Tok), i < 4 ∧ ln < 5 ∧ v = .int (ln : Int) tt ∧ ([4, 3, 2, 1].take (i + 1)).foldl pass bs = pass (([4, 3, 2, 1].take i).foldl pass bs) ln := by
      match i, hv with
      | 0, hv => exact ⟨4, ta, by omega, by omega, by simpa using hv.symm, rfl⟩
      | 1, hv => exact ⟨3, tb, by omega, by omega, by simpa using hv.symm, rfl⟩
      | 2, hv => exact ⟨2, tc, by omega, by omega, by simpa using hv.symm, rfl⟩
      | 3, hv => exact ⟨1, td, by omega, by omega, by simpa using hv.symm, rfl⟩
      | i + 4, hv => simp at hv
    have gi : Good5 (([4, 3, 2, 1].take i).foldl pass bs) := good_passes (fun j hj => by have := List.mem_of_mem_take hj; simp at this; omega) g
    rw [e2]
    refine lw_execs_cons (in_loop (t := tt) X T (hr1 it K H gd lv p) (fun it' K' H' gd' lv' p' => hr2 it' K' H' gd' lv' p' it K H gd lv p) ⟨J.st.move (tk := tk') kn F' (by decide) (by decide) (by decide), fun b o q1 q2 q3 e => kn b o q1 id q3 (J.kn b o q1 q2 q3 e), J.sv, J.bv⟩ gi (by exact rfl) hln ?_)
    intro s3 m3 I3 ks3
    exact lw_execs_nil ⟨rfl, m3, I3.st.F, ks3, I3⟩
  · intro s' m' h' J F' kn ks
    exact h _ m' ⟨J.st.move' kn F', fun b o q1 q2 q3 e => kn b o q1 id q3 (J.kn b o q1 q2 q3 e), J.sv, J.bv⟩
end
end Mine
end
section
open PySem PySem.W PyProof.Rows
set_option Elab.async false
set_option linter.unusedVariables false
set_option maxRecDepth 100000
set_option maxHeartbeats 4000000
namespace Mine
abbrev lawA (L fa : Addr) (cd : Value) : Around := callerA.deeper (lawEnv L fa cd)
theorem over_law {L fa : Addr} {cd : Value} {k g lv pp} : A0.over (lawC L fa cd) [.ret k none g lv cC pp []] = lawA L fa cd := by
  rw [over_under]
  rfl
section
variable {w : World} {h₀ : Heap} {p : Program} {ls : List Str} {mg mb : Str → Option Value} {s : Shared} {fa : Addr} {cd : Value}
theorem l4 {L : Addr} {m : Str → Option Value} {mean : ExcName → Option Value} {Q : Flow → Shared → Prop} (X : (K w.params).In h₀) (T : Top p ls mean mg mb h₀) (B : Below callerA h₀ [] h₀) (F : Fr h₀ L s.heap m)
    (h : ∀ h' tk xi dx t1 t2, Fr h₀ L h' (set1 m (Str.ofString "differ") (.ref xi)) → Kp L s.heap h' → Own h₀ L h' xi (instObj 313 dx) → Own h₀ L h' dx (dictOf (difEs w t1 t2) 2) → Q .next { s with heap := h', toks := tk }) :
    wpAny (model prog w) (lawA L fa cd) (exec (lS 4) (lawEnv L fa cd)) Q (fun _ _ => False) s := by
  obtain ⟨oth, N, hoth, hfr, -⟩ := led4 F
  have hrow : row = row := rfl
  revert hrow X
  k_fill
  intro _ X
  show wpAny _ _ (exec (Stmt.Assign _ _ _) _) _ _ _
  w_on
  try k_fold
  k_steps
  rename Fr _ L _ _ => F'
  rename News _ L _ _ => N'
  exact h _ _ _ _ _ _ F' (hoth F' N' (by intro q hq; repeat (first | exact hq | apply List.mem_cons_of_mem))) (Own.of N' (.head _)) (Own.of N' (.tail _ (.head _)))
end
end Mine
end
section
open PySem PySem.W PyProof.Rows
set_option Elab.async false
set_option linter.unusedVariables false
set_option maxRecDepth 100000
set_option maxHeartbeats 4000000
namespace Mine
abbrev bEnv (C : Addr) : Env := envOf (Str.ofString "_law_blocks") (fScope (st 10)) C 331 (.ref 330)
abbrev kS (i : Nat) : Stmt := nth (fBody (st 10)) i
theorem k_blocks (P : Params) : (K P).lookup 331 = some (o12x331 P) := by kernel_rfl
theorem c_blocks (P : Params) : codeIn (K P) (.ref 330) (Str.ofString "_law_blocks") = true := by kernel_rfl
theorem kBody_eq : fBody (st 10) = [kS 0, kS 1, kS 2, kS 3] := by kernel_rfl
def headsL : List Str := [Str.ofString "- ", Str.ofString "+ ", Str.ofString "  ", Str.ofString "? ", Str.ofString "", Str.ofString "\n"]
def headOf (x : Int) : Str := headsL.getD ((x.fdiv 5).fmod 6).toNat Str.empty
def figOf (x : Int) : Str := Str.ofString (toString ((x.fdiv 30).fmod 10))
/-- the row that a number lays -/
def rowOf (x : Int) : Str := headOf x ++ figOf x
theorem head_ok (x : Int) : (headOf x).length ≤ 2 ∧ PyData.strOk (headOf x) = true := by
  unfold headOf
  have h0 := Int.fmod_nonneg_of_pos (x.fdiv 5) (b := 6) (by decide)
  have h1 := Int.fmod_lt_of_pos (x.fdiv 5) (b := 6) (by decide)
  obtain e | e | e | e | e | e : (x.fdiv 5).fmod 6 = 0 ∨ (x.fdiv 5).fmod 6 = 1 ∨ (x.fdiv 5).fmod 6 = 2 ∨ (x.fdiv 5).fmod 6 = 3 ∨ (x.fdiv 5).fmod 6 = 4 ∨ (x.fdiv 5).fmod 6 = 5 := by omega
  all_goals rw [e]; decide +kernel
theorem fig_len (x : Int) : (figOf x).length ≤ 1 := by
  unfold figOf
  have h0 := Int.fmod_nonneg_of_pos (x.fdiv 30) (b := 10) (by decide)
  have h1 := Int.fmod_lt_of_pos (x.fdiv 30) (b := 10) (by decide)
  obtain e | e | e | e | e | e | e | e | e | e : (x.fdiv 30).fmod 10 = 0 ∨ (x.fdiv 30).fmod 10 = 1 ∨ (x.fdiv 30).fmod 10 = 2 ∨ (x.fdiv 30).fmod 10 = 3 ∨ (x.fdiv 30).fmod 10 = 4 ∨ (x.fdiv 30).fmod 10 = 5 ∨ (x.fdiv 30).fmod 10 = 6 ∨ (x.fdiv 30).fmod 10 = 7 ∨ (x.fdiv 30).fmod 10 = 8 ∨ (x.fdiv 30).fmod 10 = 9 := by omega
  all_goals rw [e]; decide +kernel
theorem row_ok (x : Int) : (rowOf x).length ≤ 3 ∧ PyData.strOk (rowOf x) = true := by
  unfold rowOf
  rw [len_app, ok_app, (head_ok x).2]
  refine ⟨by have := (head_ok x).1; have := fig_len x; omega, ?_⟩
  unfold figOf
  rw [ok_ofString]; rfl
section
variable {w : World} {A : Around} {h₀ : Heap} {p : Program} {ls : List Str} {mg mb : Str → Option Value} {s : Shared} {C : Addr}
theorem k0 {m : Str → Option Value} {Q : Flow → Shared → Prop} (X : (K w.params).In h₀) (T : TopRead p ls mg mb h₀) (hh : A.handled = none) (F : Fr h₀ C s.heap m)
    (h : ∀ h' tk D a0 a1 a2 a3 a4 v0 v1 v2 v3 v4, Fr h₀ C h' (set1 m (Str.ofString "blocks") (.ref D)) → Kp C s.heap h' → a0 < a1 → a1 < a2 → a2 < a3 → a3 < a4 → a4 < D → Own h₀ C h' D (listOf #[.ref a0, .ref a1, .ref a2, .ref a3, .ref a4] 0) →
      Own h₀ C h' a0 (listOf (List.toArray v0) 0) → Own h₀ C h' a1 (listOf (List.toArray v1) 0) → Own h₀ C h' a2 (listOf (List.toArray v2) 0) → Own h₀ C h' a3 (listOf (List.toArray v3) 0) → Own h₀ C h' a4 (listOf (List.toArray v4) 0) →
      StrsAre v0 [Str.ofString "0"] → StrsAre v1 [Str.ofString "- 1", Str.ofString "1"] → StrsAre v2 [Str.ofString "+ 2"] → StrsAre v3 [Str.ofString "3", Str.ofString "? 3"] → StrsAre v4 [Str.ofString "  4"] → Q .next { s with heap := h', toks := tk }) :
    wpAny (model prog w) A (exec (kS 0) (bEnv C)) Q (fun _ _ => False) s := by
  cases A; cases hh
  obtain ⟨oth, N, hoth, hfr, -⟩ := led4 F
  have X' := X
  have hrow : row = row := rfl
  revert hrow X
  k_fill
  intro _ X
  show wpAny _ _ (exec (Stmt.Assign _ _ _) _) _ _ _
  w_on
  try k_fold
  k_steps
  rename_i a0 _ l0 a1 _ l1 a2 _ l2 a3 _ l3 a4 _ l4 D _ l5 h' F' N'
  exact h h' _ D a0 a1 a2 a3 a4 _ _ _ _ _ F' (hoth F' N' (by intro q hq; repeat (first | exact hq | apply List.mem_cons_of_mem))) l1.1 l2.1 l3.1 l4.1 l5.1 (Own.of N' (.head _)) (Own.of N' (.tail _ (.tail _ (.tail _ (.tail _ (.tail _ (.head _))))))) (Own.of N' (.tail _ (.tail _ (.tail _ (.tail _ (.head _)))))) (Own.of N' (.tail _ (.tail _ (.tail _ (.head _))))) (Own.of N' (.tail _ (.tail _ (.head _)))) (Own.of N' (.tail _ (.head _)))
    (.cons _ _ .nil) (.cons _ _ (.cons _ _ .nil)) (.cons _ _ .nil) (.cons _ _ (.cons _ _ .nil)) (.cons _ _ .nil)
theorem k1 {m : Str → Option Value} {Q : Flow → Shared → Prop} (X : (K w.params).In h₀) (T : TopRead p ls mg mb h₀) (hh : A.handled = none) (F : Fr h₀ C s.heap m)
    (h : ∀ h' tk H hv, Fr h₀ C h' (set1 m (Str.ofString "heads") (.ref H)) → Kp C s.heap h' → Fresh C s.heap H → Own h₀ C h' H (listOf (List.toArray hv) 0) → StrsAre hv headsL → Q .next { s with heap := h', toks := tk }) :
    wpAny (model prog w) A (exec (kS 1) (bEnv C)) Q (fun _ _ => False) s := by
  cases A; cases hh
  obtain ⟨oth, N, hoth, hfr, -⟩ := led4 F
  have X' := X
  have hrow : row = row := rfl
  revert hrow X
  k_fill
  intro _ X
  show wpAny _ _ (exec (Stmt.Assign _ _ _) _) _ _ _
  w_on
  try k_fold
  k_steps
  rename_i H _ l0 h' F' N'
  have oH := Own.of N' (.head _)
  exact h h' _ H _ F' (hoth F' N' (by intro q hq; repeat (first | exact hq | apply List.mem_cons_of_mem))) (hfr oH.2.2 l0) oH (.cons _ _ (.cons _ _ (.cons _ _ (.cons _ _ (.cons _ _ (.cons _ _ .nil))))))
abbrev kT : Stmt := nth (forBody (kS 2)) 0
theorem k2turn {m : Str → Option Value} {x : Int} {tx : Tok} {D H B : Addr} {bl : List Addr} {hv vb : List Value} {d nh nb k : Nat} {Q : Flow → Shared → Prop} (X : (K w.params).In h₀) (T : TopRead p ls mg mb h₀) (hh : A.handled = none) (F : Fr h₀ C s.heap m)
    (hx : m (Str.ofString "x") = some (.int x tx)) (hd : m (Str.ofString "blocks") = some (.ref D)) (hhd : m (Str.ofString "heads") = some (.ref H)) (oD : Own h₀ C s.heap D (listOf (bl.map Value.ref).toArray d)) (oH : Own h₀ C s.heap H (listOf hv.toArray nh)) (hhv : StrsAre hv headsL)
    (hk : x.fmod 5 = (k : Int)) (hB : bl[k]? = some B) (hkb : k < 5) (oB : Own h₀ C s.heap B (listOf vb.toArray nb)) (hvb : vb.length ≤ 1000)
    (h : ∀ h' tk n' t, Fr h₀ C h' m → KpB C B s.heap h' → Own h₀ C h' B (listOf (vb ++ [Value.str (rowOf x) t]).toArray n') → Q .next { s with heap := h', toks := tk }) :
    wpAny (model prog w) A (exec kT (bEnv C)) Q (fun _ _ => False) s := by
  cases A; cases hh
  have KN := fun y => kn3 hx hd hhd y
  replace F := Fr.congr F (fun y => (KN y).symm)
  obtain ⟨oth, N, hoth, hfr, -⟩ := led4 F
  replace N := oD.news (oH.news (oB.news N))
  clear hx hd hhd
  have X' := X
  have hrow : row = row := rfl
  revert hrow X
  k_fill
  intro _ X
  show wpAny _ _ (exec (Stmt.Expr _ _) _) _ _ _
  w_on
  try k_fold
  k_steps
  refine item_own (us := bl.map Value.ref) (k := k) (x := .ref B) (isL N (.head _)) hk (by rw [List.getElem?_map, hB]; rfl) (by omega) ?_ (by with_unfolding_all rfl)
  k_steps
  rename Fr _ _ _ _ => F1
  rename News _ _ _ _ => N1
  have h0 := Int.fmod_nonneg_of_pos (x.fdiv 5) (b := 6) (by decide)
  have h1 := Int.fmod_lt_of_pos (x.fdiv 5) (b := 6) (by decide)
  refine KTb.item_list (isL N1 (.tail _ (.head _))) hhv h0 h1 (by omega) (fun t' _ => ?_)
  have hl1 := (head_ok x).1
  have hl2 := fig_len x
  unfold rowOf at h
  rw [show headsL.getD ((x.fdiv 5).fmod 6).toNat Str.empty = headOf x from rfl]
  generalize headOf x = hd at *
  k_steps
  rw [show Str.ofString (toString ((x.fdiv 30).fmod 10)) = figOf x from rfl]
  generalize figOf x = fg at *
  k_steps
  rename Fr _ _ _ _ => F2
  rename News _ _ _ _ => N2
  have kp := hoth F2 N2 (by intro q hq; repeat (first | exact hq | apply List.mem_cons_of_mem))
  have hm := N2 _ (.tail _ (.tail _ (.head _)))
  refine append_own (its := vb.toArray) hm.1 (fun h3 n3 hS3 sb => ?_) (by simp [PySem.sizeLine_eq]; omega)
  have F3 := F2.update N2 (.tail _ (.tail _ (.head _))) sb
  exact h h3 _ n3 _ (Fr.congr F3 KN) (fun b o hb1 hb2 e => (sb.2 b hb2).trans (kp b o hb1 e)) ⟨hS3.trans (congrArg (fun z => some (listOf z n3)) (List.push_toArray ..)), hm.2⟩
end
end Mine
end
section
open PySem PySem.W PyProof.Rows
set_option Elab.async false
set_option linter.unusedVariables false
set_option maxRecDepth 100000
set_option maxHeartbeats 4000000
namespace Mine
def firstBlocks : List (List Str) := [[Str.ofString "0"], [Str.ofString "- 1", Str.ofString "1"], [Str.ofString "+ 2"], [Str.ofString "3", Str.ofString "? 3"], [Str.ofString "  4"]]
/-- a block as the script lays it -/
def blk (ns : List Int) (k : Nat) : List Str := firstBlocks.getD k [] ++ (ns.filter fun x => x.fmod 5 == (k : Int)).map rowOf
def blocks0 (ns : List Int) : List (List Str) := (List.range 5).map (blk ns)
theorem blk_snoc (ns : List Int) (x : Int) (k : Nat) : blk (ns ++ [x]) k = blk ns k ++ (if x.fmod 5 = (k : Int) then [rowOf x] else []) := by
  unfold blk
  rw [List.filter_append, List.map_append, List.append_assoc]
  congr 2
  by_cases h : x.fmod 5 = (k : Int)
  · rw [if_pos h, List.filter_cons_of_pos (by simpa using h)]; rfl
  · rw [if_neg h, List.filter_cons_of_neg (by simpa using h)]; rfl
theorem first_le (k : Nat) : (firstBlocks.getD k []).length ≤ 2 := by
  match k with
  | 0 | 1 | 2 | 3 | 4 => decide
  | k + 5 => simp [firstBlocks]
theorem blk_le (ns : List Int) (k : Nat) : (blk ns k).length ≤ 2 + ns.length := by
  unfold blk
  rw [List.length_append, List.length_map]
  have := first_le k
  have := List.length_filter_le (fun x : Int => x.fmod 5 == (k : Int)) ns
  omega
/-- the five blocks stand there -/
def BlocksAt (h₀ : Heap) (C : Addr) (h : Heap) (bl : List Addr) (ns : List Int) : Prop := ∀ k B, bl[k]? = some B → ∃ vb nb, Own h₀ C h B (listOf (List.toArray vb) nb) ∧ StrsAre vb (blk ns k)
abbrev kIter : Expr := forIter (kS 2)
theorem k2_eq : kS 2 = .For (.Name (Str.ofString "x") (ftPos (kS 2))) (.Name (Str.ofString "script") (nposOf kIter)) [kT] [] (fPos (kS 2)) := by kernel_rfl
theorem k3_eq : ∃ p q, kS 3 = .Return (some (.Name (Str.ofString "blocks") p)) q := ⟨⟨789, 11, 789, 17⟩, ⟨789, 4, 789, 17⟩, by kernel_rfl⟩
section
variable {w : World} {A : Around} {h₀ : Heap} {p : Program} {ls : List Str} {mg mb : Str → Option Value} {s : Shared} {C : Addr}
theorem k2loop {m : Str → Option Value} {l D H : Addr} {bl : List Addr} {vs hv : List Value} {ns : List Int} {d nh : Nat} {Q : Flow → Shared → Prop} (X : (K w.params).In h₀) (T : TopRead p ls mg mb h₀) (hh : A.handled = none) (F : Fr h₀ C s.heap m)
    (hs : m (Str.ofString "script") = some (.ref l)) (hd : m (Str.ofString "blocks") = some (.ref D)) (hhd : m (Str.ofString "heads") = some (.ref H)) (hl : h₀.IsList l vs.toArray) (hI : IntsAre vs ns) (hlen : ns.length ≤ 63) (oD : Own h₀ C s.heap D (listOf (bl.map Value.ref).toArray d)) (oH : Own h₀ C s.heap H (listOf hv.toArray nh)) (hhv : StrsAre hv headsL)
    (h5 : bl.length = 5) (hnd : bl.Nodup) (hDb : D ∉ bl) (hHb : H ∉ bl) (B0 : BlocksAt h₀ C s.heap bl [])
    (h : ∀ h' tk m', Fr h₀ C h' m' → m' (Str.ofString "blocks") = some (.ref D) → Own h₀ C h' D (listOf (bl.map Value.ref).toArray d) → BlocksAt h₀ C h' bl ns → Q .next { s with heap := h', toks := tk }) :
    wpAny (model prog w) A (exec (kS 2) (bEnv C)) Q (fun _ _ => False) s := by
  rw [k2_eq]
  refine wpAny_For (ld F hs ?_) (by intro _; rfl)
  have hl' : s.heap.IsList l vs.toArray := let ⟨o, ho, r⟩ := hl; ⟨o, F.keep _ _ ho, r⟩
  have hlb : l ∉ bl := fun hm => by
    obtain ⟨k, hk, e⟩ := List.getElem_of_mem hm
    obtain ⟨vb, nb, ob, _⟩ := B0 k l (by rw [List.getElem?_eq_getElem hk, e])
    obtain ⟨o, ho, _⟩ := hl
    rw [ob.2.2] at ho; cases ho
  refine for_list (s := s) (env := bEnv C) (h₀ := h₀) (Wr := fun b => b ∈ bl) hh (Tgt.name (by rfl) (by rfl)) F hl' hlb (fun b hb => ?_) (fun _ q => q.elim)
    (fun i s' m' => (∃ h tk, s' = { s with heap := h, toks := tk }) ∧ (∀ y, y ≠ Str.ofString "x" → m' y = m y) ∧ Own h₀ C s'.heap D (listOf (bl.map Value.ref).toArray d) ∧ Own h₀ C s'.heap H (listOf hv.toArray nh) ∧ BlocksAt h₀ C s'.heap bl (ns.take i)) ?_ (fun _ _ _ _ _ _ _ _ => trivial) ?_ ?_
  · obtain ⟨k, hk, e⟩ := List.getElem_of_mem hb
    obtain ⟨vb, nb, ob, _⟩ := B0 k b (by rw [List.getElem?_eq_getElem hk, e])
    exact Heap.lt_size ob.1
  · intro h' F' k'
    exact ⟨⟨_, _, rfl⟩, fun _ _ => rfl, oD.kp k', oH.kp k', fun k B hB => let ⟨vb, nb, ob, sb⟩ := B0 k B hB; ⟨vb, nb, ob.kp k', sb⟩⟩
  · rintro i s' m' v h' tk m1 ⟨⟨h3, tk3, rfl⟩, hm3, oD3, oH3, B3⟩ hv' F3 kn rfl
    obtain ⟨t, rfl, hi⟩ := intsAre_get hI (by simpa using hv')
    have kn' : Kn noW C h3 h' := kn
    have tk1 : ns.take (i + 1) = ns.take i ++ [ns.getD i 0] := by
      rw [List.take_add_one, List.getElem?_eq_getElem hi]
      simp [List.getD, List.getElem?_eq_getElem hi]
    generalize hx : ns.getD i 0 = x at *
    have gl : ∀ z y, y ≠ Str.ofString "x" → m y = some z → set1 m' (Str.ofString "x") (.int x t) y = some z := fun z y e1 e => lk ((hm3 y e1).trans e) e1
    have h0 := Int.fmod_nonneg_of_pos x (b := 5) (by decide)
    have h1 := Int.fmod_lt_of_pos x (b := 5) (by decide)
    obtain ⟨k, hk⟩ := Int.eq_ofNat_of_zero_le h0
    have hk5 : k < 5 := by omega
    have hB : bl[k]? = some bl[k] := List.getElem?_eq_getElem (by omega)
    generalize hBk : bl[k] = B at hB
    obtain ⟨vb, nb, ob, sb⟩ := B3 k B hB
    have hvl : vb.length ≤ 1000 := by
      rw [sb.length]
      have := blk_le (ns.take i) k
      rw [List.length_take] at this; omega
    refine wpAny_execs_cons (k2turn (s := { s with heap := h', toks := tk }) X T hh F3 lk0 (gl _ _ (by decide) hd) (gl _ _ (by decide) hhd) (oD3.kn kn' notIt_list) (oH3.kn kn' notIt_list) hhv hk hB hk5 (ob.kn kn' notIt_list) hvl ?_)
    intro h4 tk4 n4 t4 F4 k4 o4
    have hBm : B ∈ bl := List.mem_of_getElem? hB
    refine wpAny_execs_nil ⟨.inl rfl, _, F4, k4.ks (Wr := fun b => b ∈ bl) hBm, ⟨_, _, rfl⟩, fun y hy => (if_neg hy).trans (hm3 y hy), ?_, ?_, ?_⟩
    · exact ⟨k4 _ _ oD3.2.1 (fun q => hDb (q ▸ hBm)) (oD3.kn kn' notIt_list).1, oD3.2⟩
    · exact ⟨k4 _ _ oH3.2.1 (fun q => hHb (q ▸ hBm)) (oH3.kn kn' notIt_list).1, oH3.2⟩
    · intro j Bj hBj
      rw [tk1, blk_snoc]
      by_cases e : j = k
      · subst e
        rw [hB] at hBj; cases hBj
        rw [if_pos hk]
        exact ⟨_, n4, o4, strsAre_append sb (.cons _ _ .nil)⟩
      · rw [if_neg (fun q => e (by omega)), List.append_nil]
        obtain ⟨vj, nj, oj, sj⟩ := B3 j Bj hBj
        have hne : Bj ≠ B := fun q => by
          subst q
          have hj : j < bl.length := by
            rcases Nat.lt_or_ge j bl.length with h | h
            · exact h
            · rw [List.getElem?_eq_none h] at hBj; cases hBj
          exact e ((List.getElem?_inj hj hnd).mp (hBj.trans hB.symm))
        exact ⟨vj, nj, ⟨k4 _ _ oj.2.1 hne (oj.kn kn' notIt_list).1, oj.2⟩, sj⟩
  · rintro s' m' h' ⟨⟨h3, tk3, rfl⟩, hm3, oD3, oH3, B3⟩ F' kn ks
    rw [List.size_toArray, hI.length, List.take_length] at B3
    refine h h' tk3 m' F' ((hm3 _ (by decide)).trans hd) (oD3.kn kn notIt_list) fun k B hB => ?_
    obtain ⟨vb, nb, ob, sb⟩ := B3 k B hB
    exact ⟨vb, nb, ob.kn kn notIt_list, sb⟩
end
end Mine
end
section
open PySem PySem.W PyProof.Rows
set_option Elab.async false
set_option linter.unusedVariables false
set_option maxRecDepth 100000
set_option maxHeartbeats 4000000
namespace Mine
/-- what _law_blocks has made -/
structure BlkDone (hb : Heap) (C : Addr) (h' : Heap) (D : Addr) (ns : List Int) : Prop where
  keep : ∀ b o, hb.get? b = some o → h'.get? b = some o
  made : ∃ bl d, bl.length = 5 ∧ bl.Nodup ∧ D ∉ bl ∧ Own hb C h' D (listOf (bl.map Value.ref).toArray d) ∧ BlocksAt hb C h' bl ns
def BlkPost (hb : Heap) (C : Addr) (s : Shared) (ns : List Int) (f : Flow) (s' : Shared) : Prop := ∃ h' tk D, f = .ret (.ref D) ∧ s' = { s with heap := h', toks := tk } ∧ BlkDone hb C h' D ns
theorem five_nodup {a0 a1 a2 a3 a4 D : Nat} (l0 : a0 < a1) (l1 : a1 < a2) (l2 : a2 < a3) (l3 : a3 < a4) (l4 : a4 < D) : [a0, a1, a2, a3, a4].Nodup ∧ D ∉ [a0, a1, a2, a3, a4] := by
  simp only [List.nodup_cons, List.mem_cons, List.not_mem_nil, or_false, not_or, List.nodup_nil, not_false_eq_true, and_true]
  omega
section
variable {w : World} {A : Around} {hb : Heap} {p : Program} {ls : List Str} {mg mb : Str → Option Value} {s : Shared} {C : Addr}
theorem kRet {m : Str → Option Value} {D : Addr} {Q : Flow → Shared → Prop} (T : TopRead p ls mg mb hb) (F : Fr hb C s.heap m) (hd : m (Str.ofString "blocks") = some (.ref D)) (h : Q (.ret (.ref D)) s) :
    wpAny (model prog w) A (exec (kS 3) (bEnv C)) Q (fun _ _ => False) s := by
  obtain ⟨p, q, e⟩ := k3_eq
  rw [e]
  exact wpAny_Return_some (ld F hd h)
theorem blocks_run {m : Str → Option Value} {l : Addr} {vs : List Value} {ns : List Int} (X : (K w.params).In hb) (T : TopRead p ls mg mb hb) (hh : A.handled = none) (F : Fr hb C s.heap m)
    (hs : m (Str.ofString "script") = some (.ref l)) (hl : hb.IsList l vs.toArray) (hI : IntsAre vs ns) (hlen : ns.length ≤ 63) :
    wpAny (model prog w) A (execs (fBody (st 10)) (bEnv C)) (BlkPost hb C s ns) (fun _ _ => False) s := by
  rw [kBody_eq]
  refine wpAny_execs_cons ?_
  refine @k0 w A hb p ls mg mb s C m _ X T hh F ?_
  intro h1 tk1 D a0 a1 a2 a3 a4 v0 v1 v2 v3 v4 F1 kp1 l0 l1 l2 l3 l4 oD o0 o1 o2 o3 o4 s0 s1 s2 s3 s4
  refine wpAny_execs_cons ?_
  refine @k1 w A hb p ls mg mb { s with heap := h1, toks := tk1 } C _ _ X T hh F1 ?_
  intro h2 tk2 H hv F2 kp2 fH oH sH
  have hnd : [a0, a1, a2, a3, a4].Nodup := (five_nodup l0 l1 l2 l3 l4).1
  have hDb : D ∉ [a0, a1, a2, a3, a4] := (five_nodup l0 l1 l2 l3 l4).2
  have hHb : H ∉ [a0, a1, a2, a3, a4] := by
    intro hm
    have : ∀ b o, Own hb C h1 b o → H ≠ b := fun b o ob e => by
      exact fH b o ob.2.1 ob.1 e.symm
    simp only [List.mem_cons, List.not_mem_nil, or_false] at hm
    rcases hm with e | e | e | e | e
    · exact this _ _ o0 e
    · exact this _ _ o1 e
    · exact this _ _ o2 e
    · exact this _ _ o3 e
    · exact this _ _ o4 e
  have B0 : BlocksAt hb C h2 [a0, a1, a2, a3, a4] [] := by
    intro k B hB
    match k, hB with
    | 0, hB => cases hB; exact ⟨_, _, o0.kp kp2, s0⟩
    | 1, hB => cases hB; exact ⟨_, _, o1.kp kp2, s1⟩
    | 2, hB => cases hB; exact ⟨_, _, o2.kp kp2, s2⟩
    | 3, hB => cases hB; exact ⟨_, _, o3.kp kp2, s3⟩
    | 4, hB => cases hB; exact ⟨_, _, o4.kp kp2, s4⟩
    | k + 5, hB => simp at hB
  refine wpAny_execs_cons ?_
  refine @k2loop w A hb p ls mg mb { s with heap := h2, toks := tk2 } C _ l D H [a0, a1, a2, a3, a4] vs hv ns _ _ _ X T hh F2 (lk (lk hs (by decide)) (by decide)) (lk lk0 (by decide)) lk0 hl hI hlen (oD.kp kp2) oH sH rfl hnd hDb hHb B0 ?_
  intro h3 tk3 m3 F3 hd3 oD3 B3
  refine wpAny_execs_cons ?_
  refine @kRet w A hb p ls mg mb { s with heap := h3, toks := tk3 } C _ D _ T F3 hd3 ?_
  exact ⟨h3, tk3, D, rfl, rfl, F3.keep, [a0, a1, a2, a3, a4], _, rfl, hnd, hDb, oD3, B3⟩
end
end Mine
end
section
open PySem PySem.W PyProof.Rows
set_option Elab.async false
set_option linter.unusedVariables false
set_option maxRecDepth 100000
set_option maxHeartbeats 400000
namespace Mine
abbrev bBinds (v1 : Value) : List (Str × Value) := [(Str.ofString "script", v1)]
theorem b_kinds (v1 : Value) (n : Nat) : ∀ x ∈ bBinds v1, (fScope (st 10)).names.lookup x.1 = some .local ∨ ((fScope (st 10)).names.lookup x.1 = some .cell ∧ ((cellsFrom n (fScope (st 10)).names []).lookup x.1).isSome = true) := by
  intro y hy
  simp only [bBinds, List.mem_cons, List.not_mem_nil, or_false] at hy
  subst hy
  exact .inl rfl
theorem func_ret {w : World} {A : Around} {s : Shared} {body : List Stmt} {env : Env} {R : Result → Shared → Prop} {P : Flow → Shared → Prop} (h : wpAny (model prog w) (A.deeper env) (execs body env) P (fun _ _ => False) s)
    (hP : ∀ f s', P f s' → R (.ok (.ret (match f with | .ret v => v | _ => .none))) s') : codeAny (model prog w) A (.func body env) R s :=
  codeAny_func (wpAny_mono h (fun f s' hf => hP f s' hf) (fun _ _ q => q.elim))
section
variable {w : World} {A : Around} {hb : Heap} {s : Shared} {mg mb : Str → Option Value} {p : Program} {ls : List Str} {E : Value → Shared → Prop}
theorem blocks_code {C : Addr} {m : Str → Option Value} {l : Addr} {vs : List Value} {ns : List Int} {R : Result → Shared → Prop} (X : (K w.params).In hb) (T : TopRead p ls mg mb hb) (hh : A.handled = none) (F : Fr hb C s.heap m)
    (hs : m (Str.ofString "script") = some (.ref l)) (hl : hb.IsList l vs.toArray) (hI : IntsAre vs ns) (hlen : ns.length ≤ 63)
    (h : ∀ h' tk D, BlkDone hb C h' D ns → R (.ok (.ret (.ref D))) { s with heap := h', toks := tk }) : codeAny (model prog w) A (.func (fBody (st 10)) (bEnv C)) R s := by
  refine @func_ret w A s (fBody (st 10)) (bEnv C) R (BlkPost hb C s ns) (@blocks_run w (A.deeper (bEnv C)) hb p ls mg mb s C m l vs ns X T hh F hs hl hI hlen) ?_
  rintro f s' ⟨h', tk', D, rfl, rfl, k⟩
  exact h h' tk' D k
theorem blocks_call {l : Addr} {vs : List Value} {ns : List Int} {Q : Value → Shared → Prop} (X : (K w.params).In hb) (T : TopRead p ls mg mb hb) (kb : ∀ b o, hb.get? b = some o → s.heap.get? b = some o)
    (hh : A.handled = none) (hd : A.depth + 12 < recursionLimit) (hl : s.heap.IsList l vs.toArray) (hI : IntsAre vs ns) (hlen : ns.length ≤ 63)
    (h : ∀ h' tk D, BlkDone s.heap s.heap.objs.size h' D ns → Q (.ref D) { s with heap := h', toks := tk }) :
    wpAny (model prog w) A (call (.ref 331) [.ref l]) Q E s := by
  have Xs := X.keeps kb
  have Ts := T.keeps kb
  refine wpAny_call ?_
  refine codeAny_call_function (body := fBody (st 10)) (Nat.lt_of_le_of_lt (Nat.le_add_right _ _) hd) (Xs _ _ (k_blocks _)) rfl (by rfl) (by rfl) rfl (codeRec_of Xs (c_blocks _)) ?_
  refine BindsTo.of_eq (binds := bBinds (.ref l)) (by kernel_rfl) _ _ _ _ ?_
  refine wpAny_newFunctionEnv_cells (by rfl) (b_kinds _ _) fun env' he s' x => ?_
  subst he
  have hn := Ts.nolimit.keeps x.toInCall.keep
  obtain ⟨h₁, tk, rfl, _⟩ := x.done
  have F : Fr s.heap s.heap.objs.size h₁ _ := ⟨x.toInCall.ns, x.toInCall.keep, Nat.le_refl _⟩
  exact ⟨hn, @blocks_code w A s.heap { s with heap := h₁, toks := tk } mg mb p ls s.heap.objs.size _ l vs ns _ Xs Ts hh F rfl hl hI hlen h⟩
end
end Mine
end
section
open PySem PySem.W PyProof.Rows
set_option Elab.async false
set_option linter.unusedVariables false
set_option maxRecDepth 100000
set_option maxHeartbeats 4000000
namespace Mine
local macro_rules | `(tactic| walk_at "call ref") => `(tactic| refine halt_ ?_)
theorem Fr.all {h₀ h h' : Heap} {L : Addr} {m : Str → Option Value} (F : Fr h₀ L h m) (up : ∀ b o, h.get? b = some o → h'.get? b = some o) : Fr h₀ L h' m :=
  ⟨F.ns.at' fun o e => up _ o e, fun b o e => up b o (F.keep b o e), F.above⟩
section
variable {w : World} {A : Around} {h₀ : Heap} {p : Program} {ls : List Str} {mg mb : Str → Option Value} {s : Shared} {fa : Addr} {cd : Value}
theorem l0 {L l : Addr} {m : Str → Option Value} {vs : List Value} {ns : List Int} {Q : Flow → Shared → Prop} (X : (K w.params).In h₀) (T : TopRead p ls mg mb h₀) (hh : A.handled = none) (hd : A.depth + 12 < recursionLimit) (F : Fr h₀ L s.heap m)
    (hs : m (Str.ofString "script") = some (.ref l)) (hl : h₀.IsList l vs.toArray) (hI : IntsAre vs ns) (hlen : ns.length ≤ 63)
    (h : ∀ h' h'' tk D, Fr h₀ L h'' (set1 m (Str.ofString "blocks") (.ref D)) → BlkDone s.heap s.heap.objs.size h' D ns → Kp L h' h'' → Q .next { s with heap := h'', toks := tk }) :
    wpAny (model prog w) A (exec (lS 0) (lawEnv L fa cd)) Q (fun _ _ => False) s := by
  cases A; cases hh
  have KN := fun y => kn1 hs y
  replace F := Fr.congr F (fun y => (KN y).symm)
  obtain ⟨oth, N, hoth, hfr, -⟩ := led4 F
  clear hs
  have X' := X
  have hl' : s.heap.IsList l vs.toArray := let ⟨o, ho, r⟩ := hl; ⟨o, F.keep _ _ ho, r⟩
  have hrow : row = row := rfl
  revert hrow X
  k_fill
  intro _ X
  show wpAny _ _ (exec (Stmt.Assign _ _ _) _) _ _ _
  w_on
  try k_fold
  k_steps
  clear X hl
  refine @blocks_call w _ h₀ s mg mb p ls _ l vs ns _ X' T F.keep rfl hd hl' hI hlen ?_
  intro h1 tk1 D bd
  have F1 := Fr.all F bd.keep
  refine wpAny_storeName_local (by rfl) F1.ns (fun h2 hns2 hs2 => ?_) (by rfl)
  exact h h1 h2 _ D (Fr.congr (F1.set hns2 hs2) (st1 KN)) bd fun b o hb e => (hs2.2 b hb).trans e
theorem l1 {L : Addr} {m : Str → Option Value} {Q : Flow → Shared → Prop} (X : (K w.params).In h₀) (T : TopRead p ls mg mb h₀) (hh : A.handled = none) (F : Fr h₀ L s.heap m)
    (h : ∀ h' tk D, Fr h₀ L h' (set1 m (Str.ofString "rows") (.ref D)) → Kp L s.heap h' → Fresh L s.heap D → Own h₀ L h' D (listOf #[] 0) → Q .next { s with heap := h', toks := tk }) :
    wpAny (model prog w) A (exec (lS 1) (lawEnv L fa cd)) Q (fun _ _ => False) s := by
  cases A; cases hh
  obtain ⟨oth, N, hoth, hfr, -⟩ := led4 F
  have hrow : row = row := rfl
  revert hrow X
  k_fill
  intro _ X
  show wpAny _ _ (exec (Stmt.Assign _ _ _) _) _ _ _
  w_on
  try k_fold
  k_steps
  rename_i lt h' F' N'
  have o := Own.of N' (.head _)
  exact h _ _ _ F' (hoth F' N' (by intro q hq; repeat (first | exact hq | apply List.mem_cons_of_mem))) (hfr o.2.2 lt) o
theorem l6 {L : Addr} {m : Str → Option Value} {Q : Flow → Shared → Prop} (X : (K w.params).In h₀) (T : TopRead p ls mg mb h₀) (hh : A.handled = none) (F : Fr h₀ L s.heap m)
    (h : ∀ h' tk D, Fr h₀ L h' (set1 m (Str.ofString "due") (.ref D)) → Kp L s.heap h' → Fresh L s.heap D → Own h₀ L h' D (listOf #[] 0) → Q .next { s with heap := h', toks := tk }) :
    wpAny (model prog w) A (exec (lS 6) (lawEnv L fa cd)) Q (fun _ _ => False) s := by
  cases A; cases hh
  obtain ⟨oth, N, hoth, hfr, -⟩ := led4 F
  have hrow : row = row := rfl
  revert hrow X
  k_fill
  intro _ X
  show wpAny _ _ (exec (Stmt.Assign _ _ _) _) _ _ _
  w_on
  try k_fold
  k_steps
  rename_i lt h' F' N'
  have o := Own.of N' (.head _)
  exact h _ _ _ F' (hoth F' N' (by intro q hq; repeat (first | exact hq | apply List.mem_cons_of_mem))) (hfr o.2.2 lt) o
theorem l2 {L : Addr} {m : Str → Option Value} {Q : Flow → Shared → Prop} (X : (K w.params).In h₀) (T : TopRead p ls mg mb h₀) (hh : A.handled = none) (F : Fr h₀ L s.heap m)
    (h : ∀ h' tk D t, Fr h₀ L h' (set1 m (Str.ofString "ends") (.ref D)) → Kp L s.heap h' → Fresh L s.heap D → Own h₀ L h' D (listOf #[.int 0 t] 0) → Q .next { s with heap := h', toks := tk }) :
    wpAny (model prog w) A (exec (lS 2) (lawEnv L fa cd)) Q (fun _ _ => False) s := by
  cases A; cases hh
  obtain ⟨oth, N, hoth, hfr, -⟩ := led4 F
  have hrow : row = row := rfl
  revert hrow X
  k_fill
  intro _ X
  show wpAny _ _ (exec (Stmt.Assign _ _ _) _) _ _ _
  w_on
  try k_fold
  k_steps
  rename_i lt h' F' N'
  have o := Own.of N' (.head _)
  exact h _ _ _ _ F' (hoth F' N' (by intro q hq; repeat (first | exact hq | apply List.mem_cons_of_mem))) (hfr o.2.2 lt) o
end
end Mine
end
section
open PySem PySem.W PyProof.Rows
set_option Elab.async false
set_option linter.unusedVariables false
set_option maxRecDepth 100000
set_option maxHeartbeats 4000000
namespace Mine
abbrev aT (i : Nat) : Stmt := nth (forBody (lS 3)) i
abbrev dueIn : Stmt := nth (forBody (lS 7)) 0
abbrev dueIf : Stmt := nth (forBody dueIn) 0
local macro_rules | `(tactic| walk_at "binaryOp Add ref ref") => `(tactic| refine halt_ ?_)
local macro_rules | `(tactic| walk_at "compareOp Eq ref ref") => `(tactic| refine halt_ ?_)
section
variable {w : World} {A : Around} {h₀ : Heap} {p : Program} {ls : List Str} {mg mb : Str → Option Value} {s : Shared} {fa : Addr} {cd : Value}
theorem a0 {L la lb : Addr} {m : Str → Option Value} {vs bv : List Value} {c d : Nat} {Q : Flow → Shared → Prop} (X : (K w.params).In h₀) (T : TopRead p ls mg mb h₀) (hh : A.handled = none) (F : Fr h₀ L s.heap m)
    (h1 : m (Str.ofString "rows") = some (.ref la)) (h2 : m (Str.ofString "block") = some (.ref lb)) (oa : Own h₀ L s.heap la (listOf vs.toArray c)) (ob : Own h₀ L s.heap lb (listOf bv.toArray d)) (hv : vs.length ≤ 1000) (hbv : bv.length ≤ 1000)
    (h : ∀ R h' tk n, Fr h₀ L h' (set1 m (Str.ofString "rows") (.ref R)) → Kp L s.heap h' → Fresh L s.heap R → Own h₀ L h' R (listOf (vs ++ bv).toArray n) → Q .next { s with heap := h', toks := tk }) :
    wpAny (model prog w) A (exec (aT 0) (lawEnv L fa cd)) Q (fun _ _ => False) s := by
  cases A; cases hh
  have KN := fun y => kn2 h1 h2 y
  replace F := Fr.congr F (fun y => (KN y).symm)
  obtain ⟨oth, N, hoth, hfr, -⟩ := led4 F
  replace N := oa.news (ob.news N)
  clear h1 h2
  have X' := X
  have hrow : row = row := rfl
  revert hrow X
  k_fill
  intro _ X
  show wpAny _ _ (exec (Stmt.Assign _ _ _) _) _ _ _
  w_on
  try k_fold
  k_steps
  rename Fr _ _ _ _ => F1
  rename News _ _ _ _ => N1
  refine add_lists (vs := vs) (ws := bv) F1 N1 (isL N1 (.head _)) (isL N1 (.tail _ (.head _))) ?_ (hsz := by rw [PySem.sizeLine_eq]; omega)
  intro h1 F4 N4
  clear F1 N1
  k_steps
  rename Fr _ _ _ _ => F7
  rename News _ _ _ _ => N7
  have o7 := Own.of N7 (.head _)
  exact h _ _ _ _ (Fr.congr F7 (st1 KN)) (hoth F7 N7 (by intro q hq; repeat (first | exact hq | apply List.mem_cons_of_mem))) (fun b o hb e => Nat.ne_of_lt (Heap.lt_size e)) o7
theorem a1 {L la le : Addr} {m : Str → Option Value} {vs es : List Value} {c d : Nat} {Q : Flow → Shared → Prop} (X : (K w.params).In h₀) (T : TopRead p ls mg mb h₀) (hh : A.handled = none) (F : Fr h₀ L s.heap m)
    (h1 : m (Str.ofString "rows") = some (.ref la)) (h2 : m (Str.ofString "ends") = some (.ref le)) (oa : Own h₀ L s.heap la (listOf vs.toArray c)) (oe : Own h₀ L s.heap le (listOf es.toArray d)) (hv : vs.length ≤ 1000) (hbv : es.length ≤ 1000)
    (h : ∀ h' tk n t, Fr h₀ L h' m → KpB L le s.heap h' → Own h₀ L h' le (listOf (es ++ [Value.int (vs.length : Int) t]).toArray n) → Q .next { s with heap := h', toks := tk }) :
    wpAny (model prog w) A (exec (aT 1) (lawEnv L fa cd)) Q (fun _ _ => False) s := by
  cases A; cases hh
  have KN := fun y => kn2 h1 h2 y
  replace F := Fr.congr F (fun y => (KN y).symm)
  obtain ⟨oth, N, hoth, hfr, -⟩ := led4 F
  replace N := oa.news (oe.news N)
  clear h1 h2
  have X' := X
  have hrow : row = row := rfl
  revert hrow X
  k_fill
  intro _ X
  show wpAny _ _ (exec (Stmt.Expr _ _) _) _ _ _
  w_on
  try k_fold
  k_steps
  refine len_list (isL N (.head _)) (by simp; omega) ?_
  rw [List.size_toArray]
  k_steps
  rename Fr _ _ _ _ => F2
  rename News _ _ _ _ => N2
  have kp := hoth F2 N2 (by intro q hq; repeat (first | exact hq | apply List.mem_cons_of_mem))
  have hm := N2 _ (.tail _ (.head _))
  refine append_own (its := es.toArray) hm.1 (fun h3 n3 hS3 sb => ?_) (by simp [PySem.sizeLine_eq]; omega)
  have F3 := F2.update N2 (.tail _ (.head _)) sb
  exact h h3 _ n3 _ (Fr.congr F3 KN) (fun b o hb1 hb2 e => (sb.2 b hb2).trans (kp b o hb1 e)) ⟨hS3.trans (congrArg (fun z => some (listOf z n3)) (List.push_toArray ..)), hm.2⟩
end
end Mine
end
section
open PySem PySem.W PyProof.Rows
set_option Elab.async false
set_option linter.unusedVariables false
set_option maxRecDepth 100000
set_option maxHeartbeats 4000000
namespace Mine
local macro_rules | `(tactic| walk_at "binaryOp Add ref ref") => `(tactic| refine halt_ ?_)
local macro_rules | `(tactic| walk_at "compareOp Eq ref ref") => `(tactic| refine halt_ ?_)
section
variable {w : World} {A : Around} {h₀ : Heap} {p : Program} {ls : List Str} {mg mb : Str → Option Value} {s : Shared} {fa : Addr} {cd : Value}
theorem due_if {L la lb : Addr} {m : Str → Option Value} {vs bv : List Value} {n c d : Nat} {t : Tok} {Q : Flow → Shared → Prop} (X : (K w.params).In h₀) (T : TopRead p ls mg mb h₀) (hh : A.handled = none) (F : Fr h₀ L s.heap m)
    (h1 : m (Str.ofString "due") = some (.ref la)) (h2 : m (Str.ofString "block") = some (.ref lb)) (h3 : m (Str.ofString "size") = some (.int (n : Int) t)) (oa : Own h₀ L s.heap la (listOf vs.toArray c)) (ob : Own h₀ L s.heap lb (listOf bv.toArray d)) (hv : vs.length ≤ 100000) (hbv : bv.length ≤ 1000) (hn : n ≤ 1000)
    (hE : bv.length = n → ∀ R h' tk n, Fr h₀ L h' (set1 m (Str.ofString "due") (.ref R)) → Kp L s.heap h' → Own h₀ L h' R (listOf (vs ++ bv).toArray n) → Q .next { s with heap := h', toks := tk })
    (hN : bv.length ≠ n → ∀ h' tk, Fr h₀ L h' m → Kp L s.heap h' → Q .next { s with heap := h', toks := tk }) :
    wpAny (model prog w) A (exec dueIf (lawEnv L fa cd)) Q (fun _ _ => False) s := by
  cases A; cases hh
  have KN := fun y => kn3 h1 h2 h3 y
  replace F := Fr.congr F (fun y => (KN y).symm)
  obtain ⟨oth, N, hoth, hfr, -⟩ := led4 F
  replace N := oa.news (ob.news N)
  clear h1 h2 h3
  have X' := X
  have hrow : row = row := rfl
  revert hrow X
  k_fill
  intro _ X
  show wpAny _ _ (exec (Stmt.If _ _ _ _) _) _ _ _
  w_on
  try k_fold
  k_steps
  refine len_list (isL N (.tail _ (.head _))) (by simp; omega) ?_
  rw [List.size_toArray]
  k_steps
  · rename Fr _ _ _ _ => F1
    rename News _ _ _ _ => N1
    rename ((_ : Nat) : Int) = _ => he
    have he' : bv.length = n := by omega
    refine add_lists (vs := vs) (ws := bv) F1 N1 (isL N1 (.head _)) (isL N1 (.tail _ (.head _))) ?_ (hsz := by rw [PySem.sizeLine_eq]; omega)
    intro h1 F4 N4
    clear F1 N1
    k_steps
    rename Fr _ _ _ _ => F7
    rename News _ _ _ _ => N7
    have o7 := Own.of N7 (.head _)
    exact hE he' _ _ _ _ (Fr.congr F7 (st1 KN)) (hoth F7 N7 (by intro q hq; repeat (first | exact hq | apply List.mem_cons_of_mem))) o7
  · rename Fr _ _ _ _ => F1
    rename News _ _ _ _ => N1
    rename ((_ : Nat) : Int) ≠ _ => he
    have he' : bv.length ≠ n := by omega
    exact hN he' _ _ (Fr.congr F1 KN) (hoth F1 N1 (by intro q hq; repeat (first | exact hq | apply List.mem_cons_of_mem)))
theorem size_iter {L l : Addr} {m : Str → Option Value} {vs : List Value} {Q : Value → Shared → Prop} (X : (K w.params).In h₀) (T : TopRead p ls mg mb h₀) (hh : A.handled = none) (F : Fr h₀ L s.heap m) (hs : m (Str.ofString "script") = some (.ref l)) (hl : h₀.IsList l vs.toArray) (hv : vs.length ≤ 1000)
    (h : ∀ h' tk r t u v, Fr h₀ L h' m → Kp L s.heap h' → IsRange h' r 1 ((vs.length : Int) + 3) 1 t u v → Q (.ref r) { s with heap := h', toks := tk }) :
    wpAny (model prog w) A (eval (forIter (lS 7)) (lawEnv L fa cd)) Q (fun _ _ => False) s := by
  cases A; cases hh
  have KN := fun y => kn1 hs y
  replace F := Fr.congr F (fun y => (KN y).symm)
  obtain ⟨oth, N, hoth, hfr, -⟩ := led4 F
  clear hs
  have hl' : s.heap.IsList l vs.toArray := let ⟨o, ho, r⟩ := hl; ⟨o, F.keep _ _ ho, r⟩
  have X' := X
  have hrow : row = row := rfl
  revert hrow X
  k_fill
  intro _ X
  show wpAny _ _ (eval (Expr.Call _ _ _ _) _) _ _ _
  w_on
  try k_fold
  clear hl
  k_steps
  refine len_list hl' (by simp; omega) ?_
  rw [List.size_toArray]
  k_steps
  rename Fr _ _ _ _ => F1
  rename News _ _ _ _ => N1
  rename IsRange _ _ _ _ _ _ _ _ => hr
  exact h _ _ _ _ _ _ (Fr.congr F1 KN) (hoth F1 N1 (by intro q hq; repeat (first | exact hq | apply List.mem_cons_of_mem))) hr
theorem l8 {L la lb : Addr} {m : Str → Option Value} {vs bv : List Value} {xs : List Str} {c d : Nat} {Q : Flow → Shared → Prop} (X : (K w.params).In h₀) (T : TopRead p ls mg mb h₀) (hh : A.handled = none) (hun : A.units + 64 < cLine) (F : Fr h₀ L s.heap m)
    (h1 : m (Str.ofString "rows") = some (.ref la)) (h2 : m (Str.ofString "due") = some (.ref lb)) (oa : Own h₀ L s.heap la (listOf vs.toArray c)) (ob : Own h₀ L s.heap lb (listOf bv.toArray d)) (hvs : StrsAre vs xs) (hbv : StrsAre bv xs) (ho : oks xs)
    (h : ∀ h' tk, (∀ b o, b ≠ L → s.heap.get? b = some o → h'.get? b = some o) → Q (.ret (.bool true)) { s with heap := h', toks := tk }) :
    wpAny (model prog w) A (exec (lS 8) (lawEnv L fa cd)) Q (fun _ _ => False) s := by
  cases A; cases hh
  have KN := fun y => kn2 h1 h2 y
  replace F := Fr.congr F (fun y => (KN y).symm)
  obtain ⟨oth, N, hoth, hfr, -⟩ := led4 F
  replace N := oa.news (ob.news N)
  clear h1 h2
  have X' := X
  have hrow : row = row := rfl
  revert hrow X
  k_fill
  intro _ X
  show wpAny _ _ (exec (Stmt.Return _ _) _) _ _ _
  w_on
  try k_fold
  k_steps
  rename Fr _ _ _ _ => F1
  rename News _ _ _ _ => N1
  change wpAny _ _ (compareOp _ _ _) _ _ _
  refine eq_strs (isL N1 (.head _)) (isL N1 (.tail _ (.head _))) hvs hbv ho ho hun ?_
  rw [decide_eq_true rfl]
  k_steps
  exact h _ _ (fun b o hb e => e)
end
end Mine
end
section
open PySem PySem.W PyProof.Rows
set_option Elab.async false
set_option linter.unusedVariables false
set_option maxRecDepth 100000
set_option maxHeartbeats 4000000
namespace Mine
theorem blocks0_len (ns : List Int) : (blocks0 ns).length = 5 := by simp [blocks0]
theorem blocks0_get (ns : List Int) {i : Nat} (h : i < 5) : (blocks0 ns)[i]? = some (blk ns i) := by
  simp [blocks0, List.getElem?_map, List.getElem?_range h]
theorem blk_cons (x : Int) (ns : List Int) (k : Nat) : (blk (x :: ns) k).length = (blk ns k).length + (if x.fmod 5 = (k : Int) then 1 else 0) := by
  unfold blk
  by_cases h : x.fmod 5 = (k : Int)
  · rw [if_pos h, List.filter_cons_of_pos (by simpa using h)]
    simp only [List.length_append, List.length_map, List.length_cons]; omega
  · rw [if_neg h, List.filter_cons_of_neg (by simpa using h)]; rfl
theorem blocks0_tot (ns : List Int) : (blocks0 ns).flatten.length = 7 + ns.length := by
  have e : ∀ ns, (blocks0 ns).flatten.length = (blk ns 0).length + (blk ns 1).length + (blk ns 2).length + (blk ns 3).length + (blk ns 4).length := fun ns => by
    show ([blk ns 0, blk ns 1, blk ns 2, blk ns 3, blk ns 4].flatten).length = _
    simp only [List.flatten_cons, List.flatten_nil, List.length_append, List.length_nil]; omega
  induction ns with
  | nil => rfl
  | cons x r ih =>
    rw [e] at ih ⊢
    simp only [blk_cons, List.length_cons]
    have h0 := Int.fmod_nonneg_of_pos x (b := 5) (by decide)
    have h1 := Int.fmod_lt_of_pos x (b := 5) (by decide)
    generalize x.fmod 5 = z at *
    obtain rfl | rfl | rfl | rfl | rfl : z = 0 ∨ z = 1 ∨ z = 2 ∨ z = 3 ∨ z = 4 := by omega
    all_goals simp; omega
theorem intsAre_snoc {vs : List Value} {xs : List Int} {x : Int} {t : Tok} (h : IntsAre vs xs) : IntsAre (vs ++ [.int x t]) (xs ++ [x]) := by
  induction h with
  | nil => exact .cons _ _ .nil
  | cons a b _ ih => exact .cons _ _ ih
theorem good0 {ns : List Int} (h : ns.length ≤ 63) : Good5 (blocks0 ns) := by
  have hb : ∀ b ∈ blocks0 ns, ∃ k, k < 5 ∧ b = blk ns k := fun b hb => by
    simp only [blocks0, List.mem_map, List.mem_range] at hb
    obtain ⟨k, hk, rfl⟩ := hb
    exact ⟨k, hk, rfl⟩
  refine ⟨blocks0_len ns, fun b hm => ?_, by rw [blocks0_tot]; omega, fun b hm r hr => ?_⟩
  · obtain ⟨k, hk, rfl⟩ := hb b hm
    unfold blk
    rw [List.length_append]
    have : ∀ k, k < 5 → 0 < (firstBlocks.getD k []).length := by decide
    have := this k hk
    omega
  · obtain ⟨k, hk, rfl⟩ := hb b hm
    unfold blk at hr
    rcases List.mem_append.mp hr with hr | hr
    · have : ∀ k, k < 5 → ∀ r ∈ firstBlocks.getD k [], r.length ≤ 100 ∧ PyData.strOk r = true := by decide +kernel
      exact this k hk r hr
    · obtain ⟨x, _, rfl⟩ := List.mem_map.mp hr
      exact ⟨Nat.le_trans (row_ok x).1 (by decide), (row_ok x).2⟩
/-- the ends so far -/
def endsTo (bs : List (List Str)) (n : Nat) : List Int := (List.range n).map fun j => (offs bs j : Int)
theorem endsTo_succ (bs : List (List Str)) (n : Nat) : endsTo bs (n + 1) = endsTo bs n ++ [(offs bs n : Int)] := by
  unfold endsTo
  rw [List.range_succ, List.map_append]; rfl
theorem take_blk (ns : List Int) {i : Nat} (h : i < 5) : ((blocks0 ns).take (i + 1)).flatten = ((blocks0 ns).take i).flatten ++ blk ns i := by
  rw [List.take_add_one, blocks0_get ns h]
  simp
theorem take_flat_le (bs : List (List Str)) (i : Nat) : ((bs.take i).flatten).length ≤ bs.flatten.length := by
  have : bs.flatten = (bs.take i).flatten ++ (bs.drop i).flatten := by rw [← List.flatten_append, List.take_append_drop]
  rw [this, List.length_append]; omega
/-- the list of the blocks and the blocks -/
structure BlkL (h₀ : Heap) (L : Addr) (h : Heap) (D : Addr) (bl : List Addr) (ns : List Int) : Prop where
  len : bl.length = 5
  oD : ∃ d, Own h₀ L h D (listOf (bl.map Value.ref).toArray d)
  at' : BlocksAt h₀ L h bl ns
theorem BlkL.ks {h₀ : Heap} {L : Addr} {h h' : Heap} {D : Addr} {bl : List Addr} {ns : List Int} {Wr : Addr → Prop} (x : BlkL h₀ L h D bl ns) (k : Kn Wr L h h') (h1 : ¬ Wr D) (h2 : ∀ b ∈ bl, ¬ Wr b) : BlkL h₀ L h' D bl ns := by
  obtain ⟨l5, ⟨d, oD⟩, a⟩ := x
  refine ⟨l5, ⟨d, k D _ oD.2.1 h1 notIt_list oD.1, oD.2⟩, fun i B hB => ?_⟩
  obtain ⟨vb, nb, ob, sb⟩ := a i B hB
  exact ⟨vb, nb, ⟨k B _ ob.2.1 (h2 B (List.mem_of_getElem? hB)) notIt_list ob.1, ob.2⟩, sb⟩
theorem BlkL.of {h₀ : Heap} {L : Addr} {s h' : Heap} {m : Str → Option Value} {D : Addr} {ns : List Int} (F : Fr h₀ L s m) (x : BlkDone s s.objs.size h' D ns) : ∃ bl, BlkL h₀ L h' D bl ns := by
  obtain ⟨keep, bl, d, l5, _, _, oD, B⟩ := x
  have cv : ∀ {a : Addr} {o : Obj}, Own s s.objs.size h' a o → Own h₀ L h' a o := fun {a o} q => by
    refine ⟨q.1, fun e => ?_, ?_⟩
    · have := F.ns
      obtain ⟨o', _, _, ho', _⟩ := F.ns
      have := q.2.2
      rw [e, ho'] at this
      cases this
    · cases e : h₀.get? a with
      | none => rfl
      | some o' =>
        have := q.2.2
        rw [F.keep _ _ e] at this
        cases this
  exact ⟨bl, l5, ⟨d, cv oD⟩, fun k B' hB => let ⟨vb, nb, ob, sb⟩ := B k B' hB; ⟨vb, nb, cv ob, sb⟩⟩
theorem BlkL.item {h₀ : Heap} {L : Addr} {h : Heap} {D : Addr} {bl : List Addr} {ns : List Int} {i : Nat} {v : Value} (x : BlkL h₀ L h D bl ns) (hv : (bl.map Value.ref).toArray[i]? = some v) : i < 5 ∧ ∃ B, v = .ref B ∧ B ∈ bl ∧ ∃ vb nb, Own h₀ L h B (listOf (List.toArray vb) nb) ∧ StrsAre vb (blk ns i) := by
  rw [List.getElem?_toArray, List.getElem?_map] at hv
  cases e : bl[i]? with
  | none => rw [e] at hv; cases hv
  | some B =>
    rw [e] at hv
    cases hv
    have hi : i < bl.length := by
      rcases Nat.lt_or_ge i bl.length with h | h
      · exact h
      · rw [List.getElem?_eq_none h] at e; cases e
    exact ⟨x.len ▸ hi, B, rfl, List.mem_of_getElem? e, x.at' i B e⟩
end Mine
end
section
open PySem PySem.W PyProof.Rows
set_option Elab.async false
set_option linter.unusedVariables false
set_option maxRecDepth 100000
set_option maxHeartbeats 4000000
namespace Mine
theorem l3_eq : lS 3 = .For (.Name (Str.ofString "block") (ftPos (lS 3))) (.Name (Str.ofString "blocks") (nposOf (forIter (lS 3)))) [aT 0, aT 1] [] (fPos (lS 3)) := by kernel_rfl
abbrev oneW (le : Addr) : Addr → Prop := fun b => b = le
section
variable {w : World} {A : Around} {h₀ : Heap} {p : Program} {ls : List Str} {mg mb : Str → Option Value} {s : Shared} {fa : Addr} {cd : Value}
theorem l3loop {L D la le : Addr} {m : Str → Option Value} {bl : List Addr} {ns : List Int} {t : Tok} {c d : Nat} {Q : Flow → Shared → Prop} (X : (K w.params).In h₀) (T : TopRead p ls mg mb h₀) (hh : A.handled = none) (F : Fr h₀ L s.heap m)
    (hb : m (Str.ofString "blocks") = some (.ref D)) (hr : m (Str.ofString "rows") = some (.ref la)) (he : m (Str.ofString "ends") = some (.ref le)) (BK : BlkL h₀ L s.heap D bl ns) (hlen : ns.length ≤ 63)
    (oa : Own h₀ L s.heap la (listOf #[] c)) (oe : Own h₀ L s.heap le (listOf #[.int 0 t] d)) (n1 : la ≠ le) (n2 : D ≠ le) (n3 : le ∉ bl)
    (h : ∀ h' tk m' R vs es n n', Fr h₀ L h' m' → (∀ y, y ≠ Str.ofString "block" → y ≠ Str.ofString "rows" → m' y = m y) → m' (Str.ofString "rows") = some (.ref R) → R ≠ le → Own h₀ L h' R (listOf (List.toArray vs) n) → StrsAre vs (blocks0 ns).flatten →
      Own h₀ L h' le (listOf (List.toArray es) n') → IntsAre es (endsZ (blocks0 ns)) → Ks (oneW le) L s.heap h' → Q .next { s with heap := h', toks := tk }) :
    wpAny (model prog w) A (exec (lS 3) (lawEnv L fa cd)) Q (fun _ _ => False) s := by
  rw [l3_eq]
  obtain ⟨dd, oD⟩ := BK.oD
  refine wpAny_For (ldLoc F hb ?_) (by intro _; rfl)
  refine for_list (s := s) (env := lawEnv L fa cd) (h₀ := h₀) (Wr := oneW le) hh (Tgt.name (by rfl) (by rfl)) F oD.isL n2 (fun b hb => hb ▸ Heap.lt_size oe.1) (fun _ q => q.elim)
    (fun i s' m' => (∃ h tk, s' = { s with heap := h, toks := tk }) ∧ (∀ y, y ≠ Str.ofString "block" → y ≠ Str.ofString "rows" → m' y = m y) ∧ BlkL h₀ L s'.heap D bl ns ∧
      (∃ R vs n, m' (Str.ofString "rows") = some (.ref R) ∧ R ≠ le ∧ Own h₀ L s'.heap R (listOf (List.toArray vs) n) ∧ StrsAre vs ((blocks0 ns).take i).flatten) ∧ (∃ es n, Own h₀ L s'.heap le (listOf (List.toArray es) n) ∧ IntsAre es (endsTo (blocks0 ns) (i + 1)))) ?_ (fun _ _ _ _ _ _ _ _ => trivial) ?_ ?_
  · intro h' F' k'
    exact ⟨⟨_, _, rfl⟩, fun _ _ _ => rfl, BK.ks (Wr := noW) k'.ks.kn id fun _ _ => id, ⟨la, [], c, hr, n1, oa.kp k', .nil⟩, ⟨_, d, oe.kp k', .cons _ _ .nil⟩⟩
  · rintro i s' m' v h' tk m1 ⟨⟨h3, tk3, rfl⟩, hm3, B3, ⟨R, vs, n, hR, hRe, oR, hvs⟩, ⟨es, n4, oe4, hes⟩⟩ hv F3 kn rfl
    have kn' : Kn noW L h3 h' := kn
    obtain ⟨hi, B, rfl, hBm, vb, nb, oB, sb⟩ := B3.item hv
    have tot := blocks0_tot ns
    have lv : vs.length ≤ 100 := by
      have := take_flat_le (blocks0 ns) i
      rw [hvs.length]; omega
    have lb : vb.length ≤ 100 := by
      have := blk_le ns i
      rw [sb.length]; omega
    have le' : es.length ≤ 1000 := by
      rw [hes.length]; simp only [endsTo, List.length_map, List.length_range]; omega
    refine wpAny_execs_cons ?_
    refine @a0 w A h₀ p ls mg mb { s with heap := h', toks := tk } fa cd L R B _ vs vb _ _ _ X T hh F3 (lk hR (by decide)) lk0 (oR.kn kn' notIt_list) (oB.kn kn' notIt_list) (by omega) (by omega) ?_
    intro R2 h5 tk5 n5 F5 k5 fr5 oR5
    have hR2 : R2 ≠ le := fun q => fr5 le _ oe4.2.1 (oe4.kn kn' notIt_list).1 q.symm
    refine wpAny_execs_cons ?_
    refine @a1 w A h₀ p ls mg mb { s with heap := h5, toks := tk5 } fa cd L R2 le _ (vs ++ vb) es _ _ _ X T hh F5 lk0 (lk (lk ((hm3 _ (by decide) (by decide)).trans he) (by decide)) (by decide)) oR5 ((oe4.kn kn' notIt_list).kp k5) (by rw [List.length_append]; omega) le' ?_
    intro h6 tk6 n6 t6 F6 k6 oe6
    have sv := strsAre_append hvs sb
    rw [← take_blk ns hi] at sv
    have hl2 : ((vs ++ vb).length : Int) = (offs (blocks0 ns) (i + 1) : Int) := by rw [sv.length]; rfl
    rw [hl2] at oe6
    have ks5 : Ks (oneW le) L h' h6 := fun b o q1 q2 e => k6 b o q1 q2 (k5 b o q1 e)
    refine wpAny_execs_nil ⟨.inl rfl, _, F6, ks5, ⟨_, _, rfl⟩, fun y hy1 hy2 => (if_neg hy2).trans ((if_neg hy1).trans (hm3 y hy1 hy2)), ?_, ⟨R2, _, n5, lk0, hR2, ⟨k6 _ _ oR5.2.1 hR2 oR5.1, oR5.2⟩, sv⟩, ⟨_, n6, oe6, ?_⟩⟩
    · exact (B3.ks kn' id fun _ _ => id).ks ks5.kn n2 fun b hb q => n3 (q ▸ hb)
    · rw [endsTo_succ]; exact intsAre_snoc hes
  · rintro s' m' h' ⟨⟨h3, tk3, rfl⟩, hm3, B3, ⟨R, vs, n, hR, hRe, oR, hvs⟩, ⟨es, n4, oe4, hes⟩⟩ F' kn ks
    rw [List.size_toArray, List.length_map, BK.len] at hvs hes
    rw [List.take_of_length_le (by rw [blocks0_len]; exact Nat.le_refl _)] at hvs
    exact h h' tk3 m' R vs es n n4 F' hm3 hR hRe (oR.kn kn notIt_list) hvs (oe4.kn kn notIt_list) hes ks
end
end Mine
end
section
open PySem PySem.W PyProof.Rows
set_option Elab.async false
set_option linter.unusedVariables false
set_option maxRecDepth 100000
set_option maxHeartbeats 4000000
namespace Mine
def hasSize (n : Nat) (b : List Str) : Bool := b.length == n
def sized (bs : List (List Str)) (n : Nat) : List (List Str) := bs.filter (hasSize n)
def dueOf (bs : List (List Str)) : Nat → List Str
  | 0 => []
  | n + 1 => dueOf bs n ++ (sized bs (n + 1)).flatten
theorem sized_len (bs : List (List Str)) (n : Nat) : (sized bs n).flatten.length ≤ bs.flatten.length := by
  unfold sized
  induction bs with
  | nil => exact Nat.le_refl _
  | cons a r ih =>
    rw [List.filter_cons]
    split <;> simp only [List.flatten_cons, List.length_append] <;> omega
theorem dueOf_len (bs : List (List Str)) (n : Nat) : (dueOf bs n).length ≤ n * bs.flatten.length := by
  induction n with
  | zero => exact Nat.zero_le _
  | succ n ih =>
    have := sized_len bs (n + 1)
    simp only [dueOf, List.length_append, Nat.succ_mul]; omega
theorem sized_take (ns : List Int) {i : Nat} (h : i < 5) (n : Nat) : (sized ((blocks0 ns).take (i + 1)) n).flatten = (sized ((blocks0 ns).take i) n).flatten ++ (if (blk ns i).length = n then blk ns i else []) := by
  unfold sized
  rw [List.take_add_one, blocks0_get ns h, List.filter_append, List.flatten_append]
  congr 1
  show (List.filter (hasSize n) [blk ns i]).flatten = _
  by_cases e : (blk ns i).length = n
  · rw [if_pos e, List.filter_cons_of_pos (by simp [hasSize, e])]; simp
  · rw [if_neg e, List.filter_cons_of_neg (by simp [hasSize, e])]; rfl
theorem due_in_eq : dueIn = .For (.Name (Str.ofString "block") (ftPos dueIn)) (.Name (Str.ofString "blocks") (nposOf (forIter dueIn))) [dueIf] [] (fPos dueIn) := by kernel_rfl
theorem l7_eq : lS 7 = .For (.Name (Str.ofString "size") (ftPos (lS 7))) (forIter (lS 7)) [dueIn] [] (fPos (lS 7)) := by kernel_rfl
section
variable {w : World} {A : Around} {h₀ : Heap} {p : Program} {ls : List Str} {mg mb : Str → Option Value} {s : Shared} {fa : Addr} {cd : Value}
theorem due_in {L D la : Addr} {m : Str → Option Value} {bl : List Addr} {ns : List Int} {vs0 : List Value} {xs : List Str} {k : Nat} {t : Tok} {c : Nat} {Q : Flow → Shared → Prop} (X : (K w.params).In h₀) (T : TopRead p ls mg mb h₀) (hh : A.handled = none) (F : Fr h₀ L s.heap m)
    (hb : m (Str.ofString "blocks") = some (.ref D)) (hr : m (Str.ofString "due") = some (.ref la)) (hk : m (Str.ofString "size") = some (.int (k : Int) t)) (BK : BlkL h₀ L s.heap D bl ns) (hlen : ns.length ≤ 63)
    (oa : Own h₀ L s.heap la (listOf vs0.toArray c)) (h0 : StrsAre vs0 xs) (hx : xs.length ≤ 50000) (hk2 : k ≤ 1000)
    (h : ∀ h' tk m' R vs n, Fr h₀ L h' m' → (∀ y, y ≠ Str.ofString "block" → y ≠ Str.ofString "due" → m' y = m y) → m' (Str.ofString "due") = some (.ref R) → Own h₀ L h' R (listOf (List.toArray vs) n) → StrsAre vs (xs ++ (sized (blocks0 ns) k).flatten) →
      Ks noW L s.heap h' → Q .next { s with heap := h', toks := tk }) :
    wpAny (model prog w) A (exec dueIn (lawEnv L fa cd)) Q (fun _ _ => False) s := by
  rw [due_in_eq]
  obtain ⟨dd, oD⟩ := BK.oD
  refine wpAny_For (ldLoc F hb ?_) (by intro _; rfl)
  refine for_list (s := s) (env := lawEnv L fa cd) (h₀ := h₀) (Wr := noW) hh (Tgt.name (by rfl) (by rfl)) F oD.isL id (fun b hb => hb.elim) (fun _ q => q.elim)
    (fun i s' m' => (∃ h tk, s' = { s with heap := h, toks := tk }) ∧ (∀ y, y ≠ Str.ofString "block" → y ≠ Str.ofString "due" → m' y = m y) ∧ BlkL h₀ L s'.heap D bl ns ∧
      (∃ R vs n, m' (Str.ofString "due") = some (.ref R) ∧ Own h₀ L s'.heap R (listOf (List.toArray vs) n) ∧ StrsAre vs (xs ++ (sized ((blocks0 ns).take i) k).flatten))) ?_ (fun _ _ _ _ _ _ _ _ => trivial) ?_ ?_
  · intro h' F' k'
    exact ⟨⟨_, _, rfl⟩, fun _ _ _ => rfl, BK.ks (Wr := noW) k'.ks.kn id fun _ _ => id, ⟨la, vs0, c, hr, oa.kp k', by rw [List.take_zero]; simpa [sized] using h0⟩⟩
  · rintro i s' m' v h' tk m1 ⟨⟨h3, tk3, rfl⟩, hm3, B3, ⟨R, vs, n, hR, oR, hvs⟩⟩ hv F3 kn rfl
    have kn' : Kn noW L h3 h' := kn
    obtain ⟨hi, B, rfl, hBm, vb, nb, oB, sb⟩ := B3.item hv
    have tot := blocks0_tot ns
    have lv : vs.length ≤ 60000 := by
      have := take_flat_le (blocks0 ns) i
      have := sized_len ((blocks0 ns).take i) k
      rw [hvs.length, List.length_append]; omega
    have lb : vb.length ≤ 100 := by
      have := blk_le ns i
      rw [sb.length]; omega
    refine wpAny_execs_cons ?_
    refine @due_if w A h₀ p ls mg mb { s with heap := h', toks := tk } fa cd L R B _ vs vb k _ _ t _ X T hh F3 (lk hR (by decide)) lk0 (lk ((hm3 _ (by decide) (by decide)).trans hk) (by decide)) (oR.kn kn' notIt_list) (oB.kn kn' notIt_list) (by omega) (by omega) hk2 ?_ ?_
    · intro e R2 h5 tk5 n5 F5 k5 oR5
      have sv := strsAre_append hvs sb
      have e2 : xs ++ (sized ((blocks0 ns).take i) k).flatten ++ blk ns i = xs ++ (sized ((blocks0 ns).take (i + 1)) k).flatten := by
        rw [sized_take ns hi, if_pos (sb.length ▸ e), List.append_assoc]
      rw [e2] at sv
      refine wpAny_execs_nil ⟨.inl rfl, _, F5, k5.ks, ⟨_, _, rfl⟩, fun y hy1 hy2 => (if_neg hy2).trans ((if_neg hy1).trans (hm3 y hy1 hy2)), (B3.ks kn' id fun _ _ => id).ks (Wr := noW) k5.ks.kn id fun _ _ => id, ⟨R2, _, n5, lk0, oR5, sv⟩⟩
    · intro e h5 tk5 F5 k5
      have e2 : xs ++ (sized ((blocks0 ns).take i) k).flatten = xs ++ (sized ((blocks0 ns).take (i + 1)) k).flatten := by
        rw [sized_take ns hi, if_neg (sb.length ▸ e), List.append_nil]
      rw [e2] at hvs
      refine wpAny_execs_nil ⟨.inl rfl, _, F5, k5.ks, ⟨_, _, rfl⟩, fun y hy1 hy2 => (if_neg hy1).trans (hm3 y hy1 hy2), (B3.ks kn' id fun _ _ => id).ks (Wr := noW) k5.ks.kn id fun _ _ => id, ⟨R, _, n, lk hR (by decide), (oR.kn kn' notIt_list).kp k5, hvs⟩⟩
  · rintro s' m' h' ⟨⟨h3, tk3, rfl⟩, hm3, B3, ⟨R, vs, n, hR, oR, hvs⟩⟩ F' kn ks
    rw [List.size_toArray, List.length_map, BK.len, List.take_of_length_le (by rw [blocks0_len]; exact Nat.le_refl _)] at hvs
    exact h h' tk3 m' R vs n F' hm3 hR (oR.kn kn notIt_list) hvs ks
theorem l7loop {L D la l : Addr} {m : Str → Option Value} {bl : List Addr} {ns : List Int} {ss : List Value} {c : Nat} {Q : Flow → Shared → Prop} (X : (K w.params).In h₀) (T : TopRead p ls mg mb h₀) (hh : A.handled = none) (F : Fr h₀ L s.heap m)
    (hs : m (Str.ofString "script") = some (.ref l)) (hl : h₀.IsList l ss.toArray) (hI : IntsAre ss ns) (hb : m (Str.ofString "blocks") = some (.ref D)) (hr : m (Str.ofString "due") = some (.ref la)) (BK : BlkL h₀ L s.heap D bl ns) (hlen : ns.length ≤ 63)
    (oa : Own h₀ L s.heap la (listOf #[] c))
    (h : ∀ h' tk m' R vs n, Fr h₀ L h' m' → (∀ y, y ≠ Str.ofString "block" → y ≠ Str.ofString "due" → y ≠ Str.ofString "size" → m' y = m y) → m' (Str.ofString "due") = some (.ref R) → Own h₀ L h' R (listOf (List.toArray vs) n) → StrsAre vs (dueOf (blocks0 ns) (ns.length + 2)) →
      Ks noW L s.heap h' → Q .next { s with heap := h', toks := tk }) :
    wpAny (model prog w) A (exec (lS 7) (lawEnv L fa cd)) Q (fun _ _ => False) s := by
  rw [l7_eq]
  have hsl : ss.length = ns.length := hI.length
  refine wpAny_For ?_ (by intro _; rfl)
  refine @size_iter w A h₀ p ls mg mb s fa cd L l m ss _ X T hh F hs hl (by omega) ?_
  intro h1 tk1 r ta tb tc F1 k1 hrg
  have oa1 := oa.kp k1
  refine for_range (s := { s with heap := h1, toks := tk1 }) (env := lawEnv L fa cd) (h₀ := h₀) (a := 1) (n := ns.length + 2) (Wr := noW) hh (Tgt.name (by rfl) (by rfl)) (by intro _ _; trivial) F1 hrg (by rw [hsl]; omega) (by omega) (fun b q => q.elim) (fun _ q => q.elim)
    (fun i s' m' => (∃ h tk, s' = { s with heap := h, toks := tk }) ∧ (∀ y, y ≠ Str.ofString "block" → y ≠ Str.ofString "due" → y ≠ Str.ofString "size" → m' y = m y) ∧ BlkL h₀ L s'.heap D bl ns ∧
      (∃ R vs n, m' (Str.ofString "due") = some (.ref R) ∧ Own h₀ L s'.heap R (listOf (List.toArray vs) n) ∧ StrsAre vs (dueOf (blocks0 ns) i))) ?_ (fun _ _ _ _ _ _ _ => trivial) ?_ ?_
  · intro h' F' k'
    exact ⟨⟨_, _, rfl⟩, fun _ _ _ _ => rfl, (BK.ks (Wr := noW) k1.ks.kn id fun _ _ => id).ks (Wr := noW) k'.ks.kn id fun _ _ => id, ⟨la, [], c, hr, oa1.kp k', .nil⟩⟩
  · rintro i s' m' t' h' tk m1 ⟨⟨h3, tk3, rfl⟩, hm3, B3, ⟨R, vs, n, hR, oR, hvs⟩⟩ hi F3 kn rfl
    have kn' : Kn noW L h3 h' := kn
    have mk : set1 m' (Str.ofString "size") (.int ((1 + i : Nat) : Int) t') (Str.ofString "size") = some (.int ((i + 1 : Nat) : Int) t') := by rw [lk0, Nat.add_comm]
    have tot := blocks0_tot ns
    have hdl : (dueOf (blocks0 ns) i).length ≤ 50000 := by
      refine Nat.le_trans (dueOf_len _ _) ?_
      have := Nat.mul_le_mul (show i ≤ 100 by omega) (show (blocks0 ns).flatten.length ≤ 100 by omega)
      omega
    refine wpAny_execs_cons ?_
    refine @due_in w A h₀ p ls mg mb { s with heap := h', toks := tk } fa cd L D R _ bl ns vs (dueOf (blocks0 ns) i) (i + 1) t' _ _ X T hh F3 (lk ((hm3 _ (by decide) (by decide) (by decide)).trans hb) (by decide)) (lk hR (by decide)) mk (B3.ks kn' id fun _ _ => id) hlen (oR.kn kn' notIt_list) hvs hdl (by omega) ?_
    intro h5 tk5 m5 R5 vs5 n5 F5 hm5 hR5 oR5 hvs5 k5
    exact wpAny_execs_nil ⟨.inl rfl, m5, F5, k5, ⟨_, _, rfl⟩, fun y hy1 hy2 hy3 => (hm5 y hy1 hy2).trans ((if_neg hy3).trans (hm3 y hy1 hy2 hy3)), (B3.ks kn' id fun _ _ => id).ks (Wr := noW) k5.kn id fun _ _ => id, R5, vs5, n5, hR5, oR5, hvs5⟩
  · rintro s' m' h' ⟨⟨h3, tk3, rfl⟩, hm3, B3, ⟨R, vs, n, hR, oR, hvs⟩⟩ F' kn ks
    exact h h' tk3 m' R vs n F' hm3 hR (oR.kn kn notIt_list) hvs (k1.ks.trans ks)
end
end Mine
end
section
open PySem PySem.W PyProof.Rows
set_option Elab.async false
set_option linter.unusedVariables false
set_option maxRecDepth 100000
set_option maxHeartbeats 400000
namespace Mine
theorem lawBody_eq : fBody (st 11) = [lS 0, lS 1, lS 2, lS 3, lS 4, lS 5, lS 6, lS 7, lS 8] := by kernel_rfl
theorem lawA_h {L fa : Addr} {cd : Value} : (lawA L fa cd).handled = none := rfl
theorem lawA_d {L fa : Addr} {cd : Value} : (lawA L fa cd).depth + 30 < recursionLimit := by show 1 + claimMargin + 1 + 30 < 1000; decide
theorem lawA_u {L fa : Addr} {cd : Value} : (lawA L fa cd).units + 100 < cLine := by show 4 + 3 + 100 < cLine; decide
section
variable {L fa : Addr} {cd : Value} {k : Result → Sem Fin} {g : Bool} {lv : List Value} {pp : Pos}
abbrev topF (k : Result → Sem Fin) (g : Bool) (lv : List Value) (pp : Pos) : Frame := .ret k none g lv cC pp []
theorem room0 : Room (A0.over (lawC L fa cd) [topF k g lv pp]) := by
  rw [over_law]
  exact ⟨lawA_h, Nat.lt_of_le_of_lt (Nat.add_le_add_left (by decide) _) lawA_d, Nat.lt_of_le_of_lt (Nat.add_le_add_left (by decide) _) lawA_u⟩
theorem room1 {tg it body env K H gd lv2 p} : Room (A0.over (.forLoop tg it body [] env) (waitF env K H gd lv2 (lawC L fa cd) p :: [topF k g lv pp])) := by
  rw [over_under, over_law]
  refine ⟨rfl, ?_, ?_⟩
  · show 1 + claimMargin + 1 + 0 + 12 < 1000; decide
  · show 4 + 3 + 3 * 0 + 64 < cLine; decide
theorem room2 {tg it body env K H gd lv2 p tg2 it2 body2 env2 K2 H2 gd2 lv3 p2} : Room (A0.over (.forLoop tg2 it2 body2 [] env2) (waitF env2 K2 H2 gd2 lv3 (.forLoop tg it body [] env) p2 :: waitF env K H gd lv2 (lawC L fa cd) p :: [topF k g lv pp])) := by
  rw [over_under, over_under, over_law]
  refine ⟨rfl, ?_, ?_⟩
  · show 1 + claimMargin + 1 + 0 + 0 + 12 < 1000; decide
  · show 4 + 3 + 3 * 0 + 3 * 0 + 64 < cLine; decide
end
end Mine
end
section
open PySem PySem.W PyProof.Rows
set_option Elab.async false
set_option linter.unusedVariables false
set_option maxRecDepth 100000
set_option maxHeartbeats 400000
namespace Mine
def PlainLaw10 : Prop := ∀ ns : List Int, ns.length ≤ 63 → dueOf (blocks0 ns) (ns.length + 2) = ([4, 3, 2, 1].foldl pass (blocks0 ns)).flatten
def LawPost (s₁ : Shared) (f : Flow) (s' : Shared) : Prop := f = .ret (.bool true) ∧ LawEnd s₁ s'
section
variable {w : World} {R : GenEnd} {s₁ s : Shared} {p : Program} {ls : List Str} {mg mb : Str → Option Value} {L fa : Addr} {cd : Value} {k : Result → Sem Fin} {g : Bool} {lv : List Value} {pp : Pos}
theorem bodyT (plain : PlainLaw10) {m : Str → Option Value} {D l xi dx le : Addr} {bl : List Addr} {ss : List Value} {ns : List Int} {t1 t2 : Tok} (X : (K w.params).In s₁.heap) (T : TopRead p ls mg mb s₁.heap) (hL : s₁.heap.objs.size ≤ L)
    (hs : m (Str.ofString "script") = some (.ref l)) (hb : m (Str.ofString "blocks") = some (.ref D)) (hl : s₁.heap.IsList l ss.toArray) (hI : IntsAre ss ns) (hlen : ns.length ≤ 63) (BK : BlkL s₁.heap L s.heap D bl ns)
    (S : St10 w s₁.heap s₁.os L xi dx le t1 t2 (blocks0 ns) s m) (n1 : D ≠ le) (n2 : le ∉ bl) :
    LW (model prog w) A0 R noY 0 s₁ (lawC L fa cd) [topF k g lv pp] (execs [lS 5, lS 6, lS 7, lS 8] (lawEnv L fa cd)) (LawPost s₁) (fun _ _ => False) s := by
  have g0 := good0 hlen
  refine lw_execs_cons ?_
  refine @out_loop w A0 R noY 0 s₁ (lawC L fa cd) [topF k g lv pp] s₁.heap p ls mg mb s fa cd L xi dx le s₁.os t1 t2 m (blocks0 ns) s.heap (some (.ref l)) (some (.ref D)) _ X T room0 (fun _ _ _ _ _ _ => room1) (fun _ _ _ _ _ _ _ _ _ _ _ _ => room2) ⟨S, fun b o _ _ _ e => e, hs, hb⟩ g0 ?_
  intro s2 m2 I2
  have gz := good_passes (ns := [4, 3, 2, 1]) (by decide) g0
  rw [PlainLaw10] at plain
  have pl := plain ns hlen
  generalize ([4, 3, 2, 1].foldl pass (blocks0 ns)) = bz at *
  obtain ⟨S2, kn2, hs2, hb2⟩ := I2
  obtain ⟨v0, hc⟩ := S.cell
  have BK2 : BlkL s₁.heap L s2.heap D bl ns := by
    refine BK.ks kn2 ?_ ?_
    · obtain ⟨d, oD⟩ := BK.oD
      rintro (q | q)
      · exact own_ne_cell oD hc q
      · exact n1 q
    · intro b hbm
      obtain ⟨i, hi, e⟩ := List.getElem_of_mem hbm
      obtain ⟨vb, nb, ob, _⟩ := BK.at' i b (by rw [List.getElem?_eq_getElem hi, e])
      rintro (q | q)
      · exact own_ne_cell ob hc q
      · exact n2 (q ▸ hbm)
  obtain ⟨F2, bare2, os2, _, _, _, ⟨la, vs, c2, hr2, _, oa2, hvs2⟩, _, _, _⟩ := S2
  refine lw_plain ?_
  refine @l6 w _ s₁.heap p ls mg mb s2 fa cd L m2 _ X T room0.1 F2 ?_
  intro h3 tk3 Z F3 k3 fr3 oZ
  refine ⟨rfl, ?_⟩
  refine lw_plain ?_
  refine @l7loop w _ s₁.heap p ls mg mb { s2 with heap := h3, toks := tk3 } fa cd L D Z l _ bl ns ss _ _ X T room0.1 F3 (lk hs2 (by decide)) hl hI (lk hb2 (by decide)) lk0 (BK2.ks (Wr := noW) k3.ks.kn id fun _ _ => id) hlen oZ ?_
  intro h4 tk4 m4 R4 vs4 n4 F4 hm4 hR4 oR4 hvs4 k4
  refine ⟨rfl, ?_⟩
  rw [pl] at hvs4
  refine lw_execs_cons (lw_of ?_)
  refine @l8 w _ s₁.heap p ls mg mb { s2 with heap := h4, toks := tk4 } fa cd L la R4 m4 vs vs4 bz.flatten _ _ _ X T room0.1 room0.2.2 F4 ((hm4 _ (by decide) (by decide) (by decide)).trans (lk hr2 (by decide))) hR4 ((oa2.kp k3).kp k4.kp) oR4 hvs2 hvs4 ?_ ?_
  · intro x hx
    obtain ⟨b, hb, hx⟩ := List.mem_flatten.mp hx
    exact (gz.txt b hb x hx).2
  · intro h5 tk5 k5
    refine ⟨rfl, fun b o e => ?_, os2, bare2⟩
    exact k5 b o (fun q => by
      have := Heap.lt_size e
      rw [q] at this
      exact absurd (Nat.lt_of_lt_of_le this hL) (Nat.lt_irrefl _)) (F4.keep b o e)
end
end Mine
end
section
open PySem PySem.W PyProof.Rows
set_option Elab.async false
set_option linter.unusedVariables false
set_option maxRecDepth 100000
set_option maxHeartbeats 400000
namespace Mine
theorem fresh_ne {h₀ h : Heap} {L a b : Addr} {o : Obj} (f : Fresh L h a) (x : Own h₀ L h b o) : b ≠ a := f b o x.2.1 x.1
section
variable {w : World} {R : GenEnd} {s₁ s : Shared} {p : Program} {ls : List Str} {mg mb : Str → Option Value} {mean : ExcName → Option Value} {L fa : Addr} {cd : Value} {k : Result → Sem Fin} {g : Bool} {lv : List Value} {pp : Pos}
theorem bodyH (plain : PlainLaw10) {m : Str → Option Value} {l : Addr} {ss : List Value} {ns : List Int} {v0 : Option Value} (X : (K w.params).In s₁.heap) (T : Top p ls mean mg mb s₁.heap) (B : Below callerA s₁.heap [] s₁.heap) (hL : s₁.heap.objs.size ≤ L)
    (F : Fr s₁.heap L s.heap m) (hs : m (Str.ofString "script") = some (.ref l)) (hl : s₁.heap.IsList l ss.toArray) (hI : IntsAre ss ns) (hlen : ns.length ≤ 63) (hc : CellAt s₁.heap L s.heap (L + 1) v0) (hos : s.os = s₁.os) (hbr : AllBare s.gens) :
    LW (model prog w) A0 R noY 0 s₁ (lawC L fa cd) [topF k g lv pp] (execs (fBody (st 11)) (lawEnv L fa cd)) (LawPost s₁) (fun _ _ => False) s := by
  have TR := topRead_of T
  rw [lawBody_eq]
  refine lw_plain ?_
  refine @l0 w _ s₁.heap p ls mg mb s fa cd L l m ss ns _ X TR room0.1 room0.2.1 F hs hl hI hlen ?_
  intro h0 h1 tk1 D F1 bd kp1
  obtain ⟨bl, BK0⟩ := BlkL.of F bd
  have BK1 : BlkL s₁.heap L h1 D bl ns := BK0.ks (Wr := noW) kp1.ks.kn id fun _ _ => id
  have c1 : CellAt s₁.heap L h1 (L + 1) v0 := by
    obtain ⟨o, ho, hd⟩ := hc
    exact ⟨o, ⟨kp1 _ _ ho.2.1 (bd.keep _ _ ho.1), ho.2⟩, hd⟩
  clear BK0 bd
  refine ⟨rfl, ?_⟩
  refine lw_plain ?_
  refine @l1 w _ s₁.heap p ls mg mb { s with heap := h1, toks := tk1 } fa cd L _ _ X TR room0.1 F1 ?_
  intro h2 tk2 la F2 k2 fr2 oa
  refine ⟨rfl, ?_⟩
  refine lw_plain ?_
  refine @l2 w _ s₁.heap p ls mg mb { s with heap := h2, toks := tk2 } fa cd L _ _ X TR room0.1 F2 ?_
  intro h3 tk3 le t0 F3 k3 fr3 oe
  have BK2 := BK1.ks (Wr := noW) k2.ks.kn id fun _ _ => id
  have BK3 := BK2.ks (Wr := noW) k3.ks.kn id fun _ _ => id
  have n1 : la ≠ le := fresh_ne fr3 oa
  have n2 : D ≠ le := by
    obtain ⟨d, oD⟩ := BK2.oD
    exact fresh_ne fr3 oD
  have n3 : le ∉ bl := fun hm => by
    obtain ⟨i, hi, e⟩ := List.getElem_of_mem hm
    obtain ⟨vb, nb, ob, _⟩ := BK2.at' i le (by rw [List.getElem?_eq_getElem hi, e])
    exact fresh_ne fr3 ob rfl
  have c3 := (c1.kp k2).kp k3
  refine ⟨rfl, ?_⟩
  refine lw_plain ?_
  refine @l3loop w _ s₁.heap p ls mg mb { s with heap := h3, toks := tk3 } fa cd L D la le _ bl ns t0 _ _ _ X TR room0.1 F3 (lk (lk lk0 (by decide)) (by decide)) (lk lk0 (by decide)) lk0 BK3 hlen (oa.kp k3) oe n1 n2 n3 ?_
  intro h4 tk4 m4 R4 vs es n4 n4' F4 hm4 hR4 hRe oR4 hvs oe4 hes ks4
  have hc4 : le ≠ L + 1 := own_ne_cell oe c3
  have c4 : CellAt s₁.heap L h4 (L + 1) v0 := by
    obtain ⟨o, ho, hd⟩ := c3
    exact ⟨o, ⟨ks4 _ _ ho.2.1 (fun q => hc4 q.symm) ho.1, ho.2⟩, hd⟩
  have BK4 : BlkL s₁.heap L h4 D bl ns := BK3.ks ks4.kn n2 fun b hb q => n3 (q ▸ hb)
  have s4 : m4 (Str.ofString "script") = some (.ref l) := (hm4 _ (by decide) (by decide)).trans (lk (lk (lk hs (by decide)) (by decide)) (by decide))
  have b4 : m4 (Str.ofString "blocks") = some (.ref D) := (hm4 _ (by decide) (by decide)).trans (lk (lk lk0 (by decide)) (by decide))
  have e4 : m4 (Str.ofString "ends") = some (.ref le) := (hm4 _ (by decide) (by decide)).trans lk0
  refine ⟨rfl, ?_⟩
  refine lw_plain ?_
  rw [over_law]
  refine @l4 w s₁.heap p ls mg mb { s with heap := h4, toks := tk4 } fa cd L m4 mean _ X T B F4 ?_
  intro h5 tk5 xi dx t1 t2 F5 k5 o1 o2
  refine ⟨rfl, ?_⟩
  exact bodyT plain X TR hL (lk s4 (by decide)) (lk b4 (by decide)) hl hI hlen (BK4.ks (Wr := noW) k5.ks.kn id fun _ _ => id)
    ⟨F5, hbr, hos, lk0, o1, o2, ⟨R4, vs, n4, lk hR4 (by decide), hRe, oR4.kp k5, hvs⟩, lk e4 (by decide), ⟨es, n4', oe4.kp k5, hes⟩, ⟨v0, c4.kp k5⟩⟩ n2 n3
end
theorem law10_body (plain : PlainLaw10) : LawBodyL := by
  intro w s₁ mg mb p ls mean fa l cd vs ns h tk m X T B hg hl hI hlen hlay F hs hcell R k g lv pp fin
  have hcell0 := hcell (Str.ofString "told") (s₁.heap.objs.size + 1) (by rfl)
  have hc : CellAt s₁.heap s₁.heap.objs.size h (s₁.heap.objs.size + 1) none := CellAt.of hcell0 (Nat.succ_ne_self _) (by
    cases e : s₁.heap.get? (s₁.heap.objs.size + 1) with
    | none => rfl
    | some o => exact absurd (Heap.lt_size e) (Nat.not_lt.mpr (Nat.le_succ _)))
  have hbr : AllBare s₁.gens := by
    rw [hg]
    intro q hq
    simp at hq
  have t := @bodyH w R s₁ { s₁ with heap := h, toks := tk } p ls mg mb mean s₁.heap.objs.size fa cd k g lv pp plain m l vs ns none X T B (Nat.le_refl _) F hs hl hI hlen hc rfl hbr
  refine t _ _ _ _ (fun f s' hf => ?_) fun _ _ q => q.elim
  obtain ⟨rfl, hf⟩ := hf
  exact segL_leaf _ (fin s' hf)
theorem law10_holds' (plain : PlainLaw10) : PySem.Challenge.rw_dm0050_10.Holds := law10 (law10_body plain)
end Mine
end
section
open PySem PySem.W PyProof.Rows
set_option Elab.async false
set_option linter.unusedVariables false
set_option maxHeartbeats 400000
namespace Mine
theorem sized_swap (x y : List Str) (n : Nat) : sized (swap2 x y) n = sized [x, y] n := by
  unfold swap2
  split
  · rename_i h
    unfold sized
    by_cases hx : x.length = n
    · have hy : y.length ≠ n := by omega
      simp [List.filter_cons, hasSize, hx, hy]
    · simp [List.filter_cons, hasSize, hx]
  · rfl
theorem sized_append (p q : List (List Str)) (n : Nat) : sized (p ++ q) n = sized p n ++ sized q n := by
  unfold sized
  exact List.filter_append ..
theorem sized_bub (bs : List (List Str)) (k n : Nat) : sized (bub bs k) n = sized bs n := by
  unfold bub
  have e : bs = bs.take k ++ bs.drop k := (List.take_append_drop k bs).symm
  rw [sized_append]
  conv => rhs; rw [e, sized_append]
  congr 1
  generalize bs.drop k = r
  match r with
  | [] => rfl
  | [x] => rfl
  | x :: y :: q =>
    show sized (swap2 x y ++ q) n = sized ([x, y] ++ q) n
    rw [sized_append, sized_append, sized_swap]
theorem sized_fold (ks : List Nat) (bs : List (List Str)) (n : Nat) : sized (ks.foldl bub bs) n = sized bs n := by
  induction ks generalizing bs with
  | nil => rfl
  | cons a r ih => rw [List.foldl_cons, ih, sized_bub]
theorem sized_passes (ks : List Nat) (bs : List (List Str)) (n : Nat) : sized (ks.foldl pass bs) n = sized bs n := by
  induction ks generalizing bs with
  | nil => rfl
  | cons a r ih => rw [List.foldl_cons, ih]; exact sized_fold _ _ _
theorem dueOf_congr {bs bs' : List (List Str)} (h : ∀ n, sized bs n = sized bs' n) (n : Nat) : dueOf bs n = dueOf bs' n := by
  induction n with
  | zero => rfl
  | succ n ih => rw [dueOf, dueOf, ih, h]
theorem pass_max (n : Nat) : ∀ (as rest : List (List Str)), as.length = n + 1 → ∃ front last, pass (as ++ rest) n = front ++ last :: rest ∧ front.length = n ∧ (∀ b, b ∈ front ∨ b = last → b ∈ as) ∧ ∀ b ∈ front, b.length ≤ last.length := by
  induction n with
  | zero =>
    intro as rest h
    match as, h with
    | [x], _ => exact ⟨[], x, rfl, rfl, fun b hb => by rcases hb with hb | rfl; · cases hb
                                                       · exact .head _, fun b hb => by cases hb⟩
  | succ n ih =>
    intro as rest h
    rcases List.eq_nil_or_concat as with rfl | ⟨as0, z, rfl⟩
    · cases h
    · rw [List.concat_eq_append] at h ⊢
      rw [List.length_append, List.length_singleton] at h
      obtain ⟨front, last, e, hl, hm, hb⟩ := ih as0 (z :: rest) (by omega)
      have e2 : pass (as0 ++ [z] ++ rest) (n + 1) = front ++ (swap2 last z ++ rest) := by
        unfold pass at e ⊢
        rw [List.range_succ, List.foldl_append, List.append_assoc, List.singleton_append, e, List.foldl_cons, List.foldl_nil, ← hl, bub_at]
      rw [e2]
      have hm0 : ∀ b, b ∈ front ∨ b = last → b ∈ as0 ++ [z] := fun b q => List.mem_append.mpr (.inl (hm b q))
      have hz : z ∈ as0 ++ [z] := by simp
      unfold swap2
      split
      · rename_i hlt
        refine ⟨front ++ [z], last, by simp, by simp [hl], ?_, ?_⟩
        · intro b q
          rcases q with q | rfl
          · rcases List.mem_append.mp q with q | q
            · exact hm0 b (.inl q)
            · rw [List.mem_singleton] at q; exact q ▸ hz
          · exact hm0 _ (.inr rfl)
        · intro b q
          rcases List.mem_append.mp q with q | q
          · exact hb b q
          · rw [List.mem_singleton] at q; subst q; omega
      · rename_i hlt
        refine ⟨front ++ [last], z, by simp, by simp [hl], ?_, ?_⟩
        · intro b q
          rcases q with q | rfl
          · rcases List.mem_append.mp q with q | q
            · exact hm0 b (.inl q)
            · rw [List.mem_singleton] at q; exact hm0 b (.inr q)
          · exact hz
        · intro b q
          rcases List.mem_append.mp q with q | q
          · have := hb b q; omega
          · rw [List.mem_singleton] at q; subst q; omega
abbrev Asc5 (bs : List (List Str)) : Prop := bs.Pairwise fun a b => a.length ≤ b.length
def SortInv (n : Nat) (bs : List (List Str)) : Prop := ∃ as rest, bs = as ++ rest ∧ as.length = n ∧ Asc5 rest ∧ ∀ a ∈ as, ∀ r ∈ rest, a.length ≤ r.length
theorem sort_pass {n : Nat} {bs : List (List Str)} (h : SortInv (n + 1) bs) : SortInv n (pass bs n) := by
  obtain ⟨as, rest, rfl, hl, hr, hb⟩ := h
  obtain ⟨front, last, e, hl2, hm, hb2⟩ := pass_max n as rest hl
  refine ⟨front, last :: rest, e, hl2, List.pairwise_cons.mpr ⟨fun r q => hb last (hm last (.inr rfl)) r q, hr⟩, fun a ha r q => ?_⟩
  rcases List.mem_cons.mp q with rfl | q
  · exact hb2 a ha
  · exact hb a (hm a (.inl ha)) r q
theorem sort_all {bs : List (List Str)} (h : bs.length = 5) : Asc5 ([4, 3, 2, 1].foldl pass bs) := by
  have h5 : SortInv 5 bs := ⟨bs, [], (List.append_nil _).symm, h, .nil, fun _ _ _ q => by cases q⟩
  have h1 : SortInv 1 ([4, 3, 2, 1].foldl pass bs) := sort_pass (sort_pass (sort_pass (sort_pass h5)))
  obtain ⟨as, rest, e, hl, hr, hb⟩ := h1
  rw [e]
  match as, hl with
  | [x], _ => exact List.pairwise_cons.mpr ⟨fun r q => hb x (.head _) r q, hr⟩
def upto (n : Nat) (b : List Str) : Bool := decide (b.length ≤ n)
theorem upto_succ {bs : List (List Str)} (h : Asc5 bs) (n : Nat) : bs.filter (upto (n + 1)) = bs.filter (upto n) ++ sized bs (n + 1) := by
  unfold sized
  induction h with
  | nil => rfl
  | @cons a r ha hr ih =>
    by_cases h1 : a.length ≤ n
    · have e1 : upto (n + 1) a = true := by simp [upto]; omega
      have e2 : upto n a = true := by simp [upto]; omega
      have e3 : ¬ hasSize (n + 1) a = true := by simp [hasSize]; omega
      rw [List.filter_cons_of_pos e1, List.filter_cons_of_pos e2, List.filter_cons_of_neg e3, ih]; rfl
    · have e2 : ¬ upto n a = true := by simp [upto]; omega
      rw [List.filter_cons_of_neg e2]
      by_cases h2 : a.length = n + 1
      · have e1 : upto (n + 1) a = true := by simp [upto]; omega
        have e3 : hasSize (n + 1) a = true := by simp [hasSize]; omega
        have e4 : r.filter (upto n) = [] := List.filter_eq_nil_iff.mpr fun b hb => by
          have := ha b hb
          simp [upto]; omega
        rw [List.filter_cons_of_pos e1, List.filter_cons_of_pos e3, ih, e4]; rfl
      · have e1 : ¬ upto (n + 1) a = true := by simp [upto]; omega
        have e3 : ¬ hasSize (n + 1) a = true := by simp [hasSize]; omega
        rw [List.filter_cons_of_neg e1, List.filter_cons_of_neg e3, ih]
theorem dueOf_asc {bs : List (List Str)} (h : Asc5 bs) (hp : ∀ b ∈ bs, 0 < b.length) (n : Nat) : dueOf bs n = (bs.filter (upto n)).flatten := by
  induction n with
  | zero =>
    rw [List.filter_eq_nil_iff.mpr fun b hb => by have := hp b hb; simp [upto]; intro q; subst q; simp at this]; rfl
  | succ n ih => rw [dueOf, ih, upto_succ h, List.flatten_append]
theorem plain10 (ns : List Int) (hlen : ns.length ≤ 63) : dueOf (blocks0 ns) (ns.length + 2) = ([4, 3, 2, 1].foldl pass (blocks0 ns)).flatten := by
  have gz := good_passes (ns := [4, 3, 2, 1]) (by decide) (good0 hlen)
  have hs := sort_all (blocks0_len ns)
  have he := fun n => sized_passes [4, 3, 2, 1] (blocks0 ns) n
  generalize [4, 3, 2, 1].foldl pass (blocks0 ns) = bz at *
  rw [← dueOf_congr he, dueOf_asc hs gz.pos]
  rw [List.filter_eq_self.mpr]
  intro b hb
  have hm : b ∈ sized (blocks0 ns) b.length := by
    rw [← he]
    unfold sized
    exact List.mem_filter.mpr ⟨hb, by simp [hasSize]⟩
  have hm2 := (List.mem_filter.mp hm).1
  simp only [blocks0, List.mem_map, List.mem_range] at hm2
  obtain ⟨k, _, rfl⟩ := hm2
  have := blk_le ns k
  simp [upto]; omega
end Mine
end
section
namespace Mine
theorem law10_holds : PySem.Challenge.rw_dm0050_10.Holds := law10_holds' plain10
end Mine
end
open PySem PySem.W PyProof.Rows
set_option maxRecDepth 100000 in
set_option maxHeartbeats 4000000 in
theorem PySem.Challenge.cw_dm0050_10_holds : PySem.Challenge.rw_dm0050_10.Holds := by
  exact Mine.law10_holds
