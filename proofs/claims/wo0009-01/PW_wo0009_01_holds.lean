import PyProof.Rows.All
import Wide.All
import OpenK.AllK
import Wide.FinOn
import PySem.Challenge.RW_wo0009_01
set_option Elab.async false

section
open PySem PySem.W PyProof.Rows
namespace Mine
set_option maxRecDepth 100000

noncomputable def stmtOf (i : Nat) : Option Stmt := PySem.Challenge.pw_wo0009_01.main.body[i]?
noncomputable def fnTop (i : Nat) (pm cd : Value) : FuncData := match stmtOf i with
  | some (.FunctionDef n a b _ _ _ sc _ _ _) => fnOf n n a b sc .none .none .none pm none cd .none
  | _ => default
noncomputable def fnCls (i j : Nat) (qual : String) (pm cd : Value) : FuncData := match stmtOf i with
  | some (.ClassDef _ _ _ bd _ _ _ _ _ _ _) => (match bd[j]? with
    | some (.FunctionDef n a b _ _ _ sc _ _ _) => fnOf n (Str.ofString qual) a b sc .none .none .none pm none cd .none
    | _ => default)
  | _ => default

/-- the loader that the boot lays -/
noncomputable def ldr (P : Params) : Value := match (boot_o_3 P).data with
  | .dict es _ => (match es.toList with
    | _ :: _ :: _ :: e :: _ => e.val
    | _ => .none)
  | _ => .none
noncomputable def K : Params → Frag := fun P =>
  (nat_lit 2, ⟨.none, none, (.dict (([] : List _).toArray) 0), ([] : List _).toArray⟩) ::
  (nat_lit 3, ⟨(.type "dict"), none, (.dict (([⟨PyData.keyHash P (PySem.Str.ofString "__name__"), (.str (PySem.Str.ofString "__name__") 165), (.str (PySem.Str.ofString "law_wo0009_01") 338)⟩, ⟨PyData.keyHash P (PySem.Str.ofString "__doc__"), (.str (PySem.Str.ofString "__doc__") 166), .none⟩, ⟨PyData.keyHash P (PySem.Str.ofString "__package__"), (.str (PySem.Str.ofString "__package__") 167), .none⟩, ⟨PyData.keyHash P (PySem.Str.ofString "__loader__"), (.str (PySem.Str.ofString "__loader__") 168), (ldr P)⟩, ⟨PyData.keyHash P (PySem.Str.ofString "__spec__"), (.str (PySem.Str.ofString "__spec__") 169), .none⟩, ⟨PyData.keyHash P (PySem.Str.ofString "__annotations__"), (.str (PySem.Str.ofString "__annotations__") 170), (.ref 6)⟩, ⟨PyData.keyHash P (PySem.Str.ofString "__builtins__"), (.str (PySem.Str.ofString "__builtins__") 171), (.ref 4)⟩, ⟨PyData.keyHash P (PySem.Str.ofString "__file__"), (.str (PySem.Str.ofString "__file__") 173), (.str (PySem.Str.ofString "/claim/cut.py") 172)⟩, ⟨PyData.keyHash P (PySem.Str.ofString "__cached__"), (.str (PySem.Str.ofString "__cached__") 174), .none⟩, ⟨PyData.keyHash P (PySem.Str.ofString "b1_set"), (.str (PySem.Str.ofString "b1_set") 248), (.ref 22)⟩, ⟨PyData.keyHash P (PySem.Str.ofString "in_table_b1"), (.str (PySem.Str.ofString "in_table_b1") 255), (.ref 32)⟩, ⟨PyData.keyHash P (PySem.Str.ofString "Int2AP"), (.str (PySem.Str.ofString "Int2AP") 267), (.ref 39)⟩, ⟨PyData.keyHash P (PySem.Str.ofString "_strcoll"), (.str (PySem.Str.ofString "_strcoll") 277), (.ref 46)⟩, ⟨PyData.keyHash P (PySem.Str.ofString "_netrclex"), (.str (PySem.Str.ofString "_netrclex") 337), (.ref 84)⟩, ⟨PyData.keyHash P (PySem.Str.ofString "_law_cells"), (.str (PySem.Str.ofString "_law_cells") 348), (.ref 95)⟩, ⟨PyData.keyHash P (PySem.Str.ofString "_law_sign"), (.str (PySem.Str.ofString "_law_sign") 358), (.ref 102)⟩, ⟨PyData.keyHash P (PySem.Str.ofString "_law_bared"), (.str (PySem.Str.ofString "_law_bared") 364), (.ref 107)⟩, ⟨PyData.keyHash P (PySem.Str.ofString "_law_order"), (.str (PySem.Str.ofString "_law_order") 373), (.ref 114)⟩, ⟨PyData.keyHash P (PySem.Str.ofString "_law_lines"), (.str (PySem.Str.ofString "_law_lines") 379), (.ref 119)⟩, ⟨PyData.keyHash P (PySem.Str.ofString "_law_turn"), (.str (PySem.Str.ofString "_law_turn") 385), (.ref 124)⟩, ⟨PyData.keyHash P (PySem.Str.ofString "_law_sets"), (.str (PySem.Str.ofString "_law_sets") 391), (.ref 129)⟩, ⟨PyData.keyHash P (PySem.Str.ofString "_law_won"), (.str (PySem.Str.ofString "_law_won") 397), (.ref 134)⟩, ⟨PyData.keyHash P (PySem.Str.ofString "law"), (.str (PySem.Str.ofString "law") 403), (.ref 139)⟩] : List _).toArray) 23), ([] : List _).toArray⟩) ::
  (nat_lit 6, ⟨(.type "dict"), none, (.dict (([] : List _).toArray) 0), ([] : List _).toArray⟩) ::
  (nat_lit 22, ⟨(.type "set"), none, (.set (([(65024, (.int 65024 205)), (65025, (.int 65025 206)), (65026, (.int 65026 207)), (65027, (.int 65027 208)), (65028, (.int 65028 209)), (65029, (.int 65029 210)), (6150, (.int 6150 191)), (65030, (.int 65030 211)), (65031, (.int 65031 212)), (65032, (.int 65032 213)), (65033, (.int 65033 214)), (6155, (.int 6155 192)), (6156, (.int 6156 193)), (6157, (.int 6157 194)), (8203, (.int 8203 195)), (8204, (.int 8204 196)), (8205, (.int 8205 197)), (65034, (.int 65034 215)), (65035, (.int 65035 216)), (65036, (.int 65036 217)), (65037, (.int 65037 218)), (65038, (.int 65038 219)), (65039, (.int 65039 220)), (173, (.int 173 189)), (847, (.int 847 190)), (8288, (.int 8288 198)), (65279, (.int 65279 199))] : List _).toArray) 29 ⟨127, (([0, 1, 2, 3, 4, 5, 6, 7, 8, 9, 10, 11, 12, 13, 14, 15, 16, 17, 18, 19, 20, 21, 22, 45, 79, 96, 127] : List _).toArray), (([] : List _).toArray), 0, !P.followText "set-order", 2, true⟩), ([] : List _).toArray⟩) ::
  (nat_lit 26, ⟨(.type "tuple"), none, (.seq (([] : List _).toArray) 0), ([] : List _).toArray⟩) ::
  (nat_lit 28, ⟨(.type "tuple"), none, (.seq (([(.str (PySem.Str.ofString "code") 252)] : List _).toArray) 0), ([] : List _).toArray⟩) ::
  (nat_lit 29, ⟨(.type "tuple"), none, (.seq (([] : List _).toArray) 0), ([] : List _).toArray⟩) ::
  (nat_lit 31, ⟨(.type "code"), none, (.fields (([(.str (PySem.Str.ofString "in_table_b1") 249), (.str (PySem.Str.ofString "in_table_b1") 250), (.str (PySem.Str.ofString "/claim/cut.py") 251), (.int 3 0), (.int 1 0), (.int 0 0), (.int 0 0), (.int 3 0), (.ref 26), (.bool true), (.int 181 0), (.ref 27), .none, (.ref 28), (.ref 29), (.ref 30), (.int 253 0), (.int 3 0), (.str (PySem.Str.ofString "/claim/cut.py") 254)] : List _).toArray)), ([] : List _).toArray⟩) ::
  (nat_lit 32, ⟨(.type "function"), none, (.func (fnTop 2 (.str (PySem.Str.ofString "cpy313.stringprep") 187) (.ref 31))), ([] : List _).toArray⟩) ::
  (nat_lit 33, ⟨(.type "tuple"), none, (.seq (([] : List _).toArray) 0), ([] : List _).toArray⟩) ::
  (nat_lit 35, ⟨(.type "tuple"), none, (.seq (([(.str (PySem.Str.ofString "num") 261), (.str (PySem.Str.ofString "val") 262), (.str (PySem.Str.ofString "AP") 263), (.str (PySem.Str.ofString "mod") 264)] : List _).toArray) 0), ([] : List _).toArray⟩) ::
  (nat_lit 36, ⟨(.type "tuple"), none, (.seq (([] : List _).toArray) 0), ([] : List _).toArray⟩) ::
  (nat_lit 38, ⟨(.type "code"), none, (.fields (([(.str (PySem.Str.ofString "Int2AP") 258), (.str (PySem.Str.ofString "Int2AP") 259), (.str (PySem.Str.ofString "/claim/cut.py") 260), (.int 6 0), (.int 1 0), (.int 0 0), (.int 0 0), (.int 3 0), (.ref 33), (.bool true), (.int 181 0), (.ref 34), .none, (.ref 35), (.ref 36), (.ref 37), (.int 265 0), (.int 6 0), (.str (PySem.Str.ofString "/claim/cut.py") 266)] : List _).toArray)), ([] : List _).toArray⟩) ::
  (nat_lit 39, ⟨(.type "function"), none, (.func (fnTop 4 (.str (PySem.Str.ofString "cpy313.imaplib") 256) (.ref 38))), ([] : List _).toArray⟩) ::
  (nat_lit 40, ⟨(.type "tuple"), none, (.seq (([] : List _).toArray) 0), ([] : List _).toArray⟩) ::
  (nat_lit 42, ⟨(.type "tuple"), none, (.seq (([(.str (PySem.Str.ofString "a") 273), (.str (PySem.Str.ofString "b") 274)] : List _).toArray) 0), ([] : List _).toArray⟩) ::
  (nat_lit 43, ⟨(.type "tuple"), none, (.seq (([] : List _).toArray) 0), ([] : List _).toArray⟩) ::
  (nat_lit 45, ⟨(.type "code"), none, (.fields (([(.str (PySem.Str.ofString "_strcoll") 270), (.str (PySem.Str.ofString "_strcoll") 271), (.str (PySem.Str.ofString "/claim/cut.py") 272), (.int 15 0), (.int 2 0), (.int 0 0), (.int 0 0), (.int 3 0), (.ref 40), (.bool true), (.int 181 0), (.ref 41), .none, (.ref 42), (.ref 43), (.ref 44), (.int 275 0), (.int 15 0), (.str (PySem.Str.ofString "/claim/cut.py") 276)] : List _).toArray)), ([] : List _).toArray⟩) ::
  (nat_lit 46, ⟨(.type "function"), none, (.func (fnTop 6 (.str (PySem.Str.ofString "cpy313.locale") 268) (.ref 45))), ([] : List _).toArray⟩) ::
  (nat_lit 54, ⟨(.type "tuple"), none, (.seq (([] : List _).toArray) 0), ([] : List _).toArray⟩) ::
  (nat_lit 56, ⟨(.type "tuple"), none, (.seq (([(.str (PySem.Str.ofString "self") 295), (.str (PySem.Str.ofString "fp") 296)] : List _).toArray) 0), ([] : List _).toArray⟩) ::
  (nat_lit 57, ⟨(.type "tuple"), none, (.seq (([] : List _).toArray) 0), ([] : List _).toArray⟩) ::
  (nat_lit 59, ⟨(.type "code"), none, (.fields (([(.str (PySem.Str.ofString "__init__") 292), (.str (PySem.Str.ofString "_netrclex.__init__") 293), (.str (PySem.Str.ofString "/claim/cut.py") 294), (.int 20 0), (.int 2 0), (.int 0 0), (.int 0 0), (.int 3 0), (.ref 54), (.bool true), (.int 181 0), (.ref 55), .none, (.ref 56), (.ref 57), (.ref 58), (.int 297 0), (.int 20 0), (.str (PySem.Str.ofString "/claim/cut.py") 298)] : List _).toArray)), ([] : List _).toArray⟩) ::
  (nat_lit 60, ⟨(.type "function"), none, (.func (fnCls 8 0 "_netrclex.__init__" (.str (PySem.Str.ofString "cpy313.netrc") 278) (.ref 59))), ([] : List _).toArray⟩) ::
  (nat_lit 61, ⟨(.type "tuple"), none, (.seq (([] : List _).toArray) 0), ([] : List _).toArray⟩) ::
  (nat_lit 63, ⟨(.type "tuple"), none, (.seq (([(.str (PySem.Str.ofString "self") 303), (.str (PySem.Str.ofString "ch") 304)] : List _).toArray) 0), ([] : List _).toArray⟩) ::
  (nat_lit 64, ⟨(.type "tuple"), none, (.seq (([] : List _).toArray) 0), ([] : List _).toArray⟩) ::
  (nat_lit 66, ⟨(.type "code"), none, (.fields (([(.str (PySem.Str.ofString "_read_char") 300), (.str (PySem.Str.ofString "_netrclex._read_char") 301), (.str (PySem.Str.ofString "/claim/cut.py") 302), (.int 26 0), (.int 1 0), (.int 0 0), (.int 0 0), (.int 3 0), (.ref 61), (.bool true), (.int 181 0), (.ref 62), .none, (.ref 63), (.ref 64), (.ref 65), (.int 305 0), (.int 26 0), (.str (PySem.Str.ofString "/claim/cut.py") 306)] : List _).toArray)), ([] : List _).toArray⟩) ::
  (nat_lit 67, ⟨(.type "function"), none, (.func (fnCls 8 1 "_netrclex._read_char" (.str (PySem.Str.ofString "cpy313.netrc") 278) (.ref 66))), ([] : List _).toArray⟩) ::
  (nat_lit 68, ⟨(.type "tuple"), none, (.seq (([] : List _).toArray) 0), ([] : List _).toArray⟩) ::
  (nat_lit 70, ⟨(.type "tuple"), none, (.seq (([(.str (PySem.Str.ofString "self") 311), (.str (PySem.Str.ofString "token") 312), (.str (PySem.Str.ofString "fiter") 313), (.str (PySem.Str.ofString "ch") 314)] : List _).toArray) 0), ([] : List _).toArray⟩) ::
  (nat_lit 71, ⟨(.type "tuple"), none, (.seq (([] : List _).toArray) 0), ([] : List _).toArray⟩) ::
  (nat_lit 73, ⟨(.type "code"), none, (.fields (([(.str (PySem.Str.ofString "get_token") 308), (.str (PySem.Str.ofString "_netrclex.get_token") 309), (.str (PySem.Str.ofString "/claim/cut.py") 310), (.int 32 0), (.int 1 0), (.int 0 0), (.int 0 0), (.int 3 0), (.ref 68), (.bool true), (.int 181 0), (.ref 69), .none, (.ref 70), (.ref 71), (.ref 72), (.int 315 0), (.int 32 0), (.str (PySem.Str.ofString "/claim/cut.py") 316)] : List _).toArray)), ([] : List _).toArray⟩) ::
  (nat_lit 74, ⟨(.type "function"), none, (.func (fnCls 8 2 "_netrclex.get_token" (.str (PySem.Str.ofString "cpy313.netrc") 278) (.ref 73))), ([] : List _).toArray⟩) ::
  (nat_lit 75, ⟨(.type "tuple"), none, (.seq (([] : List _).toArray) 0), ([] : List _).toArray⟩) ::
  (nat_lit 77, ⟨(.type "tuple"), none, (.seq (([(.str (PySem.Str.ofString "self") 321), (.str (PySem.Str.ofString "token") 322)] : List _).toArray) 0), ([] : List _).toArray⟩) ::
  (nat_lit 78, ⟨(.type "tuple"), none, (.seq (([] : List _).toArray) 0), ([] : List _).toArray⟩) ::
  (nat_lit 80, ⟨(.type "code"), none, (.fields (([(.str (PySem.Str.ofString "push_token") 318), (.str (PySem.Str.ofString "_netrclex.push_token") 319), (.str (PySem.Str.ofString "/claim/cut.py") 320), (.int 59 0), (.int 2 0), (.int 0 0), (.int 0 0), (.int 3 0), (.ref 75), (.bool true), (.int 181 0), (.ref 76), .none, (.ref 77), (.ref 78), (.ref 79), (.int 323 0), (.int 59 0), (.str (PySem.Str.ofString "/claim/cut.py") 324)] : List _).toArray)), ([] : List _).toArray⟩) ::
  (nat_lit 81, ⟨(.type "function"), none, (.func (fnCls 8 3 "_netrclex.push_token" (.str (PySem.Str.ofString "cpy313.netrc") 278) (.ref 80))), ([] : List _).toArray⟩) ::
  (nat_lit 82, ⟨(.type "tuple"), none, (.seq (([(.str (PySem.Str.ofString "instream") 326), (.str (PySem.Str.ofString "lineno") 327), (.str (PySem.Str.ofString "pushback") 328), (.str (PySem.Str.ofString "whitespace") 329)] : List _).toArray) 0), ([] : List _).toArray⟩) ::
  (nat_lit 83, ⟨(.type "dict"), none, (.dict (([⟨PyData.keyHash P (PySem.Str.ofString "__module__"), (.str (PySem.Str.ofString "__module__") 287), (.str (PySem.Str.ofString "cpy313.netrc") 278)⟩, ⟨PyData.keyHash P (PySem.Str.ofString "__firstlineno__"), (.str (PySem.Str.ofString "__firstlineno__") 291), (.int 18 290)⟩, ⟨PyData.keyHash P (PySem.Str.ofString "__init__"), (.str (PySem.Str.ofString "__init__") 299), (.ref 60)⟩, ⟨PyData.keyHash P (PySem.Str.ofString "_read_char"), (.str (PySem.Str.ofString "_read_char") 307), (.ref 67)⟩, ⟨PyData.keyHash P (PySem.Str.ofString "get_token"), (.str (PySem.Str.ofString "get_token") 317), (.ref 74)⟩, ⟨PyData.keyHash P (PySem.Str.ofString "push_token"), (.str (PySem.Str.ofString "push_token") 325), (.ref 81)⟩, ⟨PyData.keyHash P (PySem.Str.ofString "__static_attributes__"), (.str (PySem.Str.ofString "__static_attributes__") 330), (.ref 82)⟩, ⟨PyData.keyHash P (PySem.Str.ofString "__dict__"), (.str (PySem.Str.ofString "__dict__") 332), (.ref 85)⟩, ⟨PyData.keyHash P (PySem.Str.ofString "__weakref__"), (.str (PySem.Str.ofString "__weakref__") 334), (.ref 86)⟩, ⟨PyData.keyHash P (PySem.Str.ofString "__doc__"), (.str (PySem.Str.ofString "__doc__") 335), .none⟩] : List _).toArray) 4), ([] : List _).toArray⟩) ::
  (nat_lit 84, ⟨(.type "type"), none, (.cls ⟨(PySem.Str.ofString "_netrclex"), [(.type "object")], [(.ref 84), (.type "object")], 83, (PySem.Str.ofString "_netrclex"), true, [], [], false, none, false⟩), ([none, none, (some (.str (PySem.Str.ofString "_netrclex") 280)), (some (.str (PySem.Str.ofString "_netrclex") 288)), (some (.builtin "object.__new__")), (some (.bool true))] : List _).toArray⟩) ::
  (nat_lit 85, ⟨(.type "getset_descriptor"), none, (.fields (([(.str (PySem.Str.ofString "__dict__") 331), (.ref 84), (.builtin "function.__dict__"), (.builtin "function.__dict__#set")] : List _).toArray)), ([] : List _).toArray⟩) ::
  (nat_lit 86, ⟨(.type "getset_descriptor"), none, (.fields (([(.str (PySem.Str.ofString "__weakref__") 333), (.ref 84), (.builtin "ExceptionGroup.__weakref__"), .none] : List _).toArray)), ([] : List _).toArray⟩) ::
  (nat_lit 89, ⟨(.type "tuple"), none, (.seq (([] : List _).toArray) 0), ([] : List _).toArray⟩) ::
  (nat_lit 91, ⟨(.type "tuple"), none, (.seq (([(.str (PySem.Str.ofString "script") 343), (.str (PySem.Str.ofString "cells") 344), (.str (PySem.Str.ofString "k") 345)] : List _).toArray) 0), ([] : List _).toArray⟩) ::
  (nat_lit 92, ⟨(.type "tuple"), none, (.seq (([] : List _).toArray) 0), ([] : List _).toArray⟩) ::
  (nat_lit 94, ⟨(.type "code"), none, (.fields (([(.str (PySem.Str.ofString "_law_cells") 340), (.str (PySem.Str.ofString "_law_cells") 341), (.str (PySem.Str.ofString "/claim/cut.py") 342), (.int 62 0), (.int 1 0), (.int 0 0), (.int 0 0), (.int 3 0), (.ref 89), (.bool true), (.int 181 0), (.ref 90), .none, (.ref 91), (.ref 92), (.ref 93), (.int 346 0), (.int 62 0), (.str (PySem.Str.ofString "/claim/cut.py") 347)] : List _).toArray)), ([] : List _).toArray⟩) ::
  (nat_lit 95, ⟨(.type "function"), none, (.func (fnTop 10 (.str (PySem.Str.ofString "law_wo0009_01") 338) (.ref 94))), ([] : List _).toArray⟩) ::
  (nat_lit 96, ⟨(.type "tuple"), none, (.seq (([] : List _).toArray) 0), ([] : List _).toArray⟩) ::
  (nat_lit 98, ⟨(.type "tuple"), none, (.seq (([(.str (PySem.Str.ofString "seen") 352), (.str (PySem.Str.ofString "number") 353), (.str (PySem.Str.ofString "codes") 354), (.str (PySem.Str.ofString "place") 355)] : List _).toArray) 0), ([] : List _).toArray⟩) ::
  (nat_lit 99, ⟨(.type "tuple"), none, (.seq (([] : List _).toArray) 0), ([] : List _).toArray⟩) ::
  (nat_lit 101, ⟨(.type "code"), none, (.fields (([(.str (PySem.Str.ofString "_law_sign") 349), (.str (PySem.Str.ofString "_law_sign") 350), (.str (PySem.Str.ofString "/claim/cut.py") 351), (.int 67 0), (.int 2 0), (.int 0 0), (.int 0 0), (.int 3 0), (.ref 96), (.bool true), (.int 181 0), (.ref 97), .none, (.ref 98), (.ref 99), (.ref 100), (.int 356 0), (.int 67 0), (.str (PySem.Str.ofString "/claim/cut.py") 357)] : List _).toArray)), ([] : List _).toArray⟩) ::
  (nat_lit 102, ⟨(.type "function"), none, (.func (fnTop 11 (.str (PySem.Str.ofString "law_wo0009_01") 338) (.ref 101))), ([] : List _).toArray⟩) ::
  (nat_lit 103, ⟨(.type "tuple"), none, (.seq (([] : List _).toArray) 0), ([] : List _).toArray⟩) ::
  (nat_lit 106, ⟨(.type "code"), none, (.fields (([(.str (PySem.Str.ofString "_law_bared") 359), (.str (PySem.Str.ofString "_law_bared") 360), (.str (PySem.Str.ofString "/claim/cut.py") 361), (.int 74 0), (.int 1 0), (.int 0 0), (.int 0 0), (.int 3 0), (.ref 103), (.bool true), (.int 181 0), (.ref 104), .none, .none, .none, (.ref 105), (.int 362 0), (.int 74 0), (.str (PySem.Str.ofString "/claim/cut.py") 363)] : List _).toArray)), ([] : List _).toArray⟩) ::
  (nat_lit 107, ⟨(.type "function"), none, (.func (fnTop 12 (.str (PySem.Str.ofString "law_wo0009_01") 338) (.ref 106))), ([] : List _).toArray⟩) ::
  (nat_lit 108, ⟨(.type "tuple"), none, (.seq (([] : List _).toArray) 0), ([] : List _).toArray⟩) ::
  (nat_lit 110, ⟨(.type "tuple"), none, (.seq (([(.str (PySem.Str.ofString "number") 368), (.str (PySem.Str.ofString "left") 369), (.str (PySem.Str.ofString "order") 370)] : List _).toArray) 0), ([] : List _).toArray⟩) ::
  (nat_lit 111, ⟨(.type "tuple"), none, (.seq (([] : List _).toArray) 0), ([] : List _).toArray⟩) ::
  (nat_lit 113, ⟨(.type "code"), none, (.fields (([(.str (PySem.Str.ofString "_law_order") 365), (.str (PySem.Str.ofString "_law_order") 366), (.str (PySem.Str.ofString "/claim/cut.py") 367), (.int 76 0), (.int 1 0), (.int 0 0), (.int 0 0), (.int 3 0), (.ref 108), (.bool true), (.int 181 0), (.ref 109), .none, (.ref 110), (.ref 111), (.ref 112), (.int 371 0), (.int 76 0), (.str (PySem.Str.ofString "/claim/cut.py") 372)] : List _).toArray)), ([] : List _).toArray⟩) ::
  (nat_lit 114, ⟨(.type "function"), none, (.func (fnTop 13 (.str (PySem.Str.ofString "law_wo0009_01") 338) (.ref 113))), ([] : List _).toArray⟩) ::
  (nat_lit 115, ⟨(.type "tuple"), none, (.seq (([] : List _).toArray) 0), ([] : List _).toArray⟩) ::
  (nat_lit 118, ⟨(.type "code"), none, (.fields (([(.str (PySem.Str.ofString "_law_lines") 374), (.str (PySem.Str.ofString "_law_lines") 375), (.str (PySem.Str.ofString "/claim/cut.py") 376), (.int 82 0), (.int 3 0), (.int 0 0), (.int 0 0), (.int 3 0), (.ref 115), (.bool true), (.int 181 0), (.ref 116), .none, .none, .none, (.ref 117), (.int 377 0), (.int 82 0), (.str (PySem.Str.ofString "/claim/cut.py") 378)] : List _).toArray)), ([] : List _).toArray⟩) ::
  (nat_lit 119, ⟨(.type "function"), none, (.func (fnTop 14 (.str (PySem.Str.ofString "law_wo0009_01") 338) (.ref 118))), ([] : List _).toArray⟩) ::
  (nat_lit 120, ⟨(.type "tuple"), none, (.seq (([] : List _).toArray) 0), ([] : List _).toArray⟩) ::
  (nat_lit 123, ⟨(.type "code"), none, (.fields (([(.str (PySem.Str.ofString "_law_turn") 380), (.str (PySem.Str.ofString "_law_turn") 381), (.str (PySem.Str.ofString "/claim/cut.py") 382), (.int 99 0), (.int 5 0), (.int 0 0), (.int 0 0), (.int 3 0), (.ref 120), (.bool true), (.int 181 0), (.ref 121), .none, .none, .none, (.ref 122), (.int 383 0), (.int 99 0), (.str (PySem.Str.ofString "/claim/cut.py") 384)] : List _).toArray)), ([] : List _).toArray⟩) ::
  (nat_lit 124, ⟨(.type "function"), none, (.func (fnTop 15 (.str (PySem.Str.ofString "law_wo0009_01") 338) (.ref 123))), ([] : List _).toArray⟩) ::
  (nat_lit 125, ⟨(.type "tuple"), none, (.seq (([] : List _).toArray) 0), ([] : List _).toArray⟩) ::
  (nat_lit 128, ⟨(.type "code"), none, (.fields (([(.str (PySem.Str.ofString "_law_sets") 386), (.str (PySem.Str.ofString "_law_sets") 387), (.str (PySem.Str.ofString "/claim/cut.py") 388), (.int 117 0), (.int 2 0), (.int 0 0), (.int 0 0), (.int 3 0), (.ref 125), (.bool true), (.int 181 0), (.ref 126), .none, .none, .none, (.ref 127), (.int 389 0), (.int 117 0), (.str (PySem.Str.ofString "/claim/cut.py") 390)] : List _).toArray)), ([] : List _).toArray⟩) ::
  (nat_lit 129, ⟨(.type "function"), none, (.func (fnTop 16 (.str (PySem.Str.ofString "law_wo0009_01") 338) (.ref 128))), ([] : List _).toArray⟩) ::
  (nat_lit 130, ⟨(.type "tuple"), none, (.seq (([] : List _).toArray) 0), ([] : List _).toArray⟩) ::
  (nat_lit 133, ⟨(.type "code"), none, (.fields (([(.str (PySem.Str.ofString "_law_won") 392), (.str (PySem.Str.ofString "_law_won") 393), (.str (PySem.Str.ofString "/claim/cut.py") 394), (.int 131 0), (.int 2 0), (.int 0 0), (.int 0 0), (.int 3 0), (.ref 130), (.bool true), (.int 181 0), (.ref 131), .none, .none, .none, (.ref 132), (.int 395 0), (.int 131 0), (.str (PySem.Str.ofString "/claim/cut.py") 396)] : List _).toArray)), ([] : List _).toArray⟩) ::
  (nat_lit 134, ⟨(.type "function"), none, (.func (fnTop 17 (.str (PySem.Str.ofString "law_wo0009_01") 338) (.ref 133))), ([] : List _).toArray⟩) ::
  (nat_lit 135, ⟨(.type "tuple"), none, (.seq (([] : List _).toArray) 0), ([] : List _).toArray⟩) ::
  (nat_lit 138, ⟨(.type "code"), none, (.fields (([(.str (PySem.Str.ofString "law") 398), (.str (PySem.Str.ofString "law") 399), (.str (PySem.Str.ofString "/claim/cut.py") 400), (.int 142 0), (.int 1 0), (.int 0 0), (.int 0 0), (.int 3 0), (.ref 135), (.bool true), (.int 181 0), (.ref 136), .none, .none, .none, (.ref 137), (.int 401 0), (.int 142 0), (.str (PySem.Str.ofString "/claim/cut.py") 402)] : List _).toArray)), ([] : List _).toArray⟩) ::
  (nat_lit 139, ⟨(.type "function"), none, (.func (fnTop 18 (.str (PySem.Str.ofString "law_wo0009_01") 338) (.ref 138))), ([] : List _).toArray⟩) :: []
noncomputable def addrs : List Addr := nat_lit 2 :: nat_lit 3 :: nat_lit 6 :: nat_lit 22 :: nat_lit 26 :: nat_lit 28 :: nat_lit 29 :: nat_lit 31 :: nat_lit 32 :: nat_lit 33 :: nat_lit 35 :: nat_lit 36 :: nat_lit 38 :: nat_lit 39 :: nat_lit 40 :: nat_lit 42 :: nat_lit 43 :: nat_lit 45 :: nat_lit 46 :: nat_lit 54 :: nat_lit 56 :: nat_lit 57 :: nat_lit 59 :: nat_lit 60 :: nat_lit 61 :: nat_lit 63 :: nat_lit 64 :: nat_lit 66 :: nat_lit 67 :: nat_lit 68 :: nat_lit 70 :: nat_lit 71 :: nat_lit 73 :: nat_lit 74 :: nat_lit 75 :: nat_lit 77 :: nat_lit 78 :: nat_lit 80 :: nat_lit 81 :: nat_lit 82 :: nat_lit 83 :: nat_lit 84 :: nat_lit 85 :: nat_lit 86 :: nat_lit 89 :: nat_lit 91 :: nat_lit 92 :: nat_lit 94 :: nat_lit 95 :: nat_lit 96 :: nat_lit 98 :: nat_lit 99 :: nat_lit 101 :: nat_lit 102 :: nat_lit 103 :: nat_lit 106 :: nat_lit 107 :: nat_lit 108 :: nat_lit 110 :: nat_lit 111 :: nat_lit 113 :: nat_lit 114 :: nat_lit 115 :: nat_lit 118 :: nat_lit 119 :: nat_lit 120 :: nat_lit 123 :: nat_lit 124 :: nat_lit 125 :: nat_lit 128 :: nat_lit 129 :: nat_lit 130 :: nat_lit 133 :: nat_lit 134 :: nat_lit 135 :: nat_lit 138 :: nat_lit 139 :: []
end Mine
end

section
open PySem PySem.W PyProof.Rows
set_option linter.unusedVariables false
namespace Mine

/-! The pure state: values, objects; how the machine's heap bears them. -/
inductive GN where
  | len | range | chr | ord | abs | int | divmod | min | max | sum | sorted | isinstance | bytes | bool
  | b1set | inTable | int2ap | strcoll | lex | lexInit | getTok | pushTok
  | lawCells | lawSign | lawBared | lawOrder | lawLines | lawTurn | lawSets | lawWon | law
noncomputable def gval : GN → Value
  | .len => .builtin "len"
  | .range => .type "range"
  | .chr => .builtin "chr"
  | .ord => .builtin "ord"
  | .abs => .builtin "abs"
  | .int => .type "int"
  | .divmod => .builtin "divmod"
  | .min => .builtin "min"
  | .max => .builtin "max"
  | .sum => .builtin "sum"
  | .sorted => .builtin "sorted"
  | .isinstance => .builtin "isinstance"
  | .bytes => .type "bytes"
  | .bool => .type "bool"
  | .b1set => .ref 22
  | .inTable => .ref 32
  | .int2ap => .ref 39
  | .strcoll => .ref 46
  | .lex => .ref 84
  | .lexInit => .ref 60
  | .getTok => .ref 74
  | .pushTok => .ref 81
  | .lawCells => .ref 95
  | .lawSign => .ref 102
  | .lawBared => .ref 107
  | .lawOrder => .ref 114
  | .lawLines => .ref 119
  | .lawTurn => .ref 124
  | .lawSets => .ref 129
  | .lawWon => .ref 134
  | .law => .ref 139
inductive V where
  | none
  | bool (b : Bool)
  | int (i : Int)
  | str (x : List Nat)
  | byt (x : List UInt8)
  | ref (i : Nat)
  | g (u : Value)
  | fn (f : GN)
inductive O where
  | list (xs : List V)
  | tup (xs : List V)
  | rng (a c : Int) (n : Nat)
  | inst (j : Nat)
  | dct (fs : List (Str × V))

noncomputable def VR (ρ : List Addr) (u : Value) : V → Prop
  | .none => u = .none
  | .bool b => u = .bool b
  | .int i => ∃ t, u = .int i t
  | .str x => ∃ t, u = .str ⟨x.toArray⟩ t
  | .byt x => ∃ t, u = .bytes x.toArray t
  | .ref i => ∃ a, ρ[i]? = some a ∧ u = .ref a
  | .g v => u = v
  | .fn f => u = gval f
noncomputable def VRs (ρ : List Addr) : List Value → List V → Prop
  | [], [] => True
  | u :: us, v :: vs => VR ρ u v ∧ VRs ρ us vs
  | _, _ => False

theorem VR.mono {ρ t : List Addr} {u : Value} {v : V} (h : VR ρ u v) : VR (ρ ++ t) u v := by
  cases v with
  | ref i =>
    obtain ⟨a, ha, e⟩ := h
    refine ⟨a, ?_, e⟩
    rw [List.getElem?_append_left (by
      by_cases hi : i < ρ.length
      · exact hi
      · rw [List.getElem?_eq_none (Nat.le_of_not_lt hi)] at ha; cases ha)]
    exact ha
  | _ => exact h
theorem VRs.mono {ρ t : List Addr} : ∀ {us : List Value} {vs : List V}, VRs ρ us vs → VRs (ρ ++ t) us vs
  | [], [], _ => trivial
  | _ :: _, _ :: _, h => ⟨h.1.mono, VRs.mono h.2⟩
  | [], _ :: _, h => h.elim
  | _ :: _, [], h => h.elim
theorem VRs.length {ρ : List Addr} : ∀ {us : List Value} {vs : List V}, VRs ρ us vs → us.length = vs.length
  | [], [], _ => rfl
  | _ :: _, _ :: _, h => congrArg Nat.succ (VRs.length h.2)
  | [], _ :: _, h => h.elim
  | _ :: _, [], h => h.elim
theorem VRs.get {ρ : List Addr} : ∀ {us : List Value} {vs : List V} {i : Nat} {v : V}, VRs ρ us vs → vs[i]? = some v → ∃ u, us[i]? = some u ∧ VR ρ u v
  | u :: _, w :: _, 0, v, h, e => by cases e; exact ⟨u, rfl, h.1⟩
  | _ :: us, _ :: vs, i + 1, v, h, e => VRs.get (us := us) (vs := vs) (i := i) h.2 e
  | [], [], _, _, _, e => by simp at e
  | [], _ :: _, _, _, h, _ => h.elim
  | _ :: _, [], _, _, h, _ => h.elim
theorem VRs.append {ρ : List Addr} : ∀ {us us' : List Value} {vs vs' : List V}, VRs ρ us vs → VRs ρ us' vs' → VRs ρ (us ++ us') (vs ++ vs')
  | [], _, [], _, _, h => h
  | _ :: _, _, _ :: _, _, h, h' => ⟨h.1, VRs.append h.2 h'⟩
  | [], _, _ :: _, _, h, _ => h.elim
  | _ :: _, _, [], _, h, _ => h.elim
theorem VRs.take {ρ : List Addr} : ∀ {us : List Value} {vs : List V} (n : Nat), VRs ρ us vs → VRs ρ (us.take n) (vs.take n)
  | [], [], n, _ => by cases n <;> exact trivial
  | _ :: _, _ :: _, 0, _ => trivial
  | _ :: _, _ :: _, n + 1, h => ⟨h.1, VRs.take n h.2⟩
  | [], _ :: _, _, h => h.elim
  | _ :: _, [], _, h => h.elim
theorem VRs.eraseIdx {ρ : List Addr} : ∀ {us : List Value} {vs : List V} (n : Nat), VRs ρ us vs → VRs ρ (us.eraseIdx n) (vs.eraseIdx n)
  | [], [], n, _ => by cases n <;> exact trivial
  | _ :: _, _ :: _, 0, h => h.2
  | _ :: _, _ :: _, n + 1, h => ⟨h.1, VRs.eraseIdx n h.2⟩
  | [], _ :: _, _, h => h.elim
  | _ :: _, [], _, h => h.elim
theorem VRs.set {ρ : List Addr} {u : Value} {v : V} (x : VR ρ u v) : ∀ {us : List Value} {vs : List V} (n : Nat), VRs ρ us vs → VRs ρ (us.set n u) (vs.set n v)
  | [], [], n, _ => by cases n <;> exact trivial
  | _ :: _, _ :: _, 0, h => ⟨x, h.2⟩
  | _ :: _, _ :: _, n + 1, h => ⟨h.1, VRs.set x n h.2⟩
  | [], _ :: _, _, h => h.elim
  | _ :: _, [], _, h => h.elim

/-- the entries of an object's own dict -/
structure DctR (ρ : List Addr) (es : List DictEntry) (fs : List (Str × V)) : Prop where
  get : ∀ x v, fs.lookup x = some v → ∃ u, getL x es = some (some u) ∧ VR ρ u v
  no : ∀ x, fs.lookup x = none → getL x es = some none
  keys : es.any (·.refKey) = false
  len : es.length ≤ fs.length
theorem DctR.mono {ρ t : List Addr} {es : List DictEntry} {fs : List (Str × V)} (h : DctR ρ es fs) : DctR (ρ ++ t) es fs :=
  ⟨fun x v e => let ⟨u, h1, h2⟩ := h.get x v e; ⟨u, h1, h2.mono⟩, h.no, h.keys, h.len⟩

noncomputable def OR (ρ : List Addr) (h : Heap) (a : Addr) : O → Prop
  | .list xs => ∃ us : List Value, h.PlainList a us.toArray ∧ VRs ρ us xs
  | .tup xs => ∃ us : List Value, h.IsTuple a us.toArray ∧ VRs ρ us xs
  | .rng x c n => ∃ y t1 t2 t3, IsRange h a x y c t1 t2 t3 ∧ Builtin.Range.small x y c = true ∧ Builtin.Range.rangeSize x y c = (n : Int)
  | .inst j => ∃ d, ρ[j]? = some d ∧ h.get? a = some (instObj 84 d)
  | .dct fs => ∃ es n, h.get? a = some (dictOf es n) ∧ DctR ρ es fs

structure Rep (h₀ : Heap) (ρ : List Addr) (σ : List O) (h : Heap) : Prop where
  keep : ∀ b o, h₀.get? b = some o → h.get? b = some o
  len : ρ.length = σ.length
  nodup : ρ.Nodup
  fresh : ∀ a ∈ ρ, h₀.get? a = none
  objs : ∀ (i : Nat) a o, ρ[i]? = some a → σ[i]? = some o → OR ρ h a o

/-- What an expression may have done: objects of `ρ` may have turned, `t` is new. -/
structure Ext (ρ t : List Addr) (s s' : Shared) : Prop where
  same : ∃ h' tk, s' = { s with heap := h', toks := tk }
  keep : ∀ b o, b ∉ ρ → s.heap.get? b = some o → s'.heap.get? b = some o
  fresh : ∀ a ∈ t, s.heap.get? a = none
end Mine
end

section
open PySem PySem.W PyProof.Rows
set_option linter.unusedVariables false
namespace Mine

/-! The predicate transformer: what an expression, a block of statements, does to the pure state. -/
noncomputable abbrev Loc := List (Str × V)
noncomputable abbrev KV := V → List O → Prop
structure Ora where
  gl : Str → Option GN
  call : GN → List V → List O → KV → Prop
  scr : Value → Option (List V)

noncomputable def small (a : Int) : Prop := -4611686018427387904 < a ∧ a < 4611686018427387904
noncomputable def b1List : List Int := [65024, 65025, 65026, 65027, 65028, 65029, 6150, 65030, 65031, 65032, 65033, 6155, 6156, 6157, 8203, 8204, 8205, 65034, 65035, 65036, 65037, 65038, 65039, 173, 847, 8288, 65279]
noncomputable def b1 (n : Int) : Bool := b1List.contains n

noncomputable def binop (op : Operator) (v u : V) (σ : List O) (K : KV) : Prop :=
  match op, v, u with
  | .Add, .int a, .int b => K (.int (a + b)) σ
  | .Sub, .int a, .int b => K (.int (a - b)) σ
  | .Mult, .int a, .int b => a.natAbs < 4611686018427387904 ∧ K (.int (a * b)) σ
  | .FloorDiv, .int a, .int b => (b ≠ 0 ∧ b.natAbs < 1073741824) ∧ K (.int (a.fdiv b)) σ
  | .Mod, .int a, .int b => b ≠ 0 ∧ K (.int (a.fmod b)) σ
  | .Pow, .int a, .int b => (a = 2 ∧ 0 ≤ b ∧ b ≤ 300) ∧ K (.int (2 ^ b.toNat)) σ
  | .BitAnd, .int a, .int b => K (.int (Builtin.bitAnd a b)) σ
  | .BitOr, .int a, .int b => K (.int (Builtin.bitOr a b)) σ
  | .Add, .str x, .str y => x.length + y.length ≤ 1000 ∧ K (.str (x ++ y)) σ
  | .Add, .byt x, .byt y => x.length + y.length ≤ 1000 ∧ K (.byt (x ++ y)) σ
  | .Sub, .bool a, .bool b => K (.int ((if a then 1 else 0) - (if b then 1 else 0))) σ
  | .Add, .ref i, .ref j => match σ[i]?, σ[j]? with
    | some (.list xs), some (.list ys) => xs.length + ys.length ≤ 1000 ∧ K (.ref σ.length) (σ ++ [.list (xs ++ ys)])
    | _, _ => False
  | _, _, _ => False
noncomputable def inop (op : Operator) (v u : V) (K : V → Prop) : Prop :=
  match op, v, u with
  | .Add, .int a, .int b => K (.int (a + b))
  | .Add, .str x, .str y => x.length + y.length ≤ 1000 ∧ K (.str (x ++ y))
  | _, _, _ => False

/-- the machine's data behind a value: ints, strs, lists of them -/
noncomputable def dat : Nat → List O → V → Option PyData
  | _, _, .int i => some (.int i)
  | _, _, .str x => some (.str ⟨x.toArray⟩)
  | n + 1, σ, .ref i => match σ[i]? with
    | some (.list xs) => (xs.mapM (dat n σ)).map .list
    | _ => none
  | _, _, _ => none

noncomputable def cmpop (op : CmpOp) (v u : V) (σ : List O) (K : KV) : Prop :=
  match op, v, u with
  | .Eq, .int a, .int b => K (.bool (a == b)) σ
  | .NotEq, .int a, .int b => K (.bool (a != b)) σ
  | .Lt, .int a, .int b => K (.bool (decide (a < b))) σ
  | .Gt, .int a, .int b => K (.bool (decide (a > b))) σ
  | .Lt, .str x, .str y => K (.bool (decide (x < y))) σ
  | .Gt, .str x, .str y => K (.bool (decide (y < x))) σ
  | .NotIn, .str [c], .str y => K (.bool (!(y.contains c))) σ
  | .NotIn, .int a, .ref i => match σ[i]? with
    | some (.list xs) => ∃ ns : List Int, xs = ns.map V.int ∧ K (.bool (!(ns.contains a))) σ
    | _ => False
  | .In, .int a, .fn .b1set => K (.bool (b1 a)) σ
  | .Is, .bool a, .bool b => K (.bool (a == b)) σ
  | .IsNot, .bool a, .bool b => K (.bool (a != b)) σ
  | .IsNot, .none, .none => K (.bool false) σ
  | .Eq, .ref i, .ref j => ∃ d e, dat 3 σ (.ref i) = some d ∧ dat 3 σ (.ref j) = some e ∧ (SeqAt.shaped d = true ∧ SeqAt.shaped e = true) ∧ K (.bool (PyData.eqv d e)) σ
  | .NotEq, .ref i, .ref j => ∃ d e, dat 3 σ (.ref i) = some d ∧ dat 3 σ (.ref j) = some e ∧ (SeqAt.shaped d = true ∧ SeqAt.shaped e = true) ∧ K (.bool (!PyData.eqv d e)) σ
  | _, _, _ => False

noncomputable def truthyV (v : V) (σ : List O) (K : Bool → Prop) : Prop :=
  match v with
  | .bool b => K b
  | .int i => K (i != 0)
  | .ref i => match σ[i]? with
    | some (.list xs) => xs.length ≤ 1000000 ∧ K (!xs.isEmpty)
    | _ => False
  | _ => False

noncomputable def listOfV (G : Ora) (v : V) (σ : List O) : Option (List V) :=
  match v with
  | .ref i => match σ[i]? with
    | some (.list xs) => some xs
    | _ => none
  | .g u => G.scr u
  | _ => none

noncomputable def getItemV (G : Ora) (v u : V) (σ : List O) (K : KV) : Prop :=
  match v, u with
  | .str x, .int k => (0 ≤ k ∧ k.toNat < x.length ∧ x.length ≤ 1000) ∧ ∀ c, x[k.toNat]? = some c → K (.str [c]) σ
  | .byt x, .int k => (0 ≤ k ∧ k.toNat < x.length ∧ x.length ≤ 1000) ∧ ∀ c, x[k.toNat]? = some c → K (.int c.toNat) σ
  | v, .int k => match listOfV G v σ with
    | some xs => (0 ≤ k ∧ k < 4611686018427387904 ∧ k.toNat < xs.length) ∧ ∀ w, xs[k.toNat]? = some w → K w σ
    | none => False
  | _, _ => False

noncomputable def cut {α : Type} (lo hi : Option Int) (x : List α) : List α := (x.take ((hi.map Int.toNat).getD x.length)).drop ((lo.map Int.toNat).getD 0)
noncomputable def cutArg : V → Option (Option Int)
  | .none => some none
  | .int k => some (some k)
  | _ => none
noncomputable def cutFits (o : Option Int) : Prop := match o with
  | some k => 0 ≤ k ∧ k < 4611686018427387904
  | none => True
noncomputable def sliceV (v lo hi : V) (σ : List O) (K : KV) : Prop :=
  match v, cutArg lo, cutArg hi with
  | .str x, some lo, some hi => (x.length ≤ 1000 ∧ cutFits lo ∧ cutFits hi) ∧ K (.str (cut lo hi x)) σ
  | .byt x, some lo, some hi => (x.length ≤ 1000 ∧ cutFits lo ∧ cutFits hi) ∧ K (.byt (cut lo hi x)) σ
  | .ref i, some lo, some hi => match σ[i]? with
    | some (.list xs) => (xs.length ≤ 1000 ∧ cutFits lo ∧ cutFits hi) ∧ K (.ref σ.length) (σ ++ [.list (cut lo hi xs)])
    | _ => False
  | _, _, _ => False

noncomputable def constV : Const → Option V
  | .none => some .none
  | .bool b => some (.bool b)
  | .int i => some (.int i)
  | .str s => some (.str s.cps.toList)
  | .bytes b => some (.byt b)
  | _ => none

noncomputable def noStar : List Expr → Bool
  | [] => true
  | .Starred .. :: _ => false
  | _ :: r => noStar r
noncomputable def evs (f : Expr → List O → KV → Prop) : List Expr → List O → (List V → List O → Prop) → Prop
  | [], σ, K => K [] σ
  | e :: r, σ, K => f e σ fun v σ => evs f r σ fun vs σ => K (v :: vs) σ
noncomputable def asB (K : Bool → List O → Prop) : KV := fun v σ => match v with
  | .bool b => K b σ
  | _ => False
noncomputable def boolGo (op : BoolOp) (f : Expr → List O → KV → Prop) : List Expr → List O → KV → Prop
  | [], σ, K => K (.bool (op == .And)) σ
  | e :: r, σ, K => f e σ (asB fun b σ => match op with
    | .And => (b = true → boolGo op f r σ K) ∧ (b = false → K (.bool false) σ)
    | .Or => (b = true → K (.bool true) σ) ∧ (b = false → boolGo op f r σ K))

noncomputable def items? : V → List O → Option (Option Nat × List V)
  | .ref i, σ => match σ[i]? with
    | some (.list xs) => some (some i, xs)
    | some (.rng a c n) => some (none, (List.range n).map fun k : Nat => V.int (a + (k : Int) * c))
    | _ => none
  | .str x, _ => some (none, x.map fun c => V.str [c])
  | .byt x, _ => some (none, x.map fun c => V.int c.toNat)
  | _, _ => none
noncomputable def srcOk (src : Option Nat) (xs : List V) (σ : List O) : Prop := match src with
  | some i => σ[i]? = some (.list xs)
  | none => True
noncomputable def iterGo (ok : List O → Prop) (f : V → List V → List O → (List V → List O → Prop) → Prop) : List V → List V → List O → (List V → List O → Prop) → Prop
  | [], acc, σ, K => ok σ ∧ K acc σ
  | v :: r, acc, σ, K => ok σ ∧ f v acc σ fun acc σ => iterGo ok f r acc σ K

inductive MK where
  | append
  | pop
  | get
  | push
  | join
noncomputable def mkOf (name : Str) : Option MK := match name == ("append" : Str) with
  | true => some .append
  | false => match name == ("pop" : Str) with
    | true => some .pop
    | false => match name == ("get_token" : Str) with
      | true => some .get
      | false => match name == ("push_token" : Str) with
        | true => some .push
        | false => match name == ("join" : Str) with
          | true => some .join
          | false => none
noncomputable def methOk (ov : V) (name : Str) (σ : List O) : Prop :=
  match mkOf name, ov with
  | some .append, .ref i => match σ[i]? with
    | some (.list _) => True
    | _ => False
  | some .pop, .ref i => match σ[i]? with
    | some (.list _) => True
    | _ => False
  | some .get, .ref i => match σ[i]? with
    | some (.inst j) => match σ[j]? with
      | some (.dct fs) => fs.lookup ("get_token" : Str) = none
      | _ => False
    | _ => False
  | some .push, .ref i => match σ[i]? with
    | some (.inst j) => match σ[j]? with
      | some (.dct fs) => fs.lookup ("push_token" : Str) = none
      | _ => False
    | _ => False
  | some .join, .str [] => True
  | _, _ => False
noncomputable def methV (G : Ora) (ov : V) (name : Str) (vs : List V) (σ : List O) (K : KV) : Prop :=
  match mkOf name, ov, vs with
  | some .append, .ref i, [v] => match σ[i]? with
    | some (.list xs) => xs.length ≤ 1000000 ∧ K .none (σ.set i (.list (xs ++ [v])))
    | _ => False
  | some .pop, .ref i, [.int k] => match σ[i]? with
    | some (.list xs) => (0 ≤ k ∧ k < 4611686018427387904 ∧ k.toNat < xs.length ∧ xs.length ≤ 1000000) ∧ ∀ v, xs[k.toNat]? = some v → K v (σ.set i (.list (xs.eraseIdx k.toNat)))
    | _ => False
  | some .get, .ref i, vs => G.call .getTok (.ref i :: vs) σ K
  | some .push, .ref i, vs => G.call .pushTok (.ref i :: vs) σ K
  | some .join, .str [], [.ref i] => match σ[i]? with
    | some (.list xs) => ∃ ss : List (List Nat), xs = ss.map V.str ∧ ss.flatten.length ≤ 1000 ∧ K (.str ss.flatten) σ
    | _ => False
  | _, _, _ => False

noncomputable def relabS (scope sc : Scope) : Scope :=
  { scope with names := scope.names.map fun (n, k) => if (k == .free && sc.kind == .function && sc.names.lookup n == some .cell) then (n, .cell) else (n, k) }
/-- the comprehension's block: one name of its own, every captured name is known here -/
noncomputable def compOk (scope sc : Scope) (x : Str) (l : Loc) : Bool :=
  scope.kind == .function && (scope.names.lookup x == some .local || scope.names.lookup x == some .cell) && (scope.names.all fun (n, k) =>
    (k != .cell || (scope.names.lookup n == some .cell && n == x)) && (k != .local || (scope.names.lookup n == some .local && (n == x || (l.lookup n).isNone))) && (k != .free || ((l.lookup n).isSome && sc.names.lookup n == some .cell && n != x)))
noncomputable def baseOk : Expr → Bool
  | .Name .. | .Constant .. | .Subscript .. | .Attribute .. => true
  | _ => false
noncomputable def plainTest : Expr → Bool
  | .Name .. | .BinOp .. | .Call .. | .Attribute .. => true
  | _ => false

noncomputable def wpX (G : Ora) : Nat → Bool → Scope → Loc → Expr → List O → KV → Prop
  | 0, _, _, _, _, _, _ => False
  | n + 1, true, sc, l, e, σ, K => (match e with
    | .UnaryOp .Not x _ => wpX G n true sc l x σ (asB fun b σ => K (.bool (!b)) σ)
    | .BoolOp op es _ => boolGo op (wpX G n true sc l) es σ K
    | .Compare a [op] [b] _ => match behindInMarks op b with
      | true => False
      | false => wpX G n false sc l a σ fun v σ => wpX G n false sc l b σ fun u σ => cmpop op v u σ (asB fun b σ => K (.bool b) σ)
    | e => match plainTest e with
      | true => wpX G n false sc l e σ fun v σ => truthyV v σ fun b => K (.bool b) σ
      | false => False)
  | n + 1, false, sc, l, e, σ, K => (match e with
    | .Constant c _ _ => match constV c with
      | some v => K v σ
      | none => False
    | .Name x _ => match x == ("__debug__" : Str), sc.names.lookup x with
      | false, some .local | false, some .cell => match l.lookup x with
        | some v => K v σ
        | none => False
      | false, some .globalImplicit => match G.gl x with
        | some u => K (.fn u) σ
        | none => False
      | _, _ => False
    | .BinOp a op b _ => wpX G n false sc l a σ fun v σ => wpX G n false sc l b σ fun u σ => binop op v u σ K
    | .UnaryOp .USub a _ => wpX G n false sc l a σ fun v σ => match v with
      | .int i => K (.int (-i)) σ
      | _ => False
    | .Compare a [op] [b] _ => match behindInMarks op b with
      | true => False
      | false => wpX G n false sc l a σ fun v σ => wpX G n false sc l b σ fun u σ => cmpop op v u σ K
    | .IfExp t a b _ => wpX G n true sc l t σ (asB fun c σ => (c = true → wpX G n false sc l a σ K) ∧ (c = false → wpX G n false sc l b σ K))
    | .List es _ => match noStar es with
      | true => evs (wpX G n false sc l) es σ fun vs σ => vs.length ≤ 1000 ∧ K (.ref σ.length) (σ ++ [.list vs])
      | false => False
    | .Tuple es _ _ => match noStar es with
      | true => evs (wpX G n false sc l) es σ fun vs σ => vs.length ≤ 1000 ∧ K (.ref σ.length) (σ ++ [.tup vs])
      | false => False
    | .Subscript a (.Slice lo hi none _) _ => wpX G n false sc l a σ fun v σ =>
        (match lo with | some e => wpX G n false sc l e σ | none => fun K => K .none σ) fun lo σ =>
        (match hi with | some e => wpX G n false sc l e σ | none => fun K => K .none σ) fun hi σ => sliceV v lo hi σ K
    | .Subscript a i _ => wpX G n false sc l a σ fun v σ => wpX G n false sc l i σ fun u σ => getItemV G v u σ K
    | .Attribute (.Name x p) name _ => wpX G n false sc l (.Name x p) σ fun v σ => match v with
      | .ref i => match σ[i]?, name == ("pushback" : Str) with
        | some (.inst j), true => match σ[j]? with
          | some (.dct fs) => match fs.lookup ("pushback" : Str) with
            | some (.ref p) => K (.ref p) σ
            | _ => False
          | _ => False
        | _, _ => False
      | _ => False
    | .Call (.Attribute o name apos) args [] pos => match baseOk o && apos.endLine == pos.line && noStar args && decide (args.length < 5) with
      | true => wpX G n false sc l o σ fun ov σ => methOk ov name σ ∧ evs (wpX G n false sc l) args σ fun vs σ => methV G ov name vs σ K
      | false => False
    | .Call (.Name f p) args [] pos => match noStar args && decide (args.length < 8) with
      | true => wpX G n false sc l (.Name f p) σ fun fv σ => evs (wpX G n false sc l) args σ fun vs σ => match fv with
        | .fn u => G.call u vs σ K
        | _ => False
      | false => False
    | .ListComp elt [⟨.Name x _, iter, ifs, 0⟩] scope _ => match compOk scope sc x l with
      | true => wpX G n false sc l iter σ fun v σ => match items? v σ with
        | some (src, xs) => xs.length ≤ 1000000 ∧ iterGo (srcOk src xs) (fun v acc σ K => match ifs with
          | [] => wpX G n false (relabS scope sc) ((x, v) :: l) elt σ fun u σ => K (acc ++ [u]) σ
          | [c] => wpX G n true (relabS scope sc) ((x, v) :: l) c σ (asB fun b σ => (b = true → wpX G n false (relabS scope sc) ((x, v) :: l) elt σ fun u σ => K (acc ++ [u]) σ) ∧ (b = false → K acc σ))
          | _ => False) xs [] σ fun acc σ => K (.ref σ.length) (σ ++ [.list acc])
        | none => False
      | false => False
    | _ => False)

inductive Fl where
  | next
  | ret (v : V)
noncomputable abbrev KS := Fl → Loc → List O → Prop
noncomputable def put (x : Str) (v : V) : Loc → Loc
  | [] => [(x, v)]
  | (y, u) :: r => match x == y with
    | true => (x, v) :: r
    | false => (y, u) :: put x v r
noncomputable def thenS (rest : Loc → List O → KS → Prop) (K : KS) : KS := fun fl l σ => match fl with
  | .next => rest l σ K
  | .ret v => K (.ret v) l σ
noncomputable def forGo (ok : List O → Prop) (B : Loc → List O → KS → Prop) (x : Str) : List V → Loc → List O → KS → Prop
  | [], l, σ, K => ok σ ∧ K .next l σ
  | v :: r, l, σ, K => ok σ ∧ B (put x v l) σ (thenS (fun l σ K => forGo ok B x r l σ K) K)
noncomputable def whileGo (T : Loc → List O → (Bool → List O → Prop) → Prop) (B : Loc → List O → KS → Prop) : Nat → Loc → List O → KS → Prop
  | 0, _, _, _ => False
  | m + 1, l, σ, K => T l σ fun b σ => (b = true → B l σ (thenS (whileGo T B m) K)) ∧ (b = false → K .next l σ)
noncomputable def stores (sc : Scope) (x : Str) : Bool := sc.names.lookup x == some .local || sc.names.lookup x == some .cell
noncomputable def isCall : Expr → Bool
  | .Call .. => true
  | _ => false

/-- a display of constants alone: the order of the stores is the machine's -/
noncomputable def swapOk : Expr → Bool
  | .Tuple vs _ _ => !(vs.all (constantsAlone 8))
  | _ => true
noncomputable def attrName (x : Str) : Bool := x == ("lineno" : Str) || x == ("instream" : Str) || x == ("whitespace" : Str) || x == ("pushback" : Str)
noncomputable def isSlice : Expr → Bool
  | .Slice .. => true
  | _ => false
noncomputable def setItemV (v u w : V) (σ : List O) (K : List O → Prop) : Prop :=
  match v, u with
  | .ref i, .int k => match σ[i]? with
    | some (.list xs) => (0 ≤ k ∧ k < 4611686018427387904 ∧ k.toNat < xs.length) ∧ K (σ.set i (.list (xs.set k.toNat w)))
    | _ => False
  | _, _ => False

noncomputable def wpS (G : Ora) : Nat → Scope → Loc → List Stmt → List O → KS → Prop
  | 0, _, _, _, _, _ => False
  | n + 1, sc, l, [], σ, K => K .next l σ
  | n + 1, sc, l, st :: rest, σ, K =>
    let C : KS := thenS (fun l σ K => wpS G n sc l rest σ K) K
    (match st with
    | .Assign [.Name x _] value _ => match stores sc x with
      | true => wpX G 30 false sc l value σ fun v σ => C .next (put x v l) σ
      | false => False
    | .Assign [.Tuple [.Name x _, .Name y _] _ _] value _ => match stores sc x && stores sc y && x != y && swapOk value with
      | true => wpX G 30 false sc l value σ fun v σ => match v with
        | .ref i => match σ[i]? with
          | some (.tup [a, b]) => C .next (put y b (put x a l)) σ
          | _ => False
        | _ => False
      | false => False
    | .Assign [.Attribute (.Name x p) name _] value _ => wpX G 30 false sc l value σ fun v σ => wpX G 30 false sc l (.Name x p) σ fun ov σ => match ov with
      | .ref i => match σ[i]? with
        | some (.inst j) => match σ[j]?, attrName name with
          | some (.dct fs), true => fs.length ≤ 10 ∧ C .next l (σ.set j (.dct (put name v fs)))
          | _, _ => False
        | _ => False
      | _ => False
    | .AugAssign (.Name x _) op value _ => match stores sc x, l.lookup x with
      | true, some old => wpX G 30 false sc l value σ fun v σ => inop op old v fun r => C .next (put x r l) σ
      | _, _ => False
    | .AugAssign (.Subscript o i _) op value _ => isSlice i = false ∧ wpX G 30 false sc l o σ fun ov σ => wpX G 30 false sc l i σ fun iv σ => getItemV G ov iv σ fun old σ =>
        wpX G 30 false sc l value σ fun v σ => inop op old v fun new => setItemV ov iv new σ fun σ => C .next l σ
    | .Expr e _ => match isCall e with
      | true => wpX G 30 false sc l e σ fun _ σ => C .next l σ
      | false => False
    | .Return (some e) _ => wpX G 30 false sc l e σ fun v σ => C (.ret v) l σ
    | .If t b o _ => wpX G 30 true sc l t σ (asB fun c σ => (c = true → wpS G n sc l b σ C) ∧ (c = false → wpS G n sc l o σ C))
    | .For (.Name x _) iter body [] _ => match stores sc x with
      | true => wpX G 30 false sc l iter σ fun v σ => match items? v σ with
        | some (src, xs) => forGo (srcOk src xs) (fun l σ K => wpS G n sc l body σ K) x xs l σ C
        | none => False
      | false => False
    | .While t body [] _ => whileGo (fun l σ K => wpX G 30 true sc l t σ (asB K)) (fun l σ K => wpS G n sc l body σ K) 8 l σ C
    | _ => False)
end Mine
end

section
open PySem PySem.W PyProof.Rows
set_option linter.unusedVariables false
namespace Mine

theorem Ext.refl {ρ : List Addr} {s : Shared} : Ext ρ [] s s := ⟨⟨s.heap, s.toks, rfl⟩, fun _ _ _ e => e, fun _ h => nomatch h⟩
theorem Ext.tok {ρ : List Addr} {s : Shared} (k : Nat) : Ext ρ [] s { s with toks := k } := ⟨⟨s.heap, k, rfl⟩, fun _ _ _ e => e, fun _ h => nomatch h⟩
theorem Ext.keeps {ρ : List Addr} {s : Shared} {h' : Heap} {k : Nat} (hk : ∀ b o, s.heap.get? b = some o → h'.get? b = some o) : Ext ρ [] s { s with heap := h', toks := k } :=
  ⟨⟨h', k, rfl⟩, fun b o _ e => hk b o e, fun _ h => nomatch h⟩

theorem OR.alive {ρ : List Addr} {h : Heap} {a : Addr} {o : O} (x : OR ρ h a o) : ∃ ob, h.get? a = some ob := by
  cases o with
  | list xs => obtain ⟨us, ⟨ob, e⟩, _⟩ := x; exact ⟨_, e⟩
  | tup xs => obtain ⟨us, ⟨ob, e, _⟩, _⟩ := x; exact ⟨ob, e⟩
  | rng a c n => obtain ⟨_, _, _, _, e, _⟩ := x; exact ⟨_, e⟩
  | inst j => obtain ⟨_, _, e⟩ := x; exact ⟨_, e⟩
  | dct p => obtain ⟨_, _, e, _⟩ := x; exact ⟨_, e⟩

section
variable {h₀ : Heap} {ρ : List Addr} {σ : List O} {h : Heap}
theorem Rep.lt (R : Rep h₀ ρ σ h) {i : Nat} {a : Addr} (e : ρ[i]? = some a) : i < σ.length := by
  rw [← R.len]
  by_cases hi : i < ρ.length
  · exact hi
  · rw [List.getElem?_eq_none (Nat.le_of_not_lt hi)] at e; cases e
theorem Rep.alive (R : Rep h₀ ρ σ h) {a : Addr} (ha : a ∈ ρ) : ∃ o, h.get? a = some o := by
  obtain ⟨i, hi, e⟩ := List.getElem_of_mem ha
  have e1 : ρ[i]? = some a := by rw [List.getElem?_eq_getElem hi, e]
  have hs := R.lt e1
  exact (R.objs i a _ e1 (List.getElem?_eq_getElem hs)).alive
theorem Rep.addr (R : Rep h₀ ρ σ h) {i : Nat} {o : O} (e : σ[i]? = some o) : ∃ a, ρ[i]? = some a ∧ OR ρ h a o := by
  have hi : i < ρ.length := by
    rw [R.len]
    by_cases hi : i < σ.length
    · exact hi
    · rw [List.getElem?_eq_none (Nat.le_of_not_lt hi)] at e; cases e
  exact ⟨ρ[i], List.getElem?_eq_getElem hi, R.objs i _ o (List.getElem?_eq_getElem hi) e⟩
theorem Rep.at_ (R : Rep h₀ ρ σ h) {i : Nat} {o : O} {u : Value} (e : σ[i]? = some o) (v : VR ρ u (.ref i)) : ∃ a, ρ[i]? = some a ∧ u = .ref a ∧ OR ρ h a o := by
  obtain ⟨a, ha, hu⟩ := v
  exact ⟨a, ha, hu, R.objs i a o ha e⟩

theorem OR.grow {h' : Heap} {t : List Addr} {a : Addr} {o : O} (hk : ∀ b ob, h.get? b = some ob → h'.get? b = some ob) (x : OR ρ h a o) : OR (ρ ++ t) h' a o := by
  cases o with
  | list xs => obtain ⟨us, ⟨ob, e⟩, v⟩ := x; exact ⟨us, ⟨ob, hk _ _ e⟩, v.mono⟩
  | tup xs => obtain ⟨us, ⟨ob, e, r⟩, v⟩ := x; exact ⟨us, ⟨ob, hk _ _ e, r⟩, v.mono⟩
  | rng a c n => obtain ⟨y, t1, t2, t3, e, r⟩ := x; exact ⟨y, t1, t2, t3, hk _ _ e, r⟩
  | inst j =>
    obtain ⟨d, e1, e2⟩ := x
    refine ⟨d, ?_, hk _ _ e2⟩
    rw [List.getElem?_append_left (by
      by_cases hi : j < ρ.length
      · exact hi
      · rw [List.getElem?_eq_none (Nat.le_of_not_lt hi)] at e1; cases e1)]
    exact e1
  | dct p => obtain ⟨es, n, e1, e2⟩ := x; exact ⟨es, n, hk _ _ e1, e2.mono⟩
theorem Rep.grow {h' : Heap} (R : Rep h₀ ρ σ h) (hk : ∀ b ob, h.get? b = some ob → h'.get? b = some ob) : Rep h₀ ρ σ h' :=
  ⟨fun b o e => hk _ _ (R.keep b o e), R.len, R.nodup, R.fresh, fun i a o e1 e2 => by
    have := OR.grow (t := []) hk (R.objs i a o e1 e2)
    rwa [List.append_nil] at this⟩
theorem none_of_size (h : Heap) : h.get? h.objs.size = none := by
  cases e : h.get? h.objs.size with
  | none => rfl
  | some o => exact absurd (Heap.lt_size e) (Nat.lt_irrefl _)
/-- a new object at `a`, which nothing held -/
theorem Rep.add {h' : Heap} {a : Addr} {o : O} (R : Rep h₀ ρ σ h) (hk : ∀ b ob, h.get? b = some ob → h'.get? b = some ob) (ha : h.get? a = none) (x : OR (ρ ++ [a]) h' a o) : Rep h₀ (ρ ++ [a]) (σ ++ [o]) h' := by
  have ha' : a ∉ ρ := fun m => by obtain ⟨ob, e⟩ := R.alive m; rw [ha] at e; cases e
  refine ⟨fun b o e => hk _ _ (R.keep b o e), by simp [R.len], ?_, fun b hb => ?_, fun i b ob e1 e2 => ?_⟩
  · rw [List.nodup_append]
    refine ⟨R.nodup, by simp, fun x hx y hy e => ?_⟩
    rw [List.mem_singleton] at hy
    exact ha' (hy ▸ e ▸ hx)
  · rcases List.mem_append.mp hb with hb | hb
    · exact R.fresh b hb
    · rw [List.mem_singleton] at hb
      subst hb
      cases e : h₀.get? b with
      | none => rfl
      | some ob => have := R.keep _ _ e; rw [ha] at this; cases this
  · by_cases hi : i < ρ.length
    · rw [List.getElem?_append_left hi] at e1
      rw [List.getElem?_append_left (by rw [← R.len]; exact hi)] at e2
      exact OR.grow hk (R.objs i b ob e1 e2)
    · rw [List.getElem?_append_right (Nat.le_of_not_lt hi)] at e1
      rw [List.getElem?_append_right (by rw [← R.len]; exact Nat.le_of_not_lt hi), ← R.len] at e2
      cases hz : i - ρ.length with
      | zero => rw [hz] at e1 e2; cases e1; cases e2; exact x
      | succ k => rw [hz] at e1; simp at e1
theorem Rep.push {o : O} {ob : Obj} (R : Rep h₀ ρ σ h) (x : OR (ρ ++ [h.objs.size]) (h.push ob) h.objs.size o) : Rep h₀ (ρ ++ [h.objs.size]) (σ ++ [o]) (h.push ob) :=
  R.add (fun _ _ e => Heap.get?_push_of_some _ e) (none_of_size h) x
theorem OR.other {h' : Heap} {a b : Addr} {o : O} (hs : Heap.SameBut a h h') (hb : b ≠ a) (x : OR ρ h b o) : OR ρ h' b o := by
  cases o with
  | list xs => obtain ⟨us, y, v⟩ := x; exact ⟨us, y.extBut hs.extBut hb, v⟩
  | tup xs => obtain ⟨us, y, v⟩ := x; exact ⟨us, y.extBut hs.extBut hb, v⟩
  | rng a c n => obtain ⟨y, t1, t2, t3, e, r⟩ := x; exact ⟨y, t1, t2, t3, (hs.2 _ hb).trans e, r⟩
  | inst j => obtain ⟨d, e1, e2⟩ := x; exact ⟨d, e1, (hs.2 _ hb).trans e2⟩
  | dct p => obtain ⟨es, n, e1, r⟩ := x; exact ⟨es, n, (hs.2 _ hb).trans e1, r⟩
theorem OR.beside {h' : Heap} {a b : Addr} {o : O} (hk : ∀ b ob, b ≠ a → h.get? b = some ob → h'.get? b = some ob) (hb : b ≠ a) (x : OR ρ h b o) : OR ρ h' b o := by
  cases o with
  | list xs => obtain ⟨us, ⟨ob, e⟩, v⟩ := x; exact ⟨us, ⟨ob, hk _ _ hb e⟩, v⟩
  | tup xs => obtain ⟨us, ⟨ob, e, r⟩, v⟩ := x; exact ⟨us, ⟨ob, hk _ _ hb e, r⟩, v⟩
  | rng a c n => obtain ⟨y, t1, t2, t3, e, r⟩ := x; exact ⟨y, t1, t2, t3, hk _ _ hb e, r⟩
  | inst j => obtain ⟨d, e1, e2⟩ := x; exact ⟨d, e1, hk _ _ hb e2⟩
  | dct p => obtain ⟨es, n, e1, r⟩ := x; exact ⟨es, n, hk _ _ hb e1, r⟩
/-- something that the state does not hold has turned -/
theorem Rep.beside {h' : Heap} {C : Addr} (R : Rep h₀ ρ σ h) (hk : ∀ b ob, b ≠ C → h.get? b = some ob → h'.get? b = some ob) (hC : C ∉ ρ) (h0 : h₀.get? C = none) : Rep h₀ ρ σ h' :=
  ⟨fun b ob eb => hk b ob (fun q => by subst q; rw [h0] at eb; cases eb) (R.keep b ob eb), R.len, R.nodup, R.fresh,
    fun i a o e1 e2 => OR.beside hk (fun q => hC (q ▸ List.mem_of_getElem? e1)) (R.objs i a o e1 e2)⟩
theorem Rep.offside {h' : Heap} {C : Addr} (R : Rep h₀ ρ σ h) (hs : Heap.SameBut C h h') (hC : C ∉ ρ) (h0 : h₀.get? C = none) : Rep h₀ ρ σ h' := R.beside (fun b ob hb e => hs.extBut b ob hb e) hC h0
/-- an object that stood beside the state is of it now -/
theorem Rep.adopt {a : Addr} {o : O} (R : Rep h₀ ρ σ h) (ha : a ∉ ρ) (h0 : h₀.get? a = none) (x : OR (ρ ++ [a]) h a o) : Rep h₀ (ρ ++ [a]) (σ ++ [o]) h := by
  refine ⟨R.keep, by simp [R.len], ?_, fun b hb => ?_, fun i b ob e1 e2 => ?_⟩
  · rw [List.nodup_append]
    refine ⟨R.nodup, by simp, fun x hx y hy e => ?_⟩
    rw [List.mem_singleton] at hy
    exact ha (hy ▸ e ▸ hx)
  · rcases List.mem_append.mp hb with hb | hb
    · exact R.fresh b hb
    · rw [List.mem_singleton] at hb; subst hb; exact h0
  · by_cases hi : i < ρ.length
    · rw [List.getElem?_append_left hi] at e1
      rw [List.getElem?_append_left (by rw [← R.len]; exact hi)] at e2
      exact OR.grow (fun _ _ e => e) (R.objs i b ob e1 e2)
    · rw [List.getElem?_append_right (Nat.le_of_not_lt hi)] at e1
      rw [List.getElem?_append_right (by rw [← R.len]; exact Nat.le_of_not_lt hi), ← R.len] at e2
      cases hz : i - ρ.length with
      | zero => rw [hz] at e1 e2; cases e1; cases e2; exact x
      | succ k => rw [hz] at e1; simp at e1
/-- the object at place `i` has turned -/
theorem Rep.upd {h' : Heap} {i : Nat} {a : Addr} {o : O} (R : Rep h₀ ρ σ h) (e : ρ[i]? = some a) (hs : Heap.SameBut a h h') (x : OR ρ h' a o) : Rep h₀ ρ (σ.set i o) h' := by
  have ha : a ∈ ρ := List.mem_of_getElem? e
  refine ⟨fun b ob eb => (hs.2 b fun q => ?_).trans (R.keep b ob eb), by simp [R.len], R.nodup, R.fresh, fun j b ob e1 e2 => ?_⟩
  · subst q; rw [R.fresh _ ha] at eb; cases eb
  · by_cases hj : i = j
    · subst hj
      rw [e] at e1; cases e1
      rw [List.getElem?_set_self (R.lt e)] at e2; cases e2
      exact x
    · rw [List.getElem?_set_ne hj] at e2
      refine OR.other hs (fun q => hj ?_) (R.objs j b ob e1 e2)
      subst q
      have hi1 : i < ρ.length := by rw [R.len]; exact R.lt e
      have hj1 : j < ρ.length := by rw [R.len]; exact R.lt e1
      rw [List.getElem?_eq_getElem hi1] at e
      rw [List.getElem?_eq_getElem hj1] at e1
      have h12 : ρ[i] = ρ[j] := (Option.some.inj e).trans (Option.some.inj e1).symm
      have pw := List.pairwise_iff_getElem.mp R.nodup
      rcases Nat.lt_trichotomy i j with q | q | q
      · exact absurd h12 (pw i j hi1 hj1 q)
      · exact q
      · exact absurd h12.symm (pw j i hj1 hi1 q)
end

theorem Ext.trans {h₀ : Heap} {ρ t t' : List Addr} {σ : List O} {s s' s'' : Shared} (R : Rep h₀ (ρ ++ t) σ s'.heap) (x : Ext ρ t s s') (y : Ext (ρ ++ t) t' s' s'') : Ext ρ (t ++ t') s s'' := by
  obtain ⟨h1, k1, rfl⟩ := x.same
  obtain ⟨h2, k2, rfl⟩ := y.same
  have keep : ∀ b o, b ∉ ρ → s.heap.get? b = some o → h2.get? b = some o := fun b o hb e => by
    refine y.keep b o (fun hm => ?_) (x.keep b o hb e)
    rcases List.mem_append.mp hm with hm | hm
    · exact hb hm
    · rw [x.fresh b hm] at e; cases e
  refine ⟨⟨h2, k2, rfl⟩, keep, fun a ha => ?_⟩
  rcases List.mem_append.mp ha with ha | ha
  · exact x.fresh a ha
  · cases e : s.heap.get? a with
    | none => rfl
    | some o =>
      have f := y.fresh a ha
      by_cases hm : a ∈ ρ
      · obtain ⟨o', e'⟩ := R.alive (List.mem_append_left t hm)
        rw [f] at e'; cases e'
      · have := x.keep a o hm e
        rw [f] at this; cases this

theorem Ext.was_none {h₀ : Heap} {ρ t : List Addr} {σ : List O} {s s' : Shared} {a : Addr} (R : Rep h₀ (ρ ++ t) σ s'.heap) (x : Ext ρ t s s') (f : s'.heap.get? a = none) : s.heap.get? a = none := by
  cases e : s.heap.get? a with
  | none => rfl
  | some o =>
    by_cases hm : a ∈ ρ
    · obtain ⟨o', e'⟩ := R.alive (List.mem_append_left t hm)
      rw [f] at e'; cases e'
    · have := x.keep a o hm e
      rw [f] at this; cases this
theorem Rep.none {h₀ : Heap} {ρ : List Addr} {σ : List O} {h : Heap} {a : Addr} (R : Rep h₀ ρ σ h) (f : h.get? a = none) : h₀.get? a = none := by
  cases e : h₀.get? a with
  | none => rfl
  | some o => have := R.keep a o e; rw [f] at this; cases this

/-- what comes back -/
noncomputable abbrev ResE (h₀ : Heap) (ρ : List Addr) (s : Shared) (K : KV) (Q : Value → Shared → Prop) : Prop :=
  ∀ u v σ' t s', K v σ' → VR (ρ ++ t) u v → Rep h₀ (ρ ++ t) σ' s'.heap → Ext ρ t s s' → Q u s'
noncomputable abbrev ResB (h₀ : Heap) (ρ : List Addr) (s : Shared) (K : Bool → List O → Prop) (Q : Bool → Shared → Prop) : Prop :=
  ∀ b σ' t s', K b σ' → Rep h₀ (ρ ++ t) σ' s'.heap → Ext ρ t s s' → Q b s'
noncomputable abbrev ResL (h₀ : Heap) (ρ : List Addr) (s : Shared) (K : List V → List O → Prop) (Q : List Value → Shared → Prop) : Prop :=
  ∀ us vs σ' t s', K vs σ' → VRs (ρ ++ t) us vs → Rep h₀ (ρ ++ t) σ' s'.heap → Ext ρ t s s' → Q us s'
section
variable {h₀ : Heap} {ρ t : List Addr} {σ : List O} {s s' : Shared}
theorem ResE.step {K : KV} {Q : Value → Shared → Prop} (r : ResE h₀ ρ s K Q) (x : Ext ρ t s s') (R : Rep h₀ (ρ ++ t) σ s'.heap) : ResE h₀ (ρ ++ t) s' K Q := fun u v σ' t' s'' k vr R' y => by
  rw [List.append_assoc] at vr R'
  exact r u v σ' (t ++ t') s'' k vr R' (x.trans R y)
theorem ResB.step {K : Bool → List O → Prop} {Q : Bool → Shared → Prop} (r : ResB h₀ ρ s K Q) (x : Ext ρ t s s') (R : Rep h₀ (ρ ++ t) σ s'.heap) : ResB h₀ (ρ ++ t) s' K Q := fun b σ' t' s'' k R' y => by
  rw [List.append_assoc] at R'
  exact r b σ' (t ++ t') s'' k R' (x.trans R y)
theorem ResL.step {K : List V → List O → Prop} {Q : List Value → Shared → Prop} (r : ResL h₀ ρ s K Q) (x : Ext ρ t s s') (R : Rep h₀ (ρ ++ t) σ s'.heap) : ResL h₀ (ρ ++ t) s' K Q := fun u v σ' t' s'' k vr R' y => by
  rw [List.append_assoc] at vr R'
  exact r u v σ' (t ++ t') s'' k vr R' (x.trans R y)
/-- nothing has turned but the counter -/
theorem ResE.now {K : KV} {Q : Value → Shared → Prop} {u : Value} {v : V} {k : Nat} (r : ResE h₀ ρ s K Q) (R : Rep h₀ ρ σ s.heap) (kv : K v σ) (x : VR ρ u v) : Q u { s with toks := k } :=
  r u v σ [] _ kv (by rw [List.append_nil]; exact x) (by rw [List.append_nil]; exact R) (Ext.tok k)
theorem ResE.now' {K : KV} {Q : Value → Shared → Prop} {u : Value} {v : V} (r : ResE h₀ ρ s K Q) (R : Rep h₀ ρ σ s.heap) (kv : K v σ) (x : VR ρ u v) : Q u s :=
  r u v σ [] _ kv (by rw [List.append_nil]; exact x) (by rw [List.append_nil]; exact R) Ext.refl
theorem ResB.now {K : Bool → List O → Prop} {Q : Bool → Shared → Prop} {b : Bool} {k : Nat} (r : ResB h₀ ρ s K Q) (R : Rep h₀ ρ σ s.heap) (kv : K b σ) : Q b { s with toks := k } :=
  r b σ [] _ kv (by rw [List.append_nil]; exact R) (Ext.tok k)
theorem ResB.now' {K : Bool → List O → Prop} {Q : Bool → Shared → Prop} {b : Bool} (r : ResB h₀ ρ s K Q) (R : Rep h₀ ρ σ s.heap) (kv : K b σ) : Q b s :=
  r b σ [] _ kv (by rw [List.append_nil]; exact R) Ext.refl
/-- heap only grown by what nobody sees -/
theorem ResE.kept {K : KV} {Q : Value → Shared → Prop} {u : Value} {v : V} {h' : Heap} {k : Nat} (r : ResE h₀ ρ s K Q) (R : Rep h₀ ρ σ s.heap) (hk : ∀ b o, s.heap.get? b = some o → h'.get? b = some o) (kv : K v σ) (x : VR ρ u v) :
    Q u { s with heap := h', toks := k } :=
  r u v σ [] _ kv (by rw [List.append_nil]; exact x) (by rw [List.append_nil]; exact R.grow hk) (Ext.keeps hk)
/-- one object more -/
theorem ResE.made {K : KV} {Q : Value → Shared → Prop} {o : O} {a : Addr} {h' : Heap} {k : Nat} (r : ResE h₀ ρ s K Q) (R : Rep h₀ ρ σ s.heap) (hk : ∀ b ob, s.heap.get? b = some ob → h'.get? b = some ob) (ha : s.heap.get? a = none)
    (x : OR (ρ ++ [a]) h' a o) (kv : K (.ref σ.length) (σ ++ [o])) : Q (.ref a) { s with heap := h', toks := k } := by
  refine r (.ref a) (.ref σ.length) (σ ++ [o]) [a] _ kv ⟨a, ?_, rfl⟩ (R.add hk ha x) ⟨⟨h', k, rfl⟩, fun b o _ e => hk b o e, fun b hb => ?_⟩
  · rw [← R.len, List.getElem?_append_right (Nat.le_refl _)]; simp
  · rw [List.mem_singleton] at hb; rw [hb]; exact ha
/-- the object at `i` has turned -/
theorem ResE.upd {K : KV} {Q : Value → Shared → Prop} {u : Value} {v : V} {i : Nat} {a : Addr} {o : O} {h' : Heap} {k : Nat} (r : ResE h₀ ρ s K Q) (R : Rep h₀ ρ σ s.heap) (e : ρ[i]? = some a) (hs : Heap.SameBut a s.heap h') (x : OR ρ h' a o)
    (kv : K v (σ.set i o)) (vr : VR ρ u v) : Q u { s with heap := h', toks := k } :=
  r u v _ [] _ kv (by rw [List.append_nil]; exact vr) (by rw [List.append_nil]; exact R.upd e hs x)
    ⟨⟨h', k, rfl⟩, fun b ob hb eb => (hs.2 b fun q => hb (q ▸ List.mem_of_getElem? e)).trans eb, fun _ h => nomatch h⟩
end
end Mine
end

section
open PySem PySem.W PyProof.Rows PySem.Calls
set_option linter.unusedVariables false
namespace Mine
section
variable {prog : Program} {w : World} {A : Around} {E : Value → Shared → Prop} {s : Shared} {h₀ : Heap} {ρ : List Addr} {σ : List O} {K : KV} {Q : Value → Shared → Prop}

theorem toList_mk (x : List Nat) : (Str.mk x.toArray).cps.toList = x := by simp
theorem len_mk (x : List Nat) : (Str.mk x.toArray).length = x.length := by simp [Str.length]
theorem append_mk (x y : List Nat) : (Str.mk x.toArray ++ Str.mk y.toArray) = Str.mk (x ++ y).toArray := by
  show Str.append _ _ = _
  simp [Str.append]
theorem str_eta (x : Str) : Str.mk x.cps.toList.toArray = x := by simp
theorem mulOk_of {a b : Int} (h : a.natAbs < 4611686018427387904) : IntMulOk a b := by
  refine IntMulOk.of_left ?_
  unfold Builtin.Int.intBits
  split
  · omega
  · rename_i hz
    have hz' : a.natAbs ≠ 0 := by
      intro e
      apply hz
      have : a = 0 := Int.natAbs_eq_zero.mp e
      simp [this]
    have : a.natAbs.log2 < 62 := (Nat.log2_lt hz').mpr (by simpa using h)
    omega
theorem powOk {b : Int} (h0 : 0 ≤ b) (h1 : b ≤ 300) : (Builtin.Int.intBits (2 : Int) : Int) * b ≤ 2 ^ 27 := by
  have e : Builtin.Int.intBits (2 : Int) = 2 := by decide +kernel
  rw [e]; omega

theorem binop_ok {op : Operator} {a b : Value} {v u : V} (R : Rep h₀ ρ σ s.heap) (ha : VR ρ a v) (hb : VR ρ b u) (h : binop op v u σ K) (r : ResE h₀ ρ s K Q) :
    wpAny (model prog w) A (binaryOp op a b) Q E s := by
  unfold binop at h
  split at h
  · obtain ⟨t, rfl⟩ := ha; obtain ⟨t', rfl⟩ := hb
    exact add_int (r.now R h ⟨_, rfl⟩)
  · obtain ⟨t, rfl⟩ := ha; obtain ⟨t', rfl⟩ := hb
    exact sub_int (r.now R h ⟨_, rfl⟩)
  · obtain ⟨t, rfl⟩ := ha; obtain ⟨t', rfl⟩ := hb
    exact mul_int (r.now R h.2 ⟨_, rfl⟩) (mulOk_of h.1)
  · obtain ⟨t, rfl⟩ := ha; obtain ⟨t', rfl⟩ := hb
    exact floordiv_int h.1.1 (r.now R h.2 ⟨_, rfl⟩) (Or.inl (PyProof.noPylong_small h.1.2))
  · obtain ⟨t, rfl⟩ := ha; obtain ⟨t', rfl⟩ := hb
    exact mod_int' h.1 (r.now R h.2 ⟨_, rfl⟩)
  · obtain ⟨t, rfl⟩ := ha; obtain ⟨t', rfl⟩ := hb
    obtain ⟨⟨rfl, h0, h1⟩, h⟩ := h
    exact pow_int h0 (powOk h0 h1) (r.now R h ⟨_, rfl⟩)
  · obtain ⟨t, rfl⟩ := ha; obtain ⟨t', rfl⟩ := hb
    exact and_int (r.now R h ⟨_, rfl⟩)
  · obtain ⟨t, rfl⟩ := ha; obtain ⟨t', rfl⟩ := hb
    exact or_int (r.now R h ⟨_, rfl⟩)
  · rename_i x y
    obtain ⟨t, rfl⟩ := ha; obtain ⟨t', rfl⟩ := hb
    refine add_str ?_ ?_
    · rw [append_mk]
      exact fun t' k => r.now R h.2 ⟨_, rfl⟩
    · rw [len_mk, len_mk, sizeLine_eq]; have := h.1; omega
  · rename_i x y
    obtain ⟨t, rfl⟩ := ha; obtain ⟨t', rfl⟩ := hb
    refine KBy.add_bytes (by have := h.1; simp; omega) fun t'' k => ?_
    have : (x.toArray ++ y.toArray) = (x ++ y).toArray := by simp
    rw [this]
    exact r.now R h.2 ⟨_, rfl⟩
  · rename_i x y
    obtain rfl := ha; obtain rfl := hb
    refine sub_bool ?_
    have e : b2i x - b2i y = (if x then 1 else 0) - (if y then 1 else 0) := by cases x <;> cases y <;> rfl
    rw [e]
    exact r.now R h ⟨_, rfl⟩
  · rename_i i j
    split at h
    · rename_i xs ys e1 e2
      obtain ⟨a1, i1, rfl, us, hl, vr⟩ := R.at_ e1 ha
      obtain ⟨a2, i2, rfl, us2, hl2, vr2⟩ := R.at_ e2 hb
      obtain ⟨n, ho⟩ := id hl
      obtain ⟨n2, ho2⟩ := id hl2
      refine concat_meets ⟨_, ho, rfl⟩ ⟨_, ho2, rfl⟩ noFill_list_add seq_list_add PySem.F.slot_list_add PySem.F.entry_list_add (PySem.F.args_list_add_2 _ _) (list_addW a1 a2 us.toArray us2.toArray n n2 _ _ _ _ ?_) ⟨ho, ho2, ?_⟩
      · have e3 := vr.length; have e4 := vr2.length; have := h.1
        rw [sizeLine_eq]; simp; omega
      · have e : us.toArray ++ us2.toArray = (us ++ us2).toArray := by simp
        rw [e]
        refine r.made R (o := .list (xs ++ ys)) (fun b ob e => Heap.get?_push_of_some _ e) (none_of_size _) ?_ h.2
        exact ⟨us ++ us2, ⟨_, Heap.get?_push_size _ rfl⟩, (vr.append vr2).mono⟩
    · exact h.elim
  · exact h.elim
end
end Mine
end

section
open PySem PySem.W PyProof.Rows PySem.Calls
set_option linter.unusedVariables false
namespace Mine

/-- what stands below: the written part, the names, the script's list, the set -/
structure Setup (prog : Program) (w : World) (h₀ : Heap) (mg mb : Str → Option Value) (G : Ora) : Prop where
  inK : (K w.params).In h₀
  nsg : h₀.Ns mainGlobals mg
  nsb : h₀.Ns builtinsNs mb
  lim : h₀.NoLimit
  gl : ∀ x u, G.gl x = some u → mg x = some (gval u) ∨ (mg x = none ∧ mb x = some (gval u))
  scr : ∀ u xs, G.scr u = some xs → ∃ a us, u = .ref a ∧ h₀.IsList a us.toArray ∧ VRs [] us xs
  set22 : h₀.SetOf (intKind prog w) 22 b1 27

structure Fits (A : Around) (d : Nat) : Prop where
  handled : A.handled = none
  depth : A.depth + d < recursionLimit
  units : A.units + 4 * d + 200 < cLine

section
variable {prog : Program} {w : World} {A : Around} {E : Value → Shared → Prop} {s : Shared} {h₀ : Heap} {mg mb : Str → Option Value} {G : Ora} {ρ : List Addr} {σ : List O} {K : KV} {Q : Value → Shared → Prop} {dp : Nat}

theorem reads_dat : ∀ (n : Nat) {u : Value} {v : V} {d : PyData}, Rep h₀ ρ σ s.heap → VR ρ u v → dat n σ v = some d → ∃ as, Reads s.heap u d as
  | n, u, .int i, d, R, vr, e => by
    obtain ⟨t, rfl⟩ := vr
    have : d = .int i := by cases n <;> (simp only [dat] at e; exact (Option.some.inj e).symm)
    subst this
    exact ⟨[], .int i t⟩
  | n, u, .str x, d, R, vr, e => by
    obtain ⟨t, rfl⟩ := vr
    have : d = .str ⟨x.toArray⟩ := by cases n <;> (simp only [dat] at e; exact (Option.some.inj e).symm)
    subst this
    exact ⟨[], .str _ t⟩
  | n + 1, u, .ref i, d, R, vr, e => by
    simp only [dat] at e
    split at e
    · rename_i xs hx
      obtain ⟨a, ha, rfl, us, hpl, vs⟩ := R.at_ hx vr
      obtain ⟨o, ho, hc, k, hd⟩ := hpl.isList
      obtain ⟨ds, e1, rfl⟩ := Option.map_eq_some_iff.mp e
      have all : ∀ (us : List Value) (xs : List V) (ds : List PyData), VRs ρ us xs → xs.mapM (dat n σ) = some ds → ∃ as, ReadsAll s.heap us ds as := by
        intro us xs
        induction xs generalizing us with
        | nil =>
          intro ds hv hm
          cases us with
          | nil => simp at hm; subst hm; exact ⟨[], .nil⟩
          | cons => exact hv.elim
        | cons x xs ih =>
          intro ds hv hm
          cases us with
          | nil => exact hv.elim
          | cons u us =>
            rw [List.mapM_cons] at hm
            obtain ⟨d, hd, hm⟩ := Option.bind_eq_some_iff.mp hm
            obtain ⟨ds', hds, hm⟩ := Option.bind_eq_some_iff.mp hm
            cases hm
            obtain ⟨as, ra⟩ := reads_dat n R hv.1 hd
            obtain ⟨bs, rb⟩ := ih us ds' hv.2 hds
            exact ⟨as ++ bs, .cons ra rb⟩
      obtain ⟨as, ra⟩ := all us xs ds vs e1
      exact ⟨a :: as, .list ho hc hd (by simpa using ra)⟩
    · cases e
  | 0, _, .ref _, _, _, _, e => by simp [dat] at e
  | n, _, .none, _, _, _, e => by cases n <;> simp [dat] at e
  | n, _, .bool _, _, _, _, e => by cases n <;> simp [dat] at e
  | n, _, .byt _, _, _, _, e => by cases n <;> simp [dat] at e
  | n, _, .g _, _, _, _, e => by cases n <;> simp [dat] at e
  | n, _, .fn _, _, _, _, e => by cases n <;> simp [dat] at e

theorem ints_of {ns : List Int} : ∀ {us : List Value}, VRs ρ us (ns.map V.int) → IntsAre us ns := by
  induction ns with
  | nil => intro us h; cases us with
    | nil => exact IntsAre.nil
    | cons => exact h.elim
  | cons n ns ih => intro us h; cases us with
    | nil => exact h.elim
    | cons u us =>
      obtain ⟨t, rfl⟩ := h.1
      exact IntsAre.cons _ _ (ih h.2)

theorem cmpop_ok (S : Setup prog w h₀ mg mb G) (hf : Fits A dp) {op : CmpOp} {a b : Value} {v u : V} (R : Rep h₀ ρ σ s.heap) (ha : VR ρ a v) (hb : VR ρ b u) (h : cmpop op v u σ K) (r : ResE h₀ ρ s K Q) :
    wpAny (model prog w) A (compareOp op a b) Q E s := by
  unfold cmpop at h
  split at h
  · obtain ⟨t, rfl⟩ := ha; obtain ⟨t', rfl⟩ := hb
    exact P.eq_int (r.now' R h rfl)
  · obtain ⟨t, rfl⟩ := ha; obtain ⟨t', rfl⟩ := hb
    exact P.ne_int (r.now' R h rfl)
  · obtain ⟨t, rfl⟩ := ha; obtain ⟨t', rfl⟩ := hb
    exact P.lt_int (r.now' R h rfl)
  · obtain ⟨t, rfl⟩ := ha; obtain ⟨t', rfl⟩ := hb
    exact P.gt_int (r.now' R h rfl)
  · obtain ⟨t, rfl⟩ := ha; obtain ⟨t', rfl⟩ := hb
    refine P.lt_str ?_
    rw [toList_mk, toList_mk]
    exact r.now' R h rfl
  · obtain ⟨t, rfl⟩ := ha; obtain ⟨t', rfl⟩ := hb
    refine P.gt_str ?_
    rw [toList_mk, toList_mk]
    exact r.now' R h rfl
  · obtain ⟨t, rfl⟩ := ha; obtain ⟨t', rfl⟩ := hb
    refine P.notIn_str ?_
    rename_i c y
    have e := StrLaws.found_one ⟨y.toArray⟩ c
    have e2 : decide (c ∈ (Str.mk y.toArray).cps.toList) = y.contains c := by
      rw [toList_mk, Bool.eq_iff_iff]; simp
    rw [e2] at e
    have e3 : (!(!(Builtin.Str.occurrences (Str.mk y.toArray) (Str.mk [c].toArray) 0 (Str.mk y.toArray).length 1).isEmpty)) = !(y.contains c) := by rw [← e]
    rw [e3]
    exact r.now' R h rfl
  · split at h
    · rename_i xs e
      obtain ⟨ns, rfl, h⟩ := h
      obtain ⟨t, rfl⟩ := ha
      obtain ⟨a1, i1, rfl, us, hl, vr⟩ := R.at_ e hb
      refine notin_list_ints hl.isList (ints_of vr) ?_
      have e : ∀ k : Int, (ns.any (· == k)) = ns.contains k := fun k => by
        rw [Bool.eq_iff_iff]; simp
      rw [e]
      exact r.now' R h rfl
    · exact h.elim
  · obtain ⟨t, rfl⟩ := ha; obtain rfl := hb
    obtain ⟨o, es, ep, tb, ho, rest⟩ := S.set22
    exact wpAny_inSet_of (intKind_is prog w _ t) rfl ⟨o, es, ep, tb, R.keep _ _ ho, rest⟩ (r.now R h rfl)
  · obtain rfl := ha; obtain rfl := hb
    rename_i a b
    refine wpAny_is_plain rfl ?_
    have e : (Value.bool a == Value.bool b) = (a == b) := by cases a <;> cases b <;> rfl
    rw [e]
    exact r.now' R h rfl
  · obtain rfl := ha; obtain rfl := hb
    rename_i a b
    refine wpAny_isNot_plain rfl ?_
    have e : (!(Value.bool a == Value.bool b)) = (a != b) := by cases a <;> cases b <;> rfl
    rw [e]
    exact r.now' R h rfl
  · obtain rfl := ha; obtain rfl := hb
    exact wpAny_isNot_plain rfl (r.now' R h rfl)
  · obtain ⟨d, e, h1, h2, ⟨h3, h4⟩, h⟩ := h
    obtain ⟨as, ra⟩ := reads_dat 3 R ha h1
    obtain ⟨bs, rb⟩ := reads_dat 3 R hb h2
    exact SeqAt.compareEq_shaped ra rb h3 h4 (by have := hf.units; omega) (r.now' R h rfl)
  · obtain ⟨d, e, h1, h2, ⟨h3, h4⟩, h⟩ := h
    obtain ⟨as, ra⟩ := reads_dat 3 R ha h1
    obtain ⟨bs, rb⟩ := reads_dat 3 R hb h2
    exact SeqAt.compareNe_shaped ra rb h3 h4 (by have := hf.units; omega) (r.now' R h rfl)
  · exact h.elim

theorem truthy_ok {a : Value} {v : V} {KB : Bool → List O → Prop} {QB : Bool → Shared → Prop} (R : Rep h₀ ρ σ s.heap) (ha : VR ρ a v) (h : truthyV v σ fun b => KB b σ) (r : ResB h₀ ρ s KB QB) :
    wpAny (model prog w) A (truthy a) QB E s := by
  unfold truthyV at h
  split at h
  · obtain rfl := ha
    exact wpAny_truthy_bool (r.now' R h)
  · obtain ⟨t, rfl⟩ := ha
    exact P.truthy_int (r.now' R h)
  · split at h
    · rename_i xs e
      obtain ⟨a1, i1, rfl, us, hl, vr⟩ := R.at_ e ha
      have hlen := vr.length
      refine wpAny_truthy_list hl.isList (by have := h.1; simp; omega) ?_
      have e2 : (!us.toArray.isEmpty) = !xs.isEmpty := by
        cases us <;> cases xs <;> first | rfl | (simp at hlen)
      rw [e2]
      exact r.now R h.2
    · exact h.elim
  · exact h.elim

theorem inop_ok {op : Operator} {a b : Value} {v u : V} {KV' : V → Prop} (R : Rep h₀ ρ σ s.heap) (ha : VR ρ a v) (hb : VR ρ b u) (h : inop op v u KV') (r : ResE h₀ ρ s (fun v σ' => KV' v ∧ σ' = σ) Q) :
    wpAny (model prog w) A (inplaceOp op a b) Q E s := by
  unfold inop at h
  split at h
  · obtain ⟨t, rfl⟩ := ha; obtain ⟨t', rfl⟩ := hb
    exact iadd_int (r.now R ⟨h, rfl⟩ ⟨_, rfl⟩)
  · obtain ⟨t, rfl⟩ := ha; obtain ⟨t', rfl⟩ := hb
    refine iadd_str ?_ ?_
    · rw [append_mk]
      exact fun t' k => r.now R ⟨h.2, rfl⟩ ⟨_, rfl⟩
    · rw [len_mk, len_mk, sizeLine_eq]; have := h.1; omega
  · exact h.elim

/-- a store into an exact list leaves an exact list -/
theorem setItem_plain {l : Addr} {items : Array Value} {k : Int} {t : Tok} {v : Value} {QU : Unit → Shared → Prop} (hl : s.heap.PlainList l items) (h0 : 0 ≤ k) (hfit : k < 2 ^ 63) (hn : k < items.size)
    (hQ : ∀ h', h'.PlainList l (items.setIfInBounds k.toNat v) → Heap.SameBut l s.heap h' → QU () { s with heap := h' }) : wpAny (model prog w) A (setItem (.ref l) (.int k t) v) QU E s := by
  obtain ⟨n, ho⟩ := id hl
  have hT := hl.isList.typeIs (s := s)
  unfold setItem
  try with_reducible refine wpAny_holding ?_
  first | refine wpAny_bind (wpAny_pure ?_) | skip
  refine wpAny_bind (wpAny_sequenceKey hT (by decide) ?_)
  refine wpAny_bind (wpAny_callSpecial?_slot (name := Str.ofString "__setitem__") hT slot_list_setitem (wpAny_call_entry slot_list_setitem hT entry_list_setitem ?_ (args_list_setitem _ _ _)))
  show wpAny _ _ (Builtin.List.listSubscript? (.int k t) >>= _) _ _ s
  refine wpAny_bind (wpAny_listSubscript_int (fitsIndex_of h0 hfit) ?_)
  clear hfit
  obtain ⟨j, rfl⟩ := Int.eq_ofNat_of_zero_le h0
  have hj : j < items.size := by omega
  show wpAny _ _ ((seqItemAt l j >>= fun r => pure (r.map (j, ·))) >>= _) _ _ s
  refine wpAny_bind (wpAny_bind (wpAny_seqItemAt ho rfl (wpAny_pure ?_)))
  rw [Array.getElem?_eq_getElem hj]
  show wpAny _ _ (setSeqItemAt l j v >>= _) _ _ s
  have hm : Obj.mapSeq (·.setIfInBounds j v) { cls := .type "list", data := .seq items n } = { cls := .type "list", data := .seq (items.setIfInBounds j v) n } := by simp [Obj.mapSeq]
  have hfin : (s.heap.update l (Obj.mapSeq (·.setIfInBounds j v))).PlainList l (items.setIfInBounds j v) := ⟨n, by rw [Heap.get?_update_self _ ho (by rw [hm]; rfl), hm]⟩
  refine wpAny_bind (wpAny_setSeqItemAt ho rfl ?_)
  first
    | exact wpAny_bind (wpAny_pure (wpAny_pure ⟨.none, rfl, wpAny_pure (hQ _ hfin (Heap.SameBut.update ..))⟩))
    | exact wpAny_pure ⟨.none, rfl, wpAny_pure (hQ _ hfin (Heap.SameBut.update ..))⟩

theorem setItem_ok {a b c : Value} {v u x : V} {KO : List O → Prop} {QU : Unit → Shared → Prop} (R : Rep h₀ ρ σ s.heap) (ha : VR ρ a v) (hb : VR ρ b u) (hc : VR ρ c x) (h : setItemV v u x σ KO)
    (r : ∀ σ' s', KO σ' → Rep h₀ ρ σ' s'.heap → Ext ρ [] s s' → QU () s') : wpAny (model prog w) A (setItem a b c) QU E s := by
  unfold setItemV at h
  split at h
  · split at h
    · rename_i i k _ xs e
      obtain ⟨a1, i1, rfl, us, hl, vr⟩ := R.at_ e ha
      obtain ⟨t, rfl⟩ := hb
      obtain ⟨⟨h0, h1, h2⟩, h⟩ := h
      have hlen := vr.length
      refine setItem_plain hl h0 (by omega) (by simp; omega) fun h' hl' hs' => ?_
      refine r _ _ h (R.upd i1 hs' ⟨us.set k.toNat c, ?_, vr.set hc _⟩) ⟨⟨h', s.toks, rfl⟩, fun b ob hb eb => (hs'.2 b fun q => hb (q ▸ List.mem_of_getElem? i1)).trans eb, fun _ h => nomatch h⟩
      have e2 : us.toArray.setIfInBounds k.toNat c = (us.set k.toNat c).toArray := by simp
      rw [← e2]; exact hl'
    · exact h.elim
  · exact h.elim
end
end Mine
end

section
open PySem PySem.W PyProof.Rows PySem.Calls
set_option linter.unusedVariables false
namespace Mine
section
variable {prog : Program} {w : World} {A : Around} {E : Value → Shared → Prop} {s : Shared} {h₀ : Heap} {mg mb : Str → Option Value} {G : Ora} {ρ : List Addr} {σ : List O} {K : KV} {Q : Value → Shared → Prop} {dp : Nat}

theorem VRs.ground {us : List Value} {xs : List V} : VRs [] us xs → VRs ρ us xs := fun h => by
  have := h.mono (t := ρ)
  rwa [List.nil_append] at this
theorem list_get {us : List Value} {xs : List V} {k : Int} {a : Addr} {t : Tok} (hl : s.heap.IsList a us.toArray) (vr : VRs ρ us xs) (h0 : 0 ≤ k) (h1 : k < 4611686018427387904) (h2 : k.toNat < xs.length)
    (R : Rep h₀ ρ σ s.heap) (h : ∀ w, xs[k.toNat]? = some w → K w σ) (r : ResE h₀ ρ s K Q) : wpAny (model prog w) A (getItem (.ref a) (.int k t)) Q E s := by
  obtain ⟨u, hu, vu⟩ := vr.get (i := k.toNat) (v := xs[k.toNat]) (by simp [h2])
  exact wpAny_getItem_list hl h0 (by omega) (by simpa using hu) (r.now' R (h _ (by simp [h2])) vu)

theorem getItem_ok (S : Setup prog w h₀ mg mb G) {a b : Value} {v u : V} (R : Rep h₀ ρ σ s.heap) (ha : VR ρ a v) (hb : VR ρ b u) (h : getItemV G v u σ K) (r : ResE h₀ ρ s K Q) :
    ∃ T id, s.TypeIs a T ∧ typeLookup (.type T) "__getitem__" = pure (some (.builtin id)) ∧ wpAny (model prog w) A (getItem a b) Q E s := by
  unfold getItemV at h
  split at h
  · rename_i x k
    obtain ⟨t, rfl⟩ := ha; obtain ⟨t', rfl⟩ := hb
    obtain ⟨⟨h0, h1, h2⟩, h⟩ := h
    have hx : x[k.toNat]? = some x[k.toNat] := by simp [h1]
    refine ⟨"str", _, typeIs_str _ _ _, F.slot_str_getitem.lookup, SB.getItem (fitsSsize_of (N := 9223372036854775808) (by omega) (by omega) (Int.le_refl _)) (charAt_isSome (by rw [len_mk]; omega) (by rw [len_mk]; omega)) ?_⟩
    have e : Txt.item (Str.mk x.toArray) k = Str.mk [x[k.toNat]].toArray := item_meets h0 (by simpa using hx)
    rw [e]
    exact r.now R (h _ hx) ⟨_, rfl⟩
  · rename_i x k
    obtain ⟨t, rfl⟩ := ha; obtain ⟨t', rfl⟩ := hb
    obtain ⟨⟨h0, h1, h2⟩, h⟩ := h
    have hx : x[k.toNat]? = some x[k.toNat] := by simp [h1]
    refine ⟨"bytes", _, typeIs_bytes _ _ _, FB.slot_bytes_getitem.lookup, getItem_bytes (by omega) h0 (by omega) ?_⟩
    have e : x.getD k.toNat 0 = x[k.toNat] := by simp [h1]
    rw [e]
    exact r.now R (h _ hx) ⟨_, rfl⟩
  · rename_i v k hn1 hn2
    split at h
    · rename_i xs e
      obtain ⟨⟨h0, h1, h2⟩, h⟩ := h
      obtain ⟨t', rfl⟩ := hb
      unfold listOfV at e
      split at e
      · split at e
        · cases e
          rename_i i _ ys e
          obtain ⟨a1, i1, rfl, us, hl, vr⟩ := R.at_ e ha
          exact ⟨"list", _, hl.isList.typeIs, slot_list_getitem.lookup, list_get hl.isList vr h0 h1 h2 R h r⟩
        · cases e
      · obtain ⟨a1, us, rfl, hl, vr⟩ := S.scr _ _ e
        obtain rfl := ha
        have hl' : s.heap.IsList a1 us.toArray := let ⟨o, ho, x⟩ := hl; ⟨o, R.keep _ _ ho, x⟩
        exact ⟨"list", _, hl'.typeIs, slot_list_getitem.lookup, list_get hl' vr.ground h0 h1 h2 R h r⟩
      · cases e
    · exact h.elim
  · exact h.elim

noncomputable def notCut : Expr → Prop
  | .Slice _ _ none _ => False
  | _ => True
theorem sub_plain {i : Expr} {o v : Value} (hi : notCut i) : subscripted i false o v = operate [o, v] (getItem o v) := by
  cases i with
  | Slice lo hi st p =>
    cases st with
    | none => exact hi.elim
    | some => rfl
  | _ => rfl
theorem item_ok (S : Setup prog w h₀ mg mb G) {value i : Expr} {a b : Value} {v u : V} (hi : notCut i) (R : Rep h₀ ρ σ s.heap) (ha : VR ρ a v) (hb : VR ρ b u) (h : getItemV G v u σ K) (r : ResE h₀ ρ s K Q) :
    wpAny (model prog w) A (subscriptTail value i a b) Q E s := by
  obtain ⟨T, id, hT, hl, hg⟩ := getItem_ok (prog := prog) (w := w) (A := A) (E := E) S R ha hb h r
  exact tail_any hT hl hg (sub_plain hi)
end
end Mine
end

section
open PySem PySem.W PyProof.Rows PySem.Calls
set_option linter.unusedVariables false
namespace Mine

theorem run_cut {α : Type} (xs : List α) (a b : Nat) : (xs.drop (min a xs.length)).take (min b xs.length - min a xs.length) = (xs.take b).drop a := by
  apply List.ext_getElem?
  intro i
  rw [List.getElem?_take, List.getElem?_drop, List.getElem?_drop, List.getElem?_take]
  by_cases h1 : a + i < xs.length
  · have e : min a xs.length = a := by omega
    rw [e]
    by_cases h2 : a + i < b
    · rw [if_pos (by omega), if_pos h2]
    · rw [if_neg (by omega), if_neg h2]
  · have hn : xs[a + i]? = none := List.getElem?_eq_none (by omega)
    rw [hn]
    have hz : xs[min a xs.length + i]? = none ∨ ¬ i < min b xs.length - min a xs.length := by
      by_cases h3 : xs.length ≤ min a xs.length + i
      · exact .inl (List.getElem?_eq_none h3)
      · exact .inr (by omega)
    rcases hz with hz | hz
    · rw [hz]; simp
    · rw [if_neg hz]; simp
theorem clip_nonneg {n : Nat} {k : Int} (h : 0 ≤ k) : clipAt n k = min k.toNat n := by
  have := clipAt_nat n k.toNat
  rwa [Int.toNat_of_nonneg h] at this
theorem run_cut' {α : Type} (xs : List α) (lo hi : Option Int) (hl : cutFits lo) (hh : cutFits hi) :
    (xs.drop (lo.elim 0 (clipAt xs.length))).take (hi.elim xs.length (clipAt xs.length) - lo.elim 0 (clipAt xs.length)) = cut lo hi xs := by
  have e1 : lo.elim 0 (clipAt xs.length) = min ((lo.map Int.toNat).getD 0) xs.length := by
    cases lo with
    | none => simp
    | some k => exact clip_nonneg hl.1
  have e2 : hi.elim xs.length (clipAt xs.length) = min ((hi.map Int.toNat).getD xs.length) xs.length := by
    cases hi with
    | none => simp
    | some k => exact clip_nonneg hh.1
  rw [e1, e2, run_cut]
  rfl
theorem VRs.cut {ρ : List Addr} {us : List Value} {vs : List V} (lo hi : Option Int) (h : VRs ρ us vs) : VRs ρ (cut lo hi us) (cut lo hi vs) := by
  unfold Mine.cut
  rw [h.length]
  have drop : ∀ (n : Nat) (us : List Value) (vs : List V), VRs ρ us vs → VRs ρ (us.drop n) (vs.drop n) := by
    intro n
    induction n with
    | zero => intro us vs h; exact h
    | succ n ih =>
      intro us vs h
      cases us <;> cases vs
      · exact trivial
      · exact h.elim
      · exact h.elim
      · exact ih _ _ h.2
  exact drop _ _ _ (h.take _)
theorem cut_length {α : Type} (lo hi : Option Int) (x : List α) : (cut lo hi x).length ≤ x.length := by
  unfold cut
  rw [List.length_drop, List.length_take]
  omega
theorem none_after (h : Heap) (ob : Obj) : h.get? (h.push ob).objs.size = none := by
  cases q : h.get? (h.push ob).objs.size with
  | none => rfl
  | some o =>
    have h1 := Heap.lt_size q
    have h2 : (h.push ob).objs.size = h.objs.size + 1 := by simp [Heap.push]
    have h3 : (h.push ob).objs.size < h.objs.size := h1
    rw [h2] at h3
    exact absurd h3 (Nat.not_lt.mpr (Nat.le_succ _))
theorem strIdx (lo hi : Option Int) (n : Nat) : Builtin.Str.strSliceIndices lo hi 1 n = sliceRange (sliceBounds lo hi none n).1 (sliceBounds lo hi none n).2.1 1 := by
  cases lo <;> cases hi <;> simp [Builtin.Str.strSliceIndices, sliceBounds]
theorem slicePicked_cut (x : List Nat) (lo hi : Option (Int × Tok)) (hl : cutFits (lo.map (·.1))) (hh : cutFits (hi.map (·.1))) :
    (slicePicked (Str.mk x.toArray) lo hi none).filterMap ((Str.mk x.toArray).cps[·]?) = cut (lo.map (·.1)) (hi.map (·.1)) x := by
  unfold slicePicked
  show (Builtin.Str.strSliceIndices (lo.map (·.1)) (hi.map (·.1)) 1 _).filterMap _ = _
  rw [strIdx, sliceBounds_plain]
  simp only [sliceRange_one, pick_run]
  rw [len_mk]
  exact run_cut' x _ _ hl hh

section
variable {prog : Program} {w : World} {A : Around} {E : Value → Shared → Prop} {s : Shared} {h₀ : Heap} {mg mb : Str → Option Value} {G : Ora} {ρ : List Addr} {σ : List O} {K : KV} {Q : Value → Shared → Prop} {dp : Nat}

theorem part_of {a : Value} {v : V} {o : Option Int} (h : VR ρ a v) (e : cutArg v = some o) : IsPart a o := by
  cases v with
  | none => cases e; cases h; exact .none
  | int k => cases e; obtain ⟨t, rfl⟩ := h; exact .int k t
  | _ => cases e
theorem slice_ok {value : Expr} {lo hi : Option Expr} {p : Pos} {a b c : Value} {v vl vh : V} (R : Rep h₀ ρ σ s.heap) (ha : VR ρ a v) (hb : VR ρ b vl) (hc : VR ρ c vh) (h : sliceV v vl vh σ K) (r : ResE h₀ ρ s K Q) :
    wpAny (model prog w) A (subscriptTail value (.Slice lo hi none p) a (.ref s.heap.objs.size)) Q E { s with heap := s.heap.push { cls := .type "slice", data := .fields #[b, c, .none] } } := by
  have hk : ∀ (ob : Obj) (x : Addr) (o : Obj), s.heap.get? x = some o → (s.heap.push ob).get? x = some o := fun ob x o e => Heap.get?_push_of_some _ e
  unfold sliceV at h
  split at h
  · rename_i x lo' hi' e1 e2
    obtain ⟨t, rfl⟩ := ha
    obtain ⟨⟨h0, h1, h2⟩, h⟩ := h
    obtain ⟨lp, rfl, hlp⟩ : ∃ lp : Option (Int × Tok), b = partValue lp ∧ lp.map (·.1) = lo' := by
      have := part_of hb e1
      cases this with
      | none => exact ⟨none, rfl, rfl⟩
      | int k t => exact ⟨some (k, t), rfl, rfl⟩
    obtain ⟨hp, rfl, hhp⟩ : ∃ hp : Option (Int × Tok), c = partValue hp ∧ hp.map (·.1) = hi' := by
      have := part_of hc e2
      cases this with
      | none => exact ⟨none, rfl, rfl⟩
      | int k t => exact ⟨some (k, t), rfl, rfl⟩
    subst hlp hhp
    refine tail_any (typeIs_str _ _ _) F.slot_str_getitem.lookup (wpAny_getItem_str_slice (l := lp) (u := hp) (st := none) ⟨_, Heap.get?_push_size _ rfl, rfl, rfl⟩ rfl ?_) (by rfl)
    have ec := slicePicked_cut x lp hp h1 h2
    unfold sliceMade
    split
    · rename_i hc'
      simp only [Bool.and_eq_true, beq_iff_eq] at hc'
      have hlen : (cut (lp.map (·.1)) (hp.map (·.1)) x) = x := by
        have q := hc'.2
        unfold slicePicked at q
        rw [show ((none : Option (Int × Tok)).map (·.1)).getD 1 = (1 : Int) from rfl, strIdx, sliceBounds_plain] at q
        simp only [sliceRange_one, List.length_map, List.length_range] at q
        rw [len_mk] at q
        have e := run_cut' x _ _ h1 h2
        rw [q] at e
        rw [← e]
        have b1 : (lp.map (·.1)).elim 0 (clipAt x.length) ≤ x.length ∨ x = [] := by
          cases lp with
          | none => left; simp
          | some k => left; show clipAt x.length k.1 ≤ x.length; rw [clip_nonneg h1.1]; exact Nat.min_le_right _ _
        have b2 : (hp.map (·.1)).elim x.length (clipAt x.length) ≤ x.length := by
          cases hp with
          | none => simp
          | some k => show clipAt x.length k.1 ≤ x.length; rw [clip_nonneg h2.1]; exact Nat.min_le_right _ _
        cases x with
        | nil => simp
        | cons c x =>
          have z : (lp.map (·.1)).elim 0 (clipAt (c :: x).length) = 0 := by
            have : (c :: x).length ≠ 0 := by simp
            omega
          rw [z, List.drop_zero, List.take_length]
      rw [hlen] at h
      exact r.kept (k := s.toks) R (hk _) h ⟨_, rfl⟩
    · rw [ec]
      refine ⟨?_, ?_⟩
      · rw [len_mk, sizeLine_eq]; have := cut_length (lp.map (·.1)) (hp.map (·.1)) x; omega
      · exact r.kept R (hk _) h ⟨_, rfl⟩
  · rename_i x lo' hi' e1 e2
    obtain ⟨t, rfl⟩ := ha
    obtain ⟨⟨h0, h1, h2⟩, h⟩ := h
    refine tail_any (typeIs_bytes _ _ _) FB.slot_bytes_getitem.lookup (getItem_meets (typeIs_bytes _ _ _) (by decide) FB.slot_bytes_getitem FB.entry_bytes_getitem (FB.args_bytes_getitem_2 _ _) (KBc.meets_slice2 x.toArray t _ (part_of hb e1) (part_of hc e2))
      ⟨Heap.IsSliceOf.new _ _ _ _, ?_, fun t' k => ?_⟩) (by rfl)
    · refine Nat.le_trans (KBc.size_picked_le _ _ _) ?_
      rw [sizeLine_eq]; simp; omega
    · rw [KBc.picked_eq]
      have e := run_cut' x lo' hi' h1 h2
      have e' : (x.toArray.toList.drop (lo'.elim 0 (clipAt x.toArray.size))).take (hi'.elim x.toArray.size (clipAt x.toArray.size) - lo'.elim 0 (clipAt x.toArray.size)) = cut lo' hi' x := by
        simpa using e
      rw [e']
      exact r.kept R (hk _) h ⟨_, rfl⟩
  · rename_i i lo' hi' e1 e2
    split at h
    · rename_i xs e
      obtain ⟨a1, i1, rfl, us, hl, vr⟩ := R.at_ e ha
      have hl := hl.isList
      obtain ⟨⟨h0, h1, h2⟩, h⟩ := h
      have hlen := vr.length
      have hsz : us.toArray.size ≤ sizeLine := by
        have q : us.toArray.size = us.length := by simp
        rw [sizeLine_eq]; omega
      refine tail_any (Heap.IsList.typeIs (s := { s with heap := s.heap.push { cls := .type "slice", data := .fields #[b, c, .none] } }) (hl.push _)) list_getitem_lookup
        (wpAny_getItem_list_slice (hl.push _) (Heap.IsSliceOf.new ..) (part_of hb e1) (part_of hc e2) .none (by simp) ?_ hsz) (by rfl)
      rw [slicePick_plain]
      have e := run_cut' us lo' hi' h1 h2
      have e' : (us.toArray.toList.drop (lo'.elim 0 (clipAt us.toArray.size))).take (hi'.elim us.toArray.size (clipAt us.toArray.size) - lo'.elim 0 (clipAt us.toArray.size)) = cut lo' hi' us := by
        simpa using e
      rw [e']
      refine r.made R (o := .list (cut lo' hi' xs)) (fun b ob e => Heap.get?_push_of_some _ (Heap.get?_push_of_some _ e)) ?_ ?_ h
      · show s.heap.get? (s.heap.push { cls := .type "slice", data := .fields #[b, c, .none] }).objs.size = none
        exact none_after s.heap _
      · exact ⟨cut lo' hi' us, ⟨_, Heap.get?_push_size _ rfl⟩, (vr.cut lo' hi').mono⟩
    · exact h.elim
  · exact h.elim
end
end Mine
end

section
open PySem PySem.W PyProof.Rows PySem.Calls
set_option linter.unusedVariables false
namespace Mine

/-- an iterator that stands in the frame: where it walks (`src`: a list that may live on), what it gives -/
structure Turns (prog : Program) (w : World) (A : Around) (h₀ : Heap) (ρ₀ : List Addr) (I : Addr) (src : Option Nat) (xs : List V) (St : Nat → Heap → Prop) : Prop where
  alive : ∀ i h, St i h → ∃ o, h.get? I = some o
  frame : ∀ i h h', St i h → (∀ o, h.get? I = some o → h'.get? I = some o) → St i h'
  item : ∀ i v ρ σ (s : Shared) (Q : Option Value → Shared → Prop) (E : Value → Shared → Prop), St i s.heap → Rep h₀ (ρ₀ ++ ρ) σ s.heap → I ∉ ρ₀ ++ ρ → srcOk src xs σ → xs[i]? = some v →
    (∀ u h' tk, VR (ρ₀ ++ ρ) u v → St (i + 1) h' → (∀ b o, b ≠ I → s.heap.get? b = some o → h'.get? b = some o) → Q (some u) { s with heap := h', toks := tk }) → wpAny (model prog w) A (pyNext (.ref I)) Q E s
  done : ∀ ρ σ (s : Shared) (Q : Option Value → Shared → Prop) (E : Value → Shared → Prop), St xs.length s.heap → Rep h₀ (ρ₀ ++ ρ) σ s.heap → I ∉ ρ₀ ++ ρ → srcOk src xs σ →
    (∀ h' tk, (∀ b o, b ≠ I → s.heap.get? b = some o → h'.get? b = some o) → Q none { s with heap := h', toks := tk }) → wpAny (model prog w) A (pyNext (.ref I)) Q E s
  self : ∀ i (s : Shared) (Q : Value → Shared → Prop) (E : Value → Shared → Prop), St i s.heap → Q (.ref I) s → wpAny (model prog w) A (pyIter (.ref I)) Q E s

theorem turns_walks {prog : Program} {w : World} {A : Around} {h₀ : Heap} {ρ₀ : List Addr} {I : Addr} {n : Nat} {P : Nat → Value → Prop} {St : Nat → Heap → Prop} {xs : List V} (W : Walks prog w A I [I] [I] n P St) (hn : xs.length = n) (hA : ∀ i h, St i h → ∃ o, h.get? I = some o)
    (hP : ∀ ρ i u v, P i u → xs[i]? = some v → VR ρ u v) : Turns prog w A h₀ ρ₀ I none xs St where
  alive := hA
  frame := fun i h h' st hk => W.frame i h h' st fun b hb o e => by rw [List.mem_singleton] at hb; subst hb; exact hk o e
  item := fun i v ρ σ s Q E st R hI _ hx hQ => W.item i s Q E (by
      by_cases hi : i < n
      · exact hi
      · rw [List.getElem?_eq_none (by omega)] at hx; cases hx) st fun u h' tk hp st' hk => hQ u h' tk (hP _ _ _ _ hp hx) st' fun b o hb e => hk b o (by simpa using hb) e
  done := fun ρ σ s Q E st R hI _ hQ => W.done s Q E (hn ▸ st) fun h' tk hk => hQ h' tk fun b o hb e => hk b o (by simpa using hb) e
  self := W.self

theorem turns_list {prog : Program} {w : World} {A : Around} {h₀ : Heap} {ρ₀ : List Addr} {I a : Addr} {i : Nat} {xs : List V} (hh : A.handled = none) (e : ρ₀[i]? = some a) (hI : I ∉ ρ₀) :
    Turns prog w A h₀ ρ₀ I (some i) xs (fun k h => h.IsListIter I a k) where
  alive := fun _ _ st => let ⟨o, ho, _⟩ := st; ⟨o, ho⟩
  frame := fun k h h' st hk => let ⟨o, ho, r⟩ := st; ⟨o, hk o ho, r⟩
  item := fun k v ρ σ s Q E st R hI' ok hx hQ => by
    have e1 : (ρ₀ ++ ρ)[i]? = some a := by rw [List.getElem?_append_left (by
      by_cases hi : i < ρ₀.length
      · exact hi
      · rw [List.getElem?_eq_none (by omega)] at e; cases e)]; exact e
    obtain ⟨us, hl, vr⟩ := R.objs i a _ e1 ok
    have hl := hl.isList
    obtain ⟨u, hu, vu⟩ := vr.get hx
    refine wpAny_pyNext_list_item st hl (by simpa using hu) fun h' st' hs => ?_
    exact hQ u h' s.toks vu st' fun b o hb eb => hs.extBut b o hb eb
  done := fun ρ σ s Q E st R hI' ok hQ => by
    have e1 : (ρ₀ ++ ρ)[i]? = some a := by rw [List.getElem?_append_left (by
      by_cases hi : i < ρ₀.length
      · exact hi
      · rw [List.getElem?_eq_none (by omega)] at e; cases e)]; exact e
    obtain ⟨us, hl, vr⟩ := R.objs i a _ e1 ok
    have hl := hl.isList
    have hlen := vr.length
    refine wpAny_pyNext_list_end hh st hl (by simp [hlen]) fun h' hs => ?_
    exact hQ h' s.toks fun b o hb eb => hs b o hb eb
  self := fun i s Q E st hQ => wpAny_pyIter_listiter st hQ

section
variable {prog : Program} {w : World} {A : Around} {E : Value → Shared → Prop} {s : Shared} {h₀ : Heap} {mg mb : Str → Option Value} {G : Ora} {ρ : List Addr} {σ : List O} {Q : Value → Shared → Prop} {dp : Nat}

theorem Rep.notin_size (R : Rep h₀ ρ σ s.heap) : s.heap.objs.size ∉ ρ := fun hm => by
  obtain ⟨o, e⟩ := R.alive hm
  rw [none_of_size] at e
  cases e
theorem srcOk_of {v : V} {src : Option Nat} {xs : List V} (e : items? v σ = some (src, xs)) : srcOk src xs σ := by
  unfold items? at e
  split at e
  · split at e
    · cases e; rename_i h; exact h
    · cases e; trivial
    · cases e
  · cases e; trivial
  · cases e; trivial
  · cases e

theorem iter_ok {a : Value} {v : V} {src : Option Nat} {xs : List V} (R : Rep h₀ ρ σ s.heap) (ha : VR ρ a v) (e : items? v σ = some (src, xs))
    (r : ∀ (o : Obj) (St : Nat → Heap → Prop), (∀ A' : Around, A'.handled = none → Turns prog w A' h₀ ρ s.heap.objs.size src xs St) → St 0 (s.heap.push o) → Q (.ref s.heap.objs.size) { s with heap := s.heap.push o }) :
    wpAny (model prog w) A (pyIter a) Q E s := by
  unfold items? at e
  split at e
  · split at e
    · cases e
      rename_i i _ xs e
      obtain ⟨a1, i1, rfl, us, hl, vr⟩ := R.at_ e ha
      refine wpAny_pyIter_list hl.isList (r _ (fun k h => h.IsListIter s.heap.objs.size a1 k) (fun A' hA => turns_list hA i1 R.notin_size) ⟨_, Heap.get?_push_size _ rfl, rfl, rfl⟩)
    · cases e
      rename_i i _ x c n e
      obtain ⟨a1, i1, rfl, y, t1, t2, t3, hr, hs, hz⟩ := R.at_ e ha
      refine wpAny_pyIter_range hr hs ?_
      rw [hz]
      refine r _ _ (fun A' hA => turns_walks (Walks.range hA s.heap.objs.size x c n) (by simp) (fun _ _ st => ⟨_, st⟩) ?_) ?_
      · intro ρ i u v hp hx
        obtain ⟨t, rfl⟩ := hp
        rw [List.getElem?_map] at hx
        obtain ⟨k, hk, rfl⟩ := Option.map_eq_some_iff.mp hx
        have : k = i := by
          rw [List.getElem?_range] at hk
          · cases hk; rfl
          · by_cases hi : i < n
            · exact hi
            · rw [List.getElem?_eq_none (by simp; omega)] at hk; cases hk
        subst this
        exact ⟨t, rfl⟩
      · have e0 : x + ((0 : Nat) : Int) * c = x := by simp
        have e1 : (n : Int) - ((0 : Nat) : Int) = n := by simp
        show IsRangeIter _ _ _ _ _
        rw [e0, e1]
        exact Heap.get?_push_size _ rfl
    · cases e
  · cases e
    rename_i _ x
    obtain ⟨t, rfl⟩ := ha
    have sign : ∀ (ρ : List Addr) (i : Nat) (u : Value) (v : V), SignAt ⟨x.toArray⟩ i u → (x.map fun c => V.str [c])[i]? = some v → VR ρ u v := by
      intro ρ i u v hp hx
      obtain ⟨c, t, hc, rfl⟩ := hp
      have hc' : x[i]? = some c := by simpa using hc
      rw [List.getElem?_map, hc'] at hx
      cases hx
      exact ⟨t, rfl⟩
    cases hb : (Str.mk x.toArray).cps.all (· < 128)
    · exact wpAny_pyIter_wide hb (r _ _ (fun A' hA => turns_walks (Walks.strWide hA _ _ t) (by simp) (fun _ _ st => let ⟨o, ho, _⟩ := st; ⟨o, ho⟩) sign) ⟨_, Heap.get?_push_size _ rfl, rfl, rfl⟩)
    · exact wpAny_pyIter_ascii hb (r _ _ (fun A' hA => turns_walks (Walks.strAscii hA _ _ t) (by simp) (fun _ _ st => let ⟨o, ho, _⟩ := st; ⟨o, ho⟩) sign) ⟨_, Heap.get?_push_size _ rfl, rfl, rfl⟩)
  · cases e
    rename_i _ x
    obtain ⟨t, rfl⟩ := ha
    refine KBw.pyIter_bytes (r _ _ (fun A' hA => turns_walks (KBw.walks hA s.heap.objs.size x.toArray t) (by simp) (fun _ _ st => let ⟨o, ho, _⟩ := st; ⟨o, ho⟩) ?_) ⟨_, Heap.get?_push_size _ rfl, rfl, rfl⟩)
    intro ρ i u v hp hx
    obtain ⟨c, t, hc, rfl⟩ := hp
    have hc' : x[i]? = some c := by simpa using hc
    rw [List.getElem?_map, hc'] at hx
    cases hx
    exact ⟨t, rfl⟩
  · cases e
end
end Mine
end

section
open PySem PySem.W PyProof.Rows PySem.Calls
set_option linter.unusedVariables false
namespace Mine

/-- the frame: where the names lie -/
structure Frm (env : Env) (h : Heap) (ρ : List Addr) (sc : Scope) (l : Loc) : Prop where
  scope : env.scope = sc
  kind : sc.kind = .function
  glob : env.globals = mainGlobals
  bltn : env.builtins = builtinsNs
  ns : ∃ m, h.Ns env.locals m ∧ ∀ x v, l.lookup x = some v → sc.names.lookup x = some .local → ∃ u, m x = some u ∧ VR ρ u v
  off : env.locals ∉ ρ
  cell : ∀ x v, l.lookup x = some v → sc.names.lookup x = some .cell → ∃ c u, env.cells.lookup x = some c ∧ h.IsCell c (some u) ∧ c ∉ ρ ∧ VR ρ u v

theorem Ns.alive {h : Heap} {a : Addr} {m : Str → Option Value} (x : h.Ns a m) : ∃ o, h.get? a = some o := by
  obtain ⟨o, es, ep, ho, _⟩ := x
  exact ⟨o, ho⟩

theorem Frm.step {env : Env} {s s' : Shared} {ρ t : List Addr} {sc : Scope} {l : Loc} (F : Frm env s.heap ρ sc l) (x : Ext ρ t s s') : Frm env s'.heap (ρ ++ t) sc l := by
  refine ⟨F.scope, F.kind, F.glob, F.bltn, ?_, fun hm => ?_, fun y v hy hk => ?_⟩
  · obtain ⟨m, hn, hm⟩ := F.ns
    refine ⟨m, hn.at' fun o e => x.keep _ o F.off e, fun y v hy hk => ?_⟩
    obtain ⟨u, hu, vu⟩ := hm y v hy hk
    exact ⟨u, hu, vu.mono⟩
  · rcases List.mem_append.mp hm with hm | hm
    · exact F.off hm
    · obtain ⟨m, hn, _⟩ := F.ns
      obtain ⟨o, ho⟩ := Ns.alive hn
      rw [x.fresh _ hm] at ho; cases ho
  · obtain ⟨c, u, hc, ⟨o, ho, hd⟩, off, vu⟩ := F.cell y v hy hk
    refine ⟨c, u, hc, ⟨o, x.keep _ o off ho, hd⟩, fun hm => ?_, vu.mono⟩
    rcases List.mem_append.mp hm with hm | hm
    · exact off hm
    · rw [x.fresh _ hm] at ho; cases ho

/-! the cells a block captures -/
noncomputable def closL (cells : List (Str × Addr)) : List (Str × NameKind) → List (Str × Addr) → List (Str × Addr)
  | [], acc => acc
  | (n, k) :: r, acc => match k == .free with
    | true => closL cells r ((n, (cells.lookup n).getD 0) :: acc)
    | false => closL cells r acc

theorem closure_eq {scope : Scope} {env : Env} (h : ∀ y ∈ scope.names, y.2 = .free → (env.cells.lookup y.1).isSome = true) : closureFor scope env = pure (closL env.cells scope.names []) := by
  unfold closureFor
  have go : ∀ (names : List (Str × NameKind)) (acc : List (Str × Addr)), (∀ y ∈ names, y.2 = .free → (env.cells.lookup y.1).isSome = true) →
      (forIn names acc fun (x : Str × NameKind) (cs : List (Str × Addr)) => (match x with
        | (name, kind) => if (kind == .free) = true then (do let a ← cellOf env name; pure (ForInStep.yield ((name, a) :: cs))) else pure (ForInStep.yield cs) : Sem (ForInStep (List (Str × Addr))))) = (pure (closL env.cells names acc) : Sem _) := by
    intro names
    induction names with
    | nil => intro acc _; rfl
    | cons x r ih =>
      obtain ⟨n, k⟩ := x
      intro acc hx
      rw [List.forIn_cons]
      unfold closL
      cases hk : k == NameKind.free with
      | true =>
        have hs := hx (n, k) List.mem_cons_self (by simpa using hk)
        obtain ⟨c, hc⟩ := Option.isSome_iff_exists.mp hs
        have e : cellOf env n = pure c := by unfold cellOf; rw [hc]
        simp only [hk, if_true, e, hc, Option.getD_some]
        exact ih _ fun y hy => hx y (List.mem_cons_of_mem _ hy)
      | false =>
        simp only [hk, Bool.false_eq_true, if_false]
        exact ih _ fun y hy => hx y (List.mem_cons_of_mem _ hy)
  have e := go scope.names [] h
  show (forIn scope.names [] _ >>= fun cs => pure cs) = _
  exact (congrArg (fun m => m >>= fun cs => pure cs) e).trans rfl

theorem closL_lookup {cells : List (Str × Addr)} {y : Str} {c : Addr} (hc : cells.lookup y = some c) : ∀ (names : List (Str × NameKind)) (acc : List (Str × Addr)),
    ((y, NameKind.free) ∈ names ∨ acc.lookup y = some c) → (closL cells names acc).lookup y = some c
  | [], acc, h => h.elim (fun h => nomatch h) id
  | (n, k) :: r, acc, h => by
    unfold closL
    cases hk : k == NameKind.free with
    | true =>
      refine closL_lookup hc r _ ?_
      by_cases hy : y = n
      · subst hy
        right
        simp [hc]
      · rcases h with h | h
        · rcases List.mem_cons.mp h with e | h
          · exact absurd (congrArg Prod.fst e) hy
          · exact .inl h
        · right
          have : (y == n) = false := by simpa using hy
          rw [List.lookup_cons, this]; exact h
    | false =>
      refine closL_lookup hc r _ ?_
      rcases h with h | h
      · rcases List.mem_cons.mp h with e | h
        · cases e; cases hk
        · exact .inl h
      · exact .inr h

theorem cellsFrom_skip {y : Str} : ∀ (names : List (Str × NameKind)) (n : Nat) (acc : List (Str × Addr)), (∀ p ∈ names, p.2 = .cell → p.1 ≠ y) → (cellsFrom n names acc).lookup y = acc.lookup y
  | [], _, _, _ => rfl
  | (m, k) :: r, n, acc, h => by
    unfold cellsFrom
    split
    · rename_i hk
      rw [cellsFrom_skip r _ _ fun p hp => h p (List.mem_cons_of_mem _ hp)]
      have : m ≠ y := h (m, k) List.mem_cons_self (by simpa using hk)
      have hb : (y == m) = false := by
        cases hq : y == m with
        | false => rfl
        | true => exact absurd (eq_of_beq hq).symm this
      rw [List.lookup_cons, hb]
    · exact cellsFrom_skip r _ _ fun p hp => h p (List.mem_cons_of_mem _ hp)

/-- a name of the block's own, held in a cell: the cell is new and empty -/
theorem cellsFrom_new {y : Str} : ∀ (names : List (Str × NameKind)) (h : Heap) (acc : List (Str × Addr)), (y, NameKind.cell) ∈ names →
    ∃ c, (cellsFrom h.objs.size names acc).lookup y = some c ∧ h.objs.size ≤ c ∧ (pushCells h names).IsCell c none
  | [], _, _, hm => nomatch hm
  | (m, k) :: r, h, acc, hm => by
    unfold cellsFrom pushCells
    split
    · rename_i hk
      have hs : (h.push { cls := .type "cell", data := .cell none }).objs.size = h.objs.size + 1 := Heap.size_push ..
      by_cases hr : (y, NameKind.cell) ∈ r
      · obtain ⟨c, e, hc, x⟩ := cellsFrom_new r (h.push { cls := .type "cell", data := .cell none }) ((m, h.objs.size) :: acc) hr
        rw [hs] at e hc
        exact ⟨c, e, Nat.le_trans (Nat.le_succ _) hc, x⟩
      · have hy : y = m := by
          rcases List.mem_cons.mp hm with e | hm
          · exact congrArg Prod.fst e
          · exact absurd hm hr
        subst hy
        refine ⟨h.objs.size, ?_, Nat.le_refl _, ⟨_, pushCells_keeps r _ _ _ (Heap.get?_push_size _ rfl), rfl⟩⟩
        rw [cellsFrom_skip r _ _ fun p hp hc he => hr ?_]
        · simp
        · obtain ⟨p1, p2⟩ := p
          cases hc; cases he; exact hp
    · rename_i hk
      refine cellsFrom_new r h acc ?_
      rcases List.mem_cons.mp hm with e | hm
      · cases e; exact absurd rfl hk
      · exact hm

section
variable {M : Model} {A : Around} {E : Value → Shared → Prop} {s : Shared}
theorem newEnv_comp {scope : Scope} {globals : Addr} {cl : List (Str × Addr)} {qual : Str} {env : Env} {Q : Env → Shared → Prop}
    (h : Q { scope, locals := s.heap.objs.size, globals, cells := cellsFrom (s.heap.objs.size + 1) scope.names cl, qual, func := none, code := env.code, frame := env.frame, builtins := env.builtins }
      { s with heap := pushCells (s.heap.push { cls := .type "dict", data := .dict #[] }) scope.names }) :
    wpAny M A (newFunctionEnv scope globals cl [] qual none .none (some env)) Q E s := by
  simp only [newFunctionEnv, Option.isSome_some, if_true]
  refine wpAny_bind (wpAny_alloc ?_)
  refine wpAny_bind (wpAny_layCells _ (fun name kind cells => by cases hkc : kind == NameKind.cell <;> simp [hkc]) _ _ _ _ ?_)
  rw [show ({ s with heap := s.heap.push { cls := .type "dict", data := .dict #[] } } : Shared).heap.objs.size = s.heap.objs.size + 1 from Heap.size_push ..]
  refine wpAny_bind ?_
  rw [List.forIn_nil]
  exact wpAny_pure (wpAny_pure h)
end
end Mine
end

section
open PySem PySem.W PyProof.Rows PySem.Calls
set_option linter.unusedVariables false
set_option maxRecDepth 100000
namespace Mine

theorem f_gt0 (P : Params) : plainGet (Mine.K P) 84 "get_token" = true := by kernel_rfl
theorem f_gt (P : Params) : findIn (Mine.K P) (.ref 84) "get_token" = some (some (.ref 74)) := by kernel_rfl
theorem f_pt (P : Params) : findIn (Mine.K P) (.ref 84) "push_token" = some (some (.ref 81)) := by kernel_rfl
theorem f_t74 (P : Params) : isFn (Mine.K P) (.ref 74) = true := by kernel_rfl
theorem f_t81 (P : Params) : isFn (Mine.K P) (.ref 81) = true := by kernel_rfl
theorem f_hd (P : Params) : hasDictIn (Mine.K P) 84 = true := by kernel_rfl
theorem f_pb (P : Params) : findIn (Mine.K P) (.ref 84) "pushback" = some none := by kernel_rfl

structure CallOk (prog : Program) (w : World) (h₀ : Heap) (G : Ora) (dp : Nat) : Prop where
  keeps : ∀ u vs σ KK, G.call u vs σ KK → (keepIn (Mine.K w.params) (gval u) = true ∨ ∀ a, gval u ≠ .ref a)
  run : ∀ (A : Around), Fits A dp → ∀ (s : Shared) (E : Value → Shared → Prop) (Q : Value → Shared → Prop) (ρ : List Addr) (σ : List O) (KK : KV) (u : GN) (us : List Value) (vs : List V),
    Rep h₀ ρ σ s.heap → VRs ρ us vs → G.call u vs σ KK → ResE h₀ ρ s KK Q → wpAny (model prog w) A (call (gval u) us) Q E s

noncomputable abbrev EvOk (prog : Program) (w : World) (A : Around) (h₀ : Heap) (G : Ora) (n : Nat) : Prop :=
  ∀ (env : Env) (sc : Scope) (l : Loc) (e : Expr) (σ : List O) (KK : KV) (ρ : List Addr) (s : Shared) (E : Value → Shared → Prop) (Q : Value → Shared → Prop),
    Frm env s.heap ρ sc l → Rep h₀ ρ σ s.heap → wpX G n false sc l e σ KK → ResE h₀ ρ s KK Q → wpAny (model prog w) A (eval e env) Q E s
noncomputable abbrev TrOk (prog : Program) (w : World) (A : Around) (h₀ : Heap) (G : Ora) (n : Nat) : Prop :=
  ∀ (env : Env) (sc : Scope) (l : Loc) (e : Expr) (σ : List O) (KK : KV) (ρ : List Addr) (s : Shared) (E : Value → Shared → Prop) (Q : Bool → Shared → Prop),
    Frm env s.heap ρ sc l → Rep h₀ ρ σ s.heap → wpX G n true sc l e σ KK → ResB h₀ ρ s (fun b σ => KK (.bool b) σ) Q → wpAny (model prog w) A (isTrue e env (eval e env)) Q E s

section
variable {prog : Program} {w : World} {A : Around} {E : Value → Shared → Prop} {s : Shared} {h₀ : Heap} {mg mb : Str → Option Value} {G : Ora} {ρ : List Addr} {σ : List O} {KK : KV} {Q : Value → Shared → Prop} {dp : Nat}
  {env : Env} {sc : Scope} {l : Loc} {n : Nat}

theorem const_ok {c : Const} {k : Nat} {pos : Pos} {v : V} (R : Rep h₀ ρ σ s.heap) (h : constV c = some v) (hk : KK v σ) (r : ResE h₀ ρ s KK Q) : wpAny (model prog w) A (eval (.Constant c k pos) env) Q E s := by
  unfold constV at h
  split at h
  · cases h; exact wpAny_Constant_none (r.now' R hk rfl)
  · cases h; exact wpAny_Constant_bool (r.now' R hk rfl)
  · cases h; exact wpAny_Constant_int (r.now R hk ⟨_, rfl⟩)
  · cases h; exact wpAny_Constant_str (r.now R hk ⟨s.toks, by simp⟩)
  · cases h; exact fun _ _ _ => r.now R hk ⟨_, rfl⟩
  · cases h

theorem name_ok (S : Setup prog w h₀ mg mb G) {x : Str} {pos : Pos} (F : Frm env s.heap ρ sc l) (R : Rep h₀ ρ σ s.heap) (h : wpX G (n + 1) false sc l (.Name x pos) σ KK) (r : ResE h₀ ρ s KK Q) :
    wpAny (model prog w) A (eval (.Name x pos) env) Q E s := by
  have hkind : env.scope.kind = .function := by rw [F.scope]; exact F.kind
  conv at h => whnf
  split at h
  · rename_i h1 h2
    split at h
    · rename_i v hv
      obtain ⟨m, hn, hm⟩ := F.ns
      obtain ⟨u, hu, vu⟩ := hm x v hv h2
      exact wpAny_Name (wpAny_loadName_local hkind (by show env.scope.names.lookup x = _; rw [F.scope]; exact h2) hn hu (r.now' R h vu)) h1
    · exact h.elim
  · rename_i h1 h2
    split at h
    · rename_i v hv
      obtain ⟨c, u, hc, hcell, _, vu⟩ := F.cell x v hv h2
      exact wpAny_Name (wpAny_loadName_cell hkind (by show env.scope.names.lookup x = _; rw [F.scope]; exact h2) hc hcell (r.now' R h vu)) h1
    · exact h.elim
  · rename_i h1 h2
    split at h
    · rename_i u hu
      have nsg : s.heap.Ns env.globals mg := by rw [F.glob]; exact S.nsg.keeps R.keep
      have nsb : s.heap.Ns env.builtins mb := by rw [F.bltn]; exact S.nsb.keeps R.keep
      refine Name_function_global hkind (by show env.scope.names.lookup x = _; rw [F.scope]; exact h2) ?_ h1
      rcases S.gl x u hu with hg | ⟨hg, hb⟩
      · exact loadGlobal_global nsg hg (r.now' R h rfl)
      · exact loadGlobal_builtin nsg hg nsb hb (r.now' R h rfl)
    · exact h.elim
  · exact h.elim

theorem starEach_plain {e : Expr} {es : List Expr} (h : noStar (e :: es) = true) : starEach (e :: es) env = (false, eval e env) :: starEach es env ∧ noStar es = true := by
  cases e <;> first | (simp [noStar] at h; done) | exact ⟨rfl, h⟩
theorem evs_ok (ev : EvOk prog w A h₀ G n) {pos : Pos} : ∀ (es : List Expr) (σ : List O) (KL : List V → List O → Prop) (ρ : List Addr) (s : Shared) (E : Value → Shared → Prop) (Q : List Value → Shared → Prop), noStar es = true →
    Frm env s.heap ρ sc l → Rep h₀ ρ σ s.heap → evs (wpX G n false sc l) es σ KL → ResL h₀ ρ s KL Q → wpAny (model prog w) A (spliced (backTo pos (starEach es env))) Q E s
  | [], σ, KL, ρ, s, E, Q, _, F, R, h, r => Calls.spliced_nil (r [] [] σ [] s h (by exact trivial) (by rw [List.append_nil]; exact R) Ext.refl)
  | e :: es, σ, KL, ρ, s, E, Q, hs, F, R, h, r => by
    obtain ⟨he, hs'⟩ := starEach_plain (env := env) hs
    refine spliced_more (ev env sc l e σ _ ρ s E _ F R h fun u v σ' t s' hk vr R' x => ?_) he
    refine evs_ok ev es σ' _ (ρ ++ t) s' E _ hs' (F.step x) R' hk fun us vs σ'' t' s'' hk' vrs R'' y => ?_
    rw [List.append_assoc] at vrs R''
    refine r (u :: us) (v :: vs) σ'' (t ++ t') s'' hk' ⟨?_, vrs⟩ R'' (x.trans R' y)
    rw [← List.append_assoc]
    exact vr.mono

theorem plain_args : ∀ (es : List Expr) (pos : Pos), noStar es = true → (backTo pos (starEach es env)).any (·.1) = false
  | [], _, _ => rfl
  | e :: es, pos, h => by
    obtain ⟨he, hs⟩ := starEach_plain (env := env) h
    rw [he]
    exact plain_args es pos hs
theorem keepsG {f : Value} (hk : keepIn (Mine.K w.params) f = true ∨ ∀ a, f ≠ .ref a) (h : Heap) (X : (Mine.K w.params).In h) : ∃ k, (k = Keeper.frame ∨ k = Keeper.machine ∨ k = Keeper.boundFrame) ∧ Looks (model prog w) h (keeperOf f) k := by
  rcases hk with hk | hk
  · exact keeps_K hk h X
  · refine ⟨.machine, .inr (.inl rfl), ?_⟩
    cases f with
    | ref a => exact absurd rfl (hk a)
    | _ => exact .now

/-- a call with its arguments -/
theorem args_ok (ev : EvOk prog w A h₀ G n) (S : Setup prog w h₀ mg mb G) {f : Value} {first : List Value} {pos : Pos} {es : List Expr} {KL : List V → List O → Prop} (hs : noStar es = true) (F : Frm env s.heap ρ sc l) (R : Rep h₀ ρ σ s.heap)
    (h : evs (wpX G n false sc l) es σ KL) (r : ResL h₀ ρ s KL fun vs s' => (keepIn (Mine.K w.params) f = true ∨ ∀ a, f ≠ .ref a) ∧ (Mine.K w.params).In s'.heap ∧ wpAny (model prog w) A (call f (first ++ vs)) Q E s') :
    wpAny (model prog w) A (callWith pos f first (backTo pos (starEach es env)) []) Q E s := by
  refine callWith_of (P := fun h => (keepIn (Mine.K w.params) f = true ∨ ∀ a, f ≠ .ref a) ∧ (Mine.K w.params).In h) (by rw [plain_args es pos hs]; rfl) (fun h X => keepsG X.1 h X.2) ?_
  cases es with
  | nil =>
    have h1 := r [] [] σ [] s h (by exact trivial) (by rw [List.append_nil]; exact R) Ext.refl
    exact evalArgs_nil3 ⟨⟨h1.1, h1.2.1⟩, h1.2.2⟩
  | cons e es =>
    have H := evs_ok ev (env := env) (pos := pos) (e :: es) σ KL ρ s E _ hs F R h r
    obtain ⟨he, _⟩ := starEach_plain (env := env) hs
    rw [he] at H ⊢
    refine evalArgs_plain (wpAny_mono H (fun vs s' hh => ⟨⟨hh.1, hh.2.1⟩, hh.2.2⟩) fun _ _ x => x)
end
end Mine
end

section
open PySem PySem.W PyProof.Rows PySem.Calls
set_option linter.unusedVariables false
set_option maxRecDepth 100000
namespace Mine

theorem base_ok {o : Expr} {name : Str} {env : Env} {t : Sem Value} (h : baseOk o = true) : attributeBase o name env t = t := by
  cases o <;> first | rfl | cases h

section
variable {prog : Program} {w : World} {A : Around} {E : Value → Shared → Prop} {s : Shared} {h₀ : Heap} {mg mb : Str → Option Value} {G : Ora} {ρ : List Addr} {σ : List O} {KK : KV} {Q : Value → Shared → Prop} {dp : Nat}
  {env : Env} {sc : Scope} {l : Loc} {n : Nat}

theorem few_args {args : List Expr} {pos : Pos} (h : noStar args = true) (h5 : args.length < 5) : methodCallForm (args.length + ([] : List Keyword).length) (backTo pos (starEach args env)) (backToKw pos (keywordEach [] env)) = true := by
  unfold methodCallForm
  have e : ((backTo pos (starEach args env)).all fun x => !x.1) = true := by
    have := plain_args (env := env) args pos h
    rw [List.all_eq_not_any_not]
    simp only [Bool.not_not]
    rw [this]; rfl
  rw [e]
  show (true && true && decide (args.length + 0 + 0 < 30)) = true
  simp; omega

theorem call_method {o : Expr} {name : Str} {apos pos : Pos} {args : List Expr} (hb : baseOk o = true) (hs : noStar args = true) (h5 : args.length < 5) (hline : (apos.endLine == pos.line) = true)
    (h : wpAny (model prog w) A (eval o env) (fun ov s₁ => ∀ pl, wpAny (model prog w) A (getMethod ov name pl) (fun p s₂ => wpAny (model prog w) A (callWith pos p.1 p.2 (backTo pos (starEach args env)) []) Q E s₂) E s₁) E s) :
    wpAny (model prog w) A (eval (.Call (.Attribute o name apos) args [] pos) env) Q E s := by
  rw [arm_eval_Call, base_ok hb]
  refine wpAny_bind (wpAny_mono h (fun ov s₁ h₁ => wpAny_bind (wpAny_standAt ?_)) fun _ _ e => e)
  unfold methodCall
  rw [few_args hs h5]
  have hpos : methodCallPos true o env apos pos = pure pos := by unfold methodCallPos; simp [hline]
  refine wpAny_bind (wpAny_holding (wpAny_mono (h₁ _) (fun p s₂ h₂ => ?_) fun _ _ e => e))
  exact wpAny_bind (wpAny_of_eq hpos h₂)

theorem strs_of : ∀ {us : List Value} {ss : List (List Nat)}, VRs ρ us (ss.map V.str) → ∃ l : List (Str × Tok), us = strValues l ∧ l.map (·.1) = ss.map fun x => (⟨x.toArray⟩ : Str)
  | [], [], _ => ⟨[], rfl, rfl⟩
  | u :: us, x :: ss, h => by
    obtain ⟨t, rfl⟩ := h.1
    obtain ⟨l, rfl, e⟩ := strs_of h.2
    exact ⟨(⟨x.toArray⟩, t) :: l, rfl, by simp [e]⟩
  | [], _ :: _, h => h.elim
  | _ :: _, [], h => h.elim
theorem glued_empty : ∀ (ss : List (List Nat)), Builtin.Str.glued (⟨#[]⟩ : Str) (ss.map fun x => (⟨x.toArray⟩ : Str)) = ⟨ss.flatten.toArray⟩ := by
  have go : ∀ (ss : List (List Nat)) (acc : Array Nat), (ss.map fun x => (⟨x.toArray⟩ : Str)).foldl (fun acc p => acc ++ (⟨#[]⟩ : Str).cps ++ p.cps) acc = acc ++ ss.flatten.toArray := by
    intro ss
    induction ss with
    | nil => intro acc; simp
    | cons x ss ih => intro acc; rw [List.map_cons, List.foldl_cons, ih]; simp
  intro ss
  cases ss with
  | nil => rfl
  | cons x ss =>
    show (⟨(ss.map fun x => (⟨x.toArray⟩ : Str)).foldl (fun acc p => acc ++ (⟨#[]⟩ : Str).cps ++ p.cps) x.toArray⟩ : Str) = _
    rw [go]; simp
theorem total_empty : ∀ (ss : List (List Nat)) (k : Nat), (ss.map fun x => (⟨x.toArray⟩ : Str)).toArray.foldl (fun n p => n + p.length + (⟨#[]⟩ : Str).length) k = k + ss.flatten.length := by
  intro ss
  induction ss with
  | nil => intro k; simp
  | cons x ss ih =>
    intro k
    have := ih (k + x.length)
    simp only [List.foldl_toArray'] at this ⊢
    simp only [List.map_cons, List.foldl_cons, List.flatten_cons, List.length_append, Str.length] at this ⊢
    simp at this ⊢
    omega

theorem join_ok {a : Value} {i : Nat} {ss : List (List Nat)} {t : Tok} (R : Rep h₀ ρ σ s.heap) (ha : VR ρ a (.ref i)) (e : σ[i]? = some (.list (ss.map V.str))) (h1 : ss.flatten.length ≤ 1000) (hk : KK (.str ss.flatten) σ) (r : ResE h₀ ρ s KK Q) :
    wpAny (model prog w) A (call (.builtin "str.join") [.str ⟨#[]⟩ t, a]) Q E s := by
  obtain ⟨a1, i1, rfl, us, hl, vr⟩ := R.at_ e ha
  obtain ⟨ls, rfl, e2⟩ := strs_of vr
  have hsz : Builtin.Str.tooLong ((ls.map (·.1)).toArray.foldl (· + ·.length + (⟨#[]⟩ : Str).length) 0) = false := by
    rw [e2, total_empty]
    unfold Builtin.Str.tooLong
    rw [sizeLine_eq, decide_eq_false_iff_not]; omega
  refine call_meets F.slot_str_join (typeIs_str _ _ _) F.entry_str_join (F.args_str_join_2 _ _) (meets_str_join_list _ t a1 ls hsz) ⟨hl.isList, ?_⟩
  have ge : Builtin.Str.glued (⟨#[]⟩ : Str) (ls.map (·.1)) = ⟨ss.flatten.toArray⟩ := by rw [e2, glued_empty]
  have gen : ∀ s' : Shared, s' = s → (Made.str (Builtin.Str.glued (⟨#[]⟩ : Str) (ls.map (·.1)))).post Q s' := by
    rintro s' rfl
    rw [ge]
    exact ⟨by rw [len_mk, sizeLine_eq]; omega, r.now R hk ⟨_, rfl⟩⟩
  unfold joinMade
  split
  · rename_i p
    obtain ⟨x, rfl⟩ : ∃ x, ss = [x] := by
      have := congrArg List.length e2
      simp at this
      match ss, this with
      | [x], _ => exact ⟨x, rfl⟩
    have : p.1 = ⟨x.toArray⟩ := by simpa using e2
    show Q (.str p.1 p.2) s
    rw [this]
    refine r.now' R hk ⟨p.2, ?_⟩
    simp
  · exact gen s rfl
end
end Mine
end

section
open PySem PySem.W PyProof.Rows PySem.Calls
set_option linter.unusedVariables false
set_option maxRecDepth 100000
namespace Mine

noncomputable def mkStr : MK → Str
  | .append => "append"
  | .pop => "pop"
  | .get => "get_token"
  | .push => "push_token"
  | .join => "join"
theorem mk_name {name : Str} {k : MK} (h : mkOf name = some k) : name = mkStr k := by
  unfold mkOf at h
  split at h
  · rename_i e; cases h; exact eq_of_beq e
  · split at h
    · rename_i e; cases h; exact eq_of_beq e
    · split at h
      · rename_i e; cases h; exact eq_of_beq e
      · split at h
        · rename_i e; cases h; exact eq_of_beq e
        · split at h
          · rename_i e; cases h; exact eq_of_beq e
          · cases h

section
variable {prog : Program} {w : World} {A : Around} {E : Value → Shared → Prop} {s : Shared} {h₀ : Heap} {mg mb : Str → Option Value} {G : Ora} {ρ : List Addr} {σ : List O} {KK : KV} {Q : Value → Shared → Prop} {dp : Nat}
  {env : Env} {sc : Scope} {l : Loc} {n : Nat}

theorem append_ok {a u : Value} {i : Nat} {xs : List V} {v : V} (R : Rep h₀ ρ σ s.heap) (ha : VR ρ a (.ref i)) (hu : VR ρ u v) (e : σ[i]? = some (.list xs)) (h1 : xs.length ≤ 1000000) (hk : KK .none (σ.set i (.list (xs ++ [v])))) (r : ResE h₀ ρ s KK Q) :
    wpAny (model prog w) A (call (.builtin "list.append") [a, u]) Q E s := by
  obtain ⟨a1, i1, rfl, us, hl, vr⟩ := R.at_ e ha
  have hlen := vr.length
  refine wpAny_list_append_plain hl (fun h' hl' hs' => r.upd (k := s.toks) (o := .list (xs ++ [v])) R i1 hs' ⟨us ++ [u], ?_, vr.append ⟨hu, trivial⟩⟩ hk rfl) (by rw [sizeLine_eq]; simp; omega)
  have : us.toArray.push u = (us ++ [u]).toArray := by simp
  rw [← this]; exact hl'

theorem pop_ok {a u : Value} {i : Nat} {xs : List V} {k : Int} (R : Rep h₀ ρ σ s.heap) (ha : VR ρ a (.ref i)) (hu : VR ρ u (.int k)) (e : σ[i]? = some (.list xs)) (h0 : 0 ≤ k) (h1 : k < 4611686018427387904) (h2 : k.toNat < xs.length) (h3 : xs.length ≤ 1000000)
    (hk : ∀ v, xs[k.toNat]? = some v → KK v (σ.set i (.list (xs.eraseIdx k.toNat)))) (r : ResE h₀ ρ s KK Q) : wpAny (model prog w) A (call (.builtin "list.pop") [a, u]) Q E s := by
  obtain ⟨a1, i1, rfl, us, hl, vr⟩ := R.at_ e ha
  obtain ⟨t, rfl⟩ := hu
  have hlen := vr.length
  obtain ⟨m, ho⟩ := id hl
  have hx : xs[k.toNat]? = some xs[k.toNat] := by simp [h2]
  obtain ⟨u, hu, vu⟩ := vr.get hx
  have hsz : us.toArray.size = us.length := by simp
  refine call_meets PySem.F.slot_list_pop ⟨_, ho, rfl⟩ F.entry_list_pop (F.args_list_pop_2 _ _) (MeetsSeq.list_pop_at a1 us.toArray m k t k.toNat u (fitsIndex_of h0 (by omega)) (seqIndex_of h0 (by omega)) (by simpa using hu) (by rw [sizeLine_eq]; omega)) ⟨ho, ?_⟩
  have he : us.toArray.eraseIdxIfInBounds k.toNat = (us.eraseIdx k.toNat).toArray := by
    rw [Array.eraseIdxIfInBounds, dif_pos (by simp; omega)]
    simp
  have hpl : (s.heap.update a1 (Obj.mapSeq fun xs => xs.eraseIdxIfInBounds k.toNat)).PlainList a1 (us.eraseIdx k.toNat).toArray := by
    have hm : Obj.mapSeq (fun xs => xs.eraseIdxIfInBounds k.toNat) { cls := .type "list", data := .seq us.toArray m } = { cls := .type "list", data := .seq (us.toArray.eraseIdxIfInBounds k.toNat) (if (us.toArray.eraseIdxIfInBounds k.toNat).size == us.toArray.size then m else m + 1) } := rfl
    rw [he] at hm
    exact ⟨_, by rw [Heap.get?_update_self _ ho (by rw [hm]; rfl), hm]⟩
  exact r.upd (k := s.toks) (o := .list (xs.eraseIdx k.toNat)) R i1 (Heap.SameBut.update ..) ⟨_, hpl, vr.eraseIdx _⟩ (hk _ hx) vu

theorem inst_of {a : Value} {i j : Nat} {fs : List (Str × V)} (R : Rep h₀ ρ σ s.heap) (ha : VR ρ a (.ref i)) (e : σ[i]? = some (.inst j)) (e' : σ[j]? = some (.dct fs)) :
    ∃ a1 d es m, a = .ref a1 ∧ ρ[j]? = some d ∧ InstAt s.heap a1 (instObj 84 d) 84 (some (dictOf es m)) ∧ DctR ρ es fs := by
  obtain ⟨a1, i1, rfl, d, h1, h2⟩ := R.at_ e ha
  obtain ⟨es, m, h3, h4⟩ := R.objs j d _ h1 e'
  exact ⟨a1, d, es, m, rfl, h1, ⟨h2, rfl, rfl, h3⟩, h4⟩

theorem VRs.one {ρ : List Addr} {us : List Value} {v : V} (h : VRs ρ us [v]) : ∃ u, us = [u] ∧ VRs ρ [u] [v] := by
  cases us with
  | nil => exact h.elim
  | cons u us => cases us with
    | nil => exact ⟨u, rfl, h⟩
    | cons _ _ => exact h.2.elim
theorem VRs.uncons {ρ : List Addr} {us : List Value} {v : V} {vs : List V} (h : VRs ρ us (v :: vs)) : ∃ u us', us = u :: us' ∧ VR ρ u v ∧ VRs ρ us' vs := by
  cases us with
  | nil => exact h.elim
  | cons u us => exact ⟨u, us, rfl, h.1, h.2⟩
theorem VRs.two {ρ : List Addr} {us : List Value} {v v2 : V} (h : VRs ρ us [v, v2]) : ∃ u u2, us = [u, u2] ∧ VRs ρ [u, u2] [v, v2] := by
  obtain ⟨u, us, rfl, a, h⟩ := h.uncons
  obtain ⟨u2, rfl, b⟩ := h.one
  exact ⟨u, u2, rfl, a, b⟩
theorem VRs.three {ρ : List Addr} {us : List Value} {v v2 v3 : V} (h : VRs ρ us [v, v2, v3]) : ∃ u u2 u3, us = [u, u2, u3] ∧ VRs ρ [u, u2, u3] [v, v2, v3] := by
  obtain ⟨u, us, rfl, a, h⟩ := h.uncons
  obtain ⟨u2, u3, rfl, b⟩ := h.two
  exact ⟨u, u2, u3, rfl, a, b⟩
theorem methV_one {name : Str} {k : MK} {i : Nat} {vs : List V} (hk : k = .append ∨ k = .pop) (h : methV G (.ref i) name vs σ KK) (hm : mkOf name = some k) : ∃ v, vs = [v] := by
  unfold methV at h
  rw [hm] at h
  cases vs with
  | nil => rcases hk with rfl | rfl <;> exact h.elim
  | cons v vs => cases vs with
    | nil => exact ⟨v, rfl⟩
    | cons _ _ => rcases hk with rfl | rfl <;> first | exact h.elim | (cases v <;> exact h.elim)

theorem methV_join {name : Str} {vs : List V} (h : methV G (.str []) name vs σ KK) (hm : mkOf name = some .join) : ∃ i, vs = [.ref i] := by
  unfold methV at h
  rw [hm] at h
  cases vs with
  | nil => exact h.elim
  | cons v vs => cases vs with
    | nil => cases v <;> first | exact h.elim | exact ⟨_, rfl⟩
    | cons _ _ => cases v <;> exact h.elim
theorem methOk_join {name : Str} {v : V} (h : methOk v name σ) (hm : mkOf name = some .join) : v = .str [] := by
  unfold methOk at h
  rw [hm] at h
  cases v with
  | str x => cases x with
    | nil => rfl
    | cons _ _ => exact h.elim
  | _ => exact h.elim
theorem meth_ok (ev : EvOk prog w A h₀ G n) (S : Setup prog w h₀ mg mb G) (C : CallOk prog w h₀ G dp) (hf : Fits A dp) {o : Expr} {name : Str} {apos pos : Pos} {args : List Expr} (F : Frm env s.heap ρ sc l) (R : Rep h₀ ρ σ s.heap)
    (h : wpX G (n + 1) false sc l (.Call (.Attribute o name apos) args [] pos) σ KK) (r : ResE h₀ ρ s KK Q) : wpAny (model prog w) A (eval (.Call (.Attribute o name apos) args [] pos) env) Q E s := by
  conv at h => whnf
  split at h
  · rename_i hb
    simp only [Bool.and_eq_true, decide_eq_true_eq] at hb
    obtain ⟨⟨⟨hb, hline⟩, hs⟩, h5⟩ := hb
    refine call_method hb hs h5 hline (ev env sc l o σ _ ρ s E _ F R h fun u v σ1 t s1 hk vr R1 x pl => ?_)
    obtain ⟨hok, hk⟩ := hk
    have F1 := F.step x
    have r1 := r.step x R1
    have hok0 := hok
    unfold methOk at hok
    cases hm : mkOf name with
    | none => rw [hm] at hok; exact hok.elim
    | some k =>
      have ename := mk_name hm
      rw [hm] at hok
      subst ename
      cases k with
      | append =>
        cases v with
        | ref i =>
          dsimp only at hok
          split at hok
          · rename_i xs e
            obtain ⟨a1, i1, rfl, us, ⟨m, ho⟩, _⟩ := R1.at_ e vr
            refine getMethod_builtin (T := "list") ⟨_, ho, rfl⟩ PySem.F.plainAttrs_list slot_list_append type_list_append (fun a ea => ?_) ?_
            · cases ea; exact ⟨_, ho, rfl⟩
            · refine args_ok ev S hs F1 R1 hk fun us vs σ2 t2 s2 hk2 vrs R2 x2 => ⟨.inr (fun a ea => nomatch ea), S.inK.keeps R2.keep, ?_⟩
              obtain ⟨v, rfl⟩ := methV_one (.inl rfl) hk2 hm
              obtain ⟨u, rfl, vrs⟩ := vrs.one
              unfold methV at hk2
              rw [hm] at hk2
              dsimp only at hk2
              split at hk2
              · rename_i xs e2
                exact append_ok R2 vr.mono vrs.1 e2 hk2.1 hk2.2 (r1.step x2 R2)
              · exact hk2.elim
          · exact hok.elim
        | _ => exact hok.elim
      | pop =>
        cases v with
        | ref i =>
          dsimp only at hok
          split at hok
          · rename_i xs e
            obtain ⟨a1, i1, rfl, us, ⟨m, ho⟩, _⟩ := R1.at_ e vr
            refine getMethod_builtin (T := "list") ⟨_, ho, rfl⟩ PySem.F.plainAttrs_list PySem.F.slot_list_pop PySem.F.type_list_pop (fun a ea => ?_) ?_
            · cases ea; exact ⟨_, ho, rfl⟩
            · refine args_ok ev S hs F1 R1 hk fun us vs σ2 t2 s2 hk2 vrs R2 x2 => ⟨.inr (fun a ea => nomatch ea), S.inK.keeps R2.keep, ?_⟩
              obtain ⟨v, rfl⟩ := methV_one (.inr rfl) hk2 hm
              obtain ⟨u, rfl, vrs⟩ := vrs.one
              unfold methV at hk2
              rw [hm] at hk2
              cases v <;> dsimp only at hk2 <;> try exact hk2.elim
              split at hk2
              · rename_i xs e2
                exact pop_ok R2 vr.mono vrs.1 e2 hk2.1.1 hk2.1.2.1 hk2.1.2.2.1 hk2.1.2.2.2 hk2.2 (r1.step x2 R2)
              · exact hk2.elim
          · exact hok.elim
        | _ => exact hok.elim
      | get =>
        cases v with
        | ref i =>
          dsimp only at hok
          split at hok
          rotate_left
          · exact hok.elim
          rename_i j e
          split at hok
          · rename_i p e'
            obtain ⟨a1, d, es, m, rfl, _, I, hd⟩ := inst_of R1 vr e e'
            have hl := hd.no _ hok
            refine method_fn (S.inK.keeps R1.keep) I (plainGet_of (f_gt0 _)).1 (plainGet_of (f_gt0 _)).2 (f_gt _) (beq_iff_eq.mp (f_t74 _)) (by show (lookIn _ (dictOf es m)).map _ = _; rw [lookIn_dict]; show (getL "get_token" es).map _ = _; rw [hl]; rfl) ?_
            refine args_ok ev S hs F1 R1 hk fun us vs σ2 t2 s2 hk2 vrs R2 x2 => ?_
            unfold methV at hk2
            rw [hm] at hk2
            exact ⟨C.keeps _ _ _ _ hk2, S.inK.keeps R2.keep, C.run A hf s2 E Q _ σ2 KK _ (.ref a1 :: us) (.ref i :: vs) R2 ⟨vr.mono, vrs⟩ hk2 (r1.step x2 R2)⟩
          · exact hok.elim
        | _ => exact hok.elim
      | push =>
        cases v with
        | ref i =>
          dsimp only at hok
          split at hok
          rotate_left
          · exact hok.elim
          rename_i j e
          split at hok
          · rename_i p e'
            obtain ⟨a1, d, es, m, rfl, _, I, hd⟩ := inst_of R1 vr e e'
            have hl := hd.no _ hok
            refine method_fn (S.inK.keeps R1.keep) I (plainGet_of (f_gt0 _)).1 (plainGet_of (f_gt0 _)).2 (f_pt _) (beq_iff_eq.mp (f_t81 _)) (by show (lookIn _ (dictOf es m)).map _ = _; rw [lookIn_dict]; show (getL "push_token" es).map _ = _; rw [hl]; rfl) ?_
            refine args_ok ev S hs F1 R1 hk fun us vs σ2 t2 s2 hk2 vrs R2 x2 => ?_
            unfold methV at hk2
            rw [hm] at hk2
            exact ⟨C.keeps _ _ _ _ hk2, S.inK.keeps R2.keep, C.run A hf s2 E Q _ σ2 KK _ (.ref a1 :: us) (.ref i :: vs) R2 ⟨vr.mono, vrs⟩ hk2 (r1.step x2 R2)⟩
          · exact hok.elim
        | _ => exact hok.elim
      | join =>
        obtain rfl := methOk_join hok0 hm
        obtain ⟨t0, eq⟩ := vr
        subst eq
        refine getMethod_builtin (T := "str") (typeIs_str _ _ _) PySem.F.plainAttrs_str PySem.F.slot_str_join PySem.F.type_str_join (fun a ea => nomatch ea) ?_
        refine args_ok ev S hs F1 R1 hk fun us vs σ2 t2 s2 hk2 vrs R2 x2 => ⟨.inr (fun a ea => nomatch ea), S.inK.keeps R2.keep, ?_⟩
        obtain ⟨i, rfl⟩ := methV_join hk2 hm
        obtain ⟨u, rfl, vrs⟩ := vrs.one
        unfold methV at hk2
        rw [hm] at hk2
        dsimp only at hk2
        split at hk2
        · rename_i xs e2
          obtain ⟨ss, rfl, h1, h2⟩ := hk2
          exact join_ok R2 vrs.1 e2 h1 h2 (r1.step x2 R2)
        · exact hk2.elim
  · exact h.elim
end
end Mine
end

section
open PySem PySem.W PyProof.Rows PySem.Calls
set_option linter.unusedVariables false
set_option maxRecDepth 100000
namespace Mine

/-! the comprehension's block -/
structure CompFacts (scope sc : Scope) (x : Str) (l : Loc) : Prop where
  kind : scope.kind = .function
  own : scope.names.lookup x = some .local ∨ scope.names.lookup x = some .cell
  cell : ∀ y, (y, NameKind.cell) ∈ scope.names → y = x
  loc : ∀ y, (y, NameKind.local) ∈ scope.names → scope.names.lookup y = some .local ∧ (y = x ∨ l.lookup y = none)
  free : ∀ y, (y, NameKind.free) ∈ scope.names → (∃ v, l.lookup y = some v) ∧ sc.names.lookup y = some .cell ∧ y ≠ x

theorem compFacts_of {scope sc : Scope} {x : Str} {l : Loc} (h : compOk scope sc x l = true) : CompFacts scope sc x l := by
  unfold compOk at h
  simp only [Bool.and_eq_true, Bool.or_eq_true, List.all_eq_true, beq_iff_eq] at h
  obtain ⟨⟨hk, ho⟩, ha⟩ := h
  refine ⟨hk, ho, fun y hy => ?_, fun y hy => ?_, fun y hy => ?_⟩
  · have := (ha _ hy).1.1
    simp at this
    exact this.2
  · have := (ha _ hy).1.2
    simpa using this
  · have := (ha _ hy).2
    rcases this with h | ⟨⟨h1, h2⟩, h3⟩
    · exact absurd h (by simp)
    · exact ⟨Option.isSome_iff_exists.mp h1, h2, by simpa using h3⟩

noncomputable def relabK (sc : Scope) (n : Str) (k : NameKind) : NameKind := if (k == .free && sc.kind == .function && sc.names.lookup n == some .cell) then .cell else k
theorem relab_lookup (scope sc : Scope) (y : Str) : (relabS scope sc).names.lookup y = (scope.names.lookup y).map (relabK sc y) := by
  show List.lookup y (scope.names.map fun (n, k) => if (k == .free && sc.kind == .function && sc.names.lookup n == some .cell) then (n, NameKind.cell) else (n, k)) = _
  induction scope.names with
  | nil => rfl
  | cons p r ih =>
    obtain ⟨n, k⟩ := p
    have e : (if (k == NameKind.free && sc.kind == .function && sc.names.lookup n == some .cell) = true then (n, NameKind.cell) else (n, k)) = (n, relabK sc n k) := by unfold relabK; split <;> rfl
    simp only [List.map_cons, e]
    rw [List.lookup_cons, List.lookup_cons]
    cases hy : y == n with
    | true => rw [eq_of_beq hy]; rfl
    | false => exact ih

section
variable {env : Env} {h : Heap} {ρ : List Addr} {sc scope : Scope} {l : Loc} {x : Str} {v : V}

noncomputable abbrev compE (scope : Scope) (env : Env) (C n : Addr) : Env :=
  { scope := relabel scope env, locals := C, globals := env.globals, cells := cellsFrom n scope.names (closL env.cells scope.names []), qual := env.qual, func := none, code := env.code, frame := env.frame, builtins := env.builtins }

theorem comp_frame (F : Frm env h ρ sc l) (c : CompFacts scope sc x l) {C n : Addr} {m : Str → Option Value} {u : Value} (hn : h.Ns C m) (hC : C ∉ ρ) (hu : VR ρ u v)
    (hl : scope.names.lookup x = some .local → m x = some u) (hc : scope.names.lookup x = some .cell → ∃ a, (cellsFrom n scope.names (closL env.cells scope.names [])).lookup x = some a ∧ h.IsCell a (some u) ∧ a ∉ ρ) :
    Frm (compE scope env C n) h ρ (relabS scope sc) ((x, v) :: l) := by
  have es : env.scope = sc := F.scope
  refine ⟨?_, c.kind, F.glob, F.bltn, ⟨m, hn, fun y w hy hk => ?_⟩, hC, fun y w hy hk => ?_⟩
  · rw [← es]; rfl
  · rw [relab_lookup] at hk
    obtain ⟨k, e1, e2⟩ := Option.map_eq_some_iff.mp hk
    have : k = .local := by
      unfold relabK at e2
      split at e2
      · cases e2
      · exact e2
    subst this
    have hx := (c.loc y (mem_of_lookup e1)).2
    by_cases hyx : y = x
    · subst hyx
      have : w = v := by simpa using hy.symm
      subst this
      exact ⟨u, hl e1, hu⟩
    · have hb : (y == x) = false := by simpa using hyx
      rw [List.lookup_cons, hb] at hy
      rcases hx with hx | hx
      · exact absurd hx hyx
      · rw [hx] at hy; cases hy
  · rw [relab_lookup] at hk
    obtain ⟨k, e1, e2⟩ := Option.map_eq_some_iff.mp hk
    by_cases hyx : y = x
    · subst hyx
      have : w = v := by simpa using hy.symm
      subst this
      have hk' : k = .cell := by
        unfold relabK at e2
        split at e2
        · rename_i hh
          simp only [Bool.and_eq_true, beq_iff_eq] at hh
          have hf := (c.free y (by rw [← hh.1.1]; exact mem_of_lookup e1)).2.2
          exact absurd rfl hf
        · exact e2
      subst hk'
      obtain ⟨a, ha, hi, ho⟩ := hc e1
      exact ⟨a, u, ha, hi, ho, hu⟩
    · have hb : (y == x) = false := by simpa using hyx
      rw [List.lookup_cons, hb] at hy
      have hk' : k = .free := by
        unfold relabK at e2
        split at e2
        · rename_i hh
          simp only [Bool.and_eq_true, beq_iff_eq] at hh
          exact hh.1.1
        · subst e2
          exact absurd (c.cell y (mem_of_lookup e1)) hyx
      subst hk'
      obtain ⟨_, hs, _⟩ := c.free y (mem_of_lookup e1)
      obtain ⟨a, u', ha, hi, ho, hu'⟩ := F.cell y w hy hs
      refine ⟨a, u', ?_, hi, ho, hu'⟩
      show (cellsFrom n scope.names (closL env.cells scope.names [])).lookup y = some a
      rw [cellsFrom_skip _ _ _ fun p hp hpc hpe => hyx (c.cell y (by obtain ⟨p1, p2⟩ := p; cases hpc; cases hpe; exact hp))]
      exact closL_lookup ha _ _ (.inl (mem_of_lookup e1))

theorem comp_closure (F : Frm env h ρ sc l) (c : CompFacts scope sc x l) : closureFor scope env = pure (closL env.cells scope.names []) :=
  closure_eq fun y hy hk => by
    obtain ⟨y, k⟩ := y
    cases hk
    obtain ⟨⟨w, hw⟩, hs, _⟩ := c.free y hy
    obtain ⟨a, _, ha, _⟩ := F.cell y w hw hs
    show (env.cells.lookup y).isSome = true
    rw [ha]; rfl
end
end Mine
end

section
open PySem PySem.W PyProof.Rows PySem.Calls
set_option linter.unusedVariables false
set_option maxRecDepth 100000
namespace Mine

theorem not_set {G : Ora} {n : Nat} {sc : Scope} {l : Loc} {e : Expr} {σ : List O} {KK : KV} (h : wpX G n false sc l e σ KK) (env : Env) (x : Value) : foldedSetIterable e env x = pure x := by
  cases n with
  | zero => exact h.elim
  | succ n => cases e <;> first | rfl | exact h.elim

/-- the body of the turn, as the transformer has it -/
noncomputable abbrev compF (G : Ora) (n : Nat) (sc2 : Scope) (x : Str) (l : Loc) (elt : Expr) (ifs : List Expr) : V → List V → List O → (List V → List O → Prop) → Prop := fun v acc σ K => match ifs with
  | [] => wpX G n false sc2 ((x, v) :: l) elt σ fun u σ => K (acc ++ [u]) σ
  | [c] => wpX G n true sc2 ((x, v) :: l) c σ (asB fun b σ => (b = true → wpX G n false sc2 ((x, v) :: l) elt σ fun u σ => K (acc ++ [u]) σ) ∧ (b = false → K acc σ))
  | _ => False

section
variable {prog : Program} {w : World} {A : Around} {E : Value → Shared → Prop} {s : Shared} {h₀ : Heap} {mg mb : Str → Option Value} {G : Ora} {ρ : List Addr} {σ : List O} {KK : KV} {Q : Value → Shared → Prop} {dp : Nat}
  {env : Env} {sc : Scope} {l : Loc} {n : Nat}

structure Apart (s : Shared) (I D C W : Addr) : Prop where
  iN : s.heap.get? I = none
  dN : s.heap.get? D = none
  cN : s.heap.get? C = none
  wN : s.heap.get? W = none
  DI : D ≠ I
  CI : C ≠ I
  WI : W ≠ I
  CD : C ≠ D
  WD : W ≠ D
  WC : W ≠ C

/-- what stands while the block runs -/
structure Blk (h₀ : Heap) (env : Env) (sc scope : Scope) (l : Loc) (x : Str) (St : Nat → Heap → Prop) (I D C W : Addr) (ρ : List Addr) (s : Shared) (t : List Addr) (s' : Shared) (σ : List O) (i : Nat) (ys : List Value) (acc : List V) : Prop where
  rep : Rep h₀ (ρ ++ t) σ s'.heap
  ext : Ext ρ t s s'
  frm : Frm env s'.heap (ρ ++ t) sc l
  st : St i s'.heap
  iA : ∃ o, s'.heap.get? I = some o
  iO : I ∉ ρ ++ t
  lst : s'.heap.PlainList D ys.toArray
  accV : VRs (ρ ++ t) ys acc
  dO : D ∉ ρ ++ t
  ns : ∃ m, s'.heap.Ns C m
  cO : C ∉ ρ ++ t
  own : scope.names.lookup x = some .cell → (∃ o, s'.heap.IsCell W o) ∧ W ∉ ρ ++ t
  len : acc.length ≤ i

theorem notin_grow {a : Addr} {ρ t t' : List Addr} {s s' : Shared} (h : a ∉ ρ ++ t) (y : Ext (ρ ++ t) t' s s') (ha : ∃ o, s.heap.get? a = some o) : a ∉ ρ ++ (t ++ t') := fun hm => by
  rw [← List.append_assoc] at hm
  rcases List.mem_append.mp hm with hm | hm
  · exact h hm
  · obtain ⟨o, ho⟩ := ha
    rw [y.fresh a hm] at ho; cases ho

/-- an expression ran inside the block -/
theorem Blk.step {scope : Scope} {x : Str} {St : Nat → Heap → Prop} {I D C W : Addr} {t t' : List Addr} {s' s'' : Shared} {σ σ' : List O} {i : Nat} {ys : List Value} {acc : List V}
    (hSt : ∀ i h h', St i h → (∀ o, h.get? I = some o → h'.get? I = some o) → St i h')
    (B : Blk h₀ env sc scope l x St I D C W ρ s t s' σ i ys acc) (y : Ext (ρ ++ t) t' s' s'') (R : Rep h₀ (ρ ++ t ++ t') σ' s''.heap) : Blk h₀ env sc scope l x St I D C W ρ s (t ++ t') s'' σ' i ys acc := by
  have k : ∀ a, a ∉ ρ ++ t → ∀ o, s'.heap.get? a = some o → s''.heap.get? a = some o := fun a ha o e => y.keep a o ha e
  refine ⟨by rw [← List.append_assoc]; exact R, B.ext.trans B.rep y, by rw [← List.append_assoc]; exact B.frm.step y, hSt i _ _ B.st (k _ B.iO), ?_, notin_grow B.iO y B.iA, ?_, by rw [← List.append_assoc]; exact B.accV.mono, ?_, ?_, ?_, fun hc => ⟨?_, ?_⟩, B.len⟩
  · obtain ⟨o, e⟩ := B.iA
    exact ⟨o, k _ B.iO _ e⟩
  · exact B.lst.at (k _ B.dO)
  · obtain ⟨_, e⟩ := B.lst
    exact notin_grow B.dO y ⟨_, e⟩
  · obtain ⟨m, hn⟩ := B.ns
    exact ⟨m, hn.at' (k _ B.cO)⟩
  · obtain ⟨m, hn⟩ := B.ns
    exact notin_grow B.cO y (Ns.alive hn)
  · obtain ⟨⟨o, ob, hob, hd⟩, ho⟩ := B.own hc
    exact ⟨o, ob, k _ ho _ hob, hd⟩
  · obtain ⟨⟨o, ob, hob, hd⟩, ho⟩ := B.own hc
    exact notin_grow ho y ⟨_, hob⟩

/-- something that stands beside has turned -/
theorem Blk.poke {scope : Scope} {x : Str} {St : Nat → Heap → Prop} {I D C W a : Addr} {t : List Addr} {s' : Shared} {σ0 σ : List O} {i : Nat} {ys : List Value} {acc : List V} {h' : Heap} {tk : Nat}
    (F0 : Frm env s.heap ρ sc l) (R0 : Rep h₀ ρ σ0 s.heap) (B : Blk h₀ env sc scope l x St I D C W ρ s t s' σ i ys acc) (ha : s.heap.get? a = none) (hO : a ∉ ρ ++ t) (hk : ∀ b o, b ≠ a → s'.heap.get? b = some o → h'.get? b = some o) :
    Rep h₀ (ρ ++ t) σ h' ∧ Ext ρ t s { s' with heap := h', toks := tk } ∧ Frm env h' (ρ ++ t) sc l := by
  have old : ∀ b o, s.heap.get? b = some o → b ≠ a := fun b o e q => by subst q; rw [ha] at e; cases e
  refine ⟨B.rep.beside hk hO (R0.none ha), ⟨?_, fun b o hb e => hk b o (old b o e) (B.ext.keep b o hb e), B.ext.fresh⟩, B.frm.scope, B.frm.kind, B.frm.glob, B.frm.bltn, ?_, B.frm.off, fun y v hy hc => ?_⟩
  · obtain ⟨h1, k1, rfl⟩ := B.ext.same
    exact ⟨h', tk, rfl⟩
  · obtain ⟨m, hn, hm⟩ := B.frm.ns
    obtain ⟨m0, hn0, _⟩ := F0.ns
    obtain ⟨o, ho⟩ := Ns.alive hn0
    exact ⟨m, hn.at' fun o' e => hk _ o' (old _ o ho) e, hm⟩
  · obtain ⟨c, u, hc1, ⟨o, ho, hd⟩, hx⟩ := B.frm.cell y v hy hc
    obtain ⟨c0, u0, hc0, ⟨o0, ho0, _⟩, _⟩ := F0.cell y v hy hc
    rw [hc0] at hc1; cases hc1
    exact ⟨c, u, hc0, ⟨o, hk _ o (old _ _ ho0) ho, hd⟩, hx⟩
end
end Mine
end

section
open PySem PySem.W PyProof.Rows PySem.Calls
set_option linter.unusedVariables false
set_option maxRecDepth 100000
namespace Mine
section
variable {prog : Program} {w : World} {A : Around} {E : Value → Shared → Prop} {s : Shared} {h₀ : Heap} {mg mb : Str → Option Value} {G : Ora} {ρ : List Addr} {σ : List O} {KK : KV} {Q : Value → Shared → Prop} {dp : Nat}
  {env : Env} {sc : Scope} {l : Loc} {n : Nat} {scope : Scope} {x : Str} {St : Nat → Heap → Prop} {I D C W N : Addr} {t : List Addr} {s' : Shared} {σ0 : List O} {i : Nat} {ys : List Value} {acc : List V}

theorem Blk.atI {h' : Heap} {tk : Nat} {src : Option Nat} {xs : List V} (T : Turns prog w A h₀ ρ I src xs St) (F0 : Frm env s.heap ρ sc l) (R0 : Rep h₀ ρ σ0 s.heap) (ap : Apart s I D C W) (B : Blk h₀ env sc scope l x St I D C W ρ s t s' σ i ys acc)
    (hk : ∀ b o, b ≠ I → s'.heap.get? b = some o → h'.get? b = some o) (hst : St (i + 1) h') : Blk h₀ env sc scope l x St I D C W ρ s t { s' with heap := h', toks := tk } σ (i + 1) ys acc := by
  obtain ⟨p1, p2, p3⟩ := B.poke (tk := tk) F0 R0 ap.iN B.iO hk
  refine ⟨p1, p2, p3, hst, T.alive _ _ hst, B.iO, B.lst.at fun o => hk D o ap.DI, B.accV, B.dO, ?_, B.cO, fun hc => ?_, Nat.le_succ_of_le B.len⟩
  · obtain ⟨m, hn⟩ := B.ns
    exact ⟨m, hn.at' fun o => hk C o ap.CI⟩
  · obtain ⟨⟨o, ob, hob, hd⟩, ho⟩ := B.own hc
    exact ⟨⟨o, ob, hk W ob ap.WI hob, hd⟩, ho⟩
theorem Blk.atC {h' : Heap} {tk : Nat} {m : Str → Option Value} (hSt : ∀ i h h', St i h → (∀ o, h.get? I = some o → h'.get? I = some o) → St i h') (F0 : Frm env s.heap ρ sc l) (R0 : Rep h₀ ρ σ0 s.heap) (ap : Apart s I D C W)
    (B : Blk h₀ env sc scope l x St I D C W ρ s t s' σ i ys acc) (hs : Heap.SameBut C s'.heap h') (hn : h'.Ns C m) : Blk h₀ env sc scope l x St I D C W ρ s t { s' with heap := h', toks := tk } σ i ys acc := by
  have hk : ∀ b o, b ≠ C → s'.heap.get? b = some o → h'.get? b = some o := fun b o hb e => hs.extBut b o hb e
  obtain ⟨p1, p2, p3⟩ := B.poke (tk := tk) F0 R0 ap.cN B.cO hk
  refine ⟨p1, p2, p3, hSt i _ _ B.st fun o => hk I o (Ne.symm ap.CI), ?_, B.iO, B.lst.at fun o => hk D o (Ne.symm ap.CD), B.accV, B.dO, ⟨m, hn⟩, B.cO, fun hc => ?_, B.len⟩
  · obtain ⟨o, ho⟩ := B.iA
    exact ⟨o, hk I o (Ne.symm ap.CI) ho⟩
  · obtain ⟨⟨o, ob, hob, hd⟩, ho⟩ := B.own hc
    exact ⟨⟨o, ob, hk W ob ap.WC hob, hd⟩, ho⟩
theorem Blk.atW {h' : Heap} {tk : Nat} {o' : Option Value} (hSt : ∀ i h h', St i h → (∀ o, h.get? I = some o → h'.get? I = some o) → St i h') (F0 : Frm env s.heap ρ sc l) (R0 : Rep h₀ ρ σ0 s.heap) (ap : Apart s I D C W)
    (B : Blk h₀ env sc scope l x St I D C W ρ s t s' σ i ys acc) (hc : scope.names.lookup x = some .cell) (hs : Heap.SameBut W s'.heap h') (hn : h'.IsCell W o') : Blk h₀ env sc scope l x St I D C W ρ s t { s' with heap := h', toks := tk } σ i ys acc := by
  have hk : ∀ b o, b ≠ W → s'.heap.get? b = some o → h'.get? b = some o := fun b o hb e => hs.extBut b o hb e
  obtain ⟨p1, p2, p3⟩ := B.poke (tk := tk) F0 R0 ap.wN (B.own hc).2 hk
  refine ⟨p1, p2, p3, hSt i _ _ B.st fun o => hk I o (Ne.symm ap.WI), ?_, B.iO, B.lst.at fun o => hk D o (Ne.symm ap.WD), B.accV, B.dO, ?_, B.cO, fun hc => ⟨⟨_, hn⟩, (B.own hc).2⟩, B.len⟩
  · obtain ⟨o, ho⟩ := B.iA
    exact ⟨o, hk I o (Ne.symm ap.WI) ho⟩
  · obtain ⟨m, hn⟩ := B.ns
    exact ⟨m, hn.at' fun o => hk C o (Ne.symm ap.WC)⟩
theorem Blk.atD {h' : Heap} {tk : Nat} {u : Value} {v : V} (hSt : ∀ i h h', St i h → (∀ o, h.get? I = some o → h'.get? I = some o) → St i h') (F0 : Frm env s.heap ρ sc l) (R0 : Rep h₀ ρ σ0 s.heap) (ap : Apart s I D C W)
    (B : Blk h₀ env sc scope l x St I D C W ρ s t s' σ i ys acc) (hs : Heap.SameBut D s'.heap h') (hl : h'.PlainList D (ys ++ [u]).toArray) (hv : VR (ρ ++ t) u v) (hi : acc.length < i) :
    Blk h₀ env sc scope l x St I D C W ρ s t { s' with heap := h', toks := tk } σ i (ys ++ [u]) (acc ++ [v]) := by
  have hk : ∀ b o, b ≠ D → s'.heap.get? b = some o → h'.get? b = some o := fun b o hb e => hs.extBut b o hb e
  obtain ⟨p1, p2, p3⟩ := B.poke (tk := tk) F0 R0 ap.dN B.dO hk
  refine ⟨p1, p2, p3, hSt i _ _ B.st fun o => hk I o (Ne.symm ap.DI), ?_, B.iO, hl, B.accV.append ⟨hv, trivial⟩, B.dO, ?_, B.cO, fun hc => ?_, by rw [List.length_append]; exact hi⟩
  · obtain ⟨o, ho⟩ := B.iA
    exact ⟨o, hk I o (Ne.symm ap.DI) ho⟩
  · obtain ⟨m, hn⟩ := B.ns
    exact ⟨m, hn.at' fun o => hk C o ap.CD⟩
  · obtain ⟨⟨o, ob, hob, hd⟩, ho⟩ := B.own hc
    exact ⟨⟨o, ob, hk W ob ap.WD hob, hd⟩, ho⟩

/-- the element is made and laid down -/
theorem comp_elt {elt : Expr} {v : V} {KL : List V → List O → Prop} {P : Shared → Prop} (ev : EvOk prog w A h₀ G n) (hSt : ∀ i h h', St i h → (∀ o, h.get? I = some o → h'.get? I = some o) → St i h') (F0 : Frm env s.heap ρ sc l) (R0 : Rep h₀ ρ σ0 s.heap)
    (ap : Apart s I D C W) (B : Blk h₀ env sc scope l x St I D C W ρ s t s' σ i ys acc) (Fc : Frm (compE scope env C N) s'.heap (ρ ++ t) (relabS scope sc) ((x, v) :: l)) (hi : acc.length < i) (hz : i ≤ 1000000)
    (h : wpX G n false (relabS scope sc) ((x, v) :: l) elt σ fun u σ => KL (acc ++ [u]) σ)
    (fin : ∀ t' s'' σ'' ys' acc', Blk h₀ env sc scope l x St I D C W ρ s t' s'' σ'' i ys' acc' → KL acc' σ'' → P s'') :
    wpAny (model prog w) A (eval elt (compE scope env C N)) (fun y s4 => wpAny (model prog w) A (call (.builtin "list.append") [.ref D, y]) (fun _ s5 => P s5) E s4) E s' := by
  refine ev _ _ _ _ σ _ _ s' E _ Fc B.rep h fun u v' σ'' t' s'' hk vr R' y => ?_
  have B' := B.step hSt y R'
  have hlen := B'.accV.length
  refine wpAny_list_append_plain B'.lst (fun h' hl' hs' => ?_) (by rw [sizeLine_eq]; simp; omega)
  have e : ys.toArray.push u = (ys ++ [u]).toArray := by simp
  rw [e] at hl'
  exact fin _ _ _ _ _ (B'.atD (tk := s''.toks) hSt F0 R0 ap hs' hl' (by rw [← List.append_assoc]; exact vr) hi) hk

theorem comp_turn {elt : Expr} {ifs : List Expr} {px : Pos} {src : Option Nat} {xs : List V} {v : V} {KL : List V → List O → Prop} {P : Shared → Prop} {R : Shared → Prop} (ev : EvOk prog w A h₀ G n) (tr : TrOk prog w A h₀ G n)
    (T : Turns prog w A h₀ ρ I src xs St) (c : CompFacts scope sc x l) (hW : scope.names.lookup x = some .cell → (cellsFrom N scope.names (closL env.cells scope.names [])).lookup x = some W)
    (F0 : Frm env s.heap ρ sc l) (R0 : Rep h₀ ρ σ0 s.heap) (ap : Apart s I D C W) (B : Blk h₀ env sc scope l x St I D C W ρ s t s' σ i ys acc) (hz : i + 1 ≤ 1000000) (hx : xs[i]? = some v) (ok : srcOk src xs σ)
    (h : compF G n (relabS scope sc) x l elt ifs v acc σ KL)
    (fin : ∀ t' s'' σ'' ys' acc', Blk h₀ env sc scope l x St I D C W ρ s t' s'' σ'' (i + 1) ys' acc' → KL acc' σ'' → P s'') :
    wpAny (model prog w) A (pyNext (.ref I)) (fun r s₁ => match r with
      | none => R s₁
      | some v => wpAny (model prog w) A (assign (.Name x px) (compE scope env C N) v) (fun _ s₂ =>
          wpAny (model prog w) A (forIn ifs true fun c r => if r = true then do let ok ← isTrue c (compE scope env C N) (eval c (compE scope env C N)); pure (ForInStep.yield ok) else pure (ForInStep.yield r)) (fun ok s₃ =>
            if ok = true then wpAny (model prog w) A (eval elt (compE scope env C N)) (fun x s₄ =>
              wpAny (model prog w) A (call (.builtin "list.append") [.ref D, x]) (fun _ s₅ => P s₅) E s₄) E s₃
            else P s₃) E s₂) E s₁) E s' := by
  have es : env.scope = sc := F0.scope
  have hkf : (compE scope env C N).scope.kind = .function := c.kind
  refine T.item i v t σ s' _ _ B.st B.rep B.iO ok hx fun u h1 tk1 vu st1 hk1 => ?_
  have B1 := B.atI (tk := tk1) T F0 R0 ap hk1 st1
  dsimp only
  -- after the store
  have rest : ∀ s2, Blk h₀ env sc scope l x St I D C W ρ s t s2 σ (i + 1) ys acc → Frm (compE scope env C N) s2.heap (ρ ++ t) (relabS scope sc) ((x, v) :: l) →
      wpAny (model prog w) A (forIn ifs true fun c r => if r = true then do let ok ← isTrue c (compE scope env C N) (eval c (compE scope env C N)); pure (ForInStep.yield ok) else pure (ForInStep.yield r)) (fun ok s₃ =>
            if ok = true then wpAny (model prog w) A (eval elt (compE scope env C N)) (fun x s₄ =>
              wpAny (model prog w) A (call (.builtin "list.append") [.ref D, x]) (fun _ s₅ => P s₅) E s₄) E s₃
            else P s₃) E s2 := by
    intro s2 B2 Fc
    match ifs, h with
    | [], h =>
      refine wpAny_tests_nil ?_
      simp only [if_true]
      exact comp_elt ev T.frame F0 R0 ap B2 Fc (Nat.lt_succ_of_le B.len) hz h fin
    | [c], h =>
      refine wpAny_tests_one (tr _ _ _ _ σ _ _ s2 _ _ Fc B2.rep h fun b σ'' t' s'' hk R' y => ?_)
      have B3 := B2.step T.frame y R'
      cases b with
      | true =>
        simp only [if_true]
        exact comp_elt ev T.frame F0 R0 ap B3 (by rw [← List.append_assoc]; exact Fc.step y) (Nat.lt_succ_of_le B.len) hz (hk.1 rfl) fin
      | false =>
        simp only [Bool.false_eq_true, if_false]
        exact fin _ _ _ _ _ B3 (hk.2 rfl)
    | _ :: _ :: _, h => exact h.elim
  have kindOf : ∀ k, scope.names.lookup x = some k → k ≠ .free → (compE scope env C N).kindOf x = some k := by
    intro k hk hne
    show (relabS scope env.scope).names.lookup x = some k
    rw [relab_lookup, hk]
    show some (relabK env.scope x k) = some k
    unfold relabK
    have : (k == NameKind.free) = false := by simpa using hne
    rw [this]; rfl
  rcases c.own with hl | hc
  · obtain ⟨m, hn⟩ := B1.ns
    refine wpAny_assign_Name (wpAny_storeName_local (kindOf _ hl (by decide)) hn (fun h2 hn2 hs2 => ?_) (by rw [hkf]; rfl))
    have B2 := B1.atC (tk := tk1 + 1) T.frame F0 R0 ap hs2 hn2
    refine rest _ B2 (comp_frame B2.frm c hn2 B2.cO vu (fun _ => by simp) fun hc => ?_)
    rw [hl] at hc; cases hc
  · obtain ⟨⟨o, hcell⟩, hO⟩ := B1.own hc
    refine wpAny_assign_Name (wpAny_storeName_cell hkf (kindOf _ hc (by decide)) (hW hc) hcell fun h2 hc2 hs2 => ?_)
    have B2 := B1.atW (tk := tk1) T.frame F0 R0 ap hc hs2 hc2
    obtain ⟨m, hn⟩ := B2.ns
    refine rest _ B2 (comp_frame B2.frm c hn B2.cO vu (fun hl => ?_) fun _ => ⟨W, hW hc, hc2, hO⟩)
    rw [hc] at hl; cases hl
end
end Mine
end

section
open PySem PySem.W PyProof.Rows PySem.Calls
set_option linter.unusedVariables false
set_option maxRecDepth 100000
namespace Mine
theorem none_ge (h : Heap) {a : Addr} (ha : h.objs.size ≤ a) : h.get? a = none := by
  cases e : h.get? a with
  | none => rfl
  | some o => exact absurd (Heap.lt_size e) (Nat.not_lt.mpr ha)
section
variable {prog : Program} {w : World} {A : Around} {E : Value → Shared → Prop} {s : Shared} {h₀ : Heap} {mg mb : Str → Option Value} {G : Ora} {ρ : List Addr} {σ : List O} {KK : KV} {Q : Value → Shared → Prop} {dp : Nat}
  {env : Env} {sc : Scope} {l : Loc} {n : Nat} {scope : Scope} {x : Str} {St : Nat → Heap → Prop} {I D C W N : Addr} {t : List Addr} {s' : Shared} {σ0 : List O} {i : Nat} {ys : List Value} {acc : List V}

theorem comp_loop {elt iter : Expr} {ifs : List Expr} {px pos : Pos} {src : Option Nat} {xs : List V} {KL : List V → List O → Prop} {R : Result → Shared → Prop} (ev : EvOk prog w A h₀ G n) (tr : TrOk prog w A h₀ G n)
    (T : Turns prog w A h₀ ρ I src xs St) (c : CompFacts scope sc x l) (hW : scope.names.lookup x = some .cell → (cellsFrom N scope.names (closL env.cells scope.names [])).lookup x = some W)
    (F0 : Frm env s.heap ρ sc l) (R0 : Rep h₀ ρ σ0 s.heap) (ap : Apart s I D C W) (hz : xs.length ≤ 1000000)
    (B : Blk h₀ env sc scope l x St I D C W ρ s t s' σ 0 ys []) (h : iterGo (srcOk src xs) (compF G n (relabS scope sc) x l elt ifs) xs [] σ KL)
    (hR : ∀ t s'' σ'' ys acc m, Rep h₀ (ρ ++ t) σ'' s''.heap → Ext ρ t s s'' → s''.heap.PlainList D ys.toArray → VRs (ρ ++ t) ys acc → D ∉ ρ ++ t → s''.heap.Ns C m → C ∉ ρ ++ t → KL acc σ'' → acc.length ≤ xs.length → R (.ok .next) s'') :
    codeAny (model prog w) A (.compLoop (.ListComp elt [⟨.Name x px, iter, ifs, 0⟩] scope pos) 0 (.ref I) (.ref D) (compE scope env C N)) R s' := by
  refine codeAny_compLoop_tests (fun m s' => ∃ i t σ ys acc, i ≤ xs.length ∧ m = xs.length + 1 - i ∧ Blk h₀ env sc scope l x St I D C W ρ s t s' σ i ys acc ∧
    iterGo (srcOk src xs) (compF G n (relabS scope sc) x l elt ifs) (xs.drop i) acc σ KL) ?_ (xs.length + 1) ⟨0, t, σ, ys, [], Nat.zero_le _, rfl, B, h⟩
  rintro m s1 ⟨i, t, σ, ys, acc, hi, rfl, B, h⟩
  by_cases hlt : i < xs.length
  · have hd : xs.drop i = xs[i] :: xs.drop (i + 1) := List.drop_eq_getElem_cons hlt
    rw [hd] at h
    obtain ⟨ok, h⟩ := h
    refine comp_turn ev tr T c hW F0 R0 ap B (by omega) (v := xs[i]) (by simp [hlt]) ok h fun t' s'' σ'' ys' acc' B' hk => ?_
    exact ⟨xs.length + 1 - (i + 1), by omega, i + 1, t', σ'', ys', acc', hlt, rfl, B', hk⟩
  · have hieq : i = xs.length := by omega
    subst hieq
    rw [List.drop_length] at h
    obtain ⟨ok, h⟩ := h
    refine T.done t σ s1 _ _ B.st B.rep B.iO ok fun h' tk hk => ?_
    obtain ⟨p1, p2, p3⟩ := B.poke (tk := tk) F0 R0 ap.iN B.iO hk
    obtain ⟨m, hn⟩ := B.ns
    exact hR _ _ _ _ _ m p1 p2 (B.lst.at fun o => hk D o ap.DI) B.accV B.dO (hn.at' fun o => hk C o ap.CI) B.cO h B.len

/-- a comprehension, its list handed to `Q` or to the target -/
theorem comp_core {elt iter : Expr} {ifs : List Expr} {px pos p0 : Pos} {use : Option (Value → Sem Unit)} (ev : EvOk prog w A h₀ G n) (tr : TrOk prog w A h₀ G n) (hf : Fits A dp) (F : Frm env s.heap ρ sc l) (R0 : Rep h₀ ρ σ s.heap)
    (h : wpX G (n + 1) false sc l (.ListComp elt [⟨.Name x px, iter, ifs, 0⟩] scope pos) σ KK)
    (fin : ∀ D C m v σ' t s', KK v σ' → VR (ρ ++ t) (.ref D) v → Rep h₀ (ρ ++ t) σ' s'.heap → Ext ρ t s s' → s'.heap.Ns C m → C ∉ ρ ++ t → s.heap.get? C = none → compPost (model prog w) A E use Q (.ref D) C (.ok .next) s') :
    wpAny (model prog w) A (comprehension (.ListComp elt [⟨.Name x px, iter, ifs, 0⟩] scope pos) scope env p0 (newList []) false (eval iter env) use) Q E s := by
  conv at h => whnf
  split at h
  · rename_i hc
    have c := compFacts_of hc
    refine wpAny_comprehension_free rfl (not_set h env) (comp_closure F c) c.kind (fun y hy hl => (c.loc y.1 (by obtain ⟨y1, y2⟩ := y; cases hl; exact hy)).1) ?_
    refine ev env sc l iter σ _ ρ s E _ F R0 h fun u v σ1 t1 s1 hk vu R1 x1 => ?_
    split at hk
    · rename_i src xs hit
      obtain ⟨hz, hk⟩ := hk
      have F1 := F.step x1
      refine iter_ok (A := A) R1 vu hit fun ob St T st0 => ?_
      have T' := T A hf.handled
      generalize hI : s1.heap.objs.size = I at T' st0 ⊢
      refine wpAny_newObj_type (newEnv_comp ?_)
      dsimp only
      generalize hH1 : s1.heap.push ob = H1 at st0 ⊢
      have sH1 : H1.objs.size = I + 1 := by rw [← hH1, Heap.size_push, hI]
      generalize hH2 : H1.push { cls := .type "list", dict := none, data := .seq ([] : List Value).toArray } = H2
      have sH2 : H2.objs.size = I + 2 := by rw [← hH2, Heap.size_push, sH1]
      generalize hH3 : H2.push { cls := .type "dict", data := .dict #[] } = H3
      have sH3 : H3.objs.size = I + 3 := by rw [← hH3, Heap.size_push, sH2]
      have k1 : ∀ b o, s1.heap.get? b = some o → H1.get? b = some o := fun b o e => hH1 ▸ Heap.get?_push_of_some _ e
      have k2 : ∀ b o, H1.get? b = some o → H2.get? b = some o := fun b o e => hH2 ▸ Heap.get?_push_of_some _ e
      have k3 : ∀ b o, H2.get? b = some o → H3.get? b = some o := fun b o e => hH3 ▸ Heap.get?_push_of_some _ e
      have k4 : ∀ b o, H3.get? b = some o → (pushCells H3 scope.names).get? b = some o := fun b o e => pushCells_keeps _ _ b o e
      have kk : ∀ b o, s1.heap.get? b = some o → (pushCells H3 scope.names).get? b = some o := fun b o e => k4 b o (k3 b o (k2 b o (k1 b o e)))
      -- the cell of its own
      obtain ⟨W, hWge, hW, hWc⟩ : ∃ W, I + 3 ≤ W ∧ (scope.names.lookup x = some .cell → (cellsFrom (I + 3) scope.names (closL env.cells scope.names [])).lookup x = some W) ∧ (scope.names.lookup x = some .cell → (pushCells H3 scope.names).IsCell W none) := by
        rcases c.own with hl | hcl
        · exact ⟨I + 3, Nat.le_refl _, fun q => by rw [hl] at q; (cases q), fun q => by rw [hl] at q; (cases q)⟩
        · obtain ⟨a, ha, hge, hi⟩ := cellsFrom_new (y := x) scope.names H3 (closL env.cells scope.names []) (mem_of_lookup hcl)
          rw [sH3] at ha hge
          exact ⟨a, hge, fun _ => ha, fun _ => hi⟩
      have ng : ∀ a, I ≤ a → s1.heap.get? a = none := fun a ha => none_ge _ (by rw [hI]; exact ha)
      have no : ∀ a, I ≤ a → a ∉ ρ ++ t1 := fun a ha hm => by
        obtain ⟨o, e⟩ := R1.alive hm
        rw [ng a ha] at e; cases e
      have ap : Apart s1 I (I + 1) (I + 2) W := ⟨ng _ (Nat.le_refl _), ng _ (by omega), ng _ (by omega), ng _ (by omega), (show ¬ (I + 1 : Nat) = I by omega), (show ¬ (I + 2 : Nat) = I by omega), (show ¬ (W : Nat) = I from fun q => by rw [q] at hWge; omega), (show ¬ (I + 2 : Nat) = I + 1 by omega), (show ¬ (W : Nat) = I + 1 from fun q => by rw [q] at hWge; omega), (show ¬ (W : Nat) = I + 2 from fun q => by rw [q] at hWge; omega)⟩
      have B0 : Blk h₀ env sc scope l x St I (I + 1) (I + 2) W (ρ ++ t1) s1 [] { s1 with heap := pushCells H3 scope.names } σ1 0 [] [] := by
        have X : Ext (ρ ++ t1) [] s1 { s1 with heap := pushCells H3 scope.names } := ⟨⟨_, s1.toks, rfl⟩, fun b o _ e => kk b o e, fun _ hb => nomatch hb⟩
        obtain ⟨oI, hoI⟩ := T'.alive _ _ st0
        refine ⟨by rw [List.append_nil]; exact R1.grow kk, X, F1.step X, T'.frame _ _ _ st0 fun o e => k4 _ _ (k3 _ _ (k2 _ _ e)), ⟨oI, k4 _ _ (k3 _ _ (k2 _ _ hoI))⟩, by rw [List.append_nil]; exact no _ (Nat.le_refl _),
          ⟨0, k4 _ _ (k3 _ _ ?_)⟩, trivial, by rw [List.append_nil]; exact no _ (by omega), ⟨fun _ => none, ?_⟩, by rw [List.append_nil]; exact no _ (by omega), fun q => ⟨⟨none, hWc q⟩, by rw [List.append_nil]; exact no _ (by omega)⟩, Nat.le_refl _⟩
        · rw [← hH2, ← sH1]; exact Heap.get?_push_size _ rfl
        · have hn := (Heap.Ns.new H2 (.type "dict")).keeps (h' := pushCells H3 scope.names) (by rw [hH3]; exact k4)
          rw [sH2] at hn
          exact hn
      have loop : codeAny (model prog w) A (.compLoop (.ListComp elt [⟨.Name x px, iter, ifs, 0⟩] scope pos) 0 (.ref I) (.ref (I + 1)) (compE scope env (I + 2) (I + 3))) (compPost (model prog w) A E use Q (.ref (I + 1)) (I + 2)) { s1 with heap := pushCells H3 scope.names } := by
        refine comp_loop ev tr T' c hW F1 R1 ap hz B0 hk fun t s'' σ'' ys acc m R2 x2 hl hv hD hn hC hkk hlen => ?_
        have hDn := ng (I + 1) (Nat.le_succ _)
        have RD : Rep h₀ (ρ ++ t1 ++ t ++ [I + 1]) (σ'' ++ [.list acc]) s''.heap := R2.adopt hD (R1.none hDn) ⟨ys, hl, hv.mono⟩
        have XD : Ext (ρ ++ t1) (t ++ [I + 1]) s1 s'' := ⟨x2.same, x2.keep, fun a ha => by
          rcases List.mem_append.mp ha with ha | ha
          · exact x2.fresh a ha
          · rw [List.mem_singleton] at ha; subst ha; exact hDn⟩
        have ea : ρ ++ t1 ++ t ++ [I + 1] = ρ ++ (t1 ++ (t ++ [I + 1])) := by simp [List.append_assoc]
        refine fin (I + 1) (I + 2) m (.ref σ''.length) (σ'' ++ [.list acc]) (t1 ++ (t ++ [I + 1])) s'' hkk ⟨I + 1, ?_, rfl⟩ (by rw [← ea]; exact RD) (x1.trans R1 XD) hn (fun hm => ?_) (x1.was_none R1 (ng _ (by omega)))
        · rw [← ea, ← R2.len, List.getElem?_append_right (Nat.le_refl _)]; simp
        · rw [← ea] at hm
          rcases List.mem_append.mp hm with hm | hm
          · exact hC hm
          · rw [List.mem_singleton] at hm; exact absurd (show (I + 2 : Nat) = I + 1 from hm) (by omega)
      have e3 : ({ s1 with heap := H2 } : Shared).heap.objs.size = I + 2 := sH2
      have e1 : ({ s1 with heap := H1 } : Shared).heap.objs.size = I + 1 := sH1
      rw [sH1, sH2]
      exact codeAny_compStart_list loop (T'.self 0 _ _ _ B0.st loop)
    · exact hk.elim
  · exact h.elim
end
end Mine
end

section
open PySem PySem.W PyProof.Rows PySem.Calls
set_option linter.unusedVariables false
set_option maxRecDepth 100000
namespace Mine
section
variable {prog : Program} {w : World} {A : Around} {E : Value → Shared → Prop} {s : Shared} {h₀ : Heap} {mg mb : Str → Option Value} {G : Ora} {ρ : List Addr} {σ : List O} {KK : KV} {Q : Value → Shared → Prop} {dp : Nat}
  {env : Env} {sc : Scope} {l : Loc} {n : Nat}

theorem asB_elim {KB : Bool → List O → Prop} {v : V} {σ : List O} (h : asB KB v σ) : ∃ b, v = .bool b ∧ KB b σ := by
  cases v with
  | bool b => exact ⟨b, rfl, h⟩
  | _ => exact h.elim

theorem list_made {pos : Pos} {es : List Expr} (ev : EvOk prog w A h₀ G n) (F : Frm env s.heap ρ sc l) (R : Rep h₀ ρ σ s.heap) (h : wpX G (n + 1) false sc l (.List es pos) σ KK) (r : ResE h₀ ρ s KK Q) :
    wpAny (model prog w) A (eval (.List es pos) env) Q E s := by
  conv at h => whnf
  split at h
  · rename_i hs
    refine wpAny_List (evs_ok ev es σ _ ρ s E _ hs F R h fun us vs σ1 t s1 hk vr R1 x => ?_)
    have hlen := vr.length
    refine ⟨by rw [sizeLine_eq]; have := hk.1; omega, ?_⟩
    refine (r.step x R1).made (k := s1.toks) R1 (fun b ob e => Heap.get?_push_of_some _ e) (none_of_size _) (o := .list vs) ⟨us, ⟨_, Heap.get?_push_size _ rfl⟩, vr.mono⟩ hk.2
  · exact h.elim
theorem tup_made {pos : Pos} {k : Nat} {es : List Expr} (ev : EvOk prog w A h₀ G n) (F : Frm env s.heap ρ sc l) (R : Rep h₀ ρ σ s.heap) (h : wpX G (n + 1) false sc l (.Tuple es k pos) σ KK) (r : ResE h₀ ρ s KK Q) :
    wpAny (model prog w) A (eval (.Tuple es k pos) env) Q E s := by
  conv at h => whnf
  split at h
  · rename_i hs
    refine wpAny_Tuple (evs_ok ev es σ _ ρ s E _ hs F R h fun us vs σ1 t s1 hk vr R1 x => ?_)
    have hlen := vr.length
    refine ⟨by rw [sizeLine_eq]; have := hk.1; omega, ?_⟩
    refine (r.step x R1).made (k := s1.toks) R1 (fun b ob e => Heap.get?_push_of_some _ e) (none_of_size _) (o := .tup vs) ⟨us, ⟨_, Heap.get?_push_size _ rfl, rfl, _, rfl⟩, vr.mono⟩ hk.2
  · exact h.elim
theorem attr_ok {x : Str} {p pos : Pos} {name : Str} (S : Setup prog w h₀ mg mb G) (ev : EvOk prog w A h₀ G n) (F : Frm env s.heap ρ sc l) (R : Rep h₀ ρ σ s.heap) (h : wpX G (n + 1) false sc l (.Attribute (.Name x p) name pos) σ KK) (r : ResE h₀ ρ s KK Q) :
    wpAny (model prog w) A (eval (.Attribute (.Name x p) name pos) env) Q E s := by
  conv at h => whnf
  refine Attribute_name (ev _ _ _ _ σ _ _ s E _ F R h fun u v σ1 t s1 hk vr R1 y => ?_)
  split at hk
  · rename_i i
    split at hk
    · rename_i j e1 e2
      split at hk
      · rename_i fs e3
        split at hk
        · rename_i q e4
          have hn : name = ("pushback" : Str) := eq_of_beq e2
          subst hn
          obtain ⟨a1, d, es, m, rfl, _, I, hd⟩ := inst_of R1 vr e1 e3
          obtain ⟨u1, hp, vu⟩ := hd.get _ _ e4
          obtain ⟨a2, ha2, rfl⟩ := vu
          exact get_value (S.inK.keeps R1.keep) I (plainGet_of (f_gt0 _)).1 (findObj_own (f_hd _) (f_pb _) rfl (by show lookIn "pushback" (dictOf es m) = _; rw [lookIn_dict]; exact hp)) rfl ((r.step y R1).now R1 hk ⟨a2, ha2, rfl⟩)
        · exact hk.elim
      · exact hk.elim
    · exact hk.elim
  · exact hk.elim

theorem callN_ok (S : Setup prog w h₀ mg mb G) (C : CallOk prog w h₀ G dp) (hf : Fits A dp) (ev : EvOk prog w A h₀ G n) {f : Str} {p pos : Pos} {args : List Expr} (F : Frm env s.heap ρ sc l) (R : Rep h₀ ρ σ s.heap)
    (h : wpX G (n + 1) false sc l (.Call (.Name f p) args [] pos) σ KK) (r : ResE h₀ ρ s KK Q) : wpAny (model prog w) A (eval (.Call (.Name f p) args [] pos) env) Q E s := by
  conv at h => whnf
  split at h
  · rename_i hs
    simp only [Bool.and_eq_true, decide_eq_true_eq] at hs
    refine wpAny_Call_NameR (ev _ _ _ _ σ _ _ s E _ F R h fun u v σ1 t s1 hk vr R1 y => ?_)
    refine args_ok ev S hs.1 (F.step y) R1 hk fun us vs σ2 t2 s2 hk2 vrs R2 y2 => ?_
    split at hk2
    · rename_i u'
      have : u = gval u' := vr
      subst this
      exact ⟨C.keeps _ _ _ _ hk2, S.inK.keeps R2.keep, C.run A hf s2 E Q _ σ2 KK u' us vs R2 vrs hk2 ((r.step y R1).step y2 R2)⟩
    · exact hk2.elim
  · exact h.elim

theorem part_ev (ev : EvOk prog w A h₀ G n) {o : Option Expr} {QQ : Value → Shared → Prop} {KP : KV} (F : Frm env s.heap ρ sc l) (R : Rep h₀ ρ σ s.heap) (h : (match o with | some e => wpX G n false sc l e σ | none => fun K => K .none σ) KP) (r : ResE h₀ ρ s KP QQ) :
    wpAny (model prog w) A (evalPart o env) QQ E s := by
  cases o with
  | none => exact wpAny_pure (r.now' R h rfl)
  | some e => exact ev _ _ _ e σ _ _ s E _ F R h r
theorem cut_ok (ev : EvOk prog w A h₀ G n) {a : Expr} {lo hi : Option Expr} {p pos : Pos} (F : Frm env s.heap ρ sc l) (R : Rep h₀ ρ σ s.heap) (h : wpX G (n + 1) false sc l (.Subscript a (.Slice lo hi none p) pos) σ KK) (r : ResE h₀ ρ s KK Q) :
    wpAny (model prog w) A (eval (.Subscript a (.Slice lo hi none p) pos) env) Q E s := by
  conv at h => whnf
  refine Subscript_ (ev _ _ _ _ σ _ _ s E _ F R h fun u v σ1 t1 s1 hk vr R1 y1 => ?_)
  refine wpAny_Slice (part_ev ev (F.step y1) R1 hk fun ul vl σ2 t2 s2 hk2 vr2 R2 y2 => ?_)
  refine part_ev ev ((F.step y1).step y2) R2 hk2 fun uh vh σ3 t3 s3 hk3 vr3 R3 y3 => ?_
  show wpAny _ _ (evalPart none env) _ _ s3
  refine wpAny_pure ?_
  exact slice_ok R3 vr.mono.mono vr2.mono vr3 hk3 (((r.step y1 R1).step y2 R2).step y3 R3)
theorem sub_ok (S : Setup prog w h₀ mg mb G) (ev : EvOk prog w A h₀ G n) {a i : Expr} {pos : Pos} (hi : notCut i) (F : Frm env s.heap ρ sc l) (R : Rep h₀ ρ σ s.heap)
    (h : wpX G n false sc l a σ fun v σ => wpX G n false sc l i σ fun u σ => getItemV G v u σ KK) (r : ResE h₀ ρ s KK Q) : wpAny (model prog w) A (eval (.Subscript a i pos) env) Q E s := by
  refine Subscript_ (ev _ _ _ _ σ _ _ s E _ F R h fun u v σ1 t1 s1 hk vr R1 y1 => ?_)
  refine ev _ _ _ _ σ1 _ _ s1 E _ (F.step y1) R1 hk fun u2 v2 σ2 t2 s2 hk2 vr2 R2 y2 => ?_
  exact item_ok S hi R2 vr.mono vr2 hk2 ((r.step y1 R1).step y2 R2)

theorem comp_shape {elt : Expr} {gens : List Comprehension} {scope : Scope} {pos : Pos} (h : wpX G (n + 1) false sc l (.ListComp elt gens scope pos) σ KK) : ∃ x px iter ifs, gens = [⟨.Name x px, iter, ifs, 0⟩] := by
  cases gens with
  | nil => exact h.elim
  | cons g gs =>
    obtain ⟨t, iter, ifs, a⟩ := g
    cases t with
    | Name x px =>
      cases a with
      | ofNat k =>
        cases k with
        | zero =>
          cases gs with
          | nil => exact ⟨x, px, iter, ifs, rfl⟩
          | cons _ _ => exact h.elim
        | succ k => exact h.elim
      | negSucc k => exact h.elim
    | _ => exact h.elim
theorem ev_succ (S : Setup prog w h₀ mg mb G) (C : CallOk prog w h₀ G dp) (hf : Fits A dp) (ev : EvOk prog w A h₀ G n) (tr : TrOk prog w A h₀ G n) : EvOk prog w A h₀ G (n + 1) := by
  intro env sc l e σ KK ρ s E Q F R h r
  cases e with
  | Constant c k pos =>
    conv at h => whnf
    split at h
    · rename_i v hv; exact const_ok R hv h r
    · exact h.elim
  | Name x pos => exact name_ok S F R h r
  | BinOp a op b pos =>
    conv at h => whnf
    refine wpAny_BinOp (ev _ _ _ _ σ _ _ s E _ F R h fun u v σ1 t1 s1 hk vr R1 y1 => ?_)
    refine ev _ _ _ _ σ1 _ _ s1 E _ (F.step y1) R1 hk fun u2 v2 σ2 t2 s2 hk2 vr2 R2 y2 => ?_
    exact binop_ok R2 vr.mono vr2 hk2 ((r.step y1 R1).step y2 R2)
  | UnaryOp op a pos =>
    cases op with
    | USub =>
      conv at h => whnf
      refine wpAny_UnaryOp (ev _ _ _ _ σ _ _ s E _ F R h fun u v σ1 t1 s1 hk vr R1 y1 => ?_)
      split at hk
      · obtain ⟨t, rfl⟩ := vr
        exact neg_int ((r.step y1 R1).now R1 hk ⟨_, rfl⟩)
      · exact hk.elim
    | _ => exact h.elim
  | Compare a ops bs pos =>
    match ops, bs, h with
    | [op], [b], h =>
      conv at h => whnf
      split at h
      · exact h.elim
      · rename_i hm
        refine wpAny_Compare1 (ev _ _ _ _ σ _ _ s E _ F R h fun u v σ1 t1 s1 hk vr R1 y1 => ?_) hm
        refine ev _ _ _ _ σ1 _ _ s1 E _ (F.step y1) R1 hk fun u2 v2 σ2 t2 s2 hk2 vr2 R2 y2 => ?_
        exact cmpop_ok S hf R2 vr.mono vr2 hk2 ((r.step y1 R1).step y2 R2)
    | [], _, h => exact h.elim
    | _ :: _ :: _, _, h => exact h.elim
    | [_], [], h => exact h.elim
    | [_], _ :: _ :: _, h => exact h.elim
  | IfExp t a b pos =>
    conv at h => whnf
    refine wpAny_IfExp (tr _ _ _ _ σ _ _ s E _ F R h fun c σ1 t1 s1 hk R1 y1 => ?_)
    cases c with
    | true => exact ev _ _ _ _ σ1 _ _ s1 E _ (F.step y1) R1 (hk.1 rfl) (r.step y1 R1)
    | false => exact ev _ _ _ _ σ1 _ _ s1 E _ (F.step y1) R1 (hk.2 rfl) (r.step y1 R1)
  | List es pos => exact list_made ev F R h r
  | Tuple es k pos => exact tup_made ev F R h r
  | Subscript a i pos =>
    cases i with
    | Slice lo hi st p =>
      cases st with
      | none => exact cut_ok ev F R h r
      | some st =>
        conv at h => whnf
        exact sub_ok S ev trivial F R h r
    | _ =>
      conv at h => whnf
      exact sub_ok S ev trivial F R h r
  | Attribute o name pos =>
    cases o with
    | Name x p => exact attr_ok S ev F R h r
    | _ => exact h.elim
  | Call f args kws pos =>
    cases kws with
    | cons _ _ => cases f <;> exact h.elim
    | nil =>
      cases f with
      | Attribute o name apos => exact meth_ok ev S C hf F R h r
      | Name f p => exact callN_ok S C hf ev F R h r
      | _ => exact h.elim
  | ListComp elt gens scope pos =>
    obtain ⟨x, px, iter, ifs, rfl⟩ := comp_shape h
    rw [eval_ListComp]
    refine comp_core (use := none) ev tr hf F R h fun D Cc m v σ' t s' hk vr R' y hn hC hCn => ?_
    refine ⟨m, hn, fun h'' hs'' => ?_⟩
    refine r _ v σ' t _ hk vr (R'.offside hs'' hC (R.none hCn)) ⟨?_, fun b o hb e => hs''.extBut b o (fun q => by subst q; rw [hCn] at e; cases e) (y.keep b o hb e), y.fresh⟩
    obtain ⟨h1, k1, rfl⟩ := y.same
    exact ⟨h'', k1, rfl⟩
  | _ => exact h.elim
end
end Mine
end

section
open PySem PySem.W PyProof.Rows PySem.Calls
set_option linter.unusedVariables false
set_option maxRecDepth 100000
namespace Mine
section
variable {prog : Program} {w : World} {A : Around} {E : Value → Shared → Prop} {s : Shared} {h₀ : Heap} {mg mb : Str → Option Value} {G : Ora} {ρ : List Addr} {σ : List O} {KK : KV} {Q : Value → Shared → Prop} {dp : Nat}
  {env : Env} {sc : Scope} {l : Loc} {n : Nat}

theorem bool_ok (tr : TrOk prog w A h₀ G n) {op : BoolOp} : ∀ (es : List Expr) (σ : List O) (KK : KV) (ρ : List Addr) (s : Shared) (E : Value → Shared → Prop) (Q : Bool → Shared → Prop),
    Frm env s.heap ρ sc l → Rep h₀ ρ σ s.heap → boolGo op (wpX G n true sc l) es σ KK → ResB h₀ ρ s (fun b σ => KK (.bool b) σ) Q → wpAny (model prog w) A (allTrue op es env) Q E s
  | [], σ, KK, ρ, s, E, Q, F, R, h, r => by
    cases op with
    | And => exact wpAny_allTrue_And_nil (r.now' R h)
    | Or => exact wpAny_allTrue_Or_nil (r.now' R h)
  | e :: es, σ, KK, ρ, s, E, Q, F, R, h, r => by
    unfold boolGo at h
    cases op with
    | And =>
      refine wpAny_allTrue_And_cons (tr _ _ _ _ σ _ _ s E _ F R h fun b σ1 t1 s1 hk R1 y1 => ?_)
      cases b with
      | true => exact bool_ok tr es σ1 KK _ s1 E Q (F.step y1) R1 (hk.1 rfl) (r.step y1 R1)
      | false => exact (r.step y1 R1).now' R1 (hk.2 rfl)
    | Or =>
      refine wpAny_allTrue_Or_cons (tr _ _ _ _ σ _ _ s E _ F R h fun b σ1 t1 s1 hk R1 y1 => ?_)
      cases b with
      | true => exact (r.step y1 R1).now' R1 (hk.1 rfl)
      | false => exact bool_ok tr es σ1 KK _ s1 E Q (F.step y1) R1 (hk.2 rfl) (r.step y1 R1)

theorem value_ok (ev : EvOk prog w A h₀ G n) {e : Expr} {QB : Bool → Shared → Prop} (F : Frm env s.heap ρ sc l) (R : Rep h₀ ρ σ s.heap) (h : wpX G n false sc l e σ fun v σ => truthyV v σ fun b => KK (.bool b) σ)
    (r : ResB h₀ ρ s (fun b σ => KK (.bool b) σ) QB) (he : isTrue e env (eval e env) = (do let v ← eval e env; standAt e.pos; holding [v] (truthy v))) : wpAny (model prog w) A (isTrue e env (eval e env)) QB E s := by
  refine wpAny_isTrue_value (ev _ _ _ _ σ _ _ s E _ F R h fun u v σ1 t1 s1 hk vr R1 y1 => ?_) he
  exact truthy_ok R1 vr hk (r.step y1 R1)

theorem tr_succ (S : Setup prog w h₀ mg mb G) (C : CallOk prog w h₀ G dp) (hf : Fits A dp) (ev : EvOk prog w A h₀ G n) (tr : TrOk prog w A h₀ G n) : TrOk prog w A h₀ G (n + 1) := by
  intro env sc l e σ KK ρ s E Q F R h r
  cases e with
  | UnaryOp op a pos =>
    cases op with
    | Not =>
      conv at h => whnf
      refine wpAny_isTrue_Not (tr _ _ _ _ σ _ _ s E _ F R h fun b σ1 t1 s1 hk R1 y1 => ?_)
      exact (r.step y1 R1).now' R1 hk
    | _ => exact h.elim
  | BoolOp op es pos =>
    conv at h => whnf
    exact wpAny_isTrue_BoolOp (bool_ok tr es σ KK ρ s E Q F R h r)
  | Compare a ops bs pos =>
    match ops, bs, h with
    | [op], [b], h =>
      conv at h => whnf
      split at h
      · exact h.elim
      · rename_i hm
        refine wpAny_isTrue_Compare1 (ev _ _ _ _ σ _ _ s E _ F R h fun u v σ1 t1 s1 hk vr R1 y1 => ?_) hm
        refine ev _ _ _ _ σ1 _ _ s1 E _ (F.step y1) R1 hk fun u2 v2 σ2 t2 s2 hk2 vr2 R2 y2 => ?_
        refine cmpop_ok S hf R2 vr.mono vr2 hk2 fun u3 v3 σ3 t3 s3 hk3 vr3 R3 y3 => ?_
        obtain ⟨b, rfl, hk3⟩ := asB_elim hk3
        obtain rfl := vr3
        exact wpAny_truthy_bool ((((r.step y1 R1).step y2 R2).step y3 R3).now' R3 hk3)
    | [], _, h => exact h.elim
    | _ :: _ :: _, _, h => exact h.elim
    | [_], [], h => exact h.elim
    | [_], _ :: _ :: _, h => exact h.elim
  | Name x pos => (conv at h => whnf); exact value_ok ev F R h r rfl
  | BinOp a op b pos => (conv at h => whnf); exact value_ok ev F R h r rfl
  | Call f args kws pos => (conv at h => whnf); exact value_ok ev F R h r rfl
  | Attribute o name pos => (conv at h => whnf); exact value_ok ev F R h r rfl
  | _ => exact h.elim

theorem all_ok (S : Setup prog w h₀ mg mb G) (C : CallOk prog w h₀ G dp) (hf : Fits A dp) : ∀ n, EvOk prog w A h₀ G n ∧ TrOk prog w A h₀ G n
  | 0 => ⟨fun _ _ _ _ _ _ _ _ _ _ _ _ h _ => h.elim, fun _ _ _ _ _ _ _ _ _ _ _ _ h _ => h.elim⟩
  | n + 1 => let ih := all_ok S C hf n; ⟨ev_succ S C hf ih.1 ih.2, tr_succ S C hf ih.1 ih.2⟩
end
end Mine
end

section
open PySem PySem.W PyProof.Rows PySem.Calls
set_option linter.unusedVariables false
set_option maxRecDepth 100000
namespace Mine

theorem lookup_put (x y : Str) (v : V) : ∀ l : Loc, (put x v l).lookup y = if y = x then some v else l.lookup y
  | [] => by
    show List.lookup y [(x, v)] = _
    by_cases h : y = x
    · subst h; simp
    · have : (y == x) = false := by simpa using h
      rw [List.lookup_cons, this, if_neg h]
  | (z, u) :: r => by
    unfold put
    cases hz : x == z with
    | true =>
      have := eq_of_beq hz
      subst this
      show List.lookup y ((x, v) :: r) = _
      by_cases h : y = x
      · subst h; simp
      · have h2 : (y == x) = false := by simpa using h
        rw [List.lookup_cons, List.lookup_cons, h2, if_neg h]
    | false =>
      show List.lookup y ((z, u) :: put x v r) = _
      rw [List.lookup_cons, List.lookup_cons, lookup_put x y v r]
      cases hy : y == z with
      | true =>
        have e := eq_of_beq hy
        subst e
        have : ¬ y = x := fun q => by
          subst q
          simp at hz
        simp [this]
      | false => rfl

structure Frs (h₀ : Heap) (env : Env) (h : Heap) (ρ : List Addr) (sc : Scope) (l : Loc) : Prop where
  frm : Frm env h ρ sc l
  l0 : h₀.get? env.locals = none
  cells : ∀ x, sc.names.lookup x = some .cell → ∃ c o, env.cells.lookup x = some c ∧ h.IsCell c o ∧ c ∉ ρ ∧ c ≠ env.locals ∧ h₀.get? c = none
  inj : ∀ x y c, env.cells.lookup x = some c → env.cells.lookup y = some c → x = y
  all : ∀ x c, env.cells.lookup x = some c → sc.names.lookup x = some .cell

structure ExtS (env : Env) (ρ t : List Addr) (s s' : Shared) : Prop where
  same : ∃ h' tk, s' = { s with heap := h', toks := tk }
  keep : ∀ b o, b ∉ ρ → b ≠ env.locals → (∀ x, env.cells.lookup x ≠ some b) → s.heap.get? b = some o → s'.heap.get? b = some o
  fresh : ∀ a ∈ t, s.heap.get? a = none

theorem Ext.toS {env : Env} {ρ t : List Addr} {s s' : Shared} (x : Ext ρ t s s') : ExtS env ρ t s s' := ⟨x.same, fun b o h _ _ e => x.keep b o h e, x.fresh⟩

section
variable {h₀ : Heap} {env : Env} {sc : Scope} {l : Loc} {ρ t t' : List Addr} {σ : List O} {s s' s'' : Shared}

theorem Frs.step (F : Frs h₀ env s.heap ρ sc l) (x : Ext ρ t s s') : Frs h₀ env s'.heap (ρ ++ t) sc l := by
  refine ⟨F.frm.step x, F.l0, fun y hy => ?_, F.inj, F.all⟩
  obtain ⟨c, o, hc, ⟨ob, ho, hd⟩, off, hl, h0⟩ := F.cells y hy
  refine ⟨c, o, hc, ⟨ob, x.keep c ob off ho, hd⟩, fun hm => ?_, hl, h0⟩
  rcases List.mem_append.mp hm with hm | hm
  · exact off hm
  · rw [x.fresh _ hm] at ho; cases ho
theorem Frs.congr {l' : Loc} (F : Frs h₀ env s.heap ρ sc l) (h : ∀ z, l'.lookup z = l.lookup z) : Frs h₀ env s.heap ρ sc l' := by
  refine ⟨⟨F.frm.scope, F.frm.kind, F.frm.glob, F.frm.bltn, ?_, F.frm.off, fun x v hx => F.frm.cell x v (by rw [← h]; exact hx)⟩, F.l0, F.cells, F.inj, F.all⟩
  obtain ⟨m, hn, hm⟩ := F.frm.ns
  exact ⟨m, hn, fun x v hx => hm x v (by rw [← h]; exact hx)⟩
theorem ExtS.trans {l' : Loc} (R : Rep h₀ (ρ ++ t) σ s'.heap) (F : Frs h₀ env s'.heap (ρ ++ t) sc l') (x : ExtS env ρ t s s') (y : ExtS env (ρ ++ t) t' s' s'') : ExtS env ρ (t ++ t') s s'' := by
  obtain ⟨h1, k1, rfl⟩ := x.same
  obtain ⟨h2, k2, rfl⟩ := y.same
  have keep : ∀ b o, b ∉ ρ → b ≠ env.locals → (∀ x, env.cells.lookup x ≠ some b) → s.heap.get? b = some o → h2.get? b = some o := fun b o hb hl hc e => by
    refine y.keep b o (fun hm => ?_) hl hc (x.keep b o hb hl hc e)
    rcases List.mem_append.mp hm with hm | hm
    · exact hb hm
    · rw [x.fresh b hm] at e; cases e
  refine ⟨⟨h2, k2, rfl⟩, keep, fun a ha => ?_⟩
  rcases List.mem_append.mp ha with ha | ha
  · exact x.fresh a ha
  · cases e : s.heap.get? a with
    | none => rfl
    | some o =>
      have f := y.fresh a ha
      by_cases hm : a ∈ ρ
      · obtain ⟨o', e'⟩ := R.alive (List.mem_append_left t hm)
        rw [f] at e'; cases e'
      · by_cases hl : a = env.locals
        · subst hl
          obtain ⟨m, hn, _⟩ := F.frm.ns
          obtain ⟨o', e'⟩ := Ns.alive hn
          rw [f] at e'; cases e'
        · by_cases hc : ∃ z, env.cells.lookup z = some a
          · obtain ⟨z, hz⟩ := hc
            obtain ⟨c, o', hc', ⟨ob, ho, _⟩, _⟩ := F.cells z (F.all z a hz)
            rw [hz] at hc'; cases hc'
            rw [f] at ho; cases ho
          · have := x.keep a o hm hl (fun z hz => hc ⟨z, hz⟩) e
            rw [f] at this; cases this
end

/-- what a statement leaves -/
noncomputable def FlR (ρ : List Addr) : Flow → Fl → Prop
  | .next, .next => True
  | .ret u, .ret v => VR ρ u v
  | _, _ => False
noncomputable abbrev ResS (h₀ : Heap) (env : Env) (sc : Scope) (ρ : List Addr) (s : Shared) (K : KS) (Q : Flow → Shared → Prop) : Prop :=
  ∀ flow fl l' σ' t s', K fl l' σ' → FlR (ρ ++ t) flow fl → Frs h₀ env s'.heap (ρ ++ t) sc l' → Rep h₀ (ρ ++ t) σ' s'.heap → ExtS env ρ t s s' → Q flow s'

section
variable {h₀ : Heap} {env : Env} {sc : Scope} {l : Loc} {ρ t t' : List Addr} {σ : List O} {s s' s'' : Shared} {K : KS} {Q : Flow → Shared → Prop}
theorem ResS.step {l' : Loc} (r : ResS h₀ env sc ρ s K Q) (x : ExtS env ρ t s s') (R : Rep h₀ (ρ ++ t) σ s'.heap) (F : Frs h₀ env s'.heap (ρ ++ t) sc l') : ResS h₀ env sc (ρ ++ t) s' K Q := fun fl f l'' σ' t' s'' k vr F' R' y => by
  rw [List.append_assoc] at vr R' F'
  exact r fl f l'' σ' (t ++ t') s'' k vr F' R' (x.trans R F y)
theorem ResS.next (r : ResS h₀ env sc ρ s K Q) (k : K .next l σ) (R : Rep h₀ ρ σ s.heap) (F : Frs h₀ env s.heap ρ sc l) : Q .next s :=
  r .next .next l σ [] s k trivial (by rw [List.append_nil]; exact F) (by rw [List.append_nil]; exact R) Ext.refl.toS
end

section
variable {prog : Program} {w : World} {A : Around} {E : Value → Shared → Prop} {s : Shared} {h₀ : Heap} {ρ : List Addr} {σ : List O} {env : Env} {sc : Scope} {l : Loc}

theorem store_ok {x : Str} {u : Value} {v : V} {Q : Unit → Shared → Prop} (hs : stores sc x = true) (F : Frs h₀ env s.heap ρ sc l) (R : Rep h₀ ρ σ s.heap) (vu : VR ρ u v)
    (fin : ∀ h' tk, Frs h₀ env h' ρ sc (put x v l) → Rep h₀ ρ σ h' → ExtS env ρ [] s { s with heap := h', toks := tk } → Q () { s with heap := h', toks := tk }) : wpAny (model prog w) A (storeName env x u) Q E s := by
  have hkind : env.scope.kind = .function := by rw [F.frm.scope]; exact F.frm.kind
  have kindOf : ∀ k, sc.names.lookup x = some k → env.kindOf x = some k := fun k hk => by
    show env.scope.names.lookup x = _
    rw [F.frm.scope]; exact hk
  unfold stores at hs
  simp only [Bool.or_eq_true, beq_iff_eq] at hs
  rcases hs with hl | hc
  · obtain ⟨m, hn, hm⟩ := F.frm.ns
    refine wpAny_storeName_local (kindOf _ hl) hn (fun h' hn' hs' => ?_) (by rw [hkind]; rfl)
    have kc : ∀ c o, c ≠ env.locals → s.heap.IsCell c o → h'.IsCell c o := fun c o hne hi => hi.sameBut hs' hne
    refine fin h' (s.toks + 1) ⟨⟨F.frm.scope, F.frm.kind, F.frm.glob, F.frm.bltn, ⟨_, hn', fun y w hy hk => ?_⟩, F.frm.off, fun y w hy hk => ?_⟩, F.l0, fun y hy => ?_, F.inj, F.all⟩ (R.offside hs' F.frm.off F.l0)
      ⟨⟨h', _, rfl⟩, fun b o _ hb _ e => hs'.extBut b o hb e, fun _ h => nomatch h⟩
    · rw [lookup_put] at hy
      by_cases hyx : y = x
      · subst hyx
        rw [if_pos rfl] at hy; cases hy
        exact ⟨u, by simp, vu⟩
      · rw [if_neg hyx] at hy
        obtain ⟨u', hu', vu'⟩ := hm y w hy hk
        exact ⟨u', by simp [hyx, hu'], vu'⟩
    · rw [lookup_put] at hy
      have hyx : ¬ y = x := fun q => by subst q; rw [hl] at hk; cases hk
      rw [if_neg hyx] at hy
      obtain ⟨c, u', hc, hi, off, vu'⟩ := F.frm.cell y w hy hk
      obtain ⟨c2, o2, hc2, _, _, hne, _⟩ := F.cells y hk
      rw [hc] at hc2; cases hc2
      exact ⟨c, u', hc, kc c _ hne hi, off, vu'⟩
    · obtain ⟨c, o, hc, hi, off, hne, h0⟩ := F.cells y hy
      exact ⟨c, o, hc, kc c _ hne hi, off, hne, h0⟩
  · obtain ⟨c, o, hcl, hi, off, hne, h0⟩ := F.cells x hc
    refine wpAny_storeName_cell hkind (kindOf _ hc) hcl hi fun h' hi' hs' => ?_
    refine fin h' s.toks ⟨⟨F.frm.scope, F.frm.kind, F.frm.glob, F.frm.bltn, ?_, F.frm.off, fun y w hy hk => ?_⟩, F.l0, fun y hy => ?_, F.inj, F.all⟩ (R.offside hs' off h0)
      ⟨⟨h', _, rfl⟩, fun b ob _ _ hb e => hs'.extBut b ob (fun q => hb x (by rw [q]; exact hcl)) e, fun _ h => nomatch h⟩
    · obtain ⟨m, hn, hm⟩ := F.frm.ns
      refine ⟨m, hn.sameBut hs' (Ne.symm hne), fun y w hy hk => hm y w ?_ hk⟩
      rw [lookup_put] at hy
      have hyx : ¬ y = x := fun q => by subst q; rw [hc] at hk; cases hk
      rwa [if_neg hyx] at hy
    · rw [lookup_put] at hy
      by_cases hyx : y = x
      · subst hyx
        rw [if_pos rfl] at hy; cases hy
        exact ⟨c, u, hcl, hi', off, vu⟩
      · rw [if_neg hyx] at hy
        obtain ⟨c2, u', hc2, hi2, off2, vu'⟩ := F.frm.cell y w hy hk
        exact ⟨c2, u', hc2, hi2.sameBut hs' (fun q => hyx (F.inj y x c (by rw [← q]; exact hc2) hcl)), off2, vu'⟩
    · by_cases hyx : y = x
      · subst hyx; exact ⟨c, _, hcl, hi', off, hne, h0⟩
      · obtain ⟨c2, o2, hc2, hi2, off2, hne2, h02⟩ := F.cells y hy
        exact ⟨c2, o2, hc2, hi2.sameBut hs' (fun q => hyx (F.inj y x c (by rw [← q]; exact hc2) hcl)), off2, hne2, h02⟩
end
end Mine
end

section
open PySem PySem.W PyProof.Rows PySem.Calls
set_option linter.unusedVariables false
set_option maxRecDepth 100000
namespace Mine

section
variable {prog : Program} {w : World} {A : Around} {E : Value → Shared → Prop} {s : Shared} {h₀ : Heap} {mg mb : Str → Option Value} {G : Ora} {ρ : List Addr} {σ : List O} {K : KS} {Q : Flow → Shared → Prop} {dp : Nat}
  {env : Env} {sc : Scope} {l : Loc} {n : Nat}

noncomputable abbrev StOk (prog : Program) (w : World) (A : Around) (h₀ : Heap) (G : Ora) (n : Nat) : Prop :=
  ∀ (env : Env) (sc : Scope) (l : Loc) (sts : List Stmt) (σ : List O) (K : KS) (ρ : List Addr) (s : Shared) (E : Value → Shared → Prop) (Q : Flow → Shared → Prop),
    Frs h₀ env s.heap ρ sc l → Rep h₀ ρ σ s.heap → wpS G n sc l sts σ K → ResS h₀ env sc ρ s K Q → wpAny (model prog w) A (execs sts env) Q E s

theorem Frs.beside {a : Addr} {h' : Heap} (F : Frs h₀ env s.heap ρ sc l) (ha : s.heap.get? a = none ∨ (a ≠ env.locals ∧ ∀ x, env.cells.lookup x ≠ some a)) (hk : ∀ b o, b ≠ a → s.heap.get? b = some o → h'.get? b = some o) : Frs h₀ env h' ρ sc l := by
  have hl : env.locals ≠ a := by
    rcases ha with ha | ha
    · intro q
      obtain ⟨m, hn, _⟩ := F.frm.ns
      obtain ⟨o, ho⟩ := Ns.alive hn
      rw [q, ha] at ho; cases ho
    · exact Ne.symm ha.1
  have hc : ∀ x c, env.cells.lookup x = some c → c ≠ a := by
    intro x c hx q
    subst q
    rcases ha with ha | ha
    · obtain ⟨c', o, hc', ⟨ob, ho, _⟩, _⟩ := F.cells x (F.all x c hx)
      rw [hx] at hc'; cases hc'
      rw [ha] at ho; cases ho
    · exact ha.2 x hx
  have cellK : ∀ x c o, env.cells.lookup x = some c → s.heap.IsCell c o → h'.IsCell c o := fun x c o hx ⟨ob, ho, hd⟩ => ⟨ob, hk c ob (hc x c hx) ho, hd⟩
  refine ⟨⟨F.frm.scope, F.frm.kind, F.frm.glob, F.frm.bltn, ?_, F.frm.off, fun y v hy hk' => ?_⟩, F.l0, fun y hy => ?_, F.inj, F.all⟩
  · obtain ⟨m, hn, hm⟩ := F.frm.ns
    exact ⟨m, hn.at' fun o e => hk _ o hl e, hm⟩
  · obtain ⟨c, u, hc1, hi, off, vu⟩ := F.frm.cell y v hy hk'
    exact ⟨c, u, hc1, cellK y c _ hc1 hi, off, vu⟩
  · obtain ⟨c, o, hc1, hi, r⟩ := F.cells y hy
    exact ⟨c, o, hc1, cellK y c _ hc1 hi, r⟩

/-- `for x in ..` over what is at hand -/
theorem for_loop {x : Str} {px : Pos} {body : List Stmt} {I : Addr} {src : Option Nat} {xs : List V} {St : Nat → Heap → Prop} {s1 : Shared} (hf : Fits A dp) (ih : StOk prog w A h₀ G n) (T : Turns prog w A h₀ ρ I src xs St)
    (hs : stores sc x = true) (hI : s1.heap.get? I = none) (R1 : Rep h₀ ρ σ s1.heap) (F1 : Frs h₀ env s1.heap ρ sc l) (o : Obj) (st0 : St 0 (s1.heap.push o)) (hIo : I = s1.heap.objs.size)
    (h : forGo (srcOk src xs) (fun l σ K => wpS G n sc l body σ K) x xs l σ K) (r : ResS h₀ env sc ρ s1 K Q) :
    codeAny (model prog w) A (.forLoop (.Name x px) (.ref I) body [] env) (fun r s' => match r with | .ok f => Q f s' | .error e => cameBackBy (model prog w) A env E e s') { s1 with heap := s1.heap.push o } := by
  have kp : ∀ b ob, s1.heap.get? b = some ob → (s1.heap.push o).get? b = some ob := fun b ob e => Heap.get?_push_of_some _ e
  have hIl : I ≠ env.locals := fun q => by
    obtain ⟨m, hn, _⟩ := F1.frm.ns
    obtain ⟨ob, ho⟩ := Ns.alive hn
    rw [← q, hI] at ho; cases ho
  have hIc : ∀ y, env.cells.lookup y ≠ some I := fun y q => by
    obtain ⟨c, ob, hc, ⟨ob2, ho, _⟩, _⟩ := F1.cells y (F1.all y I q)
    rw [q] at hc; cases hc
    rw [hI] at ho; cases ho
  refine codeAny_forLoop (fun m s' => ∃ i l σ t, i ≤ xs.length ∧ m = xs.length + 1 - i ∧ Rep h₀ (ρ ++ t) σ s'.heap ∧ Frs h₀ env s'.heap (ρ ++ t) sc l ∧ ExtS env ρ t s1 s' ∧ St i s'.heap ∧ I ∉ ρ ++ t ∧
    forGo (srcOk src xs) (fun l σ K => wpS G n sc l body σ K) x (xs.drop i) l σ K) ?_ (xs.length + 1)
    ⟨0, l, σ, [], Nat.zero_le _, rfl, by rw [List.append_nil]; exact R1.grow kp, ?_, ⟨⟨_, s1.toks, rfl⟩, fun b ob _ _ _ e => kp b ob e, fun _ h => nomatch h⟩, st0, ?_, h⟩
  · rintro m s2 ⟨i, l, σ, t, hi, rfl, R2, F2, X2, st, hO, h⟩
    have hk0 : h₀.get? I = none := R1.none hI
    by_cases hlt : i < xs.length
    · have hd : xs.drop i = xs[i] :: xs.drop (i + 1) := List.drop_eq_getElem_cons hlt
      rw [hd] at h
      obtain ⟨ok, h⟩ := h
      refine T.item i xs[i] t σ s2 _ _ st R2 hO ok (by simp [hlt]) fun u h' tk vu st' hk => ?_
      have R3 : Rep h₀ (ρ ++ t) σ h' := R2.beside hk hO hk0
      have F3 : Frs h₀ env h' (ρ ++ t) sc l := F2.beside (.inr ⟨hIl, hIc⟩) hk
      have X3 : ExtS env ρ t s1 { s2 with heap := h', toks := tk } := by
        obtain ⟨h1, k1, rfl⟩ := X2.same
        exact ⟨⟨h', tk, rfl⟩, fun b ob hb hl hc e => hk b ob (fun q => by subst q; rw [hI] at e; cases e) (X2.keep b ob hb hl hc e), X2.fresh⟩
      dsimp only
      refine wpAny_assign_Name (store_ok (s := { s2 with heap := h', toks := tk }) hs F3 R3 vu fun h4 tk4 F4 R4 X4 => ?_)
      have oA : ∃ ob, h'.get? I = some ob := T.alive _ _ st'
      have X4' : ExtS env ρ (t ++ []) s1 { s2 with heap := h4, toks := tk4 } := X3.trans R3 F3 X4
      rw [List.append_nil] at X4'
      have st4 : St (i + 1) h4 := T.frame _ _ _ st' fun ob e => X4.keep I ob hO hIl hIc e
      have oA4 : ∃ ob, h4.get? I = some ob := T.alive _ _ st4
      refine ih env sc _ body σ _ _ { s2 with heap := h4, toks := tk4 } _ _ F4 R4 h fun flow fl l5 σ5 t5 s5 hk5 fr F5 R5 X5 => ?_
      have kI : ∀ ob, h4.get? I = some ob → s5.heap.get? I = some ob := fun ob e => X5.keep I ob hO hIl hIc e
      have X6 := X4'.trans R4 F4 X5
      match flow, fl, fr with
      | .next, .next, _ =>
        refine ⟨xs.length + 1 - (i + 1), by omega, i + 1, l5, σ5, t ++ t5, hlt, rfl, by rw [← List.append_assoc]; exact R5, by rw [← List.append_assoc]; exact F5, X6, T.frame _ _ _ st4 kI, fun hm => ?_, hk5⟩
        rw [← List.append_assoc] at hm
        rcases List.mem_append.mp hm with hm | hm
        · exact hO hm
        · obtain ⟨ob, e⟩ := oA4
          have := X5.fresh I hm
          rw [show ({ s2 with heap := h4, toks := tk4 } : Shared).heap.get? I = h4.get? I from rfl, e] at this; cases this
      | .ret u, .ret v, fr =>
        exact r (.ret u) (.ret v) l5 σ5 (t ++ t5) s5 hk5 (by rw [← List.append_assoc]; exact fr) (by rw [← List.append_assoc]; exact F5) (by rw [← List.append_assoc]; exact R5) X6
    · have hieq : i = xs.length := by omega
      subst hieq
      rw [List.drop_length] at h
      obtain ⟨ok, h⟩ := h
      refine T.done t σ s2 _ _ st R2 hO ok fun h' tk hk => ?_
      refine wpAny_execs_nil ?_
      have X3 : ExtS env ρ t s1 { s2 with heap := h', toks := tk } := by
        obtain ⟨h1, k1, rfl⟩ := X2.same
        exact ⟨⟨h', tk, rfl⟩, fun b ob hb hl hc e => hk b ob (fun q => by subst q; rw [hI] at e; cases e) (X2.keep b ob hb hl hc e), X2.fresh⟩
      exact r .next .next l σ t _ h trivial (F2.beside (.inr ⟨hIl, hIc⟩) hk) (R2.beside hk hO hk0) X3
  · rw [List.append_nil]
    exact F1.beside (a := I) (.inl hI) fun b ob _ e => kp b ob e
  · rw [List.append_nil]
    intro hm
    obtain ⟨ob, e⟩ := R1.alive hm
    rw [hI] at e; cases e
end
end Mine
end

section
open PySem PySem.W PyProof.Rows PySem.Calls
set_option linter.unusedVariables false
set_option maxRecDepth 100000
namespace Mine

theorem swapped_cases {x y : Str} {p q tp : Pos} {k : Nat} {value : Expr} (env : Env) (h : swapOk value = true) :
    swappedStores [.Tuple [.Name x p, .Name y q] k tp] value env = pure none ∨ swappedStores [.Tuple [.Name x p, .Name y q] k tp] value env = pure (some [x, y]) := by
  cases value with
  | Tuple vs k2 p2 =>
    have hv : ¬ vs.all (constantsAlone 8) = true := by
      intro e
      simp only [swapOk, e] at h
      cases h
    unfold swappedStores
    dsimp only
    split
    · left; rfl
    · split
      · left; rfl
      · split
        · left; rfl
        · rename_i hn
          split
          · left; rfl
          · right
            by_cases c1 : (env.kindOf x == some NameKind.local && p.line == (Option.map (fun x => x.pos.line) [Expr.Name x p, Expr.Name y q].head?).getD 0) = true <;>
              by_cases c2 : (env.kindOf y == some NameKind.local && q.line == (Option.map (fun x => x.pos.line) [Expr.Name x p, Expr.Name y q].head?).getD 0) = true <;>
              simp only [List.filterMap_cons, List.filterMap_nil, c1, c2, if_true, if_false, List.length_cons, List.length_nil] at hn ⊢ <;>
              first | rfl | (exact absurd rfl hn) | (exact absurd (by decide) hn) | (simp at hn)
  | _ => left; rfl

section
variable {prog : Program} {w : World} {A : Around} {E : Value → Shared → Prop} {s : Shared} {h₀ : Heap} {mg mb : Str → Option Value} {G : Ora} {ρ : List Addr} {σ : List O} {K : KS} {Q : Flow → Shared → Prop} {dp : Nat}
  {env : Env} {sc : Scope} {l : Loc} {n : Nat}

theorem whileGo_succ {T : Loc → List O → (Bool → List O → Prop) → Prop} {B : Loc → List O → KS → Prop} {m : Nat} : whileGo T B (m + 1) l σ K = T l σ fun b σ => (b = true → B l σ (thenS (whileGo T B m) K)) ∧ (b = false → K .next l σ) := rfl
theorem while_ok {N : Nat} {test : Expr} {body : List Stmt} {pos : Pos} {m : Nat} (tr : TrOk prog w A h₀ G N) (ih : StOk prog w A h₀ G n) (F : Frs h₀ env s.heap ρ sc l) (R : Rep h₀ ρ σ s.heap)
    (h : whileGo (fun l σ K => wpX G N true sc l test σ (asB K)) (fun l σ K => wpS G n sc l body σ K) m l σ K) (r : ResS h₀ env sc ρ s K Q) : wpAny (model prog w) A (exec (.While test body [] pos) env) Q E s := by
  refine wpAny_While (codeAny_whileLoop (fun m s' => ∃ l σ t, Rep h₀ (ρ ++ t) σ s'.heap ∧ Frs h₀ env s'.heap (ρ ++ t) sc l ∧ ExtS env ρ t s s' ∧
    whileGo (fun l σ K => wpX G N true sc l test σ (asB K)) (fun l σ K => wpS G n sc l body σ K) m l σ K) ?_ m ⟨l, σ, [], by rw [List.append_nil]; exact R, by rw [List.append_nil]; exact F, Ext.refl.toS, h⟩)
  rintro m s1 ⟨l, σ, t, R1, F1, X1, h⟩
  cases m with
  | zero => exact h.elim
  | succ m =>
    rw [whileGo_succ] at h
    refine tr env sc l test σ _ _ s1 _ _ F1.frm R1 h fun b σ2 t2 s2 hk R2 y2 => ?_
    have F2 := F1.step y2
    have X2 := X1.trans R1 F1 y2.toS
    cases b with
    | true =>
      simp only [if_true]
      refine ih env sc l body σ2 _ _ s2 _ _ F2 R2 (hk.1 rfl) fun flow fl l5 σ5 t5 s5 hk5 fr F5 R5 X5 => ?_
      have X6 := X2.trans (by rw [← List.append_assoc]; exact R2) (by rw [← List.append_assoc]; exact F2) (by rw [← List.append_assoc]; exact X5)
      rw [List.append_assoc ρ t t2, List.append_assoc] at R5 F5 fr
      match flow, fl, fr with
      | .next, .next, _ => exact ⟨m, Nat.lt_succ_self _, l5, σ5, _, R5, F5, X6, hk5⟩
      | .ret u, .ret v, fr => exact r (.ret u) (.ret v) l5 σ5 _ s5 hk5 fr F5 R5 X6
    | false =>
      simp only [Bool.false_eq_true, if_false]
      refine wpAny_execs_nil ?_
      rw [List.append_assoc] at R2 F2
      exact r .next .next l σ2 _ s2 (hk.2 rfl) trivial F2 R2 X2

/-- a value, then a store -/
theorem assign_ok {N : Nat} {x : Str} {p pos : Pos} {value : Expr} (S : Setup prog w h₀ mg mb G) (C : CallOk prog w h₀ G dp) (hf : Fits A dp) (hs : stores sc x = true) (F : Frs h₀ env s.heap ρ sc l) (R : Rep h₀ ρ σ s.heap)
    (h : wpX G (N + 1) false sc l value σ fun v σ => K .next (put x v l) σ) (r : ResS h₀ env sc ρ s K Q) : wpAny (model prog w) A (exec (.Assign [.Name x p] value pos) env) Q E s := by
  have ev := (all_ok (A := A) S C hf (N + 1)).1
  have plain : swapsWith value (some (.Name x p)) pos.line env = pure false → wpAny (model prog w) A (exec (.Assign [.Name x p] value pos) env) Q E s := fun hsw => by
    refine wpAny_Assign_Name (ev env sc l value σ _ ρ s E _ F.frm R h fun u v σ1 t s1 hk vr R1 x1 => ?_) hsw
    have F1 := F.step x1
    refine store_ok hs F1 R1 vr fun h' tk F2 R2 X2 => ?_
    exact ((r.step x1.toS R1 F1).step X2 (by rw [List.append_nil]; exact R2) (by rw [List.append_nil]; exact F2)).next hk (by rw [List.append_nil]; exact R2) (by rw [List.append_nil]; exact F2)
  cases value with
  | ListComp elt gens scope cp =>
    obtain ⟨y, px, iter, ifs, rfl⟩ := comp_shape h
    by_cases hsw : (env.blockKind == .function && env.kindOf x == some .local && p.line == cp.line && !(scope.names.any fun (n, k) => n == x && (k == .local || k == .cell))) = true
    · have hsw' : swapsWith (.ListComp elt [⟨.Name y px, iter, ifs, 0⟩] scope cp) (some (.Name x p)) pos.line env = pure true := by
        show (pure (env.blockKind == .function && env.kindOf x == some .local && p.line == cp.line && !(scope.names.any fun (n, k) => n == x && (k == .local || k == .cell))) : Sem Bool) = pure true
        rw [hsw]
      rw [exec_Assign_Name_used _ _ _ _ hsw']
      refine wpAny_bind (wpAny_standAt (wpAny_bind ?_))
      show wpAny _ A (do let _ ← comprehension (.ListComp elt [⟨.Name y px, iter, ifs, 0⟩] scope cp) scope env _ (newList []) false (eval iter env) (some (assign (.Name x p) env))) _ _ s
      refine wpAny_bind (wpAny_mono (comp_core (use := some (assign (.Name x p) env)) (Q := fun _ s' => Q .next s') (E := E) (all_ok (A := A) S C hf N).1 (all_ok (A := A) S C hf N).2 hf F.frm R h fun D Cc m v σ1 t s1 hk vr R1 x1 hn hC hCn => ?_) (fun _ s' hh => wpAny_pure (wpAny_pure hh)) fun _ _ e => e)
      have F1 := F.step x1
      show wpAny _ A (assign (.Name x p) env (.ref D)) _ E s1
      have hC0 : h₀.get? Cc = none := R.none hCn
      have hCl : Cc ≠ env.locals := fun q => by
        obtain ⟨m', hn', _⟩ := F.frm.ns
        obtain ⟨o, ho⟩ := Ns.alive hn'
        rw [← q, hCn] at ho; cases ho
      have hCc : ∀ z, env.cells.lookup z ≠ some Cc := fun z q => by
        obtain ⟨c, o, hc, ⟨ob, ho, _⟩, _⟩ := F.cells z (F.all z Cc q)
        rw [q] at hc; cases hc
        rw [hCn] at ho; cases ho
      refine wpAny_assign_Name (store_ok hs F1 R1 vr fun h' tk F2 R2 X2 => ?_)
      obtain ⟨ob, hob⟩ := Ns.alive hn
      refine ⟨m, hn.at' fun o e => X2.keep Cc o hC hCl hCc e, fun h'' hs'' => ?_⟩
      have R3 : Rep h₀ (ρ ++ t) σ1 h'' := R2.offside hs'' hC hC0
      have F3 : Frs h₀ env h'' (ρ ++ t) sc (put x v l) := Frs.beside (s := { s1 with heap := h', toks := tk }) F2 (.inr ⟨hCl, hCc⟩) fun b o hb e => hs''.extBut b o hb e
      have X3 : ExtS env ρ t s { s1 with heap := h'', toks := tk } := by
        have X := x1.toS.trans R1 F1 X2
        rw [List.append_nil] at X
        obtain ⟨h1, k1, e1⟩ := X.same
        refine ⟨⟨h'', tk, ?_⟩, fun b o hb hl hc e => hs''.extBut b o (fun q => by subst q; rw [hCn] at e; cases e) (X.keep b o hb hl hc e), X.fresh⟩
        obtain ⟨h2, k2, rfl⟩ := x1.same
        rfl
      exact r .next .next _ σ1 t _ hk trivial F3 R3 X3
    · refine plain ?_
      show (pure (env.blockKind == .function && env.kindOf x == some .local && p.line == cp.line && !(scope.names.any fun (n, k) => n == x && (k == .local || k == .cell))) : Sem Bool) = pure false
      rw [Bool.not_eq_true] at hsw
      rw [hsw]
  | SetComp => exact h.elim
  | DictComp => exact h.elim
  | _ => exact plain rfl
end
end Mine
end

section
open PySem PySem.W PyProof.Rows PySem.Calls
set_option linter.unusedVariables false
set_option maxRecDepth 100000
namespace Mine

section
variable {prog : Program} {w : World} {A : Around} {E : Value → Shared → Prop} {s : Shared} {h₀ : Heap} {mg mb : Str → Option Value} {G : Ora} {ρ : List Addr} {σ : List O} {K : KS} {Q : Flow → Shared → Prop} {dp : Nat}
  {env : Env} {sc : Scope} {l : Loc} {n : Nat}

theorem two_of {us : List Value} {a b : V} (h : VRs ρ us [a, b]) : ∃ ua ub, us = [ua, ub] ∧ VR ρ ua a ∧ VR ρ ub b := by
  match us, h with
  | [ua, ub], h => exact ⟨ua, ub, rfl, h.1, h.2.1⟩
  | [], h => exact h.elim
  | [_], h => exact h.2.elim
  | _ :: _ :: _ :: _, h => exact h.2.2.elim

theorem put_swap (x y : Str) (a b : V) (l : Loc) (h : x ≠ y) (z : Str) : (put y b (put x a l)).lookup z = (put x a (put y b l)).lookup z := by
  rw [lookup_put, lookup_put, lookup_put, lookup_put]
  by_cases h1 : z = y
  · subst h1
    rw [if_pos rfl, if_neg (Ne.symm h), if_pos rfl]
  · rw [if_neg h1, if_neg h1]

theorem sole_tuple {elts : List Expr} {k line : Nat} {p : Pos} {value : Expr} : swapsWithSole [.Tuple elts k p] value line env = pure false := by
  cases value <;> rfl

theorem tuple_ok {N : Nat} {x y : Str} {p q tp pos : Pos} {k : Nat} {value : Expr} (S : Setup prog w h₀ mg mb G) (C : CallOk prog w h₀ G dp) (hf : Fits A dp) (hx : stores sc x = true) (hy : stores sc y = true) (hne : x ≠ y) (hsw : swapOk value = true)
    (F : Frs h₀ env s.heap ρ sc l) (R : Rep h₀ ρ σ s.heap)
    (h : wpX G N false sc l value σ fun v σ => match v with
      | .ref i => match σ[i]? with
        | some (.tup [a, b]) => K .next (put y b (put x a l)) σ
        | _ => False
      | _ => False) (r : ResS h₀ env sc ρ s K Q) : wpAny (model prog w) A (exec (.Assign [.Tuple [.Name x p, .Name y q] k tp] value pos) env) Q E s := by
  have ev := (all_ok (A := A) S C hf N).1
  have hval : ∀ (Q' : Value → Shared → Prop), (∀ a1 ua ub a b σ1 t s1, s1.heap.IsTuple a1 #[ua, ub] → VR (ρ ++ t) ua a → VR (ρ ++ t) ub b → K .next (put y b (put x a l)) σ1 → Rep h₀ (ρ ++ t) σ1 s1.heap → Ext ρ t s s1 → Q' (.ref a1) s1) →
      wpAny (model prog w) A (eval value env) Q' E s := fun Q' hQ => by
    refine ev env sc l value σ _ ρ s E _ F.frm R h fun u v σ1 t s1 hk vr R1 x1 => ?_
    split at hk
    · rename_i i
      split at hk
      · rename_i a b e
        obtain ⟨a1, i1, rfl, us, ht, vs⟩ := R1.at_ e vr
        obtain ⟨ua, ub, rfl, va, vb⟩ := two_of vs
        exact hQ a1 ua ub a b σ1 t s1 ht va vb hk R1 x1
      · exact hk.elim
    · exact hk.elim
  -- after unpacking
  have kp : ∀ {s1 : Shared} {h' : Heap}, Heap.ExtBut s1.heap.objs.size s1.heap h' → ∀ b o, s1.heap.get? b = some o → h'.get? b = some o := fun he b o e => he b o (Nat.ne_of_lt (Heap.lt_size e)) e
  rcases swapped_cases (x := x) (y := y) (p := p) (q := q) (tp := tp) (k := k) env hsw with hw | hw
  · refine wpAny_Assign_stores (hval _ fun a1 ua ub a b σ1 t s1 ht va vb hk R1 x1 => ?_) sole_tuple hw
    show wpAny _ A (assign (.Tuple [.Name x p, .Name y q] k tp) env (.ref a1)) _ E s1
    refine wpAny_assign_Tuple hf.handled ht rfl rfl fun h' he => ?_
    have X1 : Ext (ρ ++ t) [] s1 { s1 with heap := h' } := ⟨⟨h', s1.toks, rfl⟩, fun b o _ e => kp he b o e, fun _ h => nomatch h⟩
    have F1 := F.step x1
    have R2 : Rep h₀ (ρ ++ t) σ1 h' := R1.grow (kp he)
    have F2 : Frs h₀ env h' (ρ ++ t) sc l := by
      have := F1.step X1
      rwa [List.append_nil] at this
    have X2 : ExtS env ρ t s { s1 with heap := h' } := by
      have := (x1.trans R1 X1).toS (env := env)
      rwa [List.append_nil] at this
    show wpAny _ A (do holding [ub] (assign (.Name x p) env ua); assignInOrder [assign (.Name y q) env] [ub]) _ E _
    refine wpAny_bind (wpAny_holding (wpAny_assign_Name (store_ok (s := { s1 with heap := h' }) hx F2 R2 va fun h3 tk3 F3 R3 X3 => ?_)))
    have X3' := X2.trans R2 F2 X3
    rw [List.append_nil] at X3'
    show wpAny _ A (do holding [] (assign (.Name y q) env ub); assignInOrder [] []) _ E _
    refine wpAny_bind (wpAny_holding (wpAny_assign_Name (store_ok (s := { s1 with heap := h3, toks := tk3 }) hy F3 R3 vb fun h4 tk4 F4 R4 X4 => ?_)))
    have X4' := X3'.trans R3 F3 X4
    rw [List.append_nil] at X4'
    exact wpAny_pure (r .next .next _ σ1 t _ hk trivial F4 R4 X4')
  · refine Assign_Tuple_swapped (hval _ fun a1 ua ub a b σ1 t s1 ht va vb hk R1 x1 => ?_) sole_tuple hw
    refine wpAny_unpackItems_tuple (items := #[ua, ub]) hf.handled ht fun h' he => ?_
    have X1 : Ext (ρ ++ t) [] s1 { s1 with heap := h' } := ⟨⟨h', s1.toks, rfl⟩, fun b o _ e => kp he b o e, fun _ h => nomatch h⟩
    have F1 := F.step x1
    have R2 : Rep h₀ (ρ ++ t) σ1 h' := R1.grow (kp he)
    have F2 : Frs h₀ env h' (ρ ++ t) sc l := by
      have := F1.step X1
      rwa [List.append_nil] at this
    have X2 : ExtS env ρ t s { s1 with heap := h' } := by
      have := (x1.trans R1 X1).toS (env := env)
      rwa [List.append_nil] at this
    show wpAny _ A (do holding [ua] (bindName env y ub); assignInOrder [bindName env x] [ua]) _ E _
    refine wpAny_bind (wpAny_holding (wpAny_bindName (store_ok (s := { s1 with heap := h' }) hy F2 R2 vb fun h3 tk3 F3 R3 X3 => ?_)))
    have X3' := X2.trans R2 F2 X3
    rw [List.append_nil] at X3'
    show wpAny _ A (do holding [] (bindName env x ua); assignInOrder [] []) _ E _
    refine wpAny_bind (wpAny_holding (wpAny_bindName (store_ok (s := { s1 with heap := h3, toks := tk3 }) hx F3 R3 va fun h4 tk4 F4 R4 X4 => ?_)))
    have X4' := X3'.trans R3 F3 X4
    rw [List.append_nil] at X4'
    exact wpAny_pure (r .next .next _ σ1 t _ hk trivial (Frs.congr (s := { s1 with heap := h4, toks := tk4 }) F4 (put_swap x y a b l hne)) R4 X4')

theorem aug_ok {N : Nat} {x : Str} {p pos : Pos} {op : Operator} {value : Expr} {old : V} (S : Setup prog w h₀ mg mb G) (C : CallOk prog w h₀ G dp) (hf : Fits A dp) (hs : stores sc x = true) (ho : l.lookup x = some old)
    (F : Frs h₀ env s.heap ρ sc l) (R : Rep h₀ ρ σ s.heap) (h : wpX G N false sc l value σ fun v σ => inop op old v fun u => K .next (put x u l) σ) (r : ResS h₀ env sc ρ s K Q) :
    wpAny (model prog w) A (exec (.AugAssign (.Name x p) op value pos) env) Q E s := by
  have ev := (all_ok (A := A) S C hf N).1
  have hkind : env.scope.kind = .function := by rw [F.frm.scope]; exact F.frm.kind
  have kindOf : ∀ k, sc.names.lookup x = some k → env.kindOf x = some k := fun k hk => by
    show env.scope.names.lookup x = _
    rw [F.frm.scope]; exact hk
  refine wpAny_AugAssign_Name ?_
  have rest : ∀ uo, VR ρ uo old → wpAny (model prog w) A (eval value env) (fun v s₂ => wpAny (model prog w) A (inplaceOp op uo v) (fun r s₃ => wpAny (model prog w) A (storeName env x r) (fun _ => Q .next) E s₃) E s₂) E s := fun uo vo => by
    refine ev env sc l value σ _ ρ s E _ F.frm R h fun u v σ1 t s1 hk vr R1 x1 => ?_
    refine inop_ok R1 vo.mono vr hk fun u2 v2 σ2 t2 s2 hk2 vr2 R2 x2 => ?_
    obtain ⟨hk2, rfl⟩ := hk2
    have F1 := F.step x1
    have F2 := F1.step x2
    refine store_ok hs F2 R2 vr2 fun h' tk F3 R3 X3 => ?_
    exact (((r.step x1.toS R1 F1).step x2.toS R2 F2).step X3 (by rw [List.append_nil]; exact R3) (by rw [List.append_nil]; exact F3)).next hk2 (by rw [List.append_nil]; exact R3) (by rw [List.append_nil]; exact F3)
  have hs' := hs
  unfold stores at hs'
  simp only [Bool.or_eq_true, beq_iff_eq] at hs'
  rcases hs' with hl | hc
  · obtain ⟨m, hn, hm⟩ := F.frm.ns
    obtain ⟨u, hu, vu⟩ := hm x old ho hl
    exact wpAny_loadName_local hkind (kindOf _ hl) hn hu (rest u vu)
  · obtain ⟨c, u, hcl, hi, _, vu⟩ := F.frm.cell x old ho hc
    exact wpAny_loadName_cell hkind (kindOf _ hc) hcl hi (rest u vu)

theorem getItem_of (S : Setup prog w h₀ mg mb G) {a b : Value} {v u : V} {KK : KV} {QQ : Value → Shared → Prop} (R : Rep h₀ ρ σ s.heap) (ha : VR ρ a v) (hb : VR ρ b u) (h : getItemV G v u σ KK) (r : ResE h₀ ρ s KK QQ) : wpAny (model prog w) A (getItem a b) QQ E s := by
  obtain ⟨_, _, _, _, hg⟩ := getItem_ok (prog := prog) (w := w) (A := A) (E := E) S R ha hb h r
  exact hg

theorem augSub_ok {N : Nat} {o i : Expr} {p pos : Pos} {op : Operator} {value : Expr} (S : Setup prog w h₀ mg mb G) (C : CallOk prog w h₀ G dp) (hf : Fits A dp) (hi : ∀ ov iv new, augStore i ov iv new = (do holding [new, ov, iv] (setItem ov iv new); release [new, ov, iv] []; pure .next))
    (F : Frs h₀ env s.heap ρ sc l) (R : Rep h₀ ρ σ s.heap)
    (h : wpX G N false sc l o σ fun ov σ => wpX G N false sc l i σ fun iv σ => getItemV G ov iv σ fun old σ => wpX G N false sc l value σ fun v σ => inop op old v fun new => setItemV ov iv new σ fun σ => K .next l σ) (r : ResS h₀ env sc ρ s K Q) :
    wpAny (model prog w) A (exec (.AugAssign (.Subscript o i p) op value pos) env) Q E s := by
  have ev := (all_ok (A := A) S C hf N).1
  refine wpAny_AugAssign_SubscriptAny (ev env sc l o σ _ ρ s E _ F.frm R h fun uo vo σ1 t1 s1 hk1 vr1 R1 x1 => ?_) hi
  have F1 := F.step x1
  refine ev env sc l i σ1 _ _ s1 E _ F1.frm R1 hk1 fun ui vi σ2 t2 s2 hk2 vr2 R2 x2 => ?_
  have F2 := F1.step x2
  refine getItem_of S R2 vr1.mono vr2 hk2 fun u3 v3 σ3 t3 s3 hk3 vr3 R3 x3 => ?_
  have F3 := F2.step x3
  refine ev env sc l value σ3 _ _ s3 E _ F3.frm R3 hk3 fun u4 v4 σ4 t4 s4 hk4 vr4 R4 x4 => ?_
  have F4 := F3.step x4
  refine inop_ok R4 vr3.mono vr4 hk4 fun u5 v5 σ5 t5 s5 hk5 vr5 R5 x5 => ?_
  obtain ⟨hk5, rfl⟩ := hk5
  have F5 := F4.step x5
  refine setItem_ok R5 vr1.mono.mono.mono.mono vr2.mono.mono.mono vr5 hk5 fun σ6 s6 hk6 R6 x6 => ?_
  have F6 := F5.step x6
  rw [List.append_nil] at F6
  exact ((((((r.step x1.toS R1 F1).step x2.toS R2 F2).step x3.toS R3 F3).step x4.toS R4 F4).step x5.toS R5 F5).step x6.toS (by rw [List.append_nil]; exact R6) (by rw [List.append_nil]; exact F6)).next hk6 (by rw [List.append_nil]; exact R6) (by rw [List.append_nil]; exact F6)

/-! the store of an attribute -/
theorem getL_put {x name : Str} {hsh : Int} {t : Tok} {v : Value} : ∀ {es : List DictEntry}, es.any (·.refKey) = false → getL x (putL name hsh (.str name t) v es) = if x = name then some (some v) else getL x es := by
  have key : ∀ (e : DictEntry), e.key.isStr name = true → e.key.isStr x = true → x = name := by
    intro e h1 h2
    cases hk : e.key with
    | str y u =>
      rw [hk] at h1 h2
      have a1 : y = name := by simpa [Value.isStr] using h1
      have a2 : y = x := by simpa [Value.isStr] using h2
      exact a2.symm.trans a1
    | _ => rw [hk] at h1; simp [Value.isStr] at h1
  have fnd : ∀ (es : List DictEntry), (putL name hsh (.str name t) v es).find? (·.key.isStr x) = if x = name then (((putL name hsh (.str name t) v es).find? (·.key.isStr name))) else es.find? (·.key.isStr x) := by
    intro es
    induction es with
    | nil =>
      by_cases hx : x = name
      · subst hx; rw [if_pos rfl]
      · rw [if_neg hx]
        unfold putL
        have : Value.isStr (.str name t) x = false := by
          simp [Value.isStr]
          exact fun q => hx q.symm
        simp [this]
    | cons e r ih =>
      by_cases hx : x = name
      · subst hx; rw [if_pos rfl]
      · rw [if_neg hx] at ih ⊢
        unfold putL
        split
        · rename_i hn
          have hne : e.key.isStr x = false := by
            cases q : e.key.isStr x with
            | false => rfl
            | true => exact absurd (key e hn q) hx
          rw [List.find?_cons, List.find?_cons, hne]
        · rw [List.find?_cons, List.find?_cons, ih]
  have self : ∀ (es : List DictEntry), ∃ e, (putL name hsh (.str name t) v es).find? (·.key.isStr name) = some e ∧ e.val = v := by
    intro es
    induction es with
    | nil => exact ⟨⟨hsh, .str name t, v⟩, by simp [putL, Value.isStr], rfl⟩
    | cons e r ih =>
      unfold putL
      split
      · rename_i hn
        exact ⟨⟨e.hash, e.key, v⟩, by rw [List.find?_cons]; simp only [hn], rfl⟩
      · rename_i hn
        rw [Bool.not_eq_true] at hn
        obtain ⟨e', h1, h2⟩ := ih
        exact ⟨e', by rw [List.find?_cons]; simp only [hn]; exact h1, h2⟩
  have ref : ∀ (es : List DictEntry), es.any (·.refKey) = false → (putL name hsh (.str name t) v es).any (·.refKey) = false := by
    intro es
    induction es with
    | nil => intro _; rfl
    | cons e r ih =>
      intro h
      rw [List.any_cons, Bool.or_eq_false_iff] at h
      unfold putL
      split
      · rw [List.any_cons, Bool.or_eq_false_iff]; exact h
      · rw [List.any_cons, Bool.or_eq_false_iff]; exact ⟨h.1, ih h.2⟩
  intro es hk
  unfold getL
  rw [fnd, ref es hk, hk]
  by_cases hx : x = name
  · subst hx
    rw [if_pos rfl, if_pos rfl]
    obtain ⟨e, h1, h2⟩ := self es
    rw [h1]; exact congrArg (fun z => some (some z)) h2
  · rw [if_neg hx, if_neg hx]
theorem putL_keys {name : Str} {hsh : Int} {t : Tok} {v : Value} : ∀ {es : List DictEntry}, es.any (·.refKey) = false → (putL name hsh (.str name t) v es).any (·.refKey) = false
  | [], _ => rfl
  | e :: r, h => by
    rw [List.any_cons, Bool.or_eq_false_iff] at h
    unfold putL
    split
    · rw [List.any_cons, Bool.or_eq_false_iff]; exact h
    · rw [List.any_cons, Bool.or_eq_false_iff]; exact ⟨h.1, putL_keys h.2⟩
theorem putL_len {name : Str} {hsh : Int} {k v : Value} : ∀ {es : List DictEntry}, (putL name hsh k v es).length = if es.any (·.key.isStr name) then es.length else es.length + 1
  | [] => rfl
  | e :: r => by
    unfold putL
    split
    · rename_i h; rw [List.any_cons, h]; rfl
    · rename_i h
      rw [Bool.not_eq_true] at h
      rw [List.any_cons, h, Bool.false_or, List.length_cons, putL_len]
      split <;> simp
theorem put_len (x : Str) (v : V) : ∀ l : Loc, (put x v l).length = if (l.lookup x).isSome then l.length else l.length + 1
  | [] => rfl
  | (y, u) :: r => by
    unfold put
    cases h : x == y with
    | true => rw [List.lookup_cons, h]; rfl
    | false =>
      show ((y, u) :: put x v r).length = _
      rw [List.lookup_cons, h, List.length_cons, put_len x v r]
      split <;> simp
theorem DctR.put {es : List DictEntry} {fs : List (Str × V)} {name : Str} {hsh : Int} {t : Tok} {u : Value} {v : V} (h : DctR ρ es fs) (hv : VR ρ u v) : DctR ρ (putL name hsh (.str name t) u es) (Mine.put name v fs) := by
  refine ⟨fun x w hx => ?_, fun x hx => ?_, putL_keys h.keys, ?_⟩
  · rw [getL_put h.keys]
    rw [lookup_put] at hx
    by_cases hxn : x = name
    · rw [if_pos hxn] at hx ⊢; cases hx; exact ⟨u, rfl, hv⟩
    · rw [if_neg hxn] at hx ⊢; exact h.get x w hx
  · rw [getL_put h.keys]
    rw [lookup_put] at hx
    by_cases hxn : x = name
    · rw [if_pos hxn] at hx; cases hx
    · rw [if_neg hxn] at hx ⊢; exact h.no x hx
  · rw [putL_len, put_len]
    have hl := h.len
    cases hs : fs.lookup name with
    | none => simp only [Option.isSome_none]; split <;> simp <;> omega
    | some w =>
      obtain ⟨u', hg, _⟩ := h.get name w hs
      have : es.any (·.key.isStr name) = true := by
        unfold getL at hg
        split at hg
        · rename_i e he
          exact List.any_eq_true.mpr ⟨e, List.mem_of_find?_eq_some he, List.find?_some (p := fun e : DictEntry => e.key.isStr name) he⟩
        · rw [h.keys] at hg; cases hg
      rw [this]; simp only [Option.isSome_some, if_true]; exact hl

theorem f_sa (P : Params) : findIn (Mine.K P) (.ref 84) "__setattr__" = some (some (.builtin "object.__setattr__")) := by kernel_rfl
theorem f_po (P : Params) : plainOver (Mine.K P) 84 = true := by kernel_rfl
theorem f_tk (P : Params) : (takerIn (Mine.K P) 84 "lineno" == some none && takerIn (Mine.K P) 84 "instream" == some none && takerIn (Mine.K P) 84 "whitespace" == some none && takerIn (Mine.K P) 84 "pushback" == some none) = true := by kernel_rfl
theorem f_taker (P : Params) {name : Str} (h : attrName name = true) : takerIn (Mine.K P) 84 name = some none := by
  have f := f_tk P
  simp only [Bool.and_eq_true, beq_iff_eq] at f
  unfold attrName at h
  simp only [Bool.or_eq_true, beq_iff_eq] at h
  rcases h with ((h | h) | h) | h <;> subst h
  · exact f.1.1.1
  · exact f.1.1.2
  · exact f.1.2
  · exact f.2

theorem osa_ok {a d : Addr} {m : Nat} {name : Str} {tk : Tok} {u : Value} {es : List DictEntry} {RR : Result → Shared → Prop} (X : (Mine.K w.params).In s.heap) (I : InstAt s.heap a (instObj 84 d) 84 (some (dictOf es m))) (hn : attrName name = true)
    (hk : es.any (·.refKey) = false) (hz : es.length ≤ 10)
    (r : ∀ h', Heap.SameBut d s.heap h' → (∃ m', h'.get? d = some (dictOf (putL name (PyData.keyHash w.params name) (.str name s.toks) u es) m')) → RR (.ok (.ret .none)) { s with heap := h', toks := s.toks + 1 }) :
    codeAny (model prog w) A (.call (.builtin "object.__setattr__") ⟨[.ref a, .str name tk, u], []⟩) RR s := by
  refine osa_open X I (f_po _) (f_taker _ hn) fun b => ?_
  have hD : s.heap.get? d = some (dictOf es m) := I.dict
  obtain ⟨hx, hcl, hnn, -⟩ := id I
  obtain ⟨cd, hc, hd'⟩ := any_some (f_hd w.params)
  have hpl : (putL name (PyData.keyHash w.params name) (.str name s.toks) u es).length ≤ 11 := by
    rw [putL_len]; split <;> omega
  refine wpAny_bind (wpAny_pure (wpAny_bind (wpAny_bind (wpAny_loadPart hx (wpAny_bind ((looks_clsIn X hc).here ?_))))))
  rw [hd']
  refine wpAny_pure (a := some d) (wpAny_bind (wpAny_pure (wpAny_bind ?_)))
  unfold nsSet
  refine wpAny_bind (wpAny_bind (wpAny_askSetting (wpAny_pure (wpAny_bind (wpAny_mkText (wpAny_bind (wpAny_loadPart hD ?_)))))))
  dsimp only
  have c : (!es.toArray.any (·.key.isStr name) && es.toArray.any (·.refKey)) = false := by
    rw [← Array.any_toList, ← Array.any_toList]
    rw [show es.toArray.toList = es from rfl, hk, Bool.and_false]
  rw [aRefKeyMayBeTheName_at, c]
  have hup : Obj.putName name (PyData.keyHash w.params name) (.str name s.toks) u (dictOf es m) = dictOf (putL name (PyData.keyHash w.params name) (.str name s.toks) u es) (putN name es m) := putName_dict ..
  have hD' : (s.heap.update d (Obj.putName name (PyData.keyHash w.params name) (.str name s.toks) u)).get? d = some (dictOf (putL name (PyData.keyHash w.params name) (.str name s.toks) u es) (putN name es m)) := by
    rw [Heap.get?_update_self _ hD (by rw [hup]; rfl), hup]
  refine wpAny_updatePart hD ?_
  refine wpAny_bind (wpAny_lookBehind hD' (pastItsLine_dict (by rw [List.size_toArray, sizeLine_eq]; omega)) ?_)
  exact wpAny_pure (r _ (Heap.SameBut.update ..) ⟨_, hD'⟩)
theorem setAttr_ok {a : Addr} {i j : Nat} {name : Str} {u : Value} {v : V} {fs : List (Str × V)} {QU : Unit → Shared → Prop} (X : (Mine.K w.params).In s.heap) (R : Rep h₀ ρ σ s.heap) (ha : VR ρ (.ref a) (.ref i)) (e : σ[i]? = some (.inst j)) (e' : σ[j]? = some (.dct fs)) (hn : attrName name = true) (hz : fs.length ≤ 10)
    (hv : VR ρ u v) (r : ∀ h' tk, Rep h₀ ρ (σ.set j (.dct (put name v fs))) h' → Ext ρ [] s { s with heap := h', toks := tk } → QU () { s with heap := h', toks := tk }) : wpAny (model prog w) A (setAttr (.ref a) name u) QU E s := by
  obtain ⟨a1, d, es, m, e1, jd, I, D⟩ := inst_of R ha e e'
  cases e1
  have hlen := D.len
  refine set_plain X I (f_sa _) (osa_ok (s := { s with toks := s.toks + 1 }) X I hn D.keys (by omega) fun h' hs ⟨m', hD'⟩ => ?_)
  exact r _ _ (R.upd jd hs ⟨_, _, hD', D.put hv⟩) ⟨⟨_, _, rfl⟩, fun b ob hb eb => (hs.2 b fun q => hb (q ▸ List.mem_of_getElem? jd)).trans eb, fun _ h => nomatch h⟩

theorem attrStore_ok {N : Nat} {x name : Str} {p p2 pos : Pos} {value : Expr} (S : Setup prog w h₀ mg mb G) (C : CallOk prog w h₀ G dp) (hf : Fits A dp) (F : Frs h₀ env s.heap ρ sc l) (R : Rep h₀ ρ σ s.heap)
    (h : wpX G N false sc l value σ fun v σ => wpX G N false sc l (.Name x p) σ fun ov σ => match ov with
      | .ref i => match σ[i]? with
        | some (.inst j) => match σ[j]?, attrName name with
          | some (.dct fs), true => fs.length ≤ 10 ∧ K .next l (σ.set j (.dct (put name v fs)))
          | _, _ => False
        | _ => False
      | _ => False) (r : ResS h₀ env sc ρ s K Q) : wpAny (model prog w) A (exec (.Assign [.Attribute (.Name x p) name p2] value pos) env) Q E s := by
  have ev := (all_ok (A := A) S C hf N).1
  refine plainObj_wpAny_Assign_Attribute (ev env sc l value σ _ ρ s E _ F.frm R h fun u v σ1 t1 s1 hk1 vr1 R1 x1 => ?_) (by cases value <;> rfl)
  have F1 := F.step x1
  refine ev env sc l _ σ1 _ _ s1 E _ F1.frm R1 hk1 fun uo vo σ2 t2 s2 hk2 vr2 R2 x2 => ?_
  have F2 := F1.step x2
  split at hk2
  · rename_i i
    split at hk2
    · rename_i j e1
      split at hk2
      · rename_i fs e2 hn
        obtain ⟨a, ha, rfl⟩ := vr2
        refine setAttr_ok (S.inK.keeps R2.keep) R2 ⟨a, ha, rfl⟩ e1 e2 hn hk2.1 vr1.mono fun h' tk R3 x3 => ?_
        have F3 := F2.step x3
        exact (((r.step x1.toS R1 F1).step x2.toS R2 F2).step x3.toS (by rw [List.append_nil]; exact R3) F3).next hk2.2 (by rw [List.append_nil]; exact R3) F3
      · exact hk2.elim
    · exact hk2.elim
  · exact hk2.elim
end
end Mine
end

section
open PySem PySem.W PyProof.Rows PySem.Calls
set_option linter.unusedVariables false
set_option maxRecDepth 100000
namespace Mine

section
variable {prog : Program} {w : World} {A : Around} {E : Value → Shared → Prop} {s : Shared} {h₀ : Heap} {mg mb : Str → Option Value} {G : Ora} {ρ : List Addr} {σ : List O} {K : KS} {Q : Flow → Shared → Prop} {dp : Nat}
  {env : Env} {sc : Scope} {l : Loc} {n : Nat}

theorem aug_store {i : Expr} (h : isSlice i = false) : ∀ ov iv new, augStore i ov iv new = (do holding [new, ov, iv] (setItem ov iv new); release [new, ov, iv] []; pure .next) := by
  intro ov iv new
  cases i <;> first | rfl | cases h

theorem wpS_attr {rest : List Stmt} {x name : Str} {p q pos : Pos} {value : Expr} : wpS G (n + 1) sc l (.Assign [.Attribute (.Name x p) name q] value pos :: rest) σ K =
    (wpX G 30 false sc l value σ fun v σ => wpX G 30 false sc l (.Name x p) σ fun ov σ => match ov with
      | .ref i => match σ[i]? with
        | some (.inst j) => match σ[j]?, attrName name with
          | some (.dct fs), true => fs.length ≤ 10 ∧ thenS (fun l σ K => wpS G n sc l rest σ K) K .next l (σ.set j (.dct (put name v fs)))
          | _, _ => False
        | _ => False
      | _ => False) := by kernel_rfl
theorem wpS_return {rest : List Stmt} {e : Expr} {pos : Pos} : wpS G (n + 1) sc l (.Return (some e) pos :: rest) σ K = (wpX G 30 false sc l e σ fun v σ => thenS (fun l σ K => wpS G n sc l rest σ K) K (.ret v) l σ) := by kernel_rfl
theorem wpS_if {rest b o : List Stmt} {t : Expr} {pos : Pos} : wpS G (n + 1) sc l (.If t b o pos :: rest) σ K =
    wpX G 30 true sc l t σ (asB fun c σ => (c = true → wpS G n sc l b σ (thenS (fun l σ K => wpS G n sc l rest σ K) K)) ∧ (c = false → wpS G n sc l o σ (thenS (fun l σ K => wpS G n sc l rest σ K) K))) := by kernel_rfl
theorem wpS_while {rest body : List Stmt} {t : Expr} {pos : Pos} : wpS G (n + 1) sc l (.While t body [] pos :: rest) σ K =
    whileGo (fun l σ K => wpX G 30 true sc l t σ (asB K)) (fun l σ K => wpS G n sc l body σ K) 8 l σ (thenS (fun l σ K => wpS G n sc l rest σ K) K) := by kernel_rfl

noncomputable def AsgShape (ts : List Expr) : Prop := (∃ x p, ts = [.Name x p]) ∨ (∃ x p y q k tp, ts = [.Tuple [.Name x p, .Name y q] k tp]) ∨ (∃ x p name q, ts = [.Attribute (.Name x p) name q])
noncomputable def AsgH (G : Ora) (n : Nat) (sc : Scope) (l : Loc) (σ : List O) (K : KS) (value : Expr) (pos : Pos) (rest : List Stmt) (ts : List Expr) : Prop := wpS G (n + 1) sc l (.Assign ts value pos :: rest) σ K
theorem assign_shape {value : Expr} {pos : Pos} {rest : List Stmt} : ∀ {ts : List Expr}, AsgH G n sc l σ K value pos rest ts → AsgShape ts := by
  intro ts h
  cases ts with
  | nil => exact h.elim
  | cons t ts =>
    cases ts with
    | cons _ _ => cases t <;> first | exact h.elim | (rename_i o _ _; cases o <;> exact h.elim) | (rename_i es _ _; rcases es with _ | ⟨e1, _ | ⟨e2, _ | _⟩⟩ <;> first | exact h.elim | (cases e1 <;> first | exact h.elim | (cases e2 <;> exact h.elim)))
    | nil =>
      cases t with
      | Name x p => exact .inl ⟨x, p, rfl⟩
      | Tuple elts k tp =>
        rcases elts with _ | ⟨e1, _ | ⟨e2, _ | _⟩⟩
        · exact h.elim
        · cases e1 <;> exact h.elim
        · cases e1 with
          | Name x p => cases e2 with
            | Name y q => exact .inr (.inl ⟨x, p, y, q, k, tp, rfl⟩)
            | _ => exact h.elim
          | _ => exact h.elim
        · cases e1 <;> first | exact h.elim | (cases e2 <;> exact h.elim)
      | Attribute o name q =>
        cases o with
        | Name x p => exact .inr (.inr ⟨x, p, name, q, rfl⟩)
        | _ => exact h.elim
      | _ => exact h.elim
theorem aug_shape {t value : Expr} {op : Operator} {pos : Pos} {rest : List Stmt} (h : wpS G (n + 1) sc l (.AugAssign t op value pos :: rest) σ K) : (∃ x p, t = .Name x p) ∨ ∃ o i p, t = .Subscript o i p := by
  cases t with
  | Name x p => exact .inl ⟨x, p, rfl⟩
  | Subscript o i p => exact .inr ⟨o, i, p, rfl⟩
  | _ => exact h.elim
theorem for_shape {t iter : Expr} {body orelse : List Stmt} {pos : Pos} {rest : List Stmt} (h : wpS G (n + 1) sc l (.For t iter body orelse pos :: rest) σ K) : ∃ x p, t = .Name x p ∧ orelse = [] := by
  cases t with
  | Name x p => cases orelse with
    | nil => exact ⟨x, p, rfl, rfl⟩
    | cons _ _ => exact h.elim
  | _ => exact h.elim

theorem st_succ (S : Setup prog w h₀ mg mb G) (C : CallOk prog w h₀ G dp) (hf : Fits A dp) (ih : StOk prog w A h₀ G n) : StOk prog w A h₀ G (n + 1) := by
  intro env sc l sts σ K ρ s E Q F R h r
  cases sts with
  | nil => exact wpAny_execs_nil (r.next h R F)
  | cons st rest =>
    refine wpAny_execs_cons ?_
    have rC : ResS h₀ env sc ρ s (thenS (fun l σ K => wpS G n sc l rest σ K) K) (fun f s' => match f with | .next => wpAny (model prog w) A (execs rest env) Q E s' | f => Q f s') := fun flow fl l1 σ1 t1 s1 hk fr F1 R1 X1 => by
      match flow, fl, fr with
      | .next, .next, _ => exact ih env sc l1 rest σ1 K _ s1 E Q F1 R1 hk (r.step X1 R1 F1)
      | .ret u, .ret v, fr => exact r (.ret u) (.ret v) l1 σ1 t1 s1 hk fr F1 R1 X1
    revert rC h
    generalize hC : thenS (fun l σ K => wpS G n sc l rest σ K) K = KC
    generalize (fun f s' => match f with | Flow.next => wpAny (model prog w) A (execs rest env) Q E s' | f => Q f s') = QC
    intro h rC
    cases st with
    | Assign targets value pos =>
      rcases assign_shape (ts := targets) h with ⟨x, p, rfl⟩ | ⟨x, p, y, q, k, tp, rfl⟩ | ⟨x, p, name, q, rfl⟩
      · (conv at h => whnf); try rw [hC] at h
        split at h
        · rename_i hs
          exact assign_ok S C hf hs F R h rC
        · exact h.elim
      · (conv at h => whnf); rw [hC] at h
        split at h
        · rename_i hb
          simp only [Bool.and_eq_true, bne_iff_ne] at hb
          exact tuple_ok S C hf hb.1.1.1 hb.1.1.2 hb.1.2 hb.2 F R h rC
        · exact h.elim
      · rw [wpS_attr, hC] at h
        exact attrStore_ok S C hf F R h rC
    | AugAssign t op value pos =>
      rcases aug_shape h with ⟨x, p, rfl⟩ | ⟨o, i, p, rfl⟩
      · (conv at h => whnf); try rw [hC] at h
        split at h
        · rename_i hs ho
          exact aug_ok S C hf hs ho F R h rC
        · exact h.elim
      · (conv at h => whnf); try rw [hC] at h
        exact augSub_ok S C hf (aug_store h.1) F R h.2 rC
    | Expr e pos =>
      (conv at h => whnf); try rw [hC] at h
      split at h
      · rename_i he
        cases e with
        | Call f args kws cp =>
          refine wpAny_Expr_any ((all_ok (A := A) S C hf 30).1 env sc l _ σ _ ρ s E _ F.frm R h fun u v σ1 t s1 hk vr R1 x1 => ?_) ?_ rfl
          · have F1 := F.step x1
            exact (rC.step x1.toS R1 F1).next hk R1 F1
          · unfold interactive
            rw [F.frm.scope, F.frm.kind]
            rfl
        | _ => cases he
      · exact h.elim
    | Return e pos =>
      cases e with
      | none => exact h.elim
      | some e =>
        rw [wpS_return, hC] at h
        refine wpAny_Return_some ((all_ok (A := A) S C hf 30).1 env sc l e σ _ ρ s E _ F.frm R h fun u v σ1 t s1 hk vr R1 x1 => ?_)
        exact rC (.ret u) (.ret v) l σ1 t s1 hk vr (F.step x1) R1 x1.toS
    | If t b o pos =>
      rw [wpS_if, hC] at h
      refine wpAny_If ((all_ok (A := A) S C hf 30).2 env sc l t σ _ ρ s E _ F.frm R h fun c σ1 t s1 hk R1 x1 => ?_)
      have F1 := F.step x1
      cases c with
      | true => exact ih env sc l b σ1 _ _ s1 E _ F1 R1 (hk.1 rfl) (rC.step x1.toS R1 F1)
      | false => exact ih env sc l o σ1 _ _ s1 E _ F1 R1 (hk.2 rfl) (rC.step x1.toS R1 F1)
    | For t iter body orelse pos =>
      obtain ⟨x, p, rfl, rfl⟩ := for_shape h
      (conv at h => whnf); try rw [hC] at h
      split at h
      · rename_i hs
        refine wpAny_For ((all_ok (A := A) S C hf 30).1 env sc l iter σ _ ρ s E _ F.frm R h fun u v σ1 t s1 hk vr R1 x1 => ?_) (not_set h env)
        split at hk
        · rename_i src xs hit
          have F1 := F.step x1
          refine iter_ok (A := A) R1 vr hit fun ob St T st0 => ?_
          exact for_loop hf ih (T A hf.handled) hs (none_of_size _) R1 F1 ob st0 rfl hk (rC.step x1.toS R1 F1)
        · exact hk.elim
      · exact h.elim
    | While t body orelse pos =>
      cases orelse with
      | cons _ _ => exact h.elim
      | nil =>
        rw [wpS_while, hC] at h
        exact while_ok (all_ok (A := A) S C hf 30).2 ih F R h rC
    | _ => exact h.elim
end
end Mine
end

section
open PySem PySem.W PyProof.Rows PySem.Calls
set_option linter.unusedVariables false
set_option maxRecDepth 100000
namespace Mine

/-- a def of the text, as the written part holds it -/
structure Fn (P : Params) (a : Addr) (fd : FuncData) (sc : Scope) (body : List Stmt) (ps : List Str) : Prop where
  at_ : ∃ o, (Mine.K P).lookup a = some o ∧ o.data = .func fd
  code : codeIn (Mine.K P) fd.code fd.qualname = true
  body : fd.body = .stmts body
  scope : fd.scope = sc
  clo : fd.closure = []
  glob : fd.globals = mainGlobals
  bltn : fd.builtins = builtinsNs
  co : sc.isCoroutine = false
  gen : sc.isGenerator = false
  kind : sc.kind = .function
  bind : ∀ vals : List Value, vals.length = ps.length → bindArgs fd ⟨vals, []⟩ = pure (ps.zip vals)
  nodup : ps.Nodup
  pk : ∀ x ∈ ps, sc.names.lookup x = some .local ∨ sc.names.lookup x = some .cell
  cellK : ∀ x, (x, NameKind.cell) ∈ sc.names → sc.names.lookup x = some .cell

theorem mem_cellsFrom {x : Str} {c : Addr} : ∀ (names : List (Str × NameKind)) (n : Nat) (acc : List (Str × Addr)), (x, c) ∈ cellsFrom n names acc → (x, c) ∈ acc ∨ ((x, NameKind.cell) ∈ names ∧ n ≤ c)
  | [], _, _, h => .inl h
  | (m, k) :: r, n, acc, h => by
    unfold cellsFrom at h
    split at h
    · rename_i hk
      rcases mem_cellsFrom r _ _ h with h | ⟨h, hc⟩
      · rcases List.mem_cons.mp h with e | h
        · cases e
          exact .inr ⟨by rw [show k = NameKind.cell by simpa using hk]; exact List.mem_cons_self, Nat.le_refl _⟩
        · exact .inl h
      · exact .inr ⟨List.mem_cons_of_mem _ h, Nat.le_of_succ_le hc⟩
    · rcases mem_cellsFrom r _ _ h with h | ⟨h, hc⟩
      · exact .inl h
      · exact .inr ⟨List.mem_cons_of_mem _ h, hc⟩

section
variable {kindOf : Str → Option NameKind} {ρ : List Addr}
theorem bindL_skip {x : Str} : ∀ (ps : List Str) (us : List Value) (m : Str → Option Value), x ∉ ps → bindL kindOf (ps.zip us) m x = m x
  | [], _, _, _ => rfl
  | _ :: _, [], _, _ => rfl
  | p :: ps, u :: us, m, h => by
    show bindL kindOf (ps.zip us) _ x = m x
    rw [bindL_skip ps us _ fun hm => h (List.mem_cons_of_mem _ hm)]
    have hne : ¬ x = p := fun q => h (q ▸ List.mem_cons_self)
    split <;> simp [hne]
theorem bindL_get {x : Str} {v : V} (hk : kindOf x = some .local) : ∀ (ps : List Str) (us : List Value) (vs : List V) (m : Str → Option Value), ps.Nodup → VRs ρ us vs → (ps.zip vs).lookup x = some v → ∃ u, bindL kindOf (ps.zip us) m x = some u ∧ VR ρ u v
  | [], _, _, _, _, _, h => by cases h
  | p :: ps, u :: us, w :: vs, m, hn, hv, h => by
    obtain ⟨h1, h2⟩ := List.nodup_cons.mp hn
    by_cases hx : x = p
    · subst hx
      have : w = v := by simpa using h
      subst this
      refine ⟨u, ?_, hv.1⟩
      show bindL kindOf (ps.zip us) _ x = some u
      rw [bindL_skip ps us _ h1, if_pos hk]
      simp
    · have hb : (x == p) = false := by simpa using hx
      have h' : (ps.zip vs).lookup x = some v := by
        rw [show (p :: ps).zip (w :: vs) = (p, w) :: ps.zip vs from rfl, List.lookup_cons, hb] at h
        exact h
      exact bindL_get hk ps us vs _ h2 hv.2 h'
  | _ :: _, [], [], _, _, _, h => by cases h
  | _ :: _, [], _ :: _, _, _, hv, _ => hv.elim
  | _ :: _, _ :: _, [], _, _, hv, _ => hv.elim
theorem bindC_skip {x : Str} : ∀ (ps : List Str) (us : List Value) (m : Str → Option Value), x ∉ ps → bindC kindOf (ps.zip us) m x = m x
  | [], _, _, _ => rfl
  | _ :: _, [], _, _ => rfl
  | p :: ps, u :: us, m, h => by
    show bindC kindOf (ps.zip us) _ x = m x
    rw [bindC_skip ps us _ fun hm => h (List.mem_cons_of_mem _ hm)]
    have hne : ¬ x = p := fun q => h (q ▸ List.mem_cons_self)
    split <;> simp [hne]
theorem bindC_get {x : Str} {v : V} (hk : kindOf x = some .cell) : ∀ (ps : List Str) (us : List Value) (vs : List V) (m : Str → Option Value), ps.Nodup → VRs ρ us vs → (ps.zip vs).lookup x = some v → ∃ u, bindC kindOf (ps.zip us) m x = some u ∧ VR ρ u v
  | [], _, _, _, _, _, h => by cases h
  | p :: ps, u :: us, w :: vs, m, hn, hv, h => by
    obtain ⟨h1, h2⟩ := List.nodup_cons.mp hn
    by_cases hx : x = p
    · subst hx
      have : w = v := by simpa using h
      subst this
      refine ⟨u, ?_, hv.1⟩
      show bindC kindOf (ps.zip us) _ x = some u
      rw [bindC_skip ps us _ h1, if_neg (by rw [hk]; decide)]
      simp
    · have hb : (x == p) = false := by simpa using hx
      have h' : (ps.zip vs).lookup x = some v := by
        rw [show (p :: ps).zip (w :: vs) = (p, w) :: ps.zip vs from rfl, List.lookup_cons, hb] at h
        exact h
      exact bindC_get hk ps us vs _ h2 hv.2 h'
  | _ :: _, [], [], _, _, _, h => by cases h
  | _ :: _, [], _ :: _, _, _, hv, _ => hv.elim
  | _ :: _, _ :: _, [], _, _, hv, _ => hv.elim
theorem zip_mem {x : Str} {v : V} : ∀ (ps : List Str) (vs : List V), (ps.zip vs).lookup x = some v → x ∈ ps
  | [], _, h => by cases h
  | _ :: _, [], h => by cases h
  | p :: ps, w :: vs, h => by
    by_cases hx : x = p
    · subst hx; exact List.mem_cons_self
    · have hb : (x == p) = false := by simpa using hx
      rw [show (p :: ps).zip (w :: vs) = (p, w) :: ps.zip vs from rfl, List.lookup_cons, hb] at h
      exact List.mem_cons_of_mem _ (zip_mem ps vs h)
end

/-- what a def hands on -/
noncomputable def retK (KK : KV) : KS := fun fl _ σ => match fl with
  | .ret v => KK v σ
  | .next => KK .none σ

section
variable {prog : Program} {w : World} {A : Around} {E : Value → Shared → Prop} {s : Shared} {h₀ : Heap} {mg mb : Str → Option Value} {G : Ora} {ρ : List Addr} {σ : List O} {KK : KV} {Q : Value → Shared → Prop} {dp : Nat} {n : Nat}

theorem sts_ok (S : Setup prog w h₀ mg mb G) (C : CallOk prog w h₀ G dp) (hf : Fits A dp) : ∀ n, StOk prog w A h₀ G n
  | 0 => fun _ _ _ _ _ _ _ _ _ _ _ _ h _ => h.elim
  | n + 1 => st_succ S C hf (sts_ok S C hf n)

theorem fn_code {RR : Result → Shared → Prop} {a : Addr} {fd : FuncData} {sc : Scope} {body : List Stmt} {ps : List Str} {us : List Value} {vs : List V} (f : Fn w.params a fd sc body ps) (S : Setup prog w h₀ mg mb G) (C : CallOk prog w h₀ G dp) (hf : Fits A (dp + 1))
    (R : Rep h₀ ρ σ s.heap) (hv : VRs ρ us vs) (hlen : vs.length = ps.length) (h : wpS G n sc (ps.zip vs) body σ (retK KK)) (r : ∀ u v σ' t s', KK v σ' → VR (ρ ++ t) u v → Rep h₀ (ρ ++ t) σ' s'.heap → Ext ρ t s s' → RR (.ok (.ret u)) s') : codeAny (model prog w) A (.call (.ref a) ⟨us, []⟩) RR s := by
  obtain ⟨o, ho, hdata⟩ := f.at_
  obtain rfl := f.scope
  have XK := S.inK.keeps R.keep
  have ul : us.length = ps.length := hv.length.trans hlen
  have hkinds : ∀ x ∈ ps.zip us, fd.scope.names.lookup x.1 = some .local ∨ (fd.scope.names.lookup x.1 = some .cell ∧ ((cellsFrom (s.heap.objs.size + 1) fd.scope.names []).lookup x.1).isSome = true) := fun x hx => by
    rcases f.pk x.1 (List.of_mem_zip hx).1 with hl | hc
    · exact .inl hl
    · refine .inr ⟨hc, ?_⟩
      obtain ⟨c, e, _⟩ := cellsFrom_new (y := x.1) fd.scope.names (s.heap.push { cls := .type "frame", data := .dict #[] }) [] (mem_of_lookup hc)
      rw [Heap.size_push] at e
      rw [e]; rfl
  refine codeAny_call_cells (a := a) (o := o) (fd := fd) (body := body) (binds := ps.zip us) (by have := hf.depth; omega) (XK _ _ ho) hdata (S.lim.keeps R.keep) (codeRec_of XK f.code) f.body (f.bind us ul) f.clo hkinds (fun s1 x => ?_) f.co f.gen f.kind
  have kp : ∀ b ob, s.heap.get? b = some ob → s1.heap.get? b = some ob := x.toInCall.keep
  have R1 : Rep h₀ ρ σ s1.heap := R.grow kp
  have hLn : s.heap.get? s.heap.objs.size = none := none_of_size _
  have hcs : ∀ y c, (callEnvC fd s.heap.objs.size a).cells.lookup y = some c → s.heap.get? c = none ∧ s.heap.objs.size < c := fun y c hc => by
    have := x.above y c (mem_of_lookup hc)
    exact ⟨none_ge _ (Nat.le_of_lt this), this⟩
  have cellEx : ∀ y, fd.scope.names.lookup y = some .cell → ∃ c, (callEnvC fd s.heap.objs.size a).cells.lookup y = some c := fun y hy => by
    obtain ⟨c, e, _⟩ := cellsFrom_new (y := y) fd.scope.names (s.heap.push { cls := .type "frame", data := .dict #[] }) [] (mem_of_lookup hy)
    rw [Heap.size_push] at e
    exact ⟨c, e⟩
  have off : ∀ y c, (callEnvC fd s.heap.objs.size a).cells.lookup y = some c → c ∉ ρ := fun y c hc hm => by
    obtain ⟨ob, e⟩ := R.alive hm
    rw [(hcs y c hc).1] at e; cases e
  have F1 : Frs h₀ (callEnvC fd s.heap.objs.size a) s1.heap ρ fd.scope (ps.zip vs) := by
    refine ⟨⟨rfl, f.kind, f.glob, f.bltn, ⟨_, x.toInCall.ns, fun y v hy hk => bindL_get (by exact hk) ps us vs _ f.nodup hv hy⟩, R.notin_size, fun y v hy hk => ?_⟩, R.none hLn, fun y hy => ?_, fun y z c hy hz => name_of_addr x.apart (mem_of_lookup hy) (mem_of_lookup hz), fun y c hc => ?_⟩
    · obtain ⟨c, hc⟩ := cellEx y hk
      obtain ⟨u, hu, vu⟩ := bindC_get (kindOf := (callEnvC fd s.heap.objs.size a).kindOf) (by exact hk) ps us vs (fun _ => none) f.nodup hv hy
      exact ⟨c, u, hc, hu ▸ x.cell y c hc, off y c hc, vu⟩
    · obtain ⟨c, hc⟩ := cellEx y hy
      exact ⟨c, _, hc, x.cell y c hc, off y c hc, Nat.ne_of_gt (hcs y c hc).2, R.none (hcs y c hc).1⟩
    · rcases mem_cellsFrom _ _ _ (mem_of_lookup hc) with hm | ⟨hm, _⟩
      · cases hm
      · exact f.cellK y hm
  have hf' : Fits (A.deeper (callEnvC fd s.heap.objs.size a)) dp := ⟨hf.handled, by show A.depth + 1 + dp < recursionLimit; have := hf.depth; omega, by show A.units + 3 + 4 * dp + 200 < cLine; have := hf.units; omega⟩
  refine sts_ok S C hf' n (callEnvC fd s.heap.objs.size a) fd.scope (ps.zip vs) body σ (retK KK) ρ s1 _ _ F1 R1 h fun flow fl l' σ' t s' hk fr F' R' X' => ?_
  have X : Ext ρ t s s' := by
    obtain ⟨h1, k1, e1⟩ := x.toInCall.same
    obtain ⟨h2, k2, rfl⟩ := X'.same
    subst e1
    refine ⟨⟨h2, k2, rfl⟩, fun b ob hb e => X'.keep b ob hb (fun q => ?_) (fun y hy => ?_) (kp b ob e), fun b hb => ?_⟩
    · rw [q] at e
      rw [show s.heap.get? (callEnvC fd s.heap.objs.size a).locals = none from hLn] at e; cases e
    · rw [(hcs y b hy).1] at e; cases e
    · cases e : s.heap.get? b with
      | none => rfl
      | some ob => have := X'.fresh b hb; rw [kp b ob e] at this; cases this
  match flow, fl, fr with
  | .next, .next, _ => exact r .none .none σ' t s' hk rfl R' X
  | .ret u, .ret v, fr => exact r u v σ' t s' hk fr R' X

theorem fn_run {a : Addr} {fd : FuncData} {sc : Scope} {body : List Stmt} {ps : List Str} {us : List Value} {vs : List V} (f : Fn w.params a fd sc body ps) (S : Setup prog w h₀ mg mb G) (C : CallOk prog w h₀ G dp) (hf : Fits A (dp + 1))
    (R : Rep h₀ ρ σ s.heap) (hv : VRs ρ us vs) (hlen : vs.length = ps.length) (h : wpS G n sc (ps.zip vs) body σ (retK KK)) (r : ResE h₀ ρ s KK Q) : wpAny (model prog w) A (call (.ref a) us) Q E s :=
  wpAny_call (fn_code f S C hf R hv hlen h fun u v σ' t s' hk vr R' x => r u v σ' t s' hk vr R' x)
end
end Mine
end

section
open PySem PySem.W PyProof.Rows PySem.Calls
set_option linter.unusedVariables false
set_option maxRecDepth 100000
namespace Mine
noncomputable def bodyOf (fd : FuncData) : List Stmt := match fd.body with
  | .stmts b => b
  | _ => []
noncomputable def fd32 : FuncData := (fnTop 2 (.str (PySem.Str.ofString "cpy313.stringprep") 187) (.ref 31))
noncomputable def sc32 : Scope := fd32.scope
noncomputable def body32 : List Stmt := bodyOf fd32
noncomputable def ps32 : List Str := [("code" : Str)]
theorem fn32 (P : Params) : Fn P 32 fd32 sc32 body32 ps32 where
  at_ := ⟨⟨(.type "function"), none, .func fd32, #[]⟩, by kernel_rfl, rfl⟩
  code := by kernel_rfl
  body := by kernel_rfl
  scope := rfl
  clo := by kernel_rfl
  glob := by kernel_rfl
  bltn := by kernel_rfl
  co := by kernel_rfl
  gen := by kernel_rfl
  kind := by kernel_rfl
  bind := fun vals h => by
    match vals, h with
    | [a0], _ => kernel_rfl
  nodup := by decide +kernel
  pk := by
    have h : (ps32.all fun x => sc32.names.lookup x == some .local || sc32.names.lookup x == some .cell) = true := by kernel_rfl
    intro x hx
    have := List.all_eq_true.mp h x hx
    simpa using this
  cellK := by
    have h : (sc32.names.all fun (n, k) => k != .cell || sc32.names.lookup n == some .cell) = true := by kernel_rfl
    intro x hx
    have := List.all_eq_true.mp h _ hx
    simpa using this
noncomputable def fd60 : FuncData := (fnCls 8 0 "_netrclex.__init__" (.str (PySem.Str.ofString "cpy313.netrc") 278) (.ref 59))
noncomputable def sc60 : Scope := fd60.scope
noncomputable def body60 : List Stmt := bodyOf fd60
noncomputable def ps60 : List Str := [("self" : Str), ("fp" : Str)]
theorem fn60 (P : Params) : Fn P 60 fd60 sc60 body60 ps60 where
  at_ := ⟨⟨(.type "function"), none, .func fd60, #[]⟩, by kernel_rfl, rfl⟩
  code := by kernel_rfl
  body := by kernel_rfl
  scope := rfl
  clo := by kernel_rfl
  glob := by kernel_rfl
  bltn := by kernel_rfl
  co := by kernel_rfl
  gen := by kernel_rfl
  kind := by kernel_rfl
  bind := fun vals h => by
    match vals, h with
    | [a0, a1], _ => kernel_rfl
  nodup := by decide +kernel
  pk := by
    have h : (ps60.all fun x => sc60.names.lookup x == some .local || sc60.names.lookup x == some .cell) = true := by kernel_rfl
    intro x hx
    have := List.all_eq_true.mp h x hx
    simpa using this
  cellK := by
    have h : (sc60.names.all fun (n, k) => k != .cell || sc60.names.lookup n == some .cell) = true := by kernel_rfl
    intro x hx
    have := List.all_eq_true.mp h _ hx
    simpa using this
noncomputable def fd39 : FuncData := (fnTop 4 (.str (PySem.Str.ofString "cpy313.imaplib") 256) (.ref 38))
noncomputable def sc39 : Scope := fd39.scope
noncomputable def body39 : List Stmt := bodyOf fd39
noncomputable def ps39 : List Str := [("num" : Str)]
theorem fn39 (P : Params) : Fn P 39 fd39 sc39 body39 ps39 where
  at_ := ⟨⟨(.type "function"), none, .func fd39, #[]⟩, by kernel_rfl, rfl⟩
  code := by kernel_rfl
  body := by kernel_rfl
  scope := rfl
  clo := by kernel_rfl
  glob := by kernel_rfl
  bltn := by kernel_rfl
  co := by kernel_rfl
  gen := by kernel_rfl
  kind := by kernel_rfl
  bind := fun vals h => by
    match vals, h with
    | [a0], _ => kernel_rfl
  nodup := by decide +kernel
  pk := by
    have h : (ps39.all fun x => sc39.names.lookup x == some .local || sc39.names.lookup x == some .cell) = true := by kernel_rfl
    intro x hx
    have := List.all_eq_true.mp h x hx
    simpa using this
  cellK := by
    have h : (sc39.names.all fun (n, k) => k != .cell || sc39.names.lookup n == some .cell) = true := by kernel_rfl
    intro x hx
    have := List.all_eq_true.mp h _ hx
    simpa using this
noncomputable def fd46 : FuncData := (fnTop 6 (.str (PySem.Str.ofString "cpy313.locale") 268) (.ref 45))
noncomputable def sc46 : Scope := fd46.scope
noncomputable def body46 : List Stmt := bodyOf fd46
noncomputable def ps46 : List Str := [("a" : Str), ("b" : Str)]
theorem fn46 (P : Params) : Fn P 46 fd46 sc46 body46 ps46 where
  at_ := ⟨⟨(.type "function"), none, .func fd46, #[]⟩, by kernel_rfl, rfl⟩
  code := by kernel_rfl
  body := by kernel_rfl
  scope := rfl
  clo := by kernel_rfl
  glob := by kernel_rfl
  bltn := by kernel_rfl
  co := by kernel_rfl
  gen := by kernel_rfl
  kind := by kernel_rfl
  bind := fun vals h => by
    match vals, h with
    | [a0, a1], _ => kernel_rfl
  nodup := by decide +kernel
  pk := by
    have h : (ps46.all fun x => sc46.names.lookup x == some .local || sc46.names.lookup x == some .cell) = true := by kernel_rfl
    intro x hx
    have := List.all_eq_true.mp h x hx
    simpa using this
  cellK := by
    have h : (sc46.names.all fun (n, k) => k != .cell || sc46.names.lookup n == some .cell) = true := by kernel_rfl
    intro x hx
    have := List.all_eq_true.mp h _ hx
    simpa using this
noncomputable def fd74 : FuncData := (fnCls 8 2 "_netrclex.get_token" (.str (PySem.Str.ofString "cpy313.netrc") 278) (.ref 73))
noncomputable def sc74 : Scope := fd74.scope
noncomputable def body74 : List Stmt := bodyOf fd74
noncomputable def ps74 : List Str := [("self" : Str)]
theorem fn74 (P : Params) : Fn P 74 fd74 sc74 body74 ps74 where
  at_ := ⟨⟨(.type "function"), none, .func fd74, #[]⟩, by kernel_rfl, rfl⟩
  code := by kernel_rfl
  body := by kernel_rfl
  scope := rfl
  clo := by kernel_rfl
  glob := by kernel_rfl
  bltn := by kernel_rfl
  co := by kernel_rfl
  gen := by kernel_rfl
  kind := by kernel_rfl
  bind := fun vals h => by
    match vals, h with
    | [a0], _ => kernel_rfl
  nodup := by decide +kernel
  pk := by
    have h : (ps74.all fun x => sc74.names.lookup x == some .local || sc74.names.lookup x == some .cell) = true := by kernel_rfl
    intro x hx
    have := List.all_eq_true.mp h x hx
    simpa using this
  cellK := by
    have h : (sc74.names.all fun (n, k) => k != .cell || sc74.names.lookup n == some .cell) = true := by kernel_rfl
    intro x hx
    have := List.all_eq_true.mp h _ hx
    simpa using this
noncomputable def fd81 : FuncData := (fnCls 8 3 "_netrclex.push_token" (.str (PySem.Str.ofString "cpy313.netrc") 278) (.ref 80))
noncomputable def sc81 : Scope := fd81.scope
noncomputable def body81 : List Stmt := bodyOf fd81
noncomputable def ps81 : List Str := [("self" : Str), ("token" : Str)]
theorem fn81 (P : Params) : Fn P 81 fd81 sc81 body81 ps81 where
  at_ := ⟨⟨(.type "function"), none, .func fd81, #[]⟩, by kernel_rfl, rfl⟩
  code := by kernel_rfl
  body := by kernel_rfl
  scope := rfl
  clo := by kernel_rfl
  glob := by kernel_rfl
  bltn := by kernel_rfl
  co := by kernel_rfl
  gen := by kernel_rfl
  kind := by kernel_rfl
  bind := fun vals h => by
    match vals, h with
    | [a0, a1], _ => kernel_rfl
  nodup := by decide +kernel
  pk := by
    have h : (ps81.all fun x => sc81.names.lookup x == some .local || sc81.names.lookup x == some .cell) = true := by kernel_rfl
    intro x hx
    have := List.all_eq_true.mp h x hx
    simpa using this
  cellK := by
    have h : (sc81.names.all fun (n, k) => k != .cell || sc81.names.lookup n == some .cell) = true := by kernel_rfl
    intro x hx
    have := List.all_eq_true.mp h _ hx
    simpa using this
noncomputable def fd95 : FuncData := (fnTop 10 (.str (PySem.Str.ofString "law_wo0009_01") 338) (.ref 94))
noncomputable def sc95 : Scope := fd95.scope
noncomputable def body95 : List Stmt := bodyOf fd95
noncomputable def ps95 : List Str := [("script" : Str)]
theorem fn95 (P : Params) : Fn P 95 fd95 sc95 body95 ps95 where
  at_ := ⟨⟨(.type "function"), none, .func fd95, #[]⟩, by kernel_rfl, rfl⟩
  code := by kernel_rfl
  body := by kernel_rfl
  scope := rfl
  clo := by kernel_rfl
  glob := by kernel_rfl
  bltn := by kernel_rfl
  co := by kernel_rfl
  gen := by kernel_rfl
  kind := by kernel_rfl
  bind := fun vals h => by
    match vals, h with
    | [a0], _ => kernel_rfl
  nodup := by decide +kernel
  pk := by
    have h : (ps95.all fun x => sc95.names.lookup x == some .local || sc95.names.lookup x == some .cell) = true := by kernel_rfl
    intro x hx
    have := List.all_eq_true.mp h x hx
    simpa using this
  cellK := by
    have h : (sc95.names.all fun (n, k) => k != .cell || sc95.names.lookup n == some .cell) = true := by kernel_rfl
    intro x hx
    have := List.all_eq_true.mp h _ hx
    simpa using this
noncomputable def fd102 : FuncData := (fnTop 11 (.str (PySem.Str.ofString "law_wo0009_01") 338) (.ref 101))
noncomputable def sc102 : Scope := fd102.scope
noncomputable def body102 : List Stmt := bodyOf fd102
noncomputable def ps102 : List Str := [("seen" : Str), ("number" : Str)]
theorem fn102 (P : Params) : Fn P 102 fd102 sc102 body102 ps102 where
  at_ := ⟨⟨(.type "function"), none, .func fd102, #[]⟩, by kernel_rfl, rfl⟩
  code := by kernel_rfl
  body := by kernel_rfl
  scope := rfl
  clo := by kernel_rfl
  glob := by kernel_rfl
  bltn := by kernel_rfl
  co := by kernel_rfl
  gen := by kernel_rfl
  kind := by kernel_rfl
  bind := fun vals h => by
    match vals, h with
    | [a0, a1], _ => kernel_rfl
  nodup := by decide +kernel
  pk := by
    have h : (ps102.all fun x => sc102.names.lookup x == some .local || sc102.names.lookup x == some .cell) = true := by kernel_rfl
    intro x hx
    have := List.all_eq_true.mp h x hx
    simpa using this
  cellK := by
    have h : (sc102.names.all fun (n, k) => k != .cell || sc102.names.lookup n == some .cell) = true := by kernel_rfl
    intro x hx
    have := List.all_eq_true.mp h _ hx
    simpa using this
noncomputable def fd107 : FuncData := (fnTop 12 (.str (PySem.Str.ofString "law_wo0009_01") 338) (.ref 106))
noncomputable def sc107 : Scope := fd107.scope
noncomputable def body107 : List Stmt := bodyOf fd107
noncomputable def ps107 : List Str := [("word" : Str)]
theorem fn107 (P : Params) : Fn P 107 fd107 sc107 body107 ps107 where
  at_ := ⟨⟨(.type "function"), none, .func fd107, #[]⟩, by kernel_rfl, rfl⟩
  code := by kernel_rfl
  body := by kernel_rfl
  scope := rfl
  clo := by kernel_rfl
  glob := by kernel_rfl
  bltn := by kernel_rfl
  co := by kernel_rfl
  gen := by kernel_rfl
  kind := by kernel_rfl
  bind := fun vals h => by
    match vals, h with
    | [a0], _ => kernel_rfl
  nodup := by decide +kernel
  pk := by
    have h : (ps107.all fun x => sc107.names.lookup x == some .local || sc107.names.lookup x == some .cell) = true := by kernel_rfl
    intro x hx
    have := List.all_eq_true.mp h x hx
    simpa using this
  cellK := by
    have h : (sc107.names.all fun (n, k) => k != .cell || sc107.names.lookup n == some .cell) = true := by kernel_rfl
    intro x hx
    have := List.all_eq_true.mp h _ hx
    simpa using this
noncomputable def fd114 : FuncData := (fnTop 13 (.str (PySem.Str.ofString "law_wo0009_01") 338) (.ref 113))
noncomputable def sc114 : Scope := fd114.scope
noncomputable def body114 : List Stmt := bodyOf fd114
noncomputable def ps114 : List Str := [("number" : Str)]
theorem fn114 (P : Params) : Fn P 114 fd114 sc114 body114 ps114 where
  at_ := ⟨⟨(.type "function"), none, .func fd114, #[]⟩, by kernel_rfl, rfl⟩
  code := by kernel_rfl
  body := by kernel_rfl
  scope := rfl
  clo := by kernel_rfl
  glob := by kernel_rfl
  bltn := by kernel_rfl
  co := by kernel_rfl
  gen := by kernel_rfl
  kind := by kernel_rfl
  bind := fun vals h => by
    match vals, h with
    | [a0], _ => kernel_rfl
  nodup := by decide +kernel
  pk := by
    have h : (ps114.all fun x => sc114.names.lookup x == some .local || sc114.names.lookup x == some .cell) = true := by kernel_rfl
    intro x hx
    have := List.all_eq_true.mp h x hx
    simpa using this
  cellK := by
    have h : (sc114.names.all fun (n, k) => k != .cell || sc114.names.lookup n == some .cell) = true := by kernel_rfl
    intro x hx
    have := List.all_eq_true.mp h _ hx
    simpa using this
noncomputable def fd119 : FuncData := (fnTop 14 (.str (PySem.Str.ofString "law_wo0009_01") 338) (.ref 118))
noncomputable def sc119 : Scope := fd119.scope
noncomputable def body119 : List Stmt := bodyOf fd119
noncomputable def ps119 : List Str := [("family" : Str), ("letters" : Str), ("first" : Str)]
theorem fn119 (P : Params) : Fn P 119 fd119 sc119 body119 ps119 where
  at_ := ⟨⟨(.type "function"), none, .func fd119, #[]⟩, by kernel_rfl, rfl⟩
  code := by kernel_rfl
  body := by kernel_rfl
  scope := rfl
  clo := by kernel_rfl
  glob := by kernel_rfl
  bltn := by kernel_rfl
  co := by kernel_rfl
  gen := by kernel_rfl
  kind := by kernel_rfl
  bind := fun vals h => by
    match vals, h with
    | [a0, a1, a2], _ => kernel_rfl
  nodup := by decide +kernel
  pk := by
    have h : (ps119.all fun x => sc119.names.lookup x == some .local || sc119.names.lookup x == some .cell) = true := by kernel_rfl
    intro x hx
    have := List.all_eq_true.mp h x hx
    simpa using this
  cellK := by
    have h : (sc119.names.all fun (n, k) => k != .cell || sc119.names.lookup n == some .cell) = true := by kernel_rfl
    intro x hx
    have := List.all_eq_true.mp h _ hx
    simpa using this
noncomputable def fd124 : FuncData := (fnTop 15 (.str (PySem.Str.ofString "law_wo0009_01") 338) (.ref 123))
noncomputable def sc124 : Scope := fd124.scope
noncomputable def body124 : List Stmt := bodyOf fd124
noncomputable def ps124 : List Str := [("line" : Str), ("names" : Str), ("place" : Str), ("letter" : Str), ("first" : Str)]
theorem fn124 (P : Params) : Fn P 124 fd124 sc124 body124 ps124 where
  at_ := ⟨⟨(.type "function"), none, .func fd124, #[]⟩, by kernel_rfl, rfl⟩
  code := by kernel_rfl
  body := by kernel_rfl
  scope := rfl
  clo := by kernel_rfl
  glob := by kernel_rfl
  bltn := by kernel_rfl
  co := by kernel_rfl
  gen := by kernel_rfl
  kind := by kernel_rfl
  bind := fun vals h => by
    match vals, h with
    | [a0, a1, a2, a3, a4], _ => kernel_rfl
  nodup := by decide +kernel
  pk := by
    have h : (ps124.all fun x => sc124.names.lookup x == some .local || sc124.names.lookup x == some .cell) = true := by kernel_rfl
    intro x hx
    have := List.all_eq_true.mp h x hx
    simpa using this
  cellK := by
    have h : (sc124.names.all fun (n, k) => k != .cell || sc124.names.lookup n == some .cell) = true := by kernel_rfl
    intro x hx
    have := List.all_eq_true.mp h _ hx
    simpa using this
noncomputable def fd129 : FuncData := (fnTop 16 (.str (PySem.Str.ofString "law_wo0009_01") 338) (.ref 128))
noncomputable def sc129 : Scope := fd129.scope
noncomputable def body129 : List Stmt := bodyOf fd129
noncomputable def ps129 : List Str := [("line" : Str), ("count" : Str)]
theorem fn129 (P : Params) : Fn P 129 fd129 sc129 body129 ps129 where
  at_ := ⟨⟨(.type "function"), none, .func fd129, #[]⟩, by kernel_rfl, rfl⟩
  code := by kernel_rfl
  body := by kernel_rfl
  scope := rfl
  clo := by kernel_rfl
  glob := by kernel_rfl
  bltn := by kernel_rfl
  co := by kernel_rfl
  gen := by kernel_rfl
  kind := by kernel_rfl
  bind := fun vals h => by
    match vals, h with
    | [a0, a1], _ => kernel_rfl
  nodup := by decide +kernel
  pk := by
    have h : (ps129.all fun x => sc129.names.lookup x == some .local || sc129.names.lookup x == some .cell) = true := by kernel_rfl
    intro x hx
    have := List.all_eq_true.mp h x hx
    simpa using this
  cellK := by
    have h : (sc129.names.all fun (n, k) => k != .cell || sc129.names.lookup n == some .cell) = true := by kernel_rfl
    intro x hx
    have := List.all_eq_true.mp h _ hx
    simpa using this
noncomputable def fd134 : FuncData := (fnTop 17 (.str (PySem.Str.ofString "law_wo0009_01") 338) (.ref 133))
noncomputable def sc134 : Scope := fd134.scope
noncomputable def body134 : List Stmt := bodyOf fd134
noncomputable def ps134 : List Str := [("family" : Str), ("order" : Str)]
theorem fn134 (P : Params) : Fn P 134 fd134 sc134 body134 ps134 where
  at_ := ⟨⟨(.type "function"), none, .func fd134, #[]⟩, by kernel_rfl, rfl⟩
  code := by kernel_rfl
  body := by kernel_rfl
  scope := rfl
  clo := by kernel_rfl
  glob := by kernel_rfl
  bltn := by kernel_rfl
  co := by kernel_rfl
  gen := by kernel_rfl
  kind := by kernel_rfl
  bind := fun vals h => by
    match vals, h with
    | [a0, a1], _ => kernel_rfl
  nodup := by decide +kernel
  pk := by
    have h : (ps134.all fun x => sc134.names.lookup x == some .local || sc134.names.lookup x == some .cell) = true := by kernel_rfl
    intro x hx
    have := List.all_eq_true.mp h x hx
    simpa using this
  cellK := by
    have h : (sc134.names.all fun (n, k) => k != .cell || sc134.names.lookup n == some .cell) = true := by kernel_rfl
    intro x hx
    have := List.all_eq_true.mp h _ hx
    simpa using this
noncomputable def fd139 : FuncData := (fnTop 18 (.str (PySem.Str.ofString "law_wo0009_01") 338) (.ref 138))
noncomputable def sc139 : Scope := fd139.scope
noncomputable def body139 : List Stmt := bodyOf fd139
noncomputable def ps139 : List Str := [("script" : Str)]
theorem fn139 (P : Params) : Fn P 139 fd139 sc139 body139 ps139 where
  at_ := ⟨⟨(.type "function"), none, .func fd139, #[]⟩, by kernel_rfl, rfl⟩
  code := by kernel_rfl
  body := by kernel_rfl
  scope := rfl
  clo := by kernel_rfl
  glob := by kernel_rfl
  bltn := by kernel_rfl
  co := by kernel_rfl
  gen := by kernel_rfl
  kind := by kernel_rfl
  bind := fun vals h => by
    match vals, h with
    | [a0], _ => kernel_rfl
  nodup := by decide +kernel
  pk := by
    have h : (ps139.all fun x => sc139.names.lookup x == some .local || sc139.names.lookup x == some .cell) = true := by kernel_rfl
    intro x hx
    have := List.all_eq_true.mp h x hx
    simpa using this
  cellK := by
    have h : (sc139.names.all fun (n, k) => k != .cell || sc139.names.lookup n == some .cell) = true := by kernel_rfl
    intro x hx
    have := List.all_eq_true.mp h _ hx
    simpa using this
end Mine
end

section
open PySem PySem.W PyProof.Rows PySem.Calls
set_option linter.unusedVariables false
set_option maxRecDepth 100000
namespace Mine

noncomputable def intsAt (σ : List O) (v : V) (P : List Int → Prop) : Prop := match v with
  | .ref i => match σ[i]? with
    | some (.list xs) => ∃ ns : List Int, xs = ns.map V.int ∧ P ns
    | _ => False
  | _ => False

/-- the builtins of the text -/
noncomputable def bcall (scr : Value → Option (List V)) (f : GN) (vs : List V) (σ : List O) (K : KV) : Prop :=
  match f with
  | .len => (match vs with
    | [.str x] => x.length ≤ 1000 ∧ K (.int x.length) σ
    | [.byt x] => x.length ≤ 1000 ∧ K (.int x.length) σ
    | [.ref i] => match σ[i]? with
      | some (.list xs) => xs.length ≤ 1000000 ∧ K (.int xs.length) σ
      | _ => False
    | [.g u] => match scr u with
      | some xs => xs.length ≤ 1000000 ∧ K (.int xs.length) σ
      | none => False
    | _ => False)
  | .chr => (match vs with
    | [.int k] => (0 ≤ k ∧ k ≤ 1114111) ∧ K (.str [k.toNat]) σ
    | _ => False)
  | .ord => (match vs with
    | [.str [c]] => K (.int c) σ
    | _ => False)
  | .abs => (match vs with
    | [.int a] => K (.int (if a < 0 then -a else a)) σ
    | _ => False)
  | .int => (match vs with
    | [.int a] => K (.int a) σ
    | _ => False)
  | .divmod => (match vs with
    | [.int a, .int b] => (b ≠ 0 ∧ b.natAbs < 1073741824) ∧ K (.ref σ.length) (σ ++ [.tup [.int (a.fdiv b), .int (a.fmod b)]])
    | _ => False)
  | .min => (match vs with
    | [v] => intsAt σ v fun ns => 0 < ns.length ∧ ∀ m, m ∈ ns → (∀ a ∈ ns, m ≤ a) → K (.int m) σ
    | _ => False)
  | .max => (match vs with
    | [v] => intsAt σ v fun ns => 0 < ns.length ∧ ∀ m, m ∈ ns → (∀ a ∈ ns, a ≤ m) → K (.int m) σ
    | _ => False)
  | .sum => (match vs with
    | [v] => intsAt σ v fun ns => K (.int ns.sum) σ
    | _ => False)
  | .sorted => (match vs with
    | [v] => intsAt σ v fun ns => ns.length < 64 ∧ ∀ ns' : List Int, ns'.Perm ns → ns'.Pairwise (· ≤ ·) → K (.ref σ.length) (σ ++ [.list (ns'.map V.int)])
    | _ => False)
  | .isinstance => (match vs with
    | [.byt _, .fn .bytes] => K (.bool true) σ
    | [.int _, .fn .bool] => K (.bool false) σ
    | _ => False)
  | .range => (match vs with
    | [.int b] => (-1000000 < b ∧ b < 1000000) ∧ K (.ref σ.length) (σ ++ [.rng 0 1 b.toNat])
    | [.int a, .int b, .int (-1)] => (-1000000 < a ∧ a < 1000000 ∧ -1000000 < b ∧ b < 1000000) ∧ K (.ref σ.length) (σ ++ [.rng a (-1) (a - b).toNat])
    | _ => False)
  | _ => False

section
variable {prog : Program} {w : World} {A : Around} {E : Value → Shared → Prop} {s : Shared} {h₀ : Heap} {mg mb : Str → Option Value} {G : Ora} {ρ : List Addr} {σ : List O} {K : KV} {Q : Value → Shared → Prop} {dp : Nat}

theorem intsAt_of {u : Value} {v : V} {P : List Int → Prop} (R : Rep h₀ ρ σ s.heap) (hv : VR ρ u v) (h : intsAt σ v P) : ∃ a xs ns, u = .ref a ∧ s.heap.IsList a (intItems xs) ∧ xs.toList.map (·.1) = ns ∧ P ns := by
  unfold intsAt at h
  split at h
  · split at h
    · rename_i xs e
      obtain ⟨ns, rfl, h⟩ := h
      obtain ⟨a, i1, rfl, us, hl, vr⟩ := R.at_ e hv
      have hI := ints_of vr
      obtain ⟨ys, hys⟩ := hI.allInts.items
      refine ⟨a, ys, ns, rfl, hys ▸ hl.isList, ?_, h⟩
      rw [← nums_intItems, ← hys]
      exact hI.numsOf
    · exact h.elim
  · exact h.elim

theorem extreme {xs : Array (Int × Tok)} {ns : List Int} (e : xs.toList.map (·.1) = ns) (hne : 0 < ns.length) : 0 < xs.size := by
  rw [← e] at hne; simpa using hne

theorem min_ok {u : Value} {v : V} (hf : Fits A dp) (R : Rep h₀ ρ σ s.heap) (hv : VR ρ u v) (h : intsAt σ v fun ns => 0 < ns.length ∧ ∀ m, m ∈ ns → (∀ a ∈ ns, m ≤ a) → K (.int m) σ) (r : ResE h₀ ρ s K Q) : wpAny (model prog w) A (call (.builtin "min") [u]) Q E s := by
  obtain ⟨a, xs, ns, rfl, hl, e, hne, hk⟩ := intsAt_of R hv h
  have hsz := extreme e hne
  refine min_intList hf.handled hl hsz fun v h' tk hv' hkp => ?_
  obtain ⟨t, rfl⟩ := intItems_at hv'
  obtain ⟨h1, h2⟩ := argBest_lt (numAt xs) (xs.size - 1)
  refine r.kept R hkp (hk _ ?_ fun b hb => ?_) ⟨t, rfl⟩
  · rw [numAt_eq, e]; exact PySem.getD_mem (by rw [← e, List.length_map, Array.length_toList]; omega)
  · obtain ⟨j, hj, rfl⟩ := PySem.mem_getD hb
    rw [← e, List.length_map, Array.length_toList] at hj
    have h3 := h2 j (by omega)
    rw [numAt_eq xs j, e] at h3
    exact h3
theorem max_ok {u : Value} {v : V} (hf : Fits A dp) (R : Rep h₀ ρ σ s.heap) (hv : VR ρ u v) (h : intsAt σ v fun ns => 0 < ns.length ∧ ∀ m, m ∈ ns → (∀ a ∈ ns, a ≤ m) → K (.int m) σ) (r : ResE h₀ ρ s K Q) : wpAny (model prog w) A (call (.builtin "max") [u]) Q E s := by
  obtain ⟨a, xs, ns, rfl, hl, e, hne, hk⟩ := intsAt_of R hv h
  have hsz := extreme e hne
  refine max_intList hf.handled hl hsz fun v h' tk hv' hkp => ?_
  obtain ⟨t, rfl⟩ := intItems_at hv'
  obtain ⟨h1, h2⟩ := argBest_gt (numAt xs) (xs.size - 1)
  refine r.kept R hkp (hk _ ?_ fun b hb => ?_) ⟨t, rfl⟩
  · rw [numAt_eq, e]; exact PySem.getD_mem (by rw [← e, List.length_map, Array.length_toList]; omega)
  · obtain ⟨j, hj, rfl⟩ := PySem.mem_getD hb
    rw [← e, List.length_map, Array.length_toList] at hj
    have h3 := h2 j (by omega)
    rw [numAt_eq xs j, e] at h3
    exact h3
theorem sum_ok {u : Value} {v : V} (hf : Fits A dp) (R : Rep h₀ ρ σ s.heap) (hv : VR ρ u v) (h : intsAt σ v fun ns => K (.int ns.sum) σ) (r : ResE h₀ ρ s K Q) : wpAny (model prog w) A (call (.builtin "sum") [u]) Q E s := by
  obtain ⟨a, xs, ns, rfl, hl, e, hk⟩ := intsAt_of R hv h
  refine sum_intListG hf.handled hl fun h' tk t' hkp => r.kept R hkp hk ⟨t', ?_⟩
  rw [preSum_eq, List.take_of_length_le (by simp), e]
theorem vrs_ints : ∀ {us : List Value} {ns : List Int}, IntsAre us ns → VRs ρ us (ns.map V.int)
  | _, _, .nil => trivial
  | _, _, .cons n t h => ⟨⟨t, rfl⟩, vrs_ints h⟩
theorem sorted_ok {u : Value} {v : V} (R : Rep h₀ ρ σ s.heap) (hv : VR ρ u v) (h : intsAt σ v fun ns => ns.length < 64 ∧ ∀ ns' : List Int, ns'.Perm ns → ns'.Pairwise (· ≤ ·) → K (.ref σ.length) (σ ++ [.list (ns'.map V.int)])) (r : ResE h₀ ρ s K Q) :
    wpAny (model prog w) A (call (.builtin "sorted") [u]) Q E s := by
  unfold intsAt at h
  split at h
  · split at h
    · rename_i xs e
      obtain ⟨ns, rfl, h64, hk⟩ := h
      obtain ⟨a, i1, rfl, us, hl, vr⟩ := R.at_ e hv
      have hlen := vr.length
      rw [List.length_map] at hlen
      refine sorted_ints hl.isList (ints_of vr) (by omega) fun out ns' a1 a2 a3 => ?_
      obtain ⟨e2, he⟩ := sortedAll_at s.heap us out
      refine r.made (k := s.toks) (o := .list (ns'.map V.int)) R (fun b ob hb => sortedAll_old hb) (none_ge _ (Nat.le_succ _)) ⟨out.toList, ⟨e2, ?_⟩, (vrs_ints a1).mono⟩ (hk ns' a2 a3)
      rw [he]
    · exact h.elim
  · exact h.elim
theorem size_one (b : Int) : Builtin.Range.rangeSize 0 b 1 = (b.toNat : Int) := by
  unfold Builtin.Range.rangeSize
  rw [if_pos (by decide)]
  split <;> omega
theorem size_back (a b : Int) : Builtin.Range.rangeSize a b (-1) = ((a - b).toNat : Int) := by
  unfold Builtin.Range.rangeSize
  rw [if_neg (by decide)]
  have e : (a - b - 1) / (-(-1 : Int)) = a - b - 1 := by simp
  rw [e]
  split <;> omega

theorem bcall_ok (S : Setup prog w h₀ mg mb G) (hf : Fits A dp) {f : GN} {us : List Value} {vs : List V} (R : Rep h₀ ρ σ s.heap) (hv : VRs ρ us vs) (h : bcall G.scr f vs σ K) (r : ResE h₀ ρ s K Q) : wpAny (model prog w) A (call (gval f) us) Q E s := by
  unfold bcall at h
  cases f <;> dsimp only at h <;> try exact h.elim
  case len =>
    split at h
    · obtain ⟨u, rfl, hv⟩ := hv.one
      obtain ⟨t, rfl⟩ := hv.1; exact SBL.len (by rw [len_mk]; omega) (r.now R h.2 ⟨_, by rw [len_mk]⟩)
    · obtain ⟨u, rfl, hv⟩ := hv.one
      obtain ⟨t, rfl⟩ := hv.1; exact PySem.W.len_bytes (by simp; omega) (r.now R h.2 ⟨s.toks + 1, by simp⟩)
    · obtain ⟨u, rfl, hv⟩ := hv.one
      split at h
      · rename_i xs e
        obtain ⟨a, i1, rfl, us, hl, vr⟩ := R.at_ e hv.1
        have hlen := vr.length
        exact PyProof.Rows.len_list hl.isList (by simp; omega) (r.now R h.2 ⟨s.toks + 1, by simp [hlen]⟩)
      · exact h.elim
    · obtain ⟨u, rfl, hv⟩ := hv.one
      split at h
      · rename_i xs e
        obtain ⟨a1, us, rfl, hl, vr⟩ := S.scr _ _ e
        obtain rfl := hv.1
        have hl' : s.heap.IsList a1 us.toArray := let ⟨o, ho, x⟩ := hl; ⟨o, R.keep _ _ ho, x⟩
        have hlen := vr.length
        exact PyProof.Rows.len_list hl' (by simp; omega) (r.now R h.2 ⟨s.toks + 1, by simp [hlen]⟩)
      · exact h.elim
    · exact h.elim
  case chr =>
    split at h
    · obtain ⟨u, rfl, hv⟩ := hv.one
      obtain ⟨t, rfl⟩ := hv.1; exact chr_of_range h.1.1 h.1.2 (r.now R h.2 ⟨_, rfl⟩)
    · exact h.elim
  case ord =>
    split at h
    · obtain ⟨u, rfl, hv⟩ := hv.one
      obtain ⟨t, rfl⟩ := hv.1; exact P.ord_of_char (r.now R h ⟨_, rfl⟩)
    · exact h.elim
  case abs =>
    split at h
    · obtain ⟨u, rfl, hv⟩ := hv.one
      obtain ⟨t, rfl⟩ := hv.1; exact call_abs_int fun u tk => r.now R h ⟨_, rfl⟩
    · exact h.elim
  case int =>
    split at h
    · obtain ⟨u, rfl, hv⟩ := hv.one
      obtain ⟨t, rfl⟩ := hv.1; exact call_int_int (r.now' R h ⟨_, rfl⟩)
    · exact h.elim
  case divmod =>
    split at h
    · rename_i a b
      obtain ⟨u, u2, rfl, hv⟩ := hv.two
      obtain ⟨t, rfl⟩ := hv.1
      obtain ⟨t2, rfl⟩ := hv.2.1
      refine divmod_int h.1.1 ?_ (Or.inl (PyProof.noPylong_small h.1.2))
      exact r.made (o := .tup [.int (a.fdiv b), .int (a.fmod b)]) R (fun b ob e => Heap.get?_push_of_some _ e) (none_of_size _) ⟨[.int (a.fdiv b) s.toks, .int (a.fmod b) (s.toks + 1)], ⟨_, Heap.get?_push_size _ rfl, rfl, _, rfl⟩, ⟨_, rfl⟩, ⟨_, rfl⟩, trivial⟩ h.2
    · exact h.elim
  case min =>
    split at h
    · obtain ⟨u, rfl, hv⟩ := hv.one
      exact min_ok hf R hv.1 h r
    · exact h.elim
  case max =>
    split at h
    · obtain ⟨u, rfl, hv⟩ := hv.one
      exact max_ok hf R hv.1 h r
    · exact h.elim
  case sum =>
    split at h
    · obtain ⟨u, rfl, hv⟩ := hv.one
      exact sum_ok hf R hv.1 h r
    · exact h.elim
  case sorted =>
    split at h
    · obtain ⟨u, rfl, hv⟩ := hv.one
      exact sorted_ok R hv.1 h r
    · exact h.elim
  case isinstance =>
    split at h
    · obtain ⟨u, u2, rfl, hv⟩ := hv.two
      obtain ⟨t, rfl⟩ := hv.1
      obtain rfl := hv.2.1
      exact call_isinstance (isinstance_true (Tx := "bytes") F.isi_meta_bytes F.sub_bytes_bytes) ⟨typeIs_bytes _ _ _, r.now' R h rfl⟩
    · obtain ⟨u, u2, rfl, hv⟩ := hv.two
      obtain ⟨t, rfl⟩ := hv.1
      obtain rfl := hv.2.1
      exact IsiPair.int_bool (r.now R h rfl)
    · exact h.elim
  case range =>
    split at h
    · rename_i b
      obtain ⟨u, rfl, hv⟩ := hv.one
      obtain ⟨t, rfl⟩ := hv.1
      refine call_range_1 (r.made (o := .rng 0 1 b.toNat) R (fun b ob e => Heap.get?_push_of_some _ e) (none_of_size _) ⟨b, _, _, _, Heap.get?_push_size _ rfl, ?_, size_one b⟩ h.2)
      unfold Builtin.Range.small
      rw [size_one]
      unfold Builtin.Range.rangeFitsLong
      have := h.1
      simp; omega
    · rename_i a b
      obtain ⟨u, u2, u3, rfl, hv⟩ := hv.three
      obtain ⟨t, rfl⟩ := hv.1
      obtain ⟨t2, rfl⟩ := hv.2.1
      obtain ⟨t3, rfl⟩ := hv.2.2.1
      refine call_range_3 (by decide) (r.made (o := .rng a (-1) (a - b).toNat) R (fun b ob e => Heap.get?_push_of_some _ e) (none_of_size _) ⟨b, _, _, _, Heap.get?_push_size _ rfl, ?_, size_back a b⟩ h.2) (Or.inl (PyProof.noPylong_small (by decide)))
      unfold Builtin.Range.small
      rw [size_back]
      unfold Builtin.Range.rangeFitsLong
      obtain ⟨h1, h2, h3, h4⟩ := h.1
      simp; omega
    · exact h.elim
end
end Mine
end

section
open PySem PySem.W PyProof.Rows PySem.Calls
set_option linter.unusedVariables false
set_option maxRecDepth 100000
namespace Mine

noncomputable def glList : List (Str × GN) := [("len", .len), ("range", .range), ("chr", .chr), ("ord", .ord), ("abs", .abs), ("int", .int), ("divmod", .divmod), ("min", .min), ("max", .max), ("sum", .sum), ("sorted", .sorted), ("isinstance", .isinstance), ("bytes", .bytes), ("bool", .bool),
  ("b1_set", .b1set), ("in_table_b1", .inTable), ("Int2AP", .int2ap), ("_strcoll", .strcoll), ("_netrclex", .lex), ("_law_cells", .lawCells), ("_law_sign", .lawSign), ("_law_bared", .lawBared), ("_law_order", .lawOrder), ("_law_lines", .lawLines), ("_law_turn", .lawTurn), ("_law_sets", .lawSets), ("_law_won", .lawWon)]
noncomputable def glOf (x : Str) : Option GN := glList.lookup x

/-- the heap of the one stands in the other -/
structure Sb (σ σ' : List O) : Prop where
  len : σ.length ≤ σ'.length
  get : ∀ (i : Nat) (o : O), σ[i]? = some o → σ'[i]? = some o
theorem Sb.refl (σ : List O) : Sb σ σ := ⟨Nat.le_refl _, fun _ _ e => e⟩
theorem Sb.trans {a b c : List O} (x : Sb a b) (y : Sb b c) : Sb a c := ⟨Nat.le_trans x.len y.len, fun i o e => y.get i o (x.get i o e)⟩
theorem Sb.app (σ τ : List O) : Sb σ (σ ++ τ) := ⟨by simp, fun i o e => by
  rw [List.getElem?_append_left (by
    by_cases hi : i < σ.length
    · exact hi
    · rw [List.getElem?_eq_none (by omega)] at e; cases e)]
  exact e⟩
theorem lt_of_get {σ : List O} {i : Nat} {o : O} (e : σ[i]? = some o) : i < σ.length := by
  by_cases hi : i < σ.length
  · exact hi
  · rw [List.getElem?_eq_none (by omega)] at e; cases e
theorem get_new (σ : List O) (o : O) : (σ ++ [o])[σ.length]? = some o := by simp

noncomputable abbrev Contract := GN → List V → List O → KV → Prop
/-- an oracle of builtins and of contracts -/
noncomputable def isB : GN → Bool
  | .len | .range | .chr | .ord | .abs | .int | .divmod | .min | .max | .sum | .sorted | .isinstance => true
  | _ => false
noncomputable def Gw (scr : Value → Option (List V)) (c : Contract) : Ora := ⟨glOf, fun f vs σ K => match isB f with
  | true => bcall scr f vs σ K
  | false => c f vs σ K, scr⟩
noncomputable def none0 : Contract := fun _ _ _ _ => False
noncomputable abbrev G0 (scr : Value → Option (List V)) : Ora := Gw scr none0

theorem f_mk (P : Params) : makesIn (Mine.K P) 84 = true := by kernel_rfl
theorem f_in (P : Params) : findIn (Mine.K P) (.ref 84) "__init__" = some (some (.ref 60)) := by kernel_rfl
theorem f_t60 (P : Params) : isFn (Mine.K P) (.ref 60) = true := by kernel_rfl
noncomputable def ownNames : List GN := [.lex, .inTable, .int2ap, .strcoll, .lexInit, .getTok, .pushTok, .lawCells, .lawSign, .lawBared, .lawOrder, .lawLines, .lawTurn, .lawSets, .lawWon, .law]
theorem f_keeps (P : Params) : ownNames.all (fun f => keepIn (Mine.K P) (gval f)) = true := by kernel_rfl
noncomputable def isOwn (f : GN) : Bool := match gval f with
  | .ref _ => true
  | _ => false
theorem keeps_any (P : Params) (f : GN) (h : f ≠ .b1set) : keepIn (Mine.K P) (gval f) = true ∨ ∀ a, gval f ≠ .ref a := by
  have k := List.all_eq_true.mp (f_keeps P)
  have in_ : ∀ f : GN, f ≠ .b1set → isOwn f = true → f ∈ ownNames := fun f h e => by
    cases f <;> first | exact absurd rfl h | (cases e; done) | (unfold ownNames; repeat first | exact .head _ | refine .tail _ ?_)
  cases e : isOwn f with
  | true => exact .inl (k _ (in_ f h e))
  | false =>
    refine .inr fun a q => ?_
    unfold isOwn at e
    rw [q] at e; cases e

section
variable {prog : Program} {w : World} {A : Around} {E : Value → Shared → Prop} {s : Shared} {h₀ : Heap} {mg mb : Str → Option Value} {ρ : List Addr} {σ : List O} {K : KV} {Q : Value → Shared → Prop} {dp : Nat} {scr : Value → Option (List V)}

theorem Fits.less {A : Around} {d d' : Nat} (h : Fits A d) (hd : d' ≤ d) : Fits A d' := ⟨h.handled, by have := h.depth; omega, by have := h.units; omega⟩

/-- the oracle is sound when its contracts are -/
theorem callOk_of {c : Contract} (hs : ∀ G : Ora, G.gl = glOf → G.scr = scr → Setup prog w h₀ mg mb G) (hb : ∀ vs σ K, ¬ c .b1set vs σ K)
    (hc : ∀ (A : Around), Fits A dp → ∀ (s : Shared) (E : Value → Shared → Prop) (Q : Value → Shared → Prop) (ρ : List Addr) (σ : List O) (KK : KV) (u : GN) (us : List Value) (vs : List V),
      Rep h₀ ρ σ s.heap → VRs ρ us vs → c u vs σ KK → ResE h₀ ρ s KK Q → wpAny (model prog w) A (call (gval u) us) Q E s) : CallOk prog w h₀ (Gw scr c) dp where
  keeps := fun u vs σ KK h => by
    refine keeps_any _ u fun e => ?_
    subst e
    exact hb _ _ _ h
  run := fun A hf s E Q ρ σ KK u us vs R hv h r => by
    have h' : (match isB u with
      | true => bcall scr u vs σ KK
      | false => c u vs σ KK) := h
    split at h'
    · exact bcall_ok (G := Gw scr c) (hs _ rfl rfl) hf R hv h' r
    · exact hc A hf s E Q ρ σ KK u us vs R hv h' r

theorem callOk0 (hs : ∀ G : Ora, G.gl = glOf → G.scr = scr → Setup prog w h₀ mg mb G) : CallOk prog w h₀ (G0 scr) dp :=
  callOk_of hs (fun _ _ _ h => h) fun _ _ _ _ _ _ _ _ _ _ _ _ _ h _ => h.elim
end

/-! `_netrclex.__init__` -/
noncomputable def initFs (v : V) (p : Nat) : List (Str × V) := [("lineno", .int 1), ("instream", v), ("whitespace", .str [10, 9, 13, 32]), ("pushback", .ref p)]
theorem t60 (scr : Value → Option (List V)) (i j : Nat) (v : V) (σ : List O) (K : KS) (h1 : σ[i]? = some (.inst j)) (h2 : σ[j]? = some (.dct [])) (hij : i ≠ j)
    (hk : K .next [("self", .ref i), ("fp", v)] (σ.set j (.dct (initFs v σ.length)) ++ [O.list []])) :
    wpS (G0 scr) 20 sc60 (ps60.zip [.ref i, v]) body60 σ K := by
  have hj := lt_of_get h2
  have hi := lt_of_get h1
  have e1 : ∀ X, (σ.set j X)[i]? = some (.inst j) := fun X => by rw [List.getElem?_set_ne (Ne.symm hij)]; exact h1
  have e2 : ∀ X, (σ.set j X)[j]? = some X := fun X => List.getElem?_set_self hj
  have e3 : ∀ X o, (σ.set j X ++ [o])[i]? = some (.inst j) := fun X o => by rw [List.getElem?_append_left (by simpa using hi)]; exact e1 X
  have e4 : ∀ X o, (σ.set j X ++ [o])[j]? = some X := fun X o => by rw [List.getElem?_append_left (by simpa using hj)]; exact e2 X
  have e5 : ∀ X Y o, (σ.set j X ++ [o]).set j Y = σ.set j Y ++ [o] := fun X Y o => by rw [List.set_append_left _ _ (by simpa using hj), List.set_set]
  conv => whnf
  simp only [h1]
  conv => whnf
  simp only [h2]
  conv => whnf
  refine And.intro (by show (0 : Nat) ≤ 10; decide) ?_
  conv => whnf
  simp only [e1]
  conv => whnf
  simp only [e2]
  conv => whnf
  refine And.intro (by show (1 : Nat) ≤ 10; decide) ?_
  conv => whnf
  simp only [List.set_set, e1]
  conv => whnf
  simp only [e2]
  conv => whnf
  refine And.intro (by show (2 : Nat) ≤ 10; decide) ?_
  conv => whnf
  refine And.intro (by decide) ?_
  conv => whnf
  simp only [e3]
  conv => whnf
  simp only [e4]
  conv => whnf
  refine And.intro (by show (3 : Nat) ≤ 10; decide) ?_
  conv => whnf
  simp only [e5, List.length_set]
  exact hk

noncomputable def lexFs (p : Nat) : List (Str × V) := initFs .none p
/-- the contract of the class called -/
noncomputable def lexC (vs : List V) (σ : List O) (K : KV) : Prop := match vs with
  | [.none] => K (.ref (σ.length + 1)) (σ ++ [.dct (lexFs (σ.length + 2)), .inst σ.length, .list []])
  | _ => False

section
variable {prog : Program} {w : World} {A : Around} {E : Value → Shared → Prop} {s : Shared} {h₀ : Heap} {mg mb : Str → Option Value} {ρ : List Addr} {σ : List O} {K : KV} {Q : Value → Shared → Prop} {dp : Nat} {scr : Value → Option (List V)}

theorem lex_ok (hs : ∀ G : Ora, G.gl = glOf → G.scr = scr → Setup prog w h₀ mg mb G) (hf : Fits A (dp + 2)) {us : List Value} {vs : List V} (R : Rep h₀ ρ σ s.heap) (hv : VRs ρ us vs) (h : lexC vs σ K) (r : ResE h₀ ρ s K Q) : wpAny (model prog w) A (call (.ref 84) us) Q E s := by
  unfold lexC at h
  split at h
  · obtain ⟨u, rfl, hv⟩ := hv.one
    obtain rfl := hv.1
    have S := hs (G0 scr) rfl rfl
    have X := S.inK.keeps R.keep
    obtain ⟨hp, g, d, t, os⟩ := s
    refine wpAny_call (make_core (makes_of X (f_mk _)) (looks_findIn X (f_in _)) (fun self => bind_fn X self (beq_iff_eq.mp (f_t60 _))) (.inl rfl) ?_)
    have k1 : ∀ b o, hp.get? b = some o → (hp.push emptyDict).get? b = some o := fun b o e => Heap.get?_push_of_some _ e
    have sz : (hp.push emptyDict).objs.size = hp.objs.size + 1 := Heap.size_push ..
    have R1 : Rep h₀ (ρ ++ [hp.objs.size]) (σ ++ [.dct []]) (hp.push emptyDict) := R.add k1 (none_of_size _) ⟨[], 0, Heap.get?_push_size _ rfl, fun x v e => (nomatch e), fun x _ => rfl, rfl, Nat.le_refl _⟩
    have R2 : Rep h₀ (ρ ++ [hp.objs.size] ++ [hp.objs.size + 1]) (σ ++ [.dct []] ++ [.inst σ.length]) ((hp.push emptyDict).push (instObj 84 hp.objs.size)) := by
      refine R1.add (fun b o e => Heap.get?_push_of_some _ e) (by rw [← sz]; exact none_of_size _) ⟨hp.objs.size, ?_, by rw [← sz]; exact Heap.get?_push_size _ rfl⟩
      rw [← R.len]; simp
    have eρ : ρ ++ [hp.objs.size] ++ [hp.objs.size + 1] = ρ ++ [hp.objs.size, hp.objs.size + 1] := by simp
    have eσ : σ ++ [O.dct []] ++ [.inst σ.length] = σ ++ [.dct [], .inst σ.length] := by simp
    rw [eρ, eσ] at R2
    have hw : Code.weight (.builtin "type.__call__" ⟨.ref 84 :: [.none], []⟩) = 1 := by kernel_rfl
    have hc : Code.cUnits (.builtin "type.__call__" ⟨.ref 84 :: [.none], []⟩) = 1 := by kernel_rfl
    have fit : Fits (A.under (.builtin "type.__call__" ⟨.ref 84 :: [.none], []⟩)) (dp + 1) := by
      refine ⟨hf.handled, ?_, ?_⟩
      · show A.depth + Code.weight (.builtin "type.__call__" ⟨.ref 84 :: [.none], []⟩) + (dp + 1) < recursionLimit
        rw [hw]; have := hf.depth; omega
      · show A.units + Code.cUnits (.builtin "type.__call__" ⟨.ref 84 :: [.none], []⟩) + 4 * (dp + 1) + 200 < cLine
        rw [hc]; have := hf.units; omega
    have x0 : Ext ρ [hp.objs.size, hp.objs.size + 1] ⟨hp, g, d, t, os⟩ ⟨(hp.push emptyDict).push (instObj 84 hp.objs.size), g, d, t, os⟩ := ⟨⟨_, t, rfl⟩, fun b o _ e => Heap.get?_push_of_some _ (k1 b o e), fun b hb => by
      rcases List.mem_cons.mp hb with e | hb
      · subst e; exact none_of_size _
      · rw [List.mem_singleton] at hb; subst hb; exact none_ge _ (Nat.le_succ _)⟩
    have vx : VR (ρ ++ [hp.objs.size, hp.objs.size + 1]) (.ref (hp.objs.size + 1)) (.ref (σ.length + 1)) := ⟨_, by rw [← R.len]; simp, rfl⟩
    refine fn_code (dp := dp) (n := 20) (KK := fun v σ' => v = .none ∧ K (.ref (σ.length + 1)) σ') (vs := [.ref (σ.length + 1), .none]) (fn60 _) S (callOk0 hs) fit R2 ⟨vx, rfl, trivial⟩ rfl (t60 scr (σ.length + 1) σ.length .none _ _ ?_ ?_ (Nat.succ_ne_self _) ?_) fun u v σ' t' s' hk vr R' x => ?_
    · simp
    · simp
    · refine ⟨rfl, ?_⟩
      have e : (σ ++ [O.dct [], O.inst σ.length]).set σ.length (.dct (initFs .none (σ ++ [O.dct [], O.inst σ.length]).length)) ++ [O.list []] = σ ++ [.dct (lexFs (σ.length + 2)), .inst σ.length, .list []] := by
        rw [List.set_append_right _ _ (Nat.le_refl _)]
        simp [lexFs]
      rw [e]; exact h
    · obtain ⟨rfl, hk⟩ := hk
      obtain rfl := vr
      refine ⟨rfl, ?_⟩
      have R'' := R'
      rw [List.append_assoc] at R''
      exact r _ _ σ' _ s' hk (by rw [← List.append_assoc]; exact vx.mono) R'' (x0.trans R2 x)
  · exact h.elim
end
end Mine
end

section
open PySem PySem.W PyProof.Rows PySem.Calls
set_option linter.unusedVariables false
set_option maxRecDepth 100000
namespace Mine

noncomputable def codesA : List Nat := [172, 174, 846, 848, 6149, 6151, 6154, 6158, 8202, 8206, 8287, 8289, 65023, 65040, 65278, 65280]
noncomputable def codesB : List Nat := [173, 847, 6150, 6155, 6156, 6157, 8203, 8204, 8205, 8288, 65279]
noncomputable def signA (n : Int) : Nat := codesA.getD (n % 16).toNat 0
noncomputable def signB (n : Int) : Nat := if n % 27 < 11 then codesB.getD (n % 27).toNat 0 else (65013 + n % 27).toNat

theorem fmod_pos (n : Int) {k : Int} (h : 0 ≤ k) : n.fmod k = n % k := Int.fmod_eq_emod_of_nonneg n h
theorem codes_get (cs : List Nat) (k : Nat) (w : V) (h : (cs.map fun c : Nat => V.int (c : Int))[k]? = some w) : w = .int ((cs.getD k 0 : Nat) : Int) := by
  rw [List.getElem?_map] at h
  obtain ⟨c, hc, rfl⟩ := Option.map_eq_some_iff.mp h
  simp [List.getD, hc]

theorem t46 (scr : Value → Option (List V)) (a b : List Nat) (σ : List O) (K : KS) : wpS (G0 scr) 20 sc46 (ps46.zip [.str a, .str b]) body46 σ K = K (.ret (.int ((if decide (b < a) = true then 1 else 0) - (if decide (a < b) = true then 1 else 0)))) (ps46.zip [.str a, .str b]) σ := by kernel_rfl

theorem listOf_ref {G : Ora} {i : Nat} {σ : List O} {xs : List V} (h : σ[i]? = some (.list xs)) : listOfV G (.ref i) σ = some xs := by
  unfold listOfV; dsimp only; rw [h]
theorem listOf_new {G : Ora} {σ : List O} {xs : List V} : listOfV G (.ref σ.length) (σ ++ [.list xs]) = some xs := listOf_ref (get_new _ _)

theorem codesA_ok : ∀ c ∈ codesA, (0 : Int) ≤ (c : Int) ∧ (c : Int) ≤ 1114111 := by decide +kernel
theorem codesB_ok : ∀ c ∈ codesB, (0 : Int) ≤ (c : Int) ∧ (c : Int) ≤ 1114111 := by decide +kernel
theorem getD_in {cs : List Nat} {k : Nat} (h : k < cs.length) : cs.getD k 0 ∈ cs := by
  rw [List.getD, List.getElem?_eq_getElem h]; exact List.getElem_mem h

theorem t102a (scr : Value → Option (List V)) (n : Int) (σ : List O) (K : KS) (hk : ∀ l σ', Sb σ σ' → K (.ret (.str [signA n])) l σ') : wpS (G0 scr) 20 sc102 (ps102.zip [.int 1, .int n]) body102 σ K := by
  have hm : n.fmod 16 = n % 16 := fmod_pos n (by decide)
  have h0 : 0 ≤ n % 16 := Int.emod_nonneg n (by decide)
  have h1 : n % 16 < 16 := Int.emod_lt_of_pos n (by decide)
  conv => whnf
  refine And.intro (fun _ => ?_) (fun h => by cases h)
  conv => whnf
  refine And.intro (by decide) ?_
  conv => whnf
  refine And.intro (by decide) ?_
  conv => whnf
  rw [listOf_new, hm]
  refine And.intro (And.intro h0 (And.intro (by omega) (by show (n % 16).toNat < 16; omega))) (fun w hw => ?_)
  have hw' := codes_get codesA _ w hw
  subst hw'
  have hc := codesA_ok _ (getD_in (cs := codesA) (k := (n % 16).toNat) (by show (n % 16).toNat < 16; omega))
  conv => whnf
  refine And.intro hc ?_
  exact hk _ _ (Sb.app _ _)

theorem t102b (scr : Value → Option (List V)) (n : Int) (σ : List O) (K : KS) (hk : ∀ l σ', Sb σ σ' → K (.ret (.str [signB n])) l σ') : wpS (G0 scr) 20 sc102 (ps102.zip [.int 0, .int n]) body102 σ K := by
  have hm : n.fmod 27 = n % 27 := fmod_pos n (by decide)
  have h0 : 0 ≤ n % 27 := Int.emod_nonneg n (by decide)
  have h1 : n % 27 < 27 := Int.emod_lt_of_pos n (by decide)
  conv => whnf
  refine And.intro (fun h => by cases h) (fun _ => ?_)
  conv => whnf
  refine And.intro (by decide) ?_
  conv => whnf
  refine And.intro (by decide) ?_
  conv => whnf
  rw [hm]
  refine And.intro (fun h => ?_) (fun h => ?_)
  · have h2 : n % 27 < 11 := by simpa using h
    conv => whnf
    rw [listOf_new]
    refine And.intro (And.intro h0 (And.intro (by omega) (by show (n % 27).toNat < 11; omega))) (fun w hw => ?_)
    have hw' := codes_get codesB _ w hw
    subst hw'
    have hc := codesB_ok _ (getD_in (cs := codesB) (k := (n % 27).toNat) (by show (n % 27).toNat < 11; omega))
    conv => whnf
    refine And.intro hc ?_
    have e : ((codesB.getD (n % 27).toNat 0 : Nat) : Int).toNat = signB n := by unfold signB; rw [if_pos h2]; rfl
    rw [e]
    exact hk _ _ (Sb.app _ _)
  · have h2 : ¬ n % 27 < 11 := by simpa using h
    conv => whnf
    refine And.intro (And.intro (by omega) (by omega)) ?_
    have e : (65013 + n % 27).toNat = signB n := by unfold signB; rw [if_neg h2]
    rw [e]
    exact hk _ _ (Sb.app _ _)
end Mine
end

section
open PySem PySem.W PyProof.Rows PySem.Calls
set_option linter.unusedVariables false
set_option linter.unusedSimpArgs false
set_option maxRecDepth 100000
namespace Mine

/-! the lexer's lines -/
noncomputable def LineAt (σ : List O) (i p : Nat) : Prop := ∃ j, σ[i]? = some (.inst j) ∧ σ[j]? = some (.dct (lexFs p))
theorem t74 (scr : Value → Option (List V)) (i p : Nat) (v : V) (vs : List V) (σ : List O) (K : KS) (h : LineAt σ i p) (hp : σ[p]? = some (.list (v :: vs))) (hz : vs.length ≤ 1000)
    (hk : ∀ l, K (.ret v) l (σ.set p (.list vs))) : wpS (G0 scr) 20 sc74 (ps74.zip [.ref i]) body74 σ K := by
  obtain ⟨j, h1, h2⟩ := h
  conv => whnf
  simp only [h1]
  conv => whnf
  simp only [h2]
  conv => whnf
  simp only [hp]
  refine And.intro (by simp; omega) ?_
  conv => whnf
  refine And.intro (fun _ => ?_) (fun h => by cases h)
  conv => whnf
  simp only [h1]
  conv => whnf
  simp only [h2]
  conv => whnf
  refine And.intro (by conv => whnf
                       simp only [hp]) ?_
  conv => whnf
  simp only [hp]
  refine And.intro (And.intro (by decide) (And.intro (by decide) (And.intro (by simp) (by simp; omega)))) (fun w hw => ?_)
  have : w = v := by simpa using hw.symm
  subst this
  exact hk _
theorem t81 (scr : Value → Option (List V)) (i p : Nat) (v : V) (vs : List V) (σ : List O) (K : KS) (h : LineAt σ i p) (hp : σ[p]? = some (.list vs)) (hz : vs.length ≤ 1000)
    (hk : ∀ l, K .next l (σ.set p (.list (vs ++ [v])))) : wpS (G0 scr) 20 sc81 (ps81.zip [.ref i, v]) body81 σ K := by
  obtain ⟨j, h1, h2⟩ := h
  conv => whnf
  simp only [h1]
  conv => whnf
  simp only [h2]
  conv => whnf
  refine And.intro (by conv => whnf
                       simp only [hp]) ?_
  conv => whnf
  simp only [hp]
  refine And.intro (by omega) ?_
  exact hk _

theorem Sb.set {σ σ' : List O} (h : Sb σ σ') {i : Nat} (hi : σ.length ≤ i) (o : O) : Sb σ (σ'.set i o) :=
  ⟨by rw [List.length_set]; exact h.len, fun j ob e => by
    have := lt_of_get e
    rw [List.getElem?_set_ne (by omega)]; exact h.get j ob e⟩
noncomputable def wh114 : Expr × List Stmt := match body114 with
  | [_, .While t b _ _, _] => (t, b)
  | _ => (.Constant .none 0 default, [])
theorem erase_perm : ∀ (l : List Int) (k : Nat) (h : k < l.length), (l[k] :: l.eraseIdx k).Perm l
  | [], k, h => absurd h (Nat.not_lt_zero _)
  | x :: l, 0, _ => List.Perm.refl _
  | x :: l, k + 1, h => by
    have hk : k < l.length := by simpa using h
    have ih := erase_perm l k hk
    show (l[k] :: x :: l.eraseIdx k).Perm (x :: l)
    exact (List.Perm.swap _ _ _).trans (List.Perm.cons x ih)
theorem erase_map : ∀ (l : List Int) (k : Nat), (l.map V.int).eraseIdx k = (l.eraseIdx k).map V.int
  | [], _ => by simp
  | x :: l, 0 => by simp
  | x :: l, k + 1 => by simp [erase_map l k]
theorem order_turn (scr : Value → Option (List V)) (m : Nat) (n : Int) (xs ys : List Int) (a b : Nat) (σ0 σ : List O) (K : KS) (h0 : Sb σ0 σ) (ha0 : σ0.length ≤ a) (hb0 : σ0.length ≤ b) (ha : σ[a]? = some (.list (xs.map V.int))) (hb : σ[b]? = some (.list (ys.map V.int))) (hab : a ≠ b)
    (hx : 0 < xs.length) (hx4 : xs.length ≤ 4) (hy : ys.length ≤ 10)
    (next : ∀ x xs' σ', (x :: xs').Perm xs → Sb σ0 σ' → σ'[a]? = some (.list (xs'.map V.int)) → σ'[b]? = some (.list ((ys ++ [x]).map V.int)) →
      whileGo (fun l σ K => wpX (G0 scr) 30 true sc114 l wh114.1 σ (asB K)) (fun l σ K => wpS (G0 scr) 18 sc114 l wh114.2 σ K) m [("number", .int (n.fdiv 4)), ("left", .ref a), ("order", .ref b)] σ' K) :
    whileGo (fun l σ K => wpX (G0 scr) 30 true sc114 l wh114.1 σ (asB K)) (fun l σ K => wpS (G0 scr) 18 sc114 l wh114.2 σ K) (m + 1) [("number", .int n), ("left", .ref a), ("order", .ref b)] σ K := by
  rw [whileGo_succ]
  have hal := lt_of_get ha
  conv => whnf
  simp only [ha]
  refine And.intro (by simp; omega) ?_
  conv => whnf
  have hne : (!(xs.map V.int).isEmpty) = true := by cases xs with
    | nil => cases hx
    | cons => rfl
  rw [hne]
  refine And.intro (fun _ => ?_) (fun h => by cases h)
  conv => whnf
  refine And.intro (by conv => whnf
                       simp only [hb]) ?_
  conv => whnf
  refine And.intro (by conv => whnf
                       simp only [ha]) ?_
  conv => whnf
  simp only [ha]
  refine And.intro (by simp; omega) ?_
  have hl : ((xs.map V.int).length : Int) = (xs.length : Int) := by simp
  have hm0 : 0 ≤ n % (xs.length : Int) := Int.emod_nonneg n (by omega)
  have hm1 : n % (xs.length : Int) < xs.length := Int.emod_lt_of_pos n (by omega)
  conv => whnf
  refine And.intro (by rw [hl]; omega) ?_
  conv => whnf
  rw [hl, fmod_pos n (Int.natCast_nonneg _)]
  simp only [ha]
  refine And.intro (And.intro hm0 (And.intro (by omega) (And.intro (by simp; omega) (by simp; omega)))) (fun w hw => ?_)
  rw [List.getElem?_map] at hw
  obtain ⟨x, hxg, rfl⟩ := Option.map_eq_some_iff.mp hw
  have hb2 : (σ.set a (.list ((xs.map V.int).eraseIdx (n % (xs.length : Int)).toNat)))[b]? = some (.list (ys.map V.int)) := by
    rw [List.getElem?_set_ne hab]; exact hb
  conv => whnf
  simp only [hb2]
  refine And.intro (by simp; omega) ?_
  conv => whnf
  refine And.intro (by decide) ?_
  have hlt : (n % (xs.length : Int)).toNat < xs.length := by omega
  refine next x (xs.eraseIdx (n % (xs.length : Int)).toNat) _ ?_ ((h0.set ha0 _).set hb0 _) ?_ ?_
  · have e := List.getElem?_eq_getElem hlt
    rw [hxg] at e
    cases e
    exact erase_perm xs _ hlt
  · rw [List.getElem?_set_ne (Ne.symm hab), List.getElem?_set_self hal, erase_map]
  · rw [List.getElem?_set_self (by rw [List.length_set]; exact lt_of_get hb)]
    simp

theorem t114 (scr : Value → Option (List V)) (n : Int) (σ : List O) (K : KS) (hk : ∀ (l : Loc) (os : List Int) (σ' : List O) (i : Nat), os.Perm [0, 1, 2, 3] → Sb σ σ' → σ.length ≤ i → σ'[i]? = some (.list (os.map V.int)) → K (.ret (.ref i)) l σ') : wpS (G0 scr) 20 sc114 (ps114.zip [.int n]) body114 σ K := by
  conv => whnf
  refine And.intro (by decide) ?_
  conv => whnf
  refine And.intro (by decide) ?_
  conv => whnf
  refine And.intro (by show (2 : Nat) ≤ 1000; decide) ?_
  conv => whnf
  rw [get_new]
  have eH : ∀ t, σ ++ [O.list [V.int 0, V.int 1, V.int 2, V.int 3]] ++ [O.list []] ++ [t] = σ ++ [.list [V.int 0, V.int 1, V.int 2, V.int 3], .list [], t] := fun t => by simp
  have el : (σ ++ [O.list [V.int 0, V.int 1, V.int 2, V.int 3]]).length = σ.length + 1 := by simp
  rw [eH, el]
  generalize hH : σ ++ [.list [V.int 0, V.int 1, V.int 2, V.int 3], .list [], O.tup [V.ref σ.length, V.ref (σ.length + 1)]] = H
  have hs : Sb σ H := hH ▸ Sb.app _ _
  have ha : H[σ.length]? = some (.list (([0, 1, 2, 3] : List Int).map V.int)) := by rw [← hH]; simp
  have hb : H[σ.length + 1]? = some (.list (([] : List Int).map V.int)) := by rw [← hH]; simp
  suffices h : whileGo (fun l σ K => wpX (G0 scr) 30 true sc114 l wh114.1 σ (asB K)) (fun l σ K => wpS (G0 scr) 18 sc114 l wh114.2 σ K) 8 [("number", .int n), ("left", .ref σ.length), ("order", .ref (σ.length + 1))] H
      (thenS (fun l σ K => wpS (G0 scr) 18 sc114 l (body114.drop 2) σ K) K) from Eq.mp (by kernel_rfl) h
  refine order_turn scr 7 n [0, 1, 2, 3] [] _ _ σ H _ hs (Nat.le_refl _) (Nat.le_succ _) ha hb (Nat.ne_of_lt (Nat.lt_succ_self _)) (by decide) (by decide) (by decide) fun x1 xs1 H1 p1 s1 a1 b1 => ?_
  have l1 := p1.length_eq
  simp at l1
  refine order_turn scr 6 _ xs1 [x1] _ _ σ H1 _ s1 (Nat.le_refl _) (Nat.le_succ _) a1 b1 (Nat.ne_of_lt (Nat.lt_succ_self _)) (by omega) (by omega) (by simp) fun x2 xs2 H2 p2 s2 a2 b2 => ?_
  have l2 := p2.length_eq
  simp at l2
  refine order_turn scr 5 _ xs2 [x1, x2] _ _ σ H2 _ s2 (Nat.le_refl _) (Nat.le_succ _) a2 b2 (Nat.ne_of_lt (Nat.lt_succ_self _)) (by omega) (by omega) (by simp) fun x3 xs3 H3 p3 s3 a3 b3 => ?_
  have l3 := p3.length_eq
  simp at l3
  refine order_turn scr 4 _ xs3 [x1, x2, x3] _ _ σ H3 _ s3 (Nat.le_refl _) (Nat.le_succ _) a3 b3 (Nat.ne_of_lt (Nat.lt_succ_self _)) (by omega) (by omega) (by simp) fun x4 xs4 H4 p4 s4 a4 b4 => ?_
  have l4 := p4.length_eq
  simp at l4
  have e4 : xs4 = [] := by
    have : xs4.length = 0 := by omega
    exact List.eq_nil_of_length_eq_zero this
  subst e4
  rw [whileGo_succ]
  conv => whnf
  simp only [a4]
  refine And.intro (by decide) ?_
  conv => whnf
  refine And.intro (fun h => by cases h) (fun _ => ?_)
  refine hk _ [x1, x2, x3, x4] H4 _ ?_ s4 (Nat.le_succ _) b4
  have q3 : [x3, x4].Perm xs2 := (List.Perm.cons x3 p4).trans p3
  have q2 : [x2, x3, x4].Perm xs1 := (List.Perm.cons x2 q3).trans p2
  exact (List.Perm.cons x1 q2).trans p1
end Mine
end

section
open PySem PySem.W PyProof.Rows PySem.Calls
set_option linter.unusedVariables false
set_option linter.unusedSimpArgs false
set_option maxRecDepth 100000
namespace Mine

theorem forGo_rule {ok : List O → Prop} {B : Loc → List O → KS → Prop} {x : Str} (I : Nat → Loc → List O → Prop) : ∀ {xs : List V} {l : Loc} {σ : List O} {K : KS} (n : Nat), I n l σ →
    (∀ i v l σ KK, xs[i]? = some v → I (n + i) l σ → (∀ l' σ', I (n + i + 1) l' σ' → KK .next l' σ') → ok σ ∧ B (put x v l) σ KK) → (∀ l σ, I (n + xs.length) l σ → ok σ ∧ K .next l σ) → forGo ok B x xs l σ K
  | [], l, σ, K, n, h0, _, fin => fin l σ h0
  | v :: r, l, σ, K, n, h0, step, fin => by
    have h := step 0 v l σ (thenS (fun l σ K => forGo ok B x r l σ K) K) rfl h0 fun l' σ' h' => ?_
    · exact h
    · refine forGo_rule I (n + 1) h' (fun i w l σ KK hw hI hK => ?_) fun l σ hI => fin l σ ?_
      · exact step (i + 1) w l σ KK hw (by rw [show n + (i + 1) = n + 1 + i by omega]; exact hI) (by rw [show n + (i + 1) + 1 = n + 1 + i + 1 by omega]; exact hK)
      · rw [show n + (v :: r).length = n + 1 + r.length by simp; omega]; exact hI
theorem iterGo_rule {ok : List O → Prop} {f : V → List V → List O → (List V → List O → Prop) → Prop} (I : Nat → List V → List O → Prop) : ∀ {xs : List V} {acc : List V} {σ : List O} {K : List V → List O → Prop} (n : Nat), I n acc σ →
    (∀ i v acc σ KK, xs[i]? = some v → I (n + i) acc σ → (∀ acc' σ', I (n + i + 1) acc' σ' → KK acc' σ') → ok σ ∧ f v acc σ KK) → (∀ acc σ, I (n + xs.length) acc σ → ok σ ∧ K acc σ) → iterGo ok f xs acc σ K
  | [], acc, σ, K, n, h0, _, fin => fin acc σ h0
  | v :: r, acc, σ, K, n, h0, step, fin => by
    refine step 0 v acc σ _ rfl h0 fun acc' σ' h' => ?_
    refine iterGo_rule I (n + 1) h' (fun i w acc σ KK hw hI hK => ?_) fun acc σ hI => fin acc σ ?_
    · exact step (i + 1) w acc σ KK hw (by rw [show n + (i + 1) = n + 1 + i by omega]; exact hI) (by rw [show n + (i + 1) + 1 = n + 1 + i + 1 by omega]; exact hK)
    · rw [show n + (v :: r).length = n + 1 + r.length by simp; omega]; exact hI
theorem items_rng {σ : List O} {i : Nat} {a c : Int} {n : Nat} (h : σ[i]? = some (.rng a c n)) : items? (.ref i) σ = some (none, (List.range n).map fun k : Nat => V.int (a + (k : Int) * c)) := by
  unfold items?; dsimp only; rw [h]
theorem items_list {σ : List O} {i : Nat} {xs : List V} (h : σ[i]? = some (.list xs)) : items? (.ref i) σ = some (some i, xs) := by
  unfold items?; dsimp only; rw [h]
theorem take_snoc {α : Type} {l : List α} {i : Nat} {x : α} (h : l[i]? = some x) : l.take (i + 1) = l.take i ++ [x] := by
  rw [List.take_add_one, h]; rfl

end Mine
end

section
open PySem PySem.W PyProof.Rows PySem.Calls
set_option linter.unusedVariables false
set_option linter.unusedSimpArgs false
set_option maxRecDepth 100000
namespace Mine

theorem int_get {ns : List Int} {k : Nat} {w : V} (h : (ns.map V.int)[k]? = some w) : ∃ c, w = .int c ∧ ns[k]? = some c := by
  rw [List.getElem?_map] at h
  obtain ⟨c, hc, rfl⟩ := Option.map_eq_some_iff.mp h
  exact ⟨c, rfl, hc⟩
theorem set_map (ns : List Int) (k : Nat) (c : Int) : (ns.map V.int).set k (.int c) = (ns.set k c).map V.int := by
  rw [List.map_set]

noncomputable def opt (l : Loc) (x : Str) : Option V → Loc
  | none => l
  | some v => l ++ [(x, v)]
theorem t95 (scr : Value → Option (List V)) (u : Value) (ns : List Int) (σ : List O) (K : KS) (hu : scr u = some (ns.map V.int)) (hz : ns.length ≤ 1000)
    (hk : ∀ (l : Loc) (cs : List Int) (σ' : List O) (i : Nat), cs.length = 3 → Sb σ σ' → σ.length ≤ i → σ'[i]? = some (.list (cs.map V.int)) → K (.ret (.ref i)) l σ') : wpS (G0 scr) 20 sc95 (ps95.zip [.g u]) body95 σ K := by
  have hlo : ∀ τ, listOfV (G0 scr) (.g u) τ = some (ns.map V.int) := fun τ => hu
  conv => whnf
  refine And.intro (by decide) ?_
  conv => whnf
  rw [hu]
  refine And.intro (by simp; omega) ?_
  conv => whnf
  refine And.intro (by simp; omega) ?_
  conv => whnf
  rw [items_rng (get_new _ _)]
  show forGo _ _ _ _ _ _ _
  have hlen : ((ns.map V.int).length : Int).toNat = ns.length := by simp
  refine forGo_rule (fun i l τ => ∃ cs : List Int, cs.length = 3 ∧ Sb σ τ ∧ τ[σ.length]? = some (.list (cs.map V.int)) ∧ ∃ v, l = opt [("script", .g u), ("cells", .ref σ.length)] "k" v) 0 ⟨[49704, 9, 30], rfl, ⟨by simp, fun i o e => by rw [List.append_assoc]; exact (Sb.app _ _).get i o e⟩, by rw [List.append_assoc]; simp, none, rfl⟩ (fun i v l τ KK hv hI hK => ?_) (fun l τ hI => ?_)
  · obtain ⟨cs, hcs, hs, hc, v0, rfl⟩ := hI
    refine And.intro trivial ?_
    have hl' : put "k" v (opt [("script", .g u), ("cells", .ref σ.length)] "k" v0) = ([("script", .g u), ("cells", .ref σ.length), ("k", v)] : Loc) := by cases v0 <;> rfl
    rw [hl']
    rw [List.getElem?_map] at hv
    obtain ⟨k, hk', rfl⟩ := Option.map_eq_some_iff.mp hv
    have hki : k < ns.length := by
      have := List.mem_of_getElem? hk'
      rw [List.mem_range, hlen] at this
      exact this
    have hx : (0 : Int) + (k : Int) * 1 = k := by omega
    rw [hx]
    have hm0 : 0 ≤ (k : Int) % 3 := Int.emod_nonneg _ (by decide)
    have hm1 : (k : Int) % 3 < 3 := Int.emod_lt_of_pos _ (by decide)
    have hlc : ((cs.map V.int).length) = 3 := by simp [hcs]
    conv => whnf
    refine And.intro rfl ?_
    conv => whnf
    refine And.intro (by decide) ?_
    conv => whnf
    rw [listOf_ref hc, fmod_pos _ (by decide)]
    refine And.intro (And.intro hm0 (And.intro (by omega) (by omega))) (fun w hw => ?_)
    obtain ⟨c, rfl, hcc⟩ := int_get hw
    conv => whnf
    rw [hlo]
    refine And.intro (And.intro (Int.natCast_nonneg _) (And.intro (by omega) (by simp; omega))) (fun w2 hw2 => ?_)
    obtain ⟨c2, rfl, hcc2⟩ := int_get hw2
    conv => whnf
    refine And.intro (by decide) ?_
    conv => whnf
    rw [hc]
    refine And.intro (And.intro hm0 (And.intro (by omega) (by omega))) ?_
    refine hK _ _ ⟨cs.set ((k : Int) % 3).toNat (c + c2.fmod 1000000), by rw [List.length_set]; exact hcs, hs.set (Nat.le_refl _) _, ?_, some (V.int k), rfl⟩
    rw [List.getElem?_set_self (lt_of_get hc), ← set_map]
  · obtain ⟨cs, hcs, hs, hc, v0, rfl⟩ := hI
    refine And.intro trivial ?_
    cases v0 with
    | none => exact hk _ cs _ _ hcs hs (Nat.le_refl _) hc
    | some v => exact hk _ cs _ _ hcs hs (Nat.le_refl _) hc
end Mine
end

section
open PySem PySem.W PyProof.Rows PySem.Calls
set_option linter.unusedVariables false
set_option linter.unusedSimpArgs false
set_option maxRecDepth 100000
namespace Mine

noncomputable def apAll : List UInt8 := [65, 66, 67, 68, 69, 70, 71, 72, 73, 74, 75, 76, 77, 78, 79, 80]
noncomputable def apb (d : Nat) : UInt8 := UInt8.ofNat (65 + d)
theorem cut_ap : ∀ d : Nat, d < 16 → cut (some (d : Int)) (some ((d : Int) + 1)) apAll = [apb d] := by decide +kernel
noncomputable def wh39 : Expr × List Stmt := match body39 with
  | [_, _, _, .While t b _ _, _] => (t, b)
  | _ => (.Constant .none 0 default, [])
noncomputable abbrev l39 (m : Nat) (v : List UInt8) (o : Option V) : Loc := opt [("num", .int m), ("val", .byt v), ("AP", .byt apAll)] "mod" o
theorem ap_turn (scr : Value → Option (List V)) (k : Nat) (m : Nat) (v : List UInt8) (o : Option V) (σ0 σ : List O) (K : KS) (hs : Sb σ0 σ) (hm : 0 < m) (hz : v.length ≤ 100)
    (next : ∀ o' σ', Sb σ0 σ' → whileGo (fun l σ K => wpX (G0 scr) 30 true sc39 l wh39.1 σ (asB K)) (fun l σ K => wpS (G0 scr) 16 sc39 l wh39.2 σ K) k (l39 (m / 16) (apb (m % 16) :: v) o') σ' K) :
    whileGo (fun l σ K => wpX (G0 scr) 30 true sc39 l wh39.1 σ (asB K)) (fun l σ K => wpS (G0 scr) 16 sc39 l wh39.2 σ K) (k + 1) (l39 m v o) σ K := by
  have e1 : ((m : Int)).fdiv 16 = ((m / 16 : Nat) : Int) := by rw [Int.fdiv_eq_ediv_of_nonneg _ (by decide)]; omega
  have e2 : ((m : Int)).fmod 16 = ((m % 16 : Nat) : Int) := by rw [fmod_pos _ (by decide)]; omega
  rw [whileGo_succ]
  have hd : m % 16 < 16 := Nat.mod_lt _ (by decide)
  have hne : ((m : Int) != 0) = true := by simp; omega
  cases o
  all_goals
    conv => whnf
    refine And.intro (fun _ => ?_) (fun h => by rw [hne] at h; cases h)
    conv => whnf
    refine And.intro (by decide) ?_
    conv => whnf
    rw [get_new, e1, e2]
    conv => whnf
    refine And.intro (And.intro (by decide) (And.intro (And.intro (by omega) (by omega)) (And.intro (by omega) (by omega)))) ?_
    rw [cut_ap _ hd]
    conv => whnf
    refine And.intro (by simp; omega) ?_
    exact next (some _) _ (hs.trans (Sb.app _ _))

noncomputable def apOf (m : Nat) : List UInt8 := [apb (m / 65536), apb (m / 4096 % 16), apb (m / 256 % 16), apb (m / 16 % 16), apb (m % 16)]
theorem t39 (scr : Value → Option (List V)) (n : Int) (m : Nat) (hn : n.natAbs = m) (h1 : 65536 ≤ m) (h2 : m < 131072) (σ : List O) (K : KS) (hk : ∀ l σ', Sb σ σ' → K (.ret (.byt (apOf m))) l σ') : wpS (G0 scr) 20 sc39 (ps39.zip [.int n]) body39 σ K := by
  suffices h : whileGo (fun l σ K => wpX (G0 scr) 30 true sc39 l wh39.1 σ (asB K)) (fun l σ K => wpS (G0 scr) 16 sc39 l wh39.2 σ K) 8 (l39 m [] none) σ (thenS (fun l σ K => wpS (G0 scr) 16 sc39 l (body39.drop 4) σ K) K) by
    have e : (if n < 0 then -n else n) = (m : Int) := by split <;> omega
    have q : wpS (G0 scr) 20 sc39 (ps39.zip [.int n]) body39 σ K = whileGo (fun l σ K => wpX (G0 scr) 30 true sc39 l wh39.1 σ (asB K)) (fun l σ K => wpS (G0 scr) 16 sc39 l wh39.2 σ K) 8 [("num", .int (if n < 0 then -n else n)), ("val", .byt []), ("AP", .byt apAll)] σ (thenS (fun l σ K => wpS (G0 scr) 16 sc39 l (body39.drop 4) σ K) K) := by kernel_rfl
    rw [q, e]
    exact h
  refine ap_turn scr 7 m [] none σ σ _ (Sb.refl _) (by omega) (by simp) fun o1 s1 b1 => ?_
  refine ap_turn scr 6 _ _ o1 σ s1 _ b1 (by omega) (by simp) fun o2 s2 b2 => ?_
  refine ap_turn scr 5 _ _ o2 σ s2 _ b2 (by omega) (by simp) fun o3 s3 b3 => ?_
  refine ap_turn scr 4 _ _ o3 σ s3 _ b3 (by omega) (by simp) fun o4 s4 b4 => ?_
  refine ap_turn scr 3 _ _ o4 σ s4 _ b4 (by omega) (by simp) fun o5 s5 b5 => ?_
  have e0 : m / 16 / 16 / 16 / 16 / 16 = 0 := by omega
  rw [e0]
  have ev : [apb (m / 16 / 16 / 16 / 16 % 16), apb (m / 16 / 16 / 16 % 16), apb (m / 16 / 16 % 16), apb (m / 16 % 16), apb (m % 16)] = apOf m := by
    have a1 : m / 16 / 16 / 16 / 16 % 16 = m / 65536 := by omega
    have a2 : m / 16 / 16 / 16 % 16 = m / 4096 % 16 := by omega
    have a3 : m / 16 / 16 % 16 = m / 256 % 16 := by omega
    rw [a1, a2, a3]; rfl
  rw [ev, whileGo_succ]
  cases o5
  all_goals
    conv => whnf
    refine And.intro (fun h => by cases h) (fun _ => ?_)
    exact hk _ _ b5
end Mine
end

section
open PySem PySem.W PyProof.Rows PySem.Calls
set_option linter.unusedVariables false
set_option linter.unusedSimpArgs false
set_option maxRecDepth 100000
namespace Mine

noncomputable def bitI (number : Int) (k : Nat) : Bool := ((number.fdiv (2 ^ k)).fmod 2) != 0
noncomputable def relL (os : List Int) (number : Nat) (i : Nat) : List Int := ((List.range i).filter fun k => bitI number k).map fun k => 2 ^ (os.getD k 0).toNat
noncomputable def relOf (os : List Int) (number : Nat) : Int := (relL os number 4).sum
noncomputable def askL (os : List Int) (family : Int) (i : Nat) : List Int := (List.range i).map fun number => ((family.fdiv (2 ^ (relOf os number).toNat)).fmod 2) * 2 ^ number

noncomputable def perms24 : List (List Int) := [0, 1, 2, 3].flatMap fun a => [0, 1, 2, 3].flatMap fun b => [0, 1, 2, 3].flatMap fun c => [0, 1, 2, 3].flatMap fun d => if ([a, b, c, d] : List Int).isPerm [0, 1, 2, 3] then [[a, b, c, d]] else []
theorem perm_mem {os : List Int} (h : os.Perm [0, 1, 2, 3]) : os ∈ perms24 := by
  have hl := h.length_eq
  match os, hl with
  | [a, b, c, d], _ =>
    have m : ∀ x ∈ [a, b, c, d], x ∈ ([0, 1, 2, 3] : List Int) := fun x hx => h.mem_iff.mp hx
    have ha := m a (by simp)
    have hb := m b (by simp)
    have hc := m c (by simp)
    have hd := m d (by simp)
    unfold perms24
    refine List.mem_flatMap.mpr ⟨a, ha, List.mem_flatMap.mpr ⟨b, hb, List.mem_flatMap.mpr ⟨c, hc, List.mem_flatMap.mpr ⟨d, hd, ?_⟩⟩⟩⟩
    rw [if_pos (List.isPerm_iff.mpr h)]
    exact List.mem_singleton.mpr rfl
theorem perm_all {P : List Int → Bool} (h : perms24.all P = true) {os : List Int} (hp : os.Perm [0, 1, 2, 3]) : P os = true := List.all_eq_true.mp h os (perm_mem hp)
theorem os_small {os : List Int} (hp : os.Perm [0, 1, 2, 3]) : os.length = 4 ∧ ∀ k, k < 4 → ∃ c : Int, os[k]? = some c ∧ 0 ≤ c ∧ c ≤ 3 ∧ os.getD k 0 = c := by
  have h := perm_all (P := fun os => os.length == 4 && (List.range 4).all fun k => match os[k]? with
    | some c => decide (0 ≤ c) && decide (c ≤ 3)
    | none => false) (by decide +kernel) hp
  simp only [Bool.and_eq_true, beq_iff_eq, List.all_eq_true, List.mem_range] at h
  refine ⟨h.1, fun k hk => ?_⟩
  have h2 := h.2 k hk
  cases e : os[k]? with
  | none => rw [e] at h2; cases h2
  | some c =>
    rw [e] at h2
    simp at h2
    exact ⟨c, rfl, h2.1, h2.2, by simp [List.getD, e]⟩
theorem rel_small {os : List Int} (hp : os.Perm [0, 1, 2, 3]) {number : Nat} (hn : number < 16) : 0 ≤ relOf os number ∧ relOf os number ≤ 15 := by
  have h := perm_all (P := fun os => (List.range 16).all fun number => decide (0 ≤ relOf os number) && decide (relOf os number ≤ 15)) (by decide +kernel) hp
  have h2 := List.all_eq_true.mp h number (List.mem_range.mpr hn)
  simpa using h2
theorem range_at {n i k : Nat} (h : (List.range n)[i]? = some k) : k = i ∧ i < n := by
  by_cases hi : i < n
  · rw [List.getElem?_range hi] at h; cases h; exact ⟨rfl, hi⟩
  · rw [List.getElem?_eq_none (by simp; omega)] at h; cases h
theorem pow_small {b : Int} (h : b ≤ 15) : ((2 : Int) ^ b.toNat).natAbs < 1073741824 := by
  have : (2 : Int) ^ b.toNat = ((2 ^ b.toNat : Nat) : Int) := by simp
  rw [this, Int.natAbs_natCast]
  have h1 : b.toNat ≤ 15 := by omega
  exact Nat.lt_of_le_of_lt (Nat.pow_le_pow_right (by decide) h1) (by decide)
theorem pow_ne (n : Nat) : (2 : Int) ^ n ≠ 0 := by
  have : (2 : Int) ^ n = ((2 ^ n : Nat) : Int) := by simp
  rw [this]
  exact Int.natCast_ne_zero.mpr (Nat.ne_of_gt (Nat.pow_pos (by decide)))

noncomputable def gstep (os : List Int) (wanted : Int) (a : Int) (k : Nat) : Int := if bitI wanted (os.getD k 0).toNat then Builtin.bitAnd a (a.fdiv (2 ^ 2 ^ k)) else Builtin.bitOr a (a.fdiv (2 ^ 2 ^ k))
noncomputable def game (os : List Int) (asked wanted : Int) (i : Nat) : Int := (List.range i).foldl (gstep os wanted) asked
noncomputable def wonL (os : List Int) (family : Int) (i : Nat) : List Int := ((List.range i).filter fun w : Nat => (game os (askL os family 16).sum (w : Int) 4).fmod 2 != 0).map fun w : Nat => (w : Int)
noncomputable abbrev lI (family oi asked won : V) (wanted answers : V) : Option (V × V) → Loc
  | none => [("family", family), ("order", oi), ("asked", asked), ("won", won), ("wanted", wanted), ("answers", answers)]
  | some (k, later) => [("family", family), ("order", oi), ("asked", asked), ("won", won), ("wanted", wanted), ("answers", answers), ("k", k), ("later", later)]
noncomputable abbrev lO (family oi asked won : V) : Option (V × V × V × V) → Loc
  | none => [("family", family), ("order", oi), ("asked", asked), ("won", won)]
  | some (wanted, answers, k, later) => lI family oi asked won wanted answers (some (k, later))
theorem t134 (scr : Value → Option (List V)) (family : Int) (os : List Int) (oi : Nat) (σ : List O) (K : KS) (hp : os.Perm [0, 1, 2, 3]) (ho : σ[oi]? = some (.list (os.map V.int)))
    (hk : ∀ (l : Loc) (σ' : List O) (i : Nat), Sb σ σ' → σ.length ≤ i → σ'[i]? = some (.list ((wonL os family 16).map V.int)) → K (.ret (.ref i)) l σ') : wpS (G0 scr) 20 sc134 (ps134.zip [.int family, .ref oi]) body134 σ K := by
  conv => whnf
  refine And.intro (by decide) ?_
  conv => whnf
  rw [items_rng (get_new _ _)]
  refine And.intro (by decide) ?_
  refine iterGo_rule (fun i acc τ => Sb σ τ ∧ acc = (askL os family i).map V.int) 0 ⟨Sb.app _ _, rfl⟩ (fun i v acc τ KK hv hI hK => ?_) (fun acc τ hI => ?_)
  · obtain ⟨hs, rfl⟩ := hI
    rw [List.getElem?_map] at hv
    obtain ⟨number, hnum, rfl⟩ := Option.map_eq_some_iff.mp hv
    obtain ⟨rfl, hlt⟩ := range_at hnum
    have hx : (0 : Int) + (number : Int) * 1 = number := by omega
    rw [hx]
    refine And.intro trivial ?_
    conv => whnf
    refine And.intro (by decide) ?_
    conv => whnf
    rw [items_rng (get_new _ _)]
    refine And.intro (by decide) ?_
    refine iterGo_rule (fun i acc τ' => Sb τ τ' ∧ acc = (relL os number i).map V.int) 0 ⟨Sb.app _ _, rfl⟩ (fun i v acc τ' KK2 hv hI hK2 => ?_) (fun acc τ' hI => ?_)
    · obtain ⟨hs', rfl⟩ := hI
      rw [List.getElem?_map] at hv
      obtain ⟨k, hk, rfl⟩ := Option.map_eq_some_iff.mp hv
      obtain ⟨rfl, hlt'⟩ := range_at hk
      have hx : (0 : Int) + (k : Int) * 1 = k := by omega
      rw [hx]
      refine And.intro trivial ?_
      have hk4 : k < 4 := hlt'
      obtain ⟨hl4, hge⟩ := os_small hp
      obtain ⟨c, hc, hc0, hc3, hcd⟩ := hge k hk4
      have hpk : ((2 : Int) ^ (k : Int).toNat).natAbs < 1073741824 := pow_small (by omega)
      have hord : τ'[oi]? = some (.list (os.map V.int)) := hs'.get _ _ (hs.get _ _ ho)
      have hstep : relL os number (0 + k + 1) = relL os number (0 + k) ++ (if bitI number k then [2 ^ c.toNat] else []) := by
        unfold relL
        rw [Nat.zero_add, List.range_succ, List.filter_append, List.map_append]
        cases hb : bitI number k <;> simp [hb, hc]
      conv => whnf
      refine And.intro (And.intro rfl (And.intro (by omega) (by omega))) ?_
      conv => whnf
      refine And.intro (And.intro (pow_ne _) hpk) ?_
      conv => whnf
      refine And.intro (by decide) ?_
      conv => whnf
      refine And.intro (fun hb => ?_) (fun hb => ?_)
      · conv => whnf
        rw [listOf_ref hord]
        refine And.intro (And.intro (Int.natCast_nonneg _) (And.intro (by omega) (by simp; omega))) (fun w hw => ?_)
        obtain ⟨c', rfl, hc'⟩ := int_get hw
        have : c' = c := by
          rw [Int.toNat_natCast] at hc'
          rw [hc] at hc'; cases hc'; rfl
        subst this
        conv => whnf
        refine And.intro (And.intro rfl (And.intro hc0 (by omega))) ?_
        refine hK2 _ _ ⟨hs', ?_⟩
        have hb' : bitI number k = true := hb
        rw [hstep, hb', List.map_append]
        rfl
      · refine hK2 _ _ ⟨hs', ?_⟩
        have hb' : bitI number k = false := hb
        rw [hstep, hb']
        simp
    · obtain ⟨hs', rfl⟩ := hI
      refine And.intro trivial ?_
      have hrel := rel_small hp (number := number) (by exact hlt)
      have hlen : 0 + (List.map (fun k : Nat => V.int (0 + (k : Int) * 1)) (List.range (Int.toNat 4))).length = 4 := by simp
      rw [hlen]
      have hre : (relL os number 4).sum = relOf os number := rfl
      conv => whnf
      rw [get_new]
      refine Exists.intro _ (And.intro rfl ?_)
      conv => whnf
      rw [hre]
      refine And.intro (And.intro rfl (And.intro hrel.1 (by omega))) ?_
      conv => whnf
      refine And.intro (And.intro (pow_ne _) (pow_small hrel.2)) ?_
      conv => whnf
      refine And.intro (by decide) ?_
      conv => whnf
      refine And.intro (And.intro rfl (And.intro (Int.natCast_nonneg _) (by have : number < 16 := hlt; omega))) ?_
      conv => whnf
      have hm : ((family.fdiv (2 ^ (relOf os number).toNat)).fmod 2).natAbs < 4611686018427387904 := by
        rw [fmod_pos _ (by decide)]
        have h0 := Int.emod_nonneg (family.fdiv (2 ^ (relOf os number).toNat)) (show (2 : Int) ≠ 0 by decide)
        have h1 := Int.emod_lt_of_pos (family.fdiv (2 ^ (relOf os number).toNat)) (show (0 : Int) < 2 by decide)
        omega
      refine And.intro hm ?_
      refine hK _ _ ⟨(hs.trans hs').trans (Sb.app _ _), ?_⟩
      unfold askL
      rw [Nat.zero_add, List.range_succ]
      simp
  · obtain ⟨hs, rfl⟩ := hI
    refine And.intro trivial ?_
    have hlen : 0 + (List.map (fun k : Nat => V.int (0 + (k : Int) * 1)) (List.range (Int.toNat 16))).length = 16 := by simp
    rw [hlen]
    conv => whnf
    rw [get_new]
    refine Exists.intro _ (And.intro rfl ?_)
    conv => whnf
    refine And.intro (by decide) ?_
    conv => whnf
    refine And.intro (by decide) ?_
    conv => whnf
    rw [items_rng (get_new _ _)]
    generalize hask : (askL os family 16).sum = asked
    generalize hH : τ ++ [O.list (List.map V.int (askL os family 16))] ++ [O.list []] ++ [O.rng 0 1 (Int.toNat 16)] = H
    generalize hwi : (τ ++ [O.list (List.map V.int (askL os family 16))]).length = wi
    have hsH : Sb σ H := by rw [← hH, List.append_assoc, List.append_assoc]; exact hs.trans (Sb.app _ _)
    have hHw : H[wi]? = some (.list ((wonL os family 0).map V.int)) := by
      rw [← hH, ← hwi, List.append_assoc (τ ++ _), List.getElem?_append_right (Nat.le_refl _)]; simp [wonL]
    have hwge : σ.length ≤ wi := by rw [← hwi, List.length_append]; have := hs.len; omega
    have hne : wi ≠ oi := by have := lt_of_get ho; omega
    obtain ⟨hl4, hge⟩ := os_small hp
    clear hwi hH hs
    refine forGo_rule (fun i l τ => Sb σ τ ∧ τ[wi]? = some (.list ((wonL os family i).map V.int)) ∧ ∃ r, l = lO (.int family) (.ref oi) (.int asked) (.ref wi) r) 0 ⟨hsH, hHw, none, rfl⟩ (fun i v l τ KK hv hI hK => ?_) (fun l τ hI => ?_)
    · obtain ⟨hs, hw, r, rfl⟩ := hI
      rw [List.getElem?_map] at hv
      obtain ⟨n, hn, rfl⟩ := Option.map_eq_some_iff.mp hv
      obtain ⟨rfl, hlt⟩ := range_at hn
      have hx : (0 : Int) + (n : Int) * 1 = n := by omega
      rw [hx]
      rw [Nat.zero_add] at hw hK
      refine And.intro trivial ?_
      -- the tail: `if answers % 2`
      have tail : ∀ (τ' : List O) (k later : V), Sb σ τ' → τ'[wi]? = some (.list ((wonL os family n).map V.int)) →
          wpS (G0 scr) 15 sc134 (lI (.int family) (.ref oi) (.int asked) (.ref wi) (.int n) (.int (game os asked n 4)) (some (k, later))) ((match body134 with | [_, _, .For _ _ b _ _, _] => b | _ => []).drop 2) τ' KK := by
        intro τ' k later hs' hw'
        have hwon : wonL os family (n + 1) = wonL os family n ++ (if (game os asked n 4).fmod 2 != 0 then [(n : Int)] else []) := by
          unfold wonL
          rw [hask, List.range_succ, List.filter_append, List.map_append]
          congr 1
          by_cases hb : ((game os asked n 4).fmod 2 != 0) = true
          · rw [if_pos hb]; simp [hb]
          · rw [if_neg hb]; simp [hb]
        conv => whnf
        refine And.intro (by decide) ?_
        conv => whnf
        refine And.intro (fun hb => ?_) (fun hb => ?_)
        · conv => whnf
          refine And.intro (by conv => whnf
                               simp only [hw']) ?_
          conv => whnf
          simp only [hw']
          refine And.intro (by
            have : (wonL os family n).length ≤ n := by
              unfold wonL
              rw [List.length_map]
              have := List.length_filter_le (fun w : Nat => (game os (askL os family 16).sum (w : Int) 4).fmod 2 != 0) (List.range n)
              rw [List.length_range] at this
              exact this
            rw [List.length_map]
            have h16 : n < 16 := hlt
            omega) ?_
          refine hK _ _ ⟨hs'.set hwge _, ?_, some (_, _, _, _), rfl⟩
          rw [List.getElem?_set_self (lt_of_get hw'), hwon, if_pos hb, List.map_append]
          rfl
        · refine hK _ _ ⟨hs', ?_, some (_, _, _, _), rfl⟩
          rw [hwon, if_neg (by rw [hb]; decide), List.append_nil]
          exact hw'
      have inner : ∀ (τ0 τ1 : List O) (r0 : Option (V × V)) (xs : List V), xs = (List.range 4).map (fun k : Nat => V.int (0 + (k : Int) * 1)) → Sb σ τ1 → τ1[wi]? = some (.list ((wonL os family n).map V.int)) →
          forGo (srcOk none xs) (fun l σ K => wpS (G0 scr) 15 sc134 l (match (match body134 with | [_, _, .For _ _ b _ _, _] => b | _ => []) with | [_, .For _ _ b _ _, _] => b | _ => []) σ K) "k" xs (lI (.int family) (.ref oi) (.int asked) (.ref wi) (.int n) (.int asked) r0) τ1
            (thenS (fun l σ K => wpS (G0 scr) 15 sc134 l ((match body134 with | [_, _, .For _ _ b _ _, _] => b | _ => []).drop 2) σ K) KK) := by
        intro τ0 τ1 r0 xs hxs hs1 hw1
        refine forGo_rule (fun i l τ => Sb σ τ ∧ τ[wi]? = some (.list ((wonL os family n).map V.int)) ∧ ∃ r, l = lI (.int family) (.ref oi) (.int asked) (.ref wi) (.int n) (.int (game os asked n i)) r ∧ (i = 0 ∨ r.isSome = true)) 0 ⟨hs1, hw1, r0, rfl, .inl rfl⟩ (fun i v l τ KK2 hv hI hK2 => ?_) (fun l τ hI => ?_)
        · obtain ⟨hs2, hw2, r2, rfl, -⟩ := hI
          rw [hxs, List.getElem?_map] at hv
          obtain ⟨k, hk', rfl⟩ := Option.map_eq_some_iff.mp hv
          obtain ⟨rfl, hlt'⟩ := range_at hk'
          have hx : (0 : Int) + (k : Int) * 1 = k := by omega
          rw [hx]
          rw [Nat.zero_add] at hK2 ⊢
          obtain ⟨c, hc, hc0, hc3, hcd⟩ := hge k hlt'
          have hord : τ[oi]? = some (.list (os.map V.int)) := hs2.get _ _ ho
          have p2 : ∀ k : Nat, k < 4 → (0 : Int) ≤ 2 ^ (k : Int).toNat ∧ (2 : Int) ^ (k : Int).toNat ≤ 300 ∧ ((2 : Int) ^ ((2 : Int) ^ (k : Int).toNat).toNat).natAbs < 1073741824 ∧ (2 : Int) ^ ((2 : Int) ^ (k : Int).toNat).toNat = 2 ^ 2 ^ k := by decide +kernel
          obtain ⟨q1, q2, q3, q4⟩ := p2 k hlt'
          have hgame : game os asked n (k + 1) = gstep os n (game os asked n k) k := by
            unfold game
            rw [List.range_succ, List.foldl_append]; rfl
          refine And.intro trivial ?_
          cases r2
          all_goals
            conv => whnf
            refine And.intro (And.intro rfl (And.intro (Int.natCast_nonneg _) (by omega))) ?_
            conv => whnf
            refine And.intro (And.intro rfl (And.intro q1 q2)) ?_
            conv => whnf
            refine And.intro (And.intro (pow_ne _) q3) ?_
            rw [q4]
            conv => whnf
            rw [listOf_ref hord]
            refine And.intro (And.intro (Int.natCast_nonneg _) (And.intro (by omega) (by simp; omega))) (fun w hw' => ?_)
            obtain ⟨c', rfl, hc'⟩ := int_get hw'
            have hcc : c' = c := by
              rw [Int.toNat_natCast] at hc'
              rw [hc] at hc'; cases hc'; rfl
            subst hcc
            conv => whnf
            refine And.intro (And.intro rfl (And.intro hc0 (by omega))) ?_
            conv => whnf
            refine And.intro (And.intro (pow_ne _) (pow_small (by omega))) ?_
            conv => whnf
            refine And.intro (by decide) ?_
            conv => whnf
            refine And.intro (fun hb => ?_) (fun hb => ?_)
            · refine hK2 _ _ ⟨hs2, hw2, some (.int k, .int ((game os asked n k).fdiv (2 ^ 2 ^ k))), ?_, .inr rfl⟩
              rw [hgame]
              unfold gstep
              rw [hcd, if_pos (show bitI n c'.toNat = true from hb)]
              rfl
            · refine hK2 _ _ ⟨hs2, hw2, some (.int k, .int ((game os asked n k).fdiv (2 ^ 2 ^ k))), ?_, .inr rfl⟩
              rw [hgame]
              unfold gstep
              rw [hcd, if_neg (by rw [show bitI n c'.toNat = false from hb]; decide)]
              rfl
        · obtain ⟨hs2, hw2, r2, rfl, hr⟩ := hI
          have hlen : 0 + xs.length = 4 := by rw [hxs]; simp
          rw [hlen] at hr ⊢
          refine And.intro trivial ?_
          cases r2 with
          | none => rcases hr with hr | hr <;> cases hr
          | some r2 => exact tail τ _ _ hs2 hw2
      have hs1 : Sb σ (τ ++ [O.rng 0 1 (Int.toNat 4)]) := hs.trans (Sb.app _ _)
      have hw1 := (Sb.app τ [O.rng 0 1 (Int.toNat 4)]).get _ _ hw
      cases r with
      | none =>
        conv => whnf
        refine And.intro (by decide) ?_
        conv => whnf
        rw [items_rng (get_new _ _)]
        exact Eq.mp (by kernel_rfl) (inner τ _ none _ rfl hs1 hw1)
      | some r =>
        obtain ⟨w0, a0, k0, l0⟩ := r
        conv => whnf
        refine And.intro (by decide) ?_
        conv => whnf
        rw [items_rng (get_new _ _)]
        exact Eq.mp (by kernel_rfl) (inner τ _ (some (k0, l0)) _ rfl hs1 hw1)
    · obtain ⟨hs, hw, r, rfl⟩ := hI
      refine And.intro trivial ?_
      have hlen : 0 + (List.map (fun k : Nat => V.int (0 + (k : Int) * 1)) (List.range (Int.toNat 16))).length = 16 := by simp
      rw [hlen] at hw
      cases r with
      | none => exact hk _ _ _ hs hwge hw
      | some r => exact hk _ _ _ hs hwge hw
end Mine
end

section
open PySem PySem.W PyProof.Rows PySem.Calls
set_option linter.unusedVariables false
set_option linter.unusedSimpArgs false
set_option maxRecDepth 100000
namespace Mine

/-! level one -/
noncomputable def c1 (scr : Value → Option (List V)) : Contract := fun f vs σ K => match f with
  | .inTable => (match vs with
    | [.str [c]] => K (.bool (b1 c)) σ
    | _ => False)
  | .strcoll => (match vs with
    | [.str a, .str b] => K (.int ((if decide (b < a) = true then 1 else 0) - (if decide (a < b) = true then 1 else 0))) σ
    | _ => False)
  | .lawSign => (match vs with
    | [.int 0, .int n] => ∀ σ', Sb σ σ' → K (.str [signB n]) σ'
    | [.int 1, .int n] => ∀ σ', Sb σ σ' → K (.str [signA n]) σ'
    | _ => False)
  | .lawOrder => (match vs with
    | [.int n] => ∀ (os : List Int) (σ' : List O) (i : Nat), os.Perm [0, 1, 2, 3] → Sb σ σ' → σ.length ≤ i → σ'[i]? = some (.list (os.map V.int)) → K (.ref i) σ'
    | _ => False)
  | .getTok => (match vs with
    | [.ref i] => ∃ p v vs, LineAt σ i p ∧ σ[p]? = some (.list (v :: vs)) ∧ vs.length ≤ 1000 ∧ K v (σ.set p (.list vs))
    | _ => False)
  | .pushTok => (match vs with
    | [.ref i, v] => ∃ p vs, LineAt σ i p ∧ σ[p]? = some (.list vs) ∧ vs.length ≤ 1000 ∧ K .none (σ.set p (.list (vs ++ [v])))
    | _ => False)
  | .lex => lexC vs σ K
  | .int2ap => (match vs with
    | [.int n] => (65536 ≤ n.natAbs ∧ n.natAbs < 131072) ∧ ∀ σ', Sb σ σ' → K (.byt (apOf n.natAbs)) σ'
    | _ => False)
  | .lawCells => (match vs with
    | [.g u] => ∃ ns : List Int, (scr u = some (ns.map V.int) ∧ ns.length ≤ 1000) ∧ ∀ (cs : List Int) (σ' : List O) (i : Nat), cs.length = 3 → Sb σ σ' → σ.length ≤ i → σ'[i]? = some (.list (cs.map V.int)) → K (.ref i) σ'
    | _ => False)
  | .lawWon => (match vs with
    | [.int family, .ref oi] => ∃ os : List Int, (os.Perm [0, 1, 2, 3] ∧ σ[oi]? = some (.list (os.map V.int))) ∧ ∀ (σ' : List O) (i : Nat), Sb σ σ' → σ.length ≤ i → σ'[i]? = some (.list ((wonL os family 16).map V.int)) → K (.ref i) σ'
    | _ => False)
  | _ => False
noncomputable abbrev G1 (scr : Value → Option (List V)) : Ora := Gw scr (c1 scr)

noncomputable def bare (x : List Nat) : List Nat := x.filter fun c => b1 (c : Int) == false
theorem t107 (scr : Value → Option (List V)) (word : List Nat) (σ : List O) (K : KS) (hz : word.length ≤ 1000) (hk : ∀ l σ', Sb σ σ' → K (.ret (.str (bare word))) l σ') : wpS (G1 scr) 20 sc107 (ps107.zip [.str word]) body107 σ K := by
  conv => whnf
  refine And.intro trivial ?_
  conv => whnf
  refine And.intro (by simp; omega) (iterGo_rule (fun i acc τ => τ = σ ∧ acc = (bare (word.take i)).map fun c => V.str [c]) 0 ⟨rfl, rfl⟩ (fun i v acc τ KK hv hI hK => ?_) (fun acc τ hI => ?_))
  · obtain ⟨rfl, rfl⟩ := hI
    rw [List.getElem?_map] at hv
    obtain ⟨c, hc, rfl⟩ := Option.map_eq_some_iff.mp hv
    rw [Nat.zero_add] at hK ⊢
    have hb : ∀ b : Bool, b1 (c : Int) = b → bare (word.take (i + 1)) = bare (word.take i) ++ (if b then [] else [c]) := fun b e => by
      unfold bare
      rw [take_snoc hc, List.filter_append]
      cases b <;> simp [e]
    refine And.intro trivial ?_
    conv => whnf
    refine And.intro (fun h => ?_) (fun h => ?_)
    · refine hK _ _ ⟨rfl, ?_⟩
      rw [hb false (by simpa using h), List.map_append]
      rfl
    · refine hK _ _ ⟨rfl, ?_⟩
      rw [hb true (by simpa using h)]
      simp
  · obtain ⟨rfl, rfl⟩ := hI
    refine And.intro trivial ?_
    have e : word.take (0 + (word.map fun c => V.str [c]).length) = word := by simp
    rw [e]
    conv => whnf
    rw [get_new]
    have hfl : (bare word).map (fun c => V.str [c]) = ((bare word).map fun c => [c]).map V.str := by simp
    have hff : ((bare word).map fun c => [c]).flatten = bare word := by
      induction bare word with
      | nil => rfl
      | cons c r ih => simp [ih]
    have hle : (bare word).length ≤ word.length := List.length_filter_le _ _
    refine Exists.intro _ (And.intro hfl (And.intro ?_ ?_))
    · rw [hff]; omega
    · rw [hff]
      exact hk _ _ (Sb.app _ _)
end Mine
end

section
open PySem PySem.W PyProof.Rows PySem.Calls
set_option linter.unusedVariables false
set_option linter.unusedSimpArgs false
set_option maxRecDepth 100000
namespace Mine
theorem t32 (scr : Value → Option (List V)) (c : Nat) (σ : List O) (K : KS) : wpS (G0 scr) 20 sc32 (ps32.zip [.str [c]]) body32 σ K = K (.ret (.bool (b1 c))) (ps32.zip [.str [c]]) σ := by kernel_rfl
section
variable {prog : Program} {w : World} {A : Around} {E : Value → Shared → Prop} {s : Shared} {h₀ : Heap} {mg mb : Str → Option Value} {ρ : List Addr} {σ : List O} {K : KV} {Q : Value → Shared → Prop} {dp : Nat} {scr : Value → Option (List V)}

theorem c1_ok (hs : ∀ G : Ora, G.gl = glOf → G.scr = scr → Setup prog w h₀ mg mb G) : CallOk prog w h₀ (G1 scr) 2 := by
  refine callOk_of hs (fun vs σ K h => h) fun A hf s E Q ρ σ KK u us vs R hv h r => ?_
  have S := hs (G0 scr) rfl rfl
  have C : CallOk prog w h₀ (G0 scr) 0 := callOk0 hs
  have hf1 : Fits A (0 + 1) := hf.less (by decide)
  unfold c1 at h
  cases u <;> dsimp only at h <;> try exact h.elim
  case inTable =>
    split at h
    · exact fn_run (n := 20) (KK := KK) (fn32 _) S C hf1 R hv rfl (by rw [t32]; exact h) r
    · exact h.elim
  case strcoll =>
    split at h
    · rename_i a b
      exact fn_run (n := 20) (KK := KK) (fn46 _) S C hf1 R hv rfl (by rw [t46]; exact h) r
    · exact h.elim
  case lawSign =>
    split at h
    · exact fn_run (n := 20) (KK := KK) (fn102 _) S C hf1 R hv rfl (t102b scr _ _ _ fun l σ' hs => h σ' hs) r
    · exact fn_run (n := 20) (KK := KK) (fn102 _) S C hf1 R hv rfl (t102a scr _ _ _ fun l σ' hs => h σ' hs) r
    · exact h.elim
  case lawOrder =>
    split at h
    · exact fn_run (n := 20) (KK := KK) (fn114 _) S C hf1 R hv rfl (t114 scr _ _ _ fun l os σ' i h1 h2 h3 h4 => h os σ' i h1 h2 h3 h4) r
    · exact h.elim
  case getTok =>
    split at h
    · obtain ⟨p, v, vs, h1, h2, h3, h4⟩ := h
      exact fn_run (n := 20) (KK := KK) (fn74 _) S C hf1 R hv rfl (t74 scr _ p v vs _ _ h1 h2 h3 fun l => h4) r
    · exact h.elim
  case pushTok =>
    split at h
    · obtain ⟨p, vs, h1, h2, h3, h4⟩ := h
      exact fn_run (n := 20) (KK := KK) (fn81 _) S C hf1 R hv rfl (t81 scr _ p _ vs _ _ h1 h2 h3 fun l => h4) r
    · exact h.elim
  case lex => exact lex_ok (dp := 0) hs hf R hv h r
  case int2ap =>
    split at h
    · exact fn_run (n := 20) (KK := KK) (fn39 _) S C hf1 R hv rfl (t39 scr _ _ rfl h.1.1 h.1.2 _ _ fun l σ' hs => h.2 σ' hs) r
    · exact h.elim
  case lawCells =>
    split at h
    · obtain ⟨ns, ⟨h1, h2⟩, h3⟩ := h
      exact fn_run (n := 20) (KK := KK) (fn95 _) S C hf1 R hv rfl (t95 scr _ ns _ _ h1 h2 fun l cs σ' i a b c d => h3 cs σ' i a b c d) r
    · exact h.elim
  case lawWon =>
    split at h
    · obtain ⟨os, ⟨h1, h2⟩, h3⟩ := h
      exact fn_run (n := 20) (KK := KK) (fn134 _) S C hf1 R hv rfl (t134 scr _ os _ _ _ h1 h2 fun l σ' i a b c => h3 σ' i a b c) r
    · exact h.elim

/-! level two -/
noncomputable def c2 (scr : Value → Option (List V)) : Contract := fun f vs σ K => match f with
  | .lawBared => (match vs with
    | [.str x] => x.length ≤ 1000 ∧ ∀ σ', Sb σ σ' → K (.str (bare x)) σ'
    | _ => False)
  | f => c1 scr f vs σ K
noncomputable abbrev G2 (scr : Value → Option (List V)) : Ora := Gw scr (c2 scr)
theorem c2_ok (hs : ∀ G : Ora, G.gl = glOf → G.scr = scr → Setup prog w h₀ mg mb G) : CallOk prog w h₀ (G2 scr) 3 := by
  refine callOk_of hs (fun vs σ K h => h) fun A hf s E Q ρ σ KK u us vs R hv h r => ?_
  have S := hs (G1 scr) rfl rfl
  have C : CallOk prog w h₀ (G1 scr) 2 := c1_ok hs
  unfold c2 at h
  split at h
  · split at h
    · exact fn_run (n := 20) (KK := KK) (fn107 _) S C hf R hv rfl (t107 scr _ _ _ h.1 fun l σ' hs => h.2 σ' hs) r
    · exact h.elim
  · cases hb : isB u with
    | true =>
      cases u <;> first | (cases hb; done) | exact h.elim
    | false =>
      refine C.run A (hf.less (by decide)) s E Q ρ σ KK u us vs R hv ?_ r
      show (match isB u with
        | true => bcall scr u vs σ KK
        | false => c1 scr u vs σ KK)
      rw [hb]
      exact h
end
end Mine
end

section
open PySem PySem.W PyProof.Rows PySem.Calls
set_option linter.unusedVariables false
set_option linter.unusedSimpArgs false
set_option maxRecDepth 100000
namespace Mine

/-! words and names -/
noncomputable def bit (m p : Nat) : Bool := m / 2 ^ p % 2 == 1
structure GL (L : List Nat) : Prop where
  len : L.length = 4
  vis : ∀ c ∈ L, b1 (c : Int) = false
  nodup : L.Nodup
  lt : ∀ c ∈ L, c < 1114112
noncomputable def nm (L : List Nat) (m : Nat) : List Nat := ((List.range 4).filter (bit m)).map fun p => L.getD p 0
noncomputable def sgOk (L : List Nat) (m p c : Nat) : Prop := (bit m p = true → c = L.getD p 0) ∧ (bit m p = false → b1 (c : Int) = true)
structure Wd (L : List Nat) (m : Nat) (x : List Nat) : Prop where
  len : x.length = 4
  at_ : ∀ p c, x[p]? = some c → sgOk L m p c

theorem getD_mem' {L : List Nat} {p : Nat} (h : p < L.length) : L.getD p 0 ∈ L := by
  rw [List.getD, List.getElem?_eq_getElem h]; exact List.getElem_mem h

theorem bare_nm {L : List Nat} (hL : GL L) {m : Nat} {x : List Nat} (h : Wd L m x) : bare x = nm L m := by
  match x, h.len with
  | [a, b, c, d], _ =>
    have one : ∀ p c, p < 4 → [a, b, c, d][p]? = some c → True := fun _ _ _ _ => trivial
    have key : ∀ p y, p < 4 → sgOk L m p y → (b1 (y : Int) == false) = bit m p ∧ (bit m p = true → y = L.getD p 0) := by
      intro p y hp hs
      cases hb : bit m p with
      | true =>
        have e := hs.1 hb
        subst e
        refine ⟨?_, fun _ => rfl⟩
        rw [hL.vis _ (getD_mem' (by rw [hL.len]; exact hp))]
        rfl
      | false => exact ⟨by rw [hs.2 hb]; rfl, fun h => by cases h⟩
    obtain ⟨a1, a2⟩ := key 0 a (by decide) (h.at_ 0 a rfl)
    obtain ⟨b1', b2⟩ := key 1 b (by decide) (h.at_ 1 b rfl)
    obtain ⟨c1', c2⟩ := key 2 c (by decide) (h.at_ 2 c rfl)
    obtain ⟨d1, d2⟩ := key 3 d (by decide) (h.at_ 3 d rfl)
    unfold bare nm
    have hr : List.range 4 = [0, 1, 2, 3] := by decide
    rw [hr]
    simp only [List.filter_cons, List.filter_nil, a1, b1', c1', d1]
    cases ha : bit m 0 <;> cases hb : bit m 1 <;> cases hc : bit m 2 <;> cases hd : bit m 3 <;> simp_all

theorem sign_vis (n : Int) : b1 (signA n : Int) = false := by
  have h : ∀ c ∈ codesA, b1 (c : Int) = false := by decide +kernel
  have h0 := Int.emod_nonneg n (show (16 : Int) ≠ 0 by decide)
  have h1 := Int.emod_lt_of_pos n (show (0 : Int) < 16 by decide)
  exact h _ (getD_in (cs := codesA) (k := (n % 16).toNat) (by show (n % 16).toNat < 16; omega))
theorem sign_inv (n : Int) : b1 (signB n : Int) = true := by
  have h0 := Int.emod_nonneg n (show (27 : Int) ≠ 0 by decide)
  have h1 := Int.emod_lt_of_pos n (show (0 : Int) < 27 by decide)
  have h : ∀ k : Nat, k < 27 → b1 ((if (k : Int) < 11 then codesB.getD (k : Int).toNat 0 else (65013 + (k : Int)).toNat : Nat) : Int) = true := by decide +kernel
  have e : n % 27 = (((n % 27).toNat : Nat) : Int) := by omega
  unfold signB
  rw [e]
  exact h _ (by omega)
noncomputable def letters (first : Int) : List Nat := (List.range 4).map fun p : Nat => signA (first + 5 * (p : Int))
theorem letters_ok (first : Int) : GL (letters first) := by
  refine ⟨rfl, fun c hc => ?_, ?_, fun c hc => ?_⟩
  · obtain ⟨p, _, rfl⟩ := List.mem_map.mp hc
    exact sign_vis _
  · have h0 := Int.emod_nonneg first (show (16 : Int) ≠ 0 by decide)
    have h1 := Int.emod_lt_of_pos first (show (0 : Int) < 16 by decide)
    have h : ∀ k : Nat, k < 16 → ((List.range 4).map fun p : Nat => codesA.getD ((k + 5 * p) % 16) 0).Nodup := by decide +kernel
    have e : letters first = (List.range 4).map fun p : Nat => codesA.getD (((first % 16).toNat + 5 * p) % 16) 0 := by
      unfold letters signA
      refine List.map_congr_left fun p _ => ?_
      have : ((first + 5 * (p : Int)) % 16).toNat = ((first % 16).toNat + 5 * p) % 16 := by omega
      rw [this]
    rw [e]
    exact h _ (by omega)
  · obtain ⟨p, _, rfl⟩ := List.mem_map.mp hc
    have h : ∀ c ∈ codesA, c < 1114112 := by decide +kernel
    have h0 := Int.emod_nonneg (first + 5 * (p : Int)) (show (16 : Int) ≠ 0 by decide)
    have h1 := Int.emod_lt_of_pos (first + 5 * (p : Int)) (show (0 : Int) < 16 by decide)
    exact h _ (getD_in (cs := codesA) (k := ((first + 5 * (p : Int)) % 16).toNat) (by show ((first + 5 * (p : Int)) % 16).toNat < 16; omega))
theorem b1_lt {c : Nat} (h : b1 (c : Int) = true) : c < 1114112 := by
  have hm : (c : Int) ∈ b1List := by unfold b1 at h; simpa using h
  have hl : ∀ x ∈ b1List, x < 1114112 := by decide +kernel
  have := hl _ hm
  omega
theorem Wd.lt {L : List Nat} (hL : GL L) {m : Nat} {x : List Nat} (h : Wd L m x) : ∀ c ∈ x, c < 1114112 := by
  intro c hc
  obtain ⟨p, hp, e⟩ := List.getElem_of_mem hc
  have hs := h.at_ p c (by rw [List.getElem?_eq_getElem hp, e])
  cases hb : bit m p with
  | true =>
    rw [hs.1 hb]
    exact hL.lt _ (getD_mem' (by rw [hL.len, ← h.len]; exact hp))
  | false => exact b1_lt (hs.2 hb)

/-! a line and its names in the heap -/
structure LS (L : List Nat) (σ : List O) (i p ni : Nat) (ms : List Nat) (ws : List (List Nat)) : Prop where
  line : LineAt σ i p
  push : σ[p]? = some (.list (ws.map V.str))
  names : σ[ni]? = some (.list (ms.map fun m => V.str (nm L m)))
  len : ws.length = ms.length
  word : ∀ (k m : Nat) (x : List Nat), ms[k]? = some m → ws[k]? = some x → Wd L m x

theorem LineAt.sb {σ σ' : List O} {i p : Nat} (h : LineAt σ i p) (s : Sb σ σ') : LineAt σ' i p := by
  obtain ⟨j, h1, h2⟩ := h
  exact ⟨j, s.get _ _ h1, s.get _ _ h2⟩
theorem LineAt.set {σ : List O} {i p q : Nat} {xs : List V} {o : O} (h : LineAt σ i p) (hq : σ[q]? = some (.list xs)) : LineAt (σ.set q o) i p := by
  obtain ⟨j, h1, h2⟩ := h
  refine ⟨j, ?_, ?_⟩
  · rw [List.getElem?_set_ne (fun e => by subst e; rw [hq] at h1; cases h1)]; exact h1
  · rw [List.getElem?_set_ne (fun e => by subst e; rw [hq] at h2; cases h2)]; exact h2
theorem LS.sb {L : List Nat} {σ σ' : List O} {i p ni : Nat} {ms : List Nat} {ws : List (List Nat)} (h : LS L σ i p ni ms ws) (s : Sb σ σ') : LS L σ' i p ni ms ws :=
  ⟨h.line.sb s, s.get _ _ h.push, s.get _ _ h.names, h.len, h.word⟩
theorem LS.set {L : List Nat} {σ : List O} {i p ni q : Nat} {ms : List Nat} {ws : List (List Nat)} {xs : List V} {o : O} (h : LS L σ i p ni ms ws) (hq : σ[q]? = some (.list xs)) (h1 : q ≠ p) (h2 : q ≠ ni) : LS L (σ.set q o) i p ni ms ws :=
  ⟨h.line.set hq, by rw [List.getElem?_set_ne h1]; exact h.push, by rw [List.getElem?_set_ne h2]; exact h.names, h.len, h.word⟩
end Mine
end

section
open PySem PySem.W PyProof.Rows PySem.Calls
set_option linter.unusedVariables false
set_option linter.unusedSimpArgs false
set_option maxRecDepth 100000
namespace Mine

noncomputable def figs (f : Nat) : List Int := [1, ((f / 4096 % 16 : Nat) : Int), ((f / 256 % 16 : Nat) : Int), ((f / 16 % 16 : Nat) : Int), ((f % 16 : Nat) : Int)]
theorem apb_nat (d : Nat) (h : d < 16) : ((apb d).toNat : Int) - 65 = (d : Int) := by
  have : ∀ d, d < 16 → ((apb d).toNat : Int) - 65 = (d : Int) := by decide +kernel
  exact this d h
theorem dig (f k m : Nat) (h : 0 < k) : (m * 16 * k + f) / k % 16 = f / k % 16 := by
  rw [Nat.add_comm, Nat.add_mul_div_right _ _ h, Nat.add_mul_mod_self_right]
theorem figs_of {f : Nat} (hf : f < 65536) : (apOf (65536 + f)).map (fun c => ((c.toNat : Int) - 65)) = figs f := by
  unfold apOf figs
  simp only [List.map_cons, List.map_nil]
  have a0 : (65536 + f) / 65536 = 1 := by omega
  have a1 : (65536 + f) / 4096 % 16 = f / 4096 % 16 := dig f 4096 1 (by decide)
  have a2 : (65536 + f) / 256 % 16 = f / 256 % 16 := dig f 256 16 (by decide)
  have a3 : (65536 + f) / 16 % 16 = f / 16 % 16 := dig f 16 256 (by decide)
  have a4 : (65536 + f) % 16 = f % 16 := (Nat.add_comm _ _ ▸ Nat.add_mul_mod_self_right f 4096 16 : (4096 * 16 + f) % 16 = f % 16)
  rw [a0, a1, a2, a3, a4, apb_nat _ (by decide), apb_nat _ (Nat.mod_lt _ (by decide)), apb_nat _ (Nat.mod_lt _ (by decide)), apb_nat _ (Nat.mod_lt _ (by decide)), apb_nat _ (Nat.mod_lt _ (by decide))]
  rfl
theorem figs_in {f : Nat} {a : Int} (h : a ∈ figs f) : 0 ≤ a ∧ a ≤ 15 := by
  unfold figs at h
  simp only [List.mem_cons, List.not_mem_nil, or_false] at h
  omega
theorem bitI_bit (w p : Nat) : bitI (w : Int) p = bit w p := by
  unfold bitI bit
  have e : ((w : Int).fdiv (2 ^ p)).fmod 2 = ((w / 2 ^ p % 2 : Nat) : Int) := by
    rw [fmod_pos _ (by decide), Int.fdiv_eq_ediv_of_nonneg _ (by exact_mod_cast Nat.zero_le (2 ^ p))]
    push_cast
    rfl
  rw [e]
  have h : w / 2 ^ p % 2 = 0 ∨ w / 2 ^ p % 2 = 1 := by omega
  rcases h with h | h <;> rw [h] <;> rfl
theorem tb_mod (n k : Nat) : n / 2 ^ k % 2 = (n.testBit k).toNat := by
  rw [Nat.testBit_eq_decide_div_mod_eq]
  have h : n / 2 ^ k % 2 = 0 ∨ n / 2 ^ k % 2 = 1 := Nat.mod_two_eq_zero_or_one _
  rcases h with h | h <;> rw [h] <;> rfl
theorem fig_bit {f w : Nat} (hw : w < 16) : ∃ d : Int, (figs f)[4 - w / 4]? = some d ∧ (d.fdiv (2 ^ (w % 4))).fmod 2 = if bit f w then 1 else 0 := by
  have key : ∀ (n k : Nat), ((((n : Nat) : Int).fdiv (2 ^ k)).fmod 2) = ((n / 2 ^ k % 2 : Nat) : Int) := fun n k => by
    rw [fmod_pos _ (by decide), Int.fdiv_eq_ediv_of_nonneg _ (by exact_mod_cast Nat.zero_le (2 ^ k))]
    push_cast
    rfl
  have fin : ∀ a : Nat, w / 4 = a → (((f / 2 ^ (4 * a) % 2 ^ 4) / 2 ^ (w % 4) % 2 : Nat) : Int) = if bit f w then 1 else 0 := fun a ha => by
    have hb : w % 4 < 4 := Nat.mod_lt _ (by decide)
    have e : f.testBit w = bit f w := by
      unfold bit
      rw [Nat.testBit_eq_decide_div_mod_eq]
      by_cases h : f / 2 ^ w % 2 = 1 <;> simp [h]
    have e2 : w % 4 + 4 * a = w := by rw [← ha]; exact Nat.mod_add_div w 4
    rw [tb_mod, Nat.testBit_mod_two_pow, Nat.testBit_div_two_pow, e2, e, decide_eq_true hb]
    cases bit f w <;> rfl
  have hc : w / 4 = 0 ∨ w / 4 = 1 ∨ w / 4 = 2 ∨ w / 4 = 3 := by omega
  unfold figs
  rcases hc with h | h | h | h
  · rw [h]; exact ⟨_, rfl, by rw [key, ← fin 0 h, show f / 2 ^ (4 * 0) = f from Nat.div_one f]⟩
  · rw [h]; exact ⟨_, rfl, by rw [key, ← fin 1 h]⟩
  · rw [h]; exact ⟨_, rfl, by rw [key, ← fin 2 h]⟩
  · rw [h]; exact ⟨_, rfl, by rw [key, ← fin 3 h]⟩
noncomputable def fam (f i : Nat) (b : Bool) : List Nat := (List.range i).filter fun m => bit f m == b
structure Ln (L : List Nat) (f : Nat) (T σ : List O) (i : Nat) : Prop where
  sb : Sb T σ
  lines : σ[T.length + 6]? = some (.list [.ref (T.length + 1), .ref (T.length + 4)])
  names : σ[T.length + 9]? = some (.list [.ref (T.length + 7), .ref (T.length + 8)])
  in_ : ∃ ws, LS L σ (T.length + 1) (T.length + 2) (T.length + 7) (fam f i true) ws
  out : ∃ ws, LS L σ (T.length + 4) (T.length + 5) (T.length + 8) (fam f i false) ws
theorem Ln.grow {L : List Nat} {f i : Nat} {T σ σ' : List O} (h : Ln L f T σ i) (s : Sb σ σ') : Ln L f T σ' i :=
  ⟨h.sb.trans s, s.get _ _ h.lines, s.get _ _ h.names, let ⟨ws, x⟩ := h.in_; ⟨ws, x.sb s⟩, let ⟨ws, x⟩ := h.out; ⟨ws, x.sb s⟩⟩
end Mine
end

section
open PySem PySem.W PyProof.Rows PySem.Calls
set_option linter.unusedVariables false
set_option linter.unusedSimpArgs false
set_option maxRecDepth 100000
namespace Mine

noncomputable def b119 : List Stmt := match body119 with
  | [_, _, _, _, _, .For _ _ b _ _, _] => b
  | _ => []
noncomputable def i119 : List Stmt := match b119 with
  | _ :: .For _ _ b _ _ :: _ => b
  | _ => []
noncomputable abbrev base119 (f : Nat) (li : Nat) (first : Int) (told fig lines names : V) (r : Loc) : Loc := ("family", .int f) :: ("letters", .ref li) :: ("first", .int first) :: ("told", told) :: ("figures", fig) :: ("lines", lines) :: ("names", names) :: r
noncomputable abbrev mid119 (f : Nat) (li : Nat) (first : Int) (told fig lines names : V) (w : Nat) (x : List Nat) : Option (V × Option V) → Loc
  | none => base119 f li first told fig lines names [("wanted", .int w), ("word", .str x)]
  | some (p, none) => base119 f li first told fig lines names [("wanted", .int w), ("word", .str x), ("place", p)]
  | some (p, some k) => base119 f li first told fig lines names [("wanted", .int w), ("word", .str x), ("place", p), ("kind", k)]

noncomputable def kdOf : Option (V × Option V) → Option V
  | some (_, k) => k
  | none => none
/-- the word of a mask, sign by sign -/
theorem word119 (scr : Value → Option (List V)) (f li : Nat) (first : Int) (told fig lines names : V) (w : Nat) (p0 : Option (V × Option V)) (xs : List V) (σ τ : List O) (K : KS)
    (hxs : xs = (List.range 4).map fun k : Nat => V.int (0 + (k : Int) * 1)) (hl : σ[li]? = some (.list ((letters first).map fun c => V.str [c]))) (hs : Sb σ τ)
    (next : ∀ x τ' r, Wd (letters first) w x → Sb τ τ' → K .next (mid119 f li first told fig lines names w x (some r)) τ') :
    forGo (srcOk none xs) (fun l σ K => wpS (G2 scr) 12 sc119 l i119 σ K) "place" xs (mid119 f li first told fig lines names w [] p0) τ K := by
  refine forGo_rule (fun i l τ' => Sb τ τ' ∧ ∃ x p, l = mid119 f li first told fig lines names w x p ∧ (i = 0 ∨ p.isSome = true) ∧ x.length = i ∧ ∀ p c, x[p]? = some c → sgOk (letters first) w p c) 0
    ⟨Sb.refl _, [], p0, rfl, .inl rfl, rfl, fun p c h => by simp at h⟩ (fun i v l τ' KK hv hI hK => ?_) (fun l τ' hI => ?_)
  · obtain ⟨hs', x, p, rfl, -, hx, hw⟩ := hI
    rw [hxs, List.getElem?_map] at hv
    obtain ⟨k, hk, rfl⟩ := Option.map_eq_some_iff.mp hv
    obtain ⟨rfl, hlt⟩ := range_at hk
    have hx0 : (0 : Int) + (k : Int) * 1 = k := by omega
    rw [hx0]
    rw [Nat.zero_add] at hx hK
    refine And.intro trivial ?_
    have hpk : ((2 : Int) ^ (k : Int).toNat).natAbs < 1073741824 := pow_small (by omega)
    have hlet := hs'.get _ _ (hs.get _ _ hl)
    have snoc : ∀ c, sgOk (letters first) w k c → ∀ p c', (x ++ [c])[p]? = some c' → sgOk (letters first) w p c' := by
      intro c hc p c' h
      by_cases hp : p < x.length
      · rw [List.getElem?_append_left hp] at h; exact hw p c' h
      · rw [List.getElem?_append_right (by omega)] at h
        cases hz : p - x.length with
        | zero =>
          rw [hz] at h; cases h
          have : p = k := by omega
          subst this; exact hc
        | succ m => rw [hz] at h; simp at h
    obtain ⟨kd, hkd⟩ : ∃ kd, kd = kdOf p := ⟨_, rfl⟩
    have cs : p = none ∨ (∃ q, p = some (q, none)) ∨ ∃ q k, p = some (q, some k) := by
      rcases p with _ | ⟨q, _ | k⟩
      · exact .inl rfl
      · exact .inr (.inl ⟨q, rfl⟩)
      · exact .inr (.inr ⟨q, k, rfl⟩)
    rcases cs with rfl | ⟨q, rfl⟩ | ⟨q, k0, rfl⟩
    all_goals
      conv => whnf
      refine And.intro (And.intro rfl (And.intro (Int.natCast_nonneg _) (by omega))) ?_
      conv => whnf
      refine And.intro (And.intro (pow_ne _) hpk) ?_
      conv => whnf
      refine And.intro (by decide) ?_
      conv => whnf
      refine And.intro (fun hb => ?_) (fun hb => ?_)
      · conv => whnf
        rw [listOf_ref hlet]
        refine And.intro (And.intro (Int.natCast_nonneg _) (And.intro (by omega) (by rw [List.length_map]; show k < 4; exact hlt))) (fun wv hwv => ?_)
        have hcv : wv = .str [(letters first).getD k 0] := by
          rw [Int.toNat_natCast, List.getElem?_map] at hwv
          obtain ⟨c, hc, rfl⟩ := Option.map_eq_some_iff.mp hwv
          simp [List.getD, hc]
        subst hcv
        conv => whnf
        refine And.intro (by simp; omega) ?_
        refine hK _ _ ⟨hs', x ++ [(letters first).getD k 0], some (.int k, kd), (by rw [hkd]; rfl), .inr rfl, by simp [hx], snoc _ ⟨fun _ => rfl, fun h => ?_⟩⟩
        have hb' : bitI w k = true := hb
        rw [bitI_bit, h] at hb'
        cases hb'
      · conv => whnf
        refine And.intro (by decide) ?_
        conv => whnf
        intro σ2 s2
        refine And.intro (by simp; omega) ?_
        refine hK _ _ ⟨hs'.trans s2, x ++ [signB (first + 4 * (w : Int) + (k : Int))], some (.int k, kd), (by rw [hkd]; rfl), .inr rfl, by simp [hx], snoc _ ⟨fun h => ?_, fun _ => sign_inv _⟩⟩
        have hb' : bitI w k = false := hb
        rw [bitI_bit, h] at hb'
        cases hb'
  · obtain ⟨hs', x, p, rfl, hp, hx, hw⟩ := hI
    have hlen : 0 + xs.length = 4 := by rw [hxs]; simp
    rw [hlen] at hp hx
    refine And.intro trivial ?_
    cases p with
    | none => rcases hp with hp | hp <;> cases hp
    | some p => exact next x τ' p ⟨hx, hw⟩ hs'
end Mine
end

section
open PySem PySem.W PyProof.Rows PySem.Calls
set_option linter.unusedVariables false
set_option linter.unusedSimpArgs false
set_option maxRecDepth 100000
namespace Mine

theorem push_meth {σ : List O} {i p : Nat} (h : LineAt σ i p) : methOk (.ref i) "push_token" σ := by
  obtain ⟨j, h1, h2⟩ := h
  conv => whnf
  simp only [h1]
  conv => whnf
  simp only [h2]
  rfl
theorem get_meth {σ : List O} {i p : Nat} (h : LineAt σ i p) : methOk (.ref i) "get_token" σ := by
  obtain ⟨j, h1, h2⟩ := h
  conv => whnf
  simp only [h1]
  conv => whnf
  simp only [h2]
  rfl
theorem fam_succ (f w : Nat) (b : Bool) : fam f (w + 1) b = fam f w b ++ (if bit f w == b then [w] else []) := by
  unfold fam
  rw [List.range_succ, List.filter_append]
  congr 1
  cases h : (bit f w == b) <;> simp [h]
/-- a word and its name laid down -/
theorem LS.put {L : List Nat} {σ σ' : List O} {i p ni : Nat} {ms : List Nat} {ws : List (List Nat)} {m : Nat} {x : List Nat} (h : LS L σ i p ni ms ws) (hne : p ≠ ni) (hx : Wd L m x) (s : Sb (σ.set p (.list (ws.map V.str ++ [.str x]))) σ') :
    LS L (σ'.set ni (.list (ms.map (fun m => V.str (nm L m)) ++ [.str (nm L m)]))) i p ni (ms ++ [m]) (ws ++ [x]) := by
  have hp := lt_of_get h.push
  have hn' : σ'[ni]? = some (.list (ms.map fun m => V.str (nm L m))) := s.get _ _ (by rw [List.getElem?_set_ne hne]; exact h.names)
  refine ⟨((h.line.set h.push).sb s).set hn', ?_, ?_, by simp [h.len], fun k m' x' hm hx' => ?_⟩
  · rw [List.getElem?_set_ne (Ne.symm hne)]
    have := s.get p _ (List.getElem?_set_self hp)
    rw [this]; simp
  · rw [List.getElem?_set_self (lt_of_get hn')]; simp
  · have hl := h.len
    by_cases hk : k < ms.length
    · rw [List.getElem?_append_left hk] at hm
      rw [List.getElem?_append_left (by omega)] at hx'
      exact h.word k m' x' hm hx'
    · rw [List.getElem?_append_right (by omega)] at hm hx'
      rw [hl] at hx'
      cases hz : k - ms.length with
      | zero => rw [hz] at hm hx'; cases hm; cases hx'; exact hx
      | succ n => rw [hz] at hm; simp at hm
/-- after the word: its line, its name -/
theorem rest119 (scr : Value → Option (List V)) (f li fi : Nat) (hf : f < 65536) (first : Int) (told : V) (w : Nat) (hw : w < 16) (x : List Nat) (r : V × Option V) (T τ : List O) (KK : KS) (h : Ln (letters first) f T τ w) (hfi : τ[fi]? = some (.list ((figs f).map V.int))) (hx : Wd (letters first) w x)
    (next : ∀ τ' p k, Ln (letters first) f T τ' (w + 1) → KK .next (mid119 f li first told (.ref fi) (.ref (T.length + 6)) (.ref (T.length + 9)) w x (some (p, some k))) τ') :
    wpS (G2 scr) 12 sc119 (mid119 f li first told (.ref fi) (.ref (T.length + 6)) (.ref (T.length + 9)) w x (some r)) (b119.drop 2) τ KK := by
  obtain ⟨d, hd, hdv⟩ := fig_bit (f := f) hw
  have e4 : (w : Int).fdiv 4 = ((w / 4 : Nat) : Int) := by rw [Int.fdiv_eq_ediv_of_nonneg _ (by decide)]; omega
  have em : (w : Int).fmod 4 = ((w % 4 : Nat) : Int) := by rw [fmod_pos _ (by decide)]; omega
  have cs : (∃ q, r = (q, none)) ∨ ∃ q k, r = (q, some k) := by
    rcases r with ⟨q, _ | k⟩
    · exact .inl ⟨q, rfl⟩
    · exact .inr ⟨q, k, rfl⟩
  rcases cs with ⟨q, rfl⟩ | ⟨q, k0, rfl⟩
  all_goals
    conv => whnf
    refine And.intro (by decide) ?_
    rw [e4]
    conv => whnf
    rw [listOf_ref hfi]
    have ix : ((4 : Int) - ((w / 4 : Nat) : Int)).toNat = 4 - w / 4 := by omega
    refine And.intro (And.intro (by omega) (And.intro (by omega) (by rw [ix]; show 4 - w / 4 < 5; omega))) (fun wv hwv => ?_)
    rw [ix] at hwv
    obtain ⟨d', rfl, hd'⟩ := int_get hwv
    have hdd : d' = d := by
      rw [hd] at hd'; cases hd'; rfl
    subst hdd
    conv => whnf
    refine And.intro (by decide) ?_
    rw [em]
    conv => whnf
    refine And.intro (And.intro rfl (And.intro (by omega) (by omega))) ?_
    conv => whnf
    refine And.intro (And.intro (pow_ne _) (pow_small (by omega))) ?_
    rw [Int.toNat_natCast]
    conv => whnf
    refine And.intro (by decide) ?_
    rw [hdv]
    obtain ⟨ws0, L0⟩ := h.in_
    obtain ⟨ws1, L1⟩ := h.out
    have z0 : ws0.length ≤ 1000 := by rw [L0.len]; exact Nat.le_trans (List.length_filter_le _ _) (by rw [List.length_range]; omega)
    have z1 : ws1.length ≤ 1000 := by rw [L1.len]; exact Nat.le_trans (List.length_filter_le _ _) (by rw [List.length_range]; omega)
    have n0 : (fam f w true).length ≤ 1000 := by rw [← L0.len]; exact z0
    have n1 : (fam f w false).length ≤ 1000 := by rw [← L1.len]; exact z1
    have hbare : bare x = nm (letters first) w := bare_nm (letters_ok first) hx
    cases hb : bit f w with
    | true =>
      rw [if_pos rfl]
      conv => whnf
      rw [listOf_ref h.lines]
      refine And.intro (And.intro (by decide) (And.intro (by decide) (by show (0 : Nat) < 2; decide))) (fun lv hlv => ?_)
      obtain rfl : V.ref (T.length + 1) = lv := Option.some.inj hlv
      refine And.intro (push_meth L0.line) ?_
      conv => whnf
      refine ⟨_, _, L0.line, L0.push, by rw [List.length_map]; exact z0, ?_⟩
      conv => whnf
      refine And.intro (fun h => by cases h) (fun _ => ?_)
      have hnm := L0.names
      have hs1 : (τ.set (T.length + 2) (.list (ws0.map V.str ++ [.str x])))[T.length + 9]? = some (.list [.ref (T.length + 7), .ref (T.length + 8)]) := by rw [List.getElem?_set_ne (by omega)]; exact h.names
      have hs2 : (τ.set (T.length + 2) (.list (ws0.map V.str ++ [.str x])))[T.length + 7]? = some (.list ((fam f w true).map fun m => V.str (nm (letters first) m))) := by rw [List.getElem?_set_ne (by omega)]; exact hnm
      conv => whnf
      rw [listOf_ref hs1]
      refine And.intro (And.intro (by decide) (And.intro (by decide) (by show (0 : Nat) < 2; decide))) (fun lv hlv => ?_)
      obtain rfl : V.ref (T.length + 7) = lv := Option.some.inj hlv
      refine And.intro (by conv => whnf
                           simp only [hs2]) ?_
      conv => whnf
      refine And.intro (by rw [hx.len]; decide) (fun σ2 s2 => ?_)
      have hs3 := s2.get _ _ hs2
      conv => whnf
      simp only [hs3]
      refine And.intro (by rw [List.length_map]; omega) ?_
      rw [hbare]
      refine next _ q (.int (1 - 1)) ⟨?_, ?_, ?_, ⟨ws0 ++ [x], ?_⟩, ⟨ws1, ?_⟩⟩
      · exact ((h.sb.set (by omega) _).trans s2).set (by omega) _
      · rw [List.getElem?_set_ne (by omega)]
        refine s2.get _ _ ?_
        rw [List.getElem?_set_ne (by omega)]; exact h.lines
      · rw [List.getElem?_set_ne (by omega)]
        exact s2.get _ _ hs1
      · rw [fam_succ, hb]
        exact L0.put (by omega) hx s2
      · rw [fam_succ, hb]
        rw [show (if (true == false) = true then [w] else []) = ([] : List Nat) from rfl, List.append_nil]
        exact ((L1.set L0.push (by omega) (by omega)).sb s2).set hs3 (by omega) (by omega)
    | false =>
      rw [if_neg (by decide)]
      conv => whnf
      rw [listOf_ref h.lines]
      refine And.intro (And.intro (by decide) (And.intro (by decide) (by show (1 : Nat) < 2; decide))) (fun lv hlv => ?_)
      obtain rfl : V.ref (T.length + 4) = lv := Option.some.inj hlv
      refine And.intro (push_meth L1.line) ?_
      conv => whnf
      refine ⟨_, _, L1.line, L1.push, by rw [List.length_map]; exact z1, ?_⟩
      conv => whnf
      refine And.intro (fun h => by cases h) (fun _ => ?_)
      have hnm := L1.names
      have hs1 : (τ.set (T.length + 5) (.list (ws1.map V.str ++ [.str x])))[T.length + 9]? = some (.list [.ref (T.length + 7), .ref (T.length + 8)]) := by rw [List.getElem?_set_ne (by omega)]; exact h.names
      have hs2 : (τ.set (T.length + 5) (.list (ws1.map V.str ++ [.str x])))[T.length + 8]? = some (.list ((fam f w false).map fun m => V.str (nm (letters first) m))) := by rw [List.getElem?_set_ne (by omega)]; exact hnm
      conv => whnf
      rw [listOf_ref hs1]
      refine And.intro (And.intro (by decide) (And.intro (by decide) (by show (1 : Nat) < 2; decide))) (fun lv hlv => ?_)
      obtain rfl : V.ref (T.length + 8) = lv := Option.some.inj hlv
      refine And.intro (by conv => whnf
                           simp only [hs2]) ?_
      conv => whnf
      refine And.intro (by rw [hx.len]; decide) (fun σ2 s2 => ?_)
      have hs3 := s2.get _ _ hs2
      conv => whnf
      simp only [hs3]
      refine And.intro (by rw [List.length_map]; omega) ?_
      rw [hbare]
      refine next _ q (.int (1 - 0)) ⟨?_, ?_, ?_, ⟨ws0, ?_⟩, ⟨ws1 ++ [x], ?_⟩⟩
      · exact ((h.sb.set (by omega) _).trans s2).set (by omega) _
      · rw [List.getElem?_set_ne (by omega)]
        refine s2.get _ _ ?_
        rw [List.getElem?_set_ne (by omega)]; exact h.lines
      · rw [List.getElem?_set_ne (by omega)]
        exact s2.get _ _ hs1
      · rw [fam_succ, hb]
        rw [show (if (false == true) = true then [w] else []) = ([] : List Nat) from rfl, List.append_nil]
        exact ((L0.set L1.push (by omega) (by omega)).sb s2).set hs3 (by omega) (by omega)
      · rw [fam_succ, hb]
        exact L1.put (by omega) hx s2
end Mine
end

section
open PySem PySem.W PyProof.Rows PySem.Calls
set_option linter.unusedVariables false
set_option linter.unusedSimpArgs false
set_option maxRecDepth 100000
namespace Mine

noncomputable abbrev out119 (f : Nat) (li : Nat) (first : Int) (told fig lines names : V) : Option (V × List Nat × V × V) → Loc
  | none => base119 f li first told fig lines names []
  | some (wv, x, p, k) => base119 f li first told fig lines names [("wanted", wv), ("word", .str x), ("place", p), ("kind", k)]
theorem t119 (scr : Value → Option (List V)) (f : Nat) (hf : f < 65536) (first : Int) (li : Nat) (σ : List O) (K : KS) (hl : σ[li]? = some (.list ((letters first).map fun c => V.str [c])))
    (hk : ∀ (l : Loc) (T σ' : List O) (t : Nat), Sb σ T → T.length < t → Ln (letters first) f T σ' 16 → σ'[t]? = some (.tup [.ref (T.length + 6), .ref (T.length + 9)]) → K (.ret (.ref t)) l σ') :
    wpS (G2 scr) 20 sc119 (ps119.zip [.int f, .ref li, .int first]) body119 σ K := by
  have hm0 : 0 ≤ (f : Int) % 2 := Int.emod_nonneg _ (by decide)
  have hm1 : (f : Int) % 2 < 2 := Int.emod_lt_of_pos _ (by decide)
  conv => whnf
  refine And.intro (by show (2 : Nat) ≤ 1000; decide) ?_
  conv => whnf
  refine And.intro (by decide) ?_
  conv => whnf
  rw [listOf_new, fmod_pos _ (by decide)]
  refine And.intro (And.intro hm0 (And.intro (by omega) (by show ((f : Int) % 2).toNat < 2; omega))) (fun w hw => ?_)
  have hw2 : ∃ n : Int, w = .int n ∧ n.natAbs = 65536 + f := by
    rcases (by omega : ((f : Int) % 2).toNat = 0 ∨ ((f : Int) % 2).toNat = 1) with e | e
    · rw [e] at hw; cases hw; exact ⟨_, rfl, by omega⟩
    · rw [e] at hw; cases hw; exact ⟨_, rfl, by omega⟩
  obtain ⟨n, rfl, hn⟩ := hw2
  conv => whnf
  rw [hn]
  refine And.intro (And.intro (by omega) (by omega)) (fun σ1 s1 => ?_)
  conv => whnf
  refine And.intro (fun h => by cases h) (fun _ => ?_)
  conv => whnf
  refine And.intro (by show (5 : Nat) ≤ 1000; decide) ?_
  conv => whnf
  refine And.intro (fun h => by cases h) (fun _ => ?_)
  conv => whnf
  refine And.intro (fun h => by cases h) (fun _ => ?_)
  conv => whnf
  refine And.intro (by show (5 : Nat) ≤ 1000000; decide) (iterGo_rule (fun i acc τ => τ = σ1 ∧ acc = ((apOf (65536 + f)).take i).map fun c => V.int ((c.toNat : Int) - 65)) 0 ⟨rfl, rfl⟩ (fun i v acc τ KK hv hI hK => ?_) (fun acc τ hI => ?_))
  · obtain ⟨rfl, rfl⟩ := hI
    rw [List.getElem?_map] at hv
    obtain ⟨c, hc, rfl⟩ := Option.map_eq_some_iff.mp hv
    refine And.intro trivial ?_
    refine hK _ _ ⟨rfl, ?_⟩
    rw [Nat.zero_add, take_snoc hc, List.map_append]
    rfl
  obtain ⟨rfl, rfl⟩ := hI
  refine And.intro trivial ?_
  have eF : ((apOf (65536 + f)).take (0 + ((apOf (65536 + f)).map fun c => V.int (c.toNat : Int)).length)).map (fun c => V.int ((c.toNat : Int) - 65)) = (figs f).map V.int := by
    rw [← figs_of hf, List.map_map]
    simp
  rw [eF]
  conv => whnf
  rw [listOf_new]
  refine And.intro (And.intro (by decide) (And.intro (by decide) (by show (0 : Nat) < 5; decide))) (fun w hw => ?_)
  obtain rfl : V.int 1 = w := Option.some.inj hw
  conv => whnf
  refine And.intro (fun h => by cases h) (fun _ => ?_)
  conv => whnf
  rw [get_new]
  refine Exists.intro _ (And.intro rfl (And.intro (by show (0 : Nat) < 5; decide) (fun mn hmn _ => ?_)))
  have hmn' := figs_in hmn
  conv => whnf
  refine And.intro (fun h => absurd (of_decide_eq_true h) (by omega)) (fun _ => ?_)
  conv => whnf
  rw [get_new]
  refine Exists.intro _ (And.intro rfl (And.intro (by show (0 : Nat) < 5; decide) (fun mx hmx _ => ?_)))
  have hmx' := figs_in hmx
  conv => whnf
  refine And.intro (fun h => absurd (of_decide_eq_true h) (by omega)) (fun _ => ?_)
  conv => whnf
  refine And.intro (fun h => by cases h) (fun _ => ?_)
  conv => whnf
  refine And.intro (by show (2 : Nat) ≤ 1000; decide) ?_
  conv => whnf
  refine And.intro (by show (0 : Nat) ≤ 1000; decide) ?_
  conv => whnf
  refine And.intro (by show (0 : Nat) ≤ 1000; decide) ?_
  conv => whnf
  refine And.intro (by show (2 : Nat) ≤ 1000; decide) ?_
  conv => whnf
  refine And.intro (by show (2 : Nat) ≤ 1000; decide) ?_
  conv => whnf
  rw [get_new]
  generalize hT : τ ++ [O.list (List.map V.int (figs f))] = T
  simp only [List.length_append, List.length_cons, List.length_nil, List.append_assoc, List.cons_append, List.nil_append, Nat.add_assoc, Nat.reduceAdd, Nat.zero_add]
  generalize hH : T ++ [O.dct (lexFs (T.length + 2)), O.inst T.length, O.list [], O.dct (lexFs (T.length + 5)), O.inst (T.length + 3), O.list [], O.list [V.ref (T.length + 1), V.ref (T.length + 4)], O.list [], O.list [],
        O.list [V.ref (T.length + 7), V.ref (T.length + 8)], O.tup [V.ref (T.length + 6), V.ref (T.length + 9)]] = H
  have hfi : T[τ.length]? = some (.list ((figs f).map V.int)) := by rw [← hT]; exact get_new _ _
  have hsT : Sb σ T := by rw [← hT]; exact ((Sb.app _ _).trans s1).trans (Sb.app _ _)
  have gH : ∀ k o, ([O.dct (lexFs (T.length + 2)), O.inst T.length, O.list [], O.dct (lexFs (T.length + 5)), O.inst (T.length + 3), O.list [], O.list [V.ref (T.length + 1), V.ref (T.length + 4)], O.list [], O.list [],
        O.list [V.ref (T.length + 7), V.ref (T.length + 8)], O.tup [V.ref (T.length + 6), V.ref (T.length + 9)]] : List O)[k]? = some o → H[T.length + k]? = some o := fun k o e => by
    rw [← hH, List.getElem?_append_right (Nat.le_add_right _ _), Nat.add_sub_cancel_left]; exact e
  have hLn : Ln (letters first) f T H 0 := by
    refine ⟨hH ▸ Sb.app _ _, gH 6 _ rfl, gH 9 _ rfl, ⟨[], ⟨⟨_, gH 1 _ rfl, gH 0 _ rfl⟩, gH 2 _ rfl, gH 7 _ rfl, rfl, fun k m x h => by simp [fam] at h⟩⟩, ⟨[], ⟨⟨_, gH 4 _ rfl, gH 3 _ rfl⟩, gH 5 _ rfl, gH 8 _ rfl, rfl, fun k m x h => by simp [fam] at h⟩⟩⟩
  clear gH
  conv => whnf
  refine And.intro (by decide) ?_
  conv => whnf
  rw [items_rng (get_new _ _)]
  generalize hN : V.byt (apOf (65536 + f)) = told
  refine forGo_rule (fun i l τ' => Ln (letters first) f T τ' i ∧ ∃ r, l = out119 f li first told (.ref τ.length) (.ref (T.length + 6)) (.ref (T.length + 9)) r) 0 ⟨hLn.grow (Sb.app _ _), none, rfl⟩ (fun i v l τ' KK hv hI hK => ?_) (fun l τ' hI => ?_)
  · obtain ⟨h, r, rfl⟩ := hI
    rw [List.getElem?_map] at hv
    obtain ⟨k, hk', rfl⟩ := Option.map_eq_some_iff.mp hv
    obtain ⟨rfl, hlt⟩ := range_at hk'
    have hx0 : (0 : Int) + (k : Int) * 1 = k := by omega
    rw [hx0]
    rw [Nat.zero_add] at h hK
    refine And.intro trivial ?_
    have hsr : Sb σ (τ' ++ [O.rng 0 1 (Int.toNat 4)]) := (hsT.trans h.sb).trans (Sb.app _ _)
    have inner : ∀ p0, forGo (srcOk none ((List.range 4).map fun k : Nat => V.int (0 + (k : Int) * 1))) (fun l σ K => wpS (G2 scr) 12 sc119 l i119 σ K) "place" ((List.range 4).map fun k : Nat => V.int (0 + (k : Int) * 1))
        (mid119 f li first told (.ref τ.length) (.ref (T.length + 6)) (.ref (T.length + 9)) k [] p0) (τ' ++ [O.rng 0 1 (Int.toNat 4)]) (thenS (fun l σ K => wpS (G2 scr) 12 sc119 l (b119.drop 2) σ K) KK) := fun p0 =>
      word119 scr f li first told _ _ _ k p0 _ σ _ _ rfl hl hsr fun x τ2 r hx s2 =>
        rest119 scr f li τ.length hf first told k hlt x r T τ2 KK ((h.grow (Sb.app _ _)).grow s2) (s2.get _ _ ((Sb.app _ _).get _ _ (h.sb.get _ _ hfi))) hx fun τ3 p3 k3 h3 => hK _ _ ⟨h3, some (.int k, x, p3, k3), rfl⟩
    cases r with
    | none =>
      conv => whnf
      refine And.intro (by decide) ?_
      conv => whnf
      rw [items_rng (get_new _ _)]
      exact Eq.mp (by kernel_rfl) (inner none)
    | some r =>
      obtain ⟨w0, x0, p0, k0⟩ := r
      conv => whnf
      refine And.intro (by decide) ?_
      conv => whnf
      rw [items_rng (get_new _ _)]
      exact Eq.mp (by kernel_rfl) (inner (some (p0, some k0)))
  · obtain ⟨h, r, rfl⟩ := hI
    refine And.intro trivial ?_
    have hlen : 0 + (List.map (fun k : Nat => V.int (0 + (k : Int) * 1)) (List.range (Int.toNat 16))).length = 16 := by simp
    rw [hlen] at h
    have hlt : T.length < τ'.length := by have := lt_of_get h.lines; omega
    cases r
    all_goals
      conv => whnf
      refine And.intro (by show (2 : Nat) ≤ 1000; decide) ?_
      exact hk _ T _ _ hsT hlt (h.grow (Sb.app _ _)) (get_new _ _)
end Mine
end

section
open PySem PySem.W PyProof.Rows PySem.Calls
set_option linter.unusedVariables false
set_option linter.unusedSimpArgs false
set_option maxRecDepth 100000
namespace Mine

/-- all stays but what lies at `p` -/
structure Sx (p : Nat) (σ σ' : List O) : Prop where
  len : σ.length ≤ σ'.length
  get : ∀ (i : Nat) (o : O), i ≠ p → σ[i]? = some o → σ'[i]? = some o
theorem Sx.refl (p : Nat) (σ : List O) : Sx p σ σ := ⟨Nat.le_refl _, fun _ _ _ e => e⟩
theorem Sb.sx {σ σ' : List O} (h : Sb σ σ') (p : Nat) : Sx p σ σ' := ⟨h.len, fun i o _ e => h.get i o e⟩
theorem Sx.trans {p : Nat} {a b c : List O} (x : Sx p a b) (y : Sx p b c) : Sx p a c := ⟨Nat.le_trans x.len y.len, fun i o h e => y.get i o h (x.get i o h e)⟩
theorem Sx.set {p : Nat} {σ σ' : List O} (h : Sx p σ σ') (o : O) : Sx p σ (σ'.set p o) :=
  ⟨by rw [List.length_set]; exact h.len, fun i ob hi e => by rw [List.getElem?_set_ne (Ne.symm hi)]; exact h.get i ob hi e⟩
theorem Sx.set_new {p q : Nat} {σ σ' : List O} (h : Sx p σ σ') (hq : σ.length ≤ q) (o : O) : Sx p σ (σ'.set q o) :=
  ⟨by rw [List.length_set]; exact h.len, fun i ob hi e => by
    have := lt_of_get e
    rw [List.getElem?_set_ne (by omega)]; exact h.get i ob hi e⟩
theorem LineAt.sx {σ σ' : List O} {i p : Nat} {xs : List V} (h : LineAt σ i p) (hp : σ[p]? = some (.list xs)) (s : Sx p σ σ') : LineAt σ' i p := by
  obtain ⟨j, h1, h2⟩ := h
  exact ⟨j, s.get _ _ (fun e => by subst e; rw [hp] at h1; cases h1) h1, s.get _ _ (fun e => by subst e; rw [hp] at h2; cases h2) h2⟩

theorem dat_strs {σ : List O} {i : Nat} {xs : List (List Nat)} (h : σ[i]? = some (.list (xs.map V.str))) : dat 3 σ (.ref i) = some (.list (xs.map fun x => .str ⟨x.toArray⟩)) := by
  show (match σ[i]? with
    | some (.list xs) => (xs.mapM (dat 2 σ)).map PyData.list
    | _ => none) = _
  rw [h]
  clear h
  have : (xs.map V.str).mapM (dat 2 σ) = some (xs.map fun x => PyData.str ⟨x.toArray⟩) := by
    induction xs with
    | nil => rfl
    | cons x xs ih =>
      rw [List.map_cons, List.mapM_cons, ih]
      rfl
  dsimp only
  rw [this]; rfl
theorem dat_ints {σ : List O} {i : Nat} {xs : List Int} (h : σ[i]? = some (.list (xs.map V.int))) : dat 2 σ (.ref i) = some (.list (xs.map .int)) := by
  show (match σ[i]? with
    | some (.list xs) => (xs.mapM (dat 1 σ)).map PyData.list
    | _ => none) = _
  rw [h]
  clear h
  have : (xs.map V.int).mapM (dat 1 σ) = some (xs.map PyData.int) := by
    induction xs with
    | nil => rfl
    | cons x xs ih =>
      rw [List.map_cons, List.mapM_cons, ih]
      rfl
  dsimp only
  rw [this]; rfl
end Mine
end

section
open PySem PySem.W PyProof.Rows PySem.Calls
set_option linter.unusedVariables false
set_option linter.unusedSimpArgs false
set_option maxRecDepth 100000
namespace Mine

theorem eqvAll_strs : ∀ xs : List (List Nat), PyData.eqvAll (xs.map fun x => .str ⟨x.toArray⟩) (xs.map fun x => .str ⟨x.toArray⟩) = true
  | [] => by simp [PyData.eqvAll]
  | x :: xs => by
    simp only [List.map_cons, PyData.eqvAll, PyData.eqv, eqvAll_strs xs, Bool.and_true]
    simp
theorem eqv_strs (xs : List (List Nat)) : PyData.eqv (.list (xs.map fun x => .str ⟨x.toArray⟩)) (.list (xs.map fun x => .str ⟨x.toArray⟩)) = true := by
  simp only [PyData.eqv]; exact eqvAll_strs xs
theorem lay_strs : ∀ xs : List (List Nat), (∀ x ∈ xs, ∀ c ∈ x, c < 1114112) → PyData.canLayAll0 (xs.map fun x => .str ⟨x.toArray⟩) = true
  | [], _ => by simp [PyData.canLayAll0]
  | x :: xs, h => by
    simp only [List.map_cons, PyData.canLayAll0, PyData.canLay0, lay_strs xs fun y hy => h y (List.mem_cons_of_mem _ hy), Bool.and_true]
    unfold PyData.strOk
    simp
    exact fun c hc => h x List.mem_cons_self c hc
theorem depth_strs : ∀ xs : List (List Nat), PyData.depthAll (xs.map fun x => .str ⟨x.toArray⟩) = 0
  | [] => by simp [PyData.depthAll]
  | x :: xs => by simp [PyData.depthAll, PyData.depth, depth_strs xs]
theorem shaped_strs {xs : List (List Nat)} (h : ∀ x ∈ xs, ∀ c ∈ x, c < 1114112) : SeqAt.shaped (.list (xs.map fun x => .str ⟨x.toArray⟩)) = true := by
  unfold SeqAt.shaped
  simp only [PyData.canLay0, PyData.depth, lay_strs xs h, depth_strs]
  decide
theorem lay_ints : ∀ xs : List Int, PyData.canLayAll0 (xs.map .int) = true
  | [] => by simp [PyData.canLayAll0]
  | x :: xs => by simp [PyData.canLayAll0, PyData.canLay0, lay_ints xs]
theorem depth_ints : ∀ xs : List Int, PyData.depthAll (xs.map .int) = 0
  | [] => by simp [PyData.depthAll]
  | x :: xs => by simp [PyData.depthAll, PyData.depth, depth_ints xs]
theorem shaped_two (xs ys : List Int) : SeqAt.shaped (.list [.list (xs.map .int), .list (ys.map .int)]) = true := by
  unfold SeqAt.shaped
  simp only [PyData.canLay0, PyData.canLayAll0, PyData.depth, PyData.depthAll, lay_ints, depth_ints]
  decide
theorem eqvAll_ints : ∀ xs : List Int, PyData.eqvAll (xs.map .int) (xs.map .int) = true
  | [] => by simp [PyData.eqvAll]
  | x :: xs => by simp [PyData.eqvAll, PyData.eqv, eqvAll_ints xs]
theorem eqv_two (xs ys : List Int) : PyData.eqv (.list [.list (xs.map .int), .list (ys.map .int)]) (.list [.list (xs.map .int), .list (ys.map .int)]) = true := by
  simp [PyData.eqv, PyData.eqvAll, eqvAll_ints]
end Mine
end

section
open PySem PySem.W PyProof.Rows PySem.Calls
set_option linter.unusedVariables false
set_option linter.unusedSimpArgs false
set_option maxRecDepth 100000
namespace Mine

theorem drop_at {α : Type} {l : List α} {i : Nat} {x : α} (h : l[i]? = some x) : l.drop i = x :: l.drop (i + 1) := by
  have hi : i < l.length := by
    by_cases hi : i < l.length
    · exact hi
    · rw [List.getElem?_eq_none (by omega)] at h; cases h
  rw [List.getElem?_eq_getElem hi] at h
  cases h
  exact List.drop_eq_getElem_cons hi

noncomputable abbrev base129 (i : Nat) (n : Int) (wi li : Nat) (r : Loc) : Loc := ("line", .ref i) :: ("count", .int n) :: ("words", .ref wi) :: ("laid", .ref li) :: r
theorem frs {α : Type} (p : Nat → Bool) (f : Nat → α) (k : Nat) : ((List.range (k + 1)).filter p).map f = ((List.range k).filter p).map f ++ (if p k = true then [f k] else []) := by
  rw [List.range_succ, List.filter_append, List.map_append]
  congr 1
  by_cases hb : p k = true
  · rw [if_pos hb]; simp [hb]
  · rw [if_neg hb]; simp [hb]
noncomputable def b129 : List Stmt := match body129 with
  | [_, _, _, _, _, .For _ _ b _ _, _] => b
  | _ => []
noncomputable def maskL (x : List Nat) (k : Nat) : List Int := ((List.range k).filter fun p => b1 ((x.getD p 0 : Nat) : Int) == false).map fun p : Nat => (2 : Int) ^ p
theorem mask_sum {L : List Nat} (hL : GL L) {m : Nat} {x : List Nat} (h : Wd L m x) (hm : m < 16) : (maskL x 4).sum = (m : Int) := by
  have e : maskL x 4 = ((List.range 4).filter fun p => bit m p).map fun p : Nat => (2 : Int) ^ p := by
    unfold maskL
    congr 1
    refine List.filter_congr fun p hp => ?_
    rw [List.mem_range] at hp
    have hx : x[p]? = some (x.getD p 0) := by
      rw [List.getD, List.getElem?_eq_getElem (by rw [h.len]; exact hp)]; rfl
    have hs := h.at_ p _ hx
    cases hb : bit m p with
    | true =>
      rw [hs.1 hb, hL.vis _ (getD_mem' (by rw [hL.len]; exact hp))]; rfl
    | false => rw [hs.2 hb]; rfl
  rw [e]
  have all : ∀ m : Nat, m < 16 → (((List.range 4).filter fun p => bit m p).map fun p : Nat => (2 : Int) ^ p).sum = (m : Int) := by decide +kernel
  exact all m hm

theorem word129 (scr : Value → Option (List V)) (L : List Nat) (hL : GL L) (i : Nat) (n : Int) (wi li si : Nat) (m : Nat) (x : List Nat) (hx : Wd L m x) (hm : m < 16) (o : Option V) (ns : List Int) (τ : List O) (KK : KS) (hns : ns.length ≤ 100) (hsi : τ[si]? = some (.list (ns.map V.int)))
    (next : ∀ τ' t, Sx si τ τ' → τ'[si]? = some (.list ((ns ++ [(m : Int)]).map V.int)) → KK .next (base129 i n wi li [("word", .str x), ("sets", .ref si), ("told", t)]) τ') :
    wpS (G2 scr) 14 sc129 (base129 i n wi li (match o with | none => [("word", .str x), ("sets", .ref si)] | some t => [("word", .str x), ("sets", .ref si), ("told", t)])) b129 τ KK := by
  have hsl := lt_of_get hsi
  cases o
  all_goals
    conv => whnf
    refine And.intro (by rw [List.length_map, hx.len]; decide) ?_
    refine iterGo_rule (fun k acc τ' => τ' = τ ∧ acc = (x.take k).map fun c : Nat => V.bool (b1 (c : Int))) 0 ⟨rfl, rfl⟩ (fun k v acc τ' KK2 hv hI hK => ?_) (fun acc τ' hI => ?_)
    · obtain ⟨rfl, rfl⟩ := hI
      rw [List.getElem?_map] at hv
      obtain ⟨c, hc, rfl⟩ := Option.map_eq_some_iff.mp hv
      refine And.intro trivial ?_
      refine hK _ _ ⟨rfl, ?_⟩
      rw [Nat.zero_add, take_snoc hc, List.map_append]; rfl
    obtain ⟨rfl, rfl⟩ := hI
    refine And.intro trivial ?_
    have el : x.take (0 + (x.map fun c => V.str [c]).length) = x := by simp
    rw [el]
    have hT0 : (τ' ++ [O.list (x.map fun c : Nat => V.bool (b1 (c : Int)))])[τ'.length]? = some (.list (x.map fun c : Nat => V.bool (b1 (c : Int)))) := get_new _ _
    have hTs := (Sb.app τ' [O.list (x.map fun c : Nat => V.bool (b1 (c : Int)))]).get _ _ hsi
    have hSb := Sb.app τ' [O.list (x.map fun c : Nat => V.bool (b1 (c : Int)))]
    conv => whnf
    rw [items_list hT0]
    generalize hT : τ' ++ [O.list (x.map fun c : Nat => V.bool (b1 (c : Int)))] = T at hT0 hTs hSb
    refine And.intro (by rw [List.length_map, hx.len]; decide) ?_
    refine iterGo_rule (fun k acc τ2 => τ2 = T ∧ acc = []) 0 ⟨rfl, rfl⟩ (fun k v acc τ2 KK2 hv hI hK => ?_) (fun acc τ2 hI => ?_)
    · obtain ⟨rfl, rfl⟩ := hI
      rw [List.getElem?_map] at hv
      obtain ⟨c, hc, rfl⟩ := Option.map_eq_some_iff.mp hv
      refine And.intro hT0 ?_
      cases hb : b1 (c : Int)
      · conv => whnf
        refine And.intro (fun _ => ?_) (fun h => by cases h)
        conv => whnf
        refine And.intro (fun h => by cases h) (fun _ => ?_)
        conv => whnf
        refine And.intro (fun h => by cases h) (fun _ => ?_)
        exact hK _ _ ⟨rfl, rfl⟩
      · conv => whnf
        refine And.intro (fun h => by cases h) (fun _ => ?_)
        conv => whnf
        refine And.intro (fun h => by cases h) (fun _ => ?_)
        exact hK _ _ ⟨rfl, rfl⟩
    obtain ⟨rfl, rfl⟩ := hI
    refine And.intro hT0 ?_
    conv => whnf
    refine And.intro (by decide) ?_
    have hA : Sb τ2 (τ2 ++ [O.list []] ++ [O.list []]) := (Sb.app _ _).trans (Sb.app _ _)
    have d1 := dat_strs (σ := τ2 ++ [O.list []] ++ [O.list []]) (i := τ2.length) (xs := []) ((Sb.app _ _).get _ _ (get_new _ _))
    have d2 := dat_strs (σ := τ2 ++ [O.list []] ++ [O.list []]) (i := (τ2 ++ [O.list []]).length) (xs := []) (get_new _ _)
    conv => whnf
    refine ⟨_, _, d1, d2, ⟨shaped_strs (fun x hx => by cases hx), shaped_strs (fun x hx => by cases hx)⟩, ?_⟩
    rw [eqv_strs]
    have hT1 := hA.get _ _ hT0
    have hsi1 := hA.get _ _ hTs
    generalize τ2 ++ [O.list []] ++ [O.list []] = U at hA hT1 hsi1
    conv => whnf
    refine And.intro (fun h => by cases h) (fun _ => ?_)
    conv => whnf
    refine And.intro (by conv => whnf
                         simp only [hsi1]) ?_
    conv => whnf
    refine And.intro (by decide) ?_
    conv => whnf
    rw [items_rng (get_new _ _)]
    refine And.intro (by decide) ?_
    refine iterGo_rule (fun k acc τ3 => τ3 = U ++ [O.rng 0 1 (Int.toNat 4)] ∧ acc = (maskL x k).map V.int) 0 ⟨rfl, rfl⟩ (fun k v acc τ3 KK2 hv hI hK => ?_) (fun acc τ3 hI => ?_)
    · obtain ⟨rfl, rfl⟩ := hI
      rw [List.getElem?_map] at hv
      obtain ⟨k', hk', rfl⟩ := Option.map_eq_some_iff.mp hv
      obtain ⟨rfl, hlt⟩ := range_at hk'
      have hlt4 : k' < 4 := hlt
      have hx0 : (0 : Int) + (k' : Int) * 1 = k' := by omega
      rw [hx0]
      rw [Nat.zero_add] at hK ⊢
      have hxk : x[k']? = some (x.getD k' 0) := by
        rw [List.getD, List.getElem?_eq_getElem (by rw [hx.len]; exact hlt4)]; rfl
      have hstep : maskL x (k' + 1) = maskL x k' ++ (if b1 ((x.getD k' 0 : Nat) : Int) == false then [(2 : Int) ^ k'] else []) := by
        exact frs _ _ _
      refine And.intro trivial ?_
      conv => whnf
      rw [listOf_ref ((Sb.app _ _).get _ _ hT1)]
      refine And.intro (And.intro (Int.natCast_nonneg _) (And.intro (by omega) (by rw [List.length_map, hx.len]; omega))) (fun w hw => ?_)
      have hwv : w = V.bool (b1 ((x.getD k' 0 : Nat) : Int)) := by
        rw [Int.toNat_natCast, List.getElem?_map, hxk] at hw
        exact (Option.some.inj hw).symm
      subst hwv
      cases hb : b1 ((x.getD k' 0 : Nat) : Int)
      · conv => whnf
        refine And.intro (fun _ => ?_) (fun h => by cases h)
        conv => whnf
        refine And.intro (And.intro rfl (And.intro (Int.natCast_nonneg _) (by omega))) ?_
        refine hK _ _ ⟨rfl, ?_⟩
        rw [hstep, hb, List.map_append]; rfl
      · conv => whnf
        refine And.intro (fun h => by cases h) (fun _ => ?_)
        refine hK _ _ ⟨rfl, ?_⟩
        rw [hstep, hb]; simp
    obtain ⟨rfl, rfl⟩ := hI
    refine And.intro trivial ?_
    have el4 : 0 + ((List.range (Int.toNat 4)).map fun k : Nat => V.int (0 + (k : Int) * 1)).length = 4 := by simp
    rw [el4]
    conv => whnf
    rw [get_new]
    refine ⟨_, rfl, ?_⟩
    have hV : Sb U (U ++ [O.rng 0 1 (Int.toNat 4)] ++ [O.list ((maskL x 4).map V.int)]) := (Sb.app _ _).trans (Sb.app _ _)
    have hsi2 := hV.get _ _ hsi1
    conv => whnf
    rw [mask_sum hL hx hm]
    simp only [hsi2]
    refine And.intro (by rw [List.length_map]; omega) ?_
    refine next _ (.ref τ'.length) ((((hSb.trans hA).trans hV).sx si).set _) ?_
    rw [List.getElem?_set_self (lt_of_get hsi2), List.map_append]; rfl
theorem t129 (scr : Value → Option (List V)) (L : List Nat) (hL : GL L) (i p ni : Nat) (ms : List Nat) (ws : List (List Nat)) (σ : List O) (K : KS) (h : LS L σ i p ni ms ws) (hz : ms.length ≤ 16) (hm : ∀ m ∈ ms, m < 16)
    (hk : ∀ (l : Loc) (ns : List Int) (σ' : List O) (r : Nat), ns.Perm (ms.map fun m : Nat => (m : Int)) → ns.Pairwise (· ≤ ·) → Sx p σ σ' → σ.length ≤ r → σ'[r]? = some (.list (ns.map V.int)) → K (.ret (.ref r)) l σ') :
    wpS (G2 scr) 20 sc129 (ps129.zip [.ref i, .int (ms.length : Int)]) body129 σ K := by
  have hlen := h.len
  conv => whnf
  refine And.intro (by omega) ?_
  conv => whnf
  rw [items_rng (get_new _ _), Int.toNat_natCast]
  refine And.intro (by simp; omega) ?_
  refine iterGo_rule (fun k acc τ => Sx p σ τ ∧ τ[p]? = some (.list ((ws.drop k).map V.str)) ∧ acc = (ws.take k).map V.str) 0 ⟨(Sb.app _ _).sx p, (Sb.app _ _).get _ _ h.push, rfl⟩ (fun k v acc τ KK hv hI hK => ?_) (fun acc τ hI => ?_)
  · obtain ⟨hs, hp, rfl⟩ := hI
    rw [List.getElem?_map] at hv
    obtain ⟨k', hk, rfl⟩ := Option.map_eq_some_iff.mp hv
    obtain ⟨rfl, hlt⟩ := range_at hk
    rw [Nat.zero_add] at hp hK ⊢
    have hwk : ws[k']? = some ws[k'] := List.getElem?_eq_getElem (by omega)
    have hline := h.line.sx h.push hs
    refine And.intro trivial ?_
    conv => whnf
    refine And.intro (get_meth hline) ?_
    conv => whnf
    rw [drop_at hwk, List.map_cons] at hp
    refine ⟨p, _, _, hline, hp, by rw [List.length_map, List.length_drop]; omega, ?_⟩
    refine hK _ _ ⟨hs.set _, List.getElem?_set_self (lt_of_get hp), ?_⟩
    rw [take_snoc hwk, List.map_append]; rfl
  obtain ⟨hs, hp, rfl⟩ := hI
  refine And.intro trivial ?_
  have el : 0 + ((List.range ms.length).map fun k : Nat => V.int (0 + (k : Int) * 1)).length = ws.length := by simp [hlen]
  rw [el] at hp ⊢
  rw [List.drop_length] at hp
  rw [List.take_length]
  conv => whnf
  rw [get_new]
  generalize hT : τ ++ [O.list (List.map V.str ws)] = T
  have hsT : Sb τ T := hT ▸ Sb.app _ _
  have hTw : T[τ.length]? = some (.list (ws.map V.str)) := by rw [← hT]; exact get_new _ _
  refine And.intro (And.intro (by rw [List.length_map]; omega) (And.intro trivial (And.intro (by decide) (by decide)))) ?_
  have ec : cut none (some 2) (ws.map V.str) = (ws.take 2).map V.str := by
    show ((ws.map V.str).take 2).drop 0 = _
    rw [List.drop_zero, List.map_take]
  rw [ec]
  have hl2 : (ws.take 2).length ≤ 2 := by rw [List.length_take]; omega
  conv => whnf
  refine And.intro (by decide) ?_
  conv => whnf
  have q1 : (T ++ [O.list ((ws.take 2).map V.str)] ++ [O.list [V.str (Str.ofString "").cps.toList]])[T.length]? = some (.list ((ws.take 2).map V.str)) := (Sb.app _ _).get _ _ (get_new _ _)
  have q2 : (T ++ [O.list ((ws.take 2).map V.str)] ++ [O.list [V.str (Str.ofString "").cps.toList]])[(T ++ [O.list ((ws.take 2).map V.str)]).length]? = some (.list [V.str (Str.ofString "").cps.toList]) := get_new _ _
  simp only [q1, q2]
  refine And.intro (by rw [List.length_map]; simp; omega) ?_
  conv => whnf
  have e0 : V.str (Str.ofString "").cps.toList = V.str [] := rfl
  rw [e0]
  generalize hB : T ++ [O.list ((ws.take 2).map V.str)] ++ [O.list [V.str []]] = B
  have hBT : Sb T B := by rw [← hB]; exact (Sb.app _ _).trans (Sb.app _ _)
  have q3 : (B ++ [O.list ((ws.take 2).map V.str ++ [V.str []])])[τ.length]? = some (.list (ws.map V.str)) := (Sb.app _ _).get _ _ (hBT.get _ _ hTw)
  simp only [q3]
  refine And.intro (And.intro (by rw [List.length_map]; omega) (And.intro trivial (And.intro (by decide) (by decide)))) ?_
  rw [ec]
  conv => whnf
  have q4 : (B ++ [O.list ((ws.take 2).map V.str ++ [V.str []])] ++ [O.list ((ws.take 2).map V.str)])[B.length]? = some (.list ((ws.take 2).map V.str ++ [V.str []])) := (Sb.app _ _).get _ _ (get_new _ _)
  have q5 : (B ++ [O.list ((ws.take 2).map V.str ++ [V.str []])] ++ [O.list ((ws.take 2).map V.str)])[(B ++ [O.list ((ws.take 2).map V.str ++ [V.str []])]).length]? = some (.list ((ws.take 2).map V.str)) := get_new _ _
  simp only [q4, q5]
  refine And.intro (by rw [List.length_append, List.length_map]; simp; omega) ?_
  have eL : (ws.take 2).map V.str ++ [V.str []] ++ (ws.take 2).map V.str = (ws.take 2 ++ [[]] ++ ws.take 2).map V.str := by simp
  rw [eL]
  generalize hlaid : ws.take 2 ++ [[]] ++ ws.take 2 = laid
  have hll : laid.length ≤ 5 := by rw [← hlaid]; simp; omega
  generalize hC : B ++ [O.list ((ws.take 2).map V.str ++ [V.str []])] ++ [O.list ((ws.take 2).map V.str)] = C
  have hCB : Sb B C := by rw [← hC]; exact (Sb.app _ _).trans (Sb.app _ _)
  have hlt : ∀ x ∈ laid, ∀ c ∈ x, c < 1114112 := by
    have hw : ∀ x ∈ ws, ∀ c ∈ x, c < 1114112 := fun x hx => by
      obtain ⟨k, hk, e⟩ := List.getElem_of_mem hx
      have hmk : ms[k]? = some (ms[k]'(by omega)) := List.getElem?_eq_getElem (by omega)
      exact (h.word k _ x hmk (by rw [List.getElem?_eq_getElem hk, e])).lt hL
    rw [← hlaid]
    intro x hx
    rcases List.mem_append.mp hx with hx | hx
    · rcases List.mem_append.mp hx with hx | hx
      · exact hw x (List.mem_of_mem_take hx)
      · rw [List.mem_singleton] at hx; subst hx; intro c hc; cases hc
    · exact hw x (List.mem_of_mem_take hx)
  have hCx : Sx p σ C := (hs.trans (((hsT.trans hBT).trans hCB).sx p))
  have hCp : C[p]? = some (.list []) := hCB.get _ _ (hBT.get _ _ (hsT.get _ _ hp))
  have hCw : C[τ.length]? = some (.list (ws.map V.str)) := hCB.get _ _ (hBT.get _ _ hTw)
  have hpC : p < C.length := lt_of_get hCp
  have hwC : τ.length < C.length := lt_of_get hCw
  have hpw : p ≠ τ.length := by have := lt_of_get hp; omega
  clear hC hB hT q1 q2 q3 q4 q5
  conv => whnf
  rw [items_list (get_new _ _)]
  have hDl : (C ++ [O.list (laid.map V.str)])[C.length]? = some (.list (laid.map V.str)) := get_new _ _
  have hDx : Sx p σ (C ++ [O.list (laid.map V.str)]) := hCx.trans ((Sb.app _ _).sx p)
  have hDp := (Sb.app C [O.list (laid.map V.str)]).get _ _ hCp
  have hDw := (Sb.app C [O.list (laid.map V.str)]).get _ _ hCw
  generalize C ++ [O.list (laid.map V.str)] = D at hDl hDx hDp hDw
  refine forGo_rule (fun k l τ' => Sx p D τ' ∧ τ'[p]? = some (.list ((laid.take k).map V.str)) ∧ ∃ o, l = base129 i ms.length τ.length C.length (match o with | none => [] | some v => [("word", v)]) ∧ (k = 0 ∨ o.isSome = true)) 0 ⟨Sx.refl _ _, hDp, none, rfl, .inl rfl⟩ (fun k v l τ' KK hv hI hK => ?_) (fun l τ' hI => ?_)
  · obtain ⟨hx, hp', o, rfl, -⟩ := hI
    have hsrc : τ'[C.length]? = some (.list (laid.map V.str)) := hx.get _ _ (by omega) hDl
    rw [List.getElem?_map] at hv
    obtain ⟨x, hxk, rfl⟩ := Option.map_eq_some_iff.mp hv
    rw [Nat.zero_add] at hp' hK
    have hline : LineAt τ' i p := h.line.sx h.push (hDx.trans hx)
    refine And.intro hsrc ?_
    cases o
    all_goals
      conv => whnf
      refine And.intro (push_meth hline) ?_
      conv => whnf
      refine ⟨p, _, hline, hp', by rw [List.length_map, List.length_take]; omega, ?_⟩
      refine hK _ _ ⟨hx.set _, ?_, some (.str x), rfl, .inr rfl⟩
      rw [List.getElem?_set_self (lt_of_get hp'), take_snoc hxk, List.map_append]; rfl
  obtain ⟨hx, hp', o, rfl, ho⟩ := hI
  have hsrc : τ'[C.length]? = some (.list (laid.map V.str)) := hx.get _ _ (by omega) hDl
  refine And.intro hsrc ?_
  have el2 : 0 + (laid.map V.str).length = laid.length := by simp
  rw [el2] at hp' ho
  rw [List.take_length] at hp'
  have hl1 : 0 < laid.length := by rw [← hlaid]; simp; omega
  cases o with
  | none => rcases ho with ho | ho <;> first | omega | cases ho
  | some v0 =>
    conv => whnf
    rw [items_list hsrc]
    refine And.intro (by rw [List.length_map]; omega) ?_
    refine iterGo_rule (fun k acc τ2 => Sx p τ' τ2 ∧ τ2[p]? = some (.list ((laid.drop k).map V.str)) ∧ acc = (laid.take k).map V.str) 0 ⟨Sx.refl _ _, hp', rfl⟩ (fun k v acc τ2 KK hv hI hK => ?_) (fun acc τ2 hI => ?_)
    · obtain ⟨hx2, hp2, rfl⟩ := hI
      rw [List.getElem?_map] at hv
      obtain ⟨x, hxk, rfl⟩ := Option.map_eq_some_iff.mp hv
      rw [Nat.zero_add] at hp2 hK ⊢
      have hline : LineAt τ2 i p := h.line.sx h.push ((hDx.trans hx).trans hx2)
      refine And.intro (hx2.get _ _ (by omega) hsrc) ?_
      conv => whnf
      refine And.intro (get_meth hline) ?_
      conv => whnf
      rw [drop_at hxk, List.map_cons] at hp2
      refine ⟨p, _, _, hline, hp2, by rw [List.length_map, List.length_drop]; omega, ?_⟩
      refine hK _ _ ⟨hx2.set _, List.getElem?_set_self (lt_of_get hp2), ?_⟩
      rw [take_snoc hxk, List.map_append]; rfl
    obtain ⟨hx2, hp2, rfl⟩ := hI
    rw [el2] at hp2 ⊢
    rw [List.take_length]
    have hsrc2 := hx2.get _ _ (by omega) hsrc
    refine And.intro hsrc2 ?_
    conv => whnf
    refine ⟨_, _, dat_strs (get_new _ _), dat_strs ((Sb.app _ _).get _ _ hsrc2), ⟨shaped_strs hlt, shaped_strs hlt⟩, ?_⟩
    rw [eqv_strs]
    conv => whnf
    refine And.intro (fun h => by cases h) (fun _ => ?_)
    conv => whnf
    refine And.intro (by decide) ?_
    have hw2 : τ2[τ.length]? = some (.list (ws.map V.str)) := hx2.get _ _ (Ne.symm hpw) (hx.get _ _ (Ne.symm hpw) hDw)
    conv => whnf
    rw [items_list ((Sb.app _ _).get _ _ ((Sb.app _ _).get _ _ hw2))]
    generalize hsiE : (τ2 ++ [O.list (laid.map V.str)]).length = si
    have hE0 : Sb τ2 (τ2 ++ [O.list (laid.map V.str)] ++ [O.list []]) := (Sb.app _ _).trans (Sb.app _ _)
    have hEw := hE0.get _ _ hw2
    have hEs : (τ2 ++ [O.list (laid.map V.str)] ++ [O.list []])[si]? = some (.list []) := by rw [← hsiE]; exact get_new _ _
    have hsil : τ2.length ≤ si := by rw [← hsiE]; simp
    generalize τ2 ++ [O.list (laid.map V.str)] ++ [O.list []] = E at hE0 hEw hEs
    have hwl := lt_of_get hw2
    have hEx : Sx p σ E := ((hDx.trans hx).trans hx2).trans (hE0.sx p)
    have hσsi : σ.length ≤ si := Nat.le_trans (Nat.le_trans (Nat.le_trans hDx.len hx.len) hx2.len) hsil
    refine forGo_rule (fun k l τ' => Sx si E τ' ∧ τ'[si]? = some (.list (((ms.take k).map fun m : Nat => (m : Int)).map V.int)) ∧ ∃ v o, l = base129 i ms.length τ.length C.length (match (o : Option V) with | none => [("word", v), ("sets", .ref si)] | some t => [("word", v), ("sets", .ref si), ("told", t)])) 0 ⟨Sx.refl _ _, hEs, v0, none, rfl⟩ (fun k v l τ' KK hv hI hK => ?_) (fun l τ' hI => ?_)
    · obtain ⟨hx3, hs3, v1, o1, rfl⟩ := hI
      rw [List.getElem?_map] at hv
      obtain ⟨x, hxk, rfl⟩ := Option.map_eq_some_iff.mp hv
      rw [Nat.zero_add] at hs3 hK
      have hkl : k < ms.length := by have := (List.getElem?_eq_some_iff.mp hxk).1; omega
      have hmk : ms[k]? = some ms[k] := List.getElem?_eq_getElem hkl
      have hwd := h.word k ms[k] x hmk hxk
      refine And.intro (hx3.get _ _ (by omega) hEw) ?_
      have hsn : (ms.take (k + 1)).map (fun m : Nat => (m : Int)) = (ms.take k).map (fun m : Nat => (m : Int)) ++ [((ms[k] : Nat) : Int)] := by rw [take_snoc hmk, List.map_append]; rfl
      have go := word129 scr L hL i ms.length τ.length C.length si ms[k] x hwd (hm _ (List.getElem_mem hkl)) o1 _ τ' KK (by rw [List.length_map, List.length_take]; omega) hs3 fun τ3 t hx4 hs4 => hK _ _ ⟨hx3.trans hx4, by rw [hs4, hsn], .str x, some t, rfl⟩
      cases o1
      · exact Eq.mp (by kernel_rfl) go
      · exact Eq.mp (by kernel_rfl) go
    obtain ⟨hx3, hs3, v1, o1, rfl⟩ := hI
    have el3 : 0 + (ws.map V.str).length = ms.length := by simp [hlen]
    rw [el3, List.take_length] at hs3
    refine And.intro (hx3.get _ _ (by omega) hEw) ?_
    cases o1
    all_goals
      conv => whnf
      rw [hs3]
      refine ⟨_, rfl, by rw [List.length_map]; omega, fun ns' hp1 hp2 => ?_⟩
      refine hk _ ns' _ _ hp1 hp2 ?_ ?_ (get_new _ _)
      · have hf : Sx p σ τ' := ⟨Nat.le_trans hEx.len hx3.len, fun q o hq e => hx3.get q o (by have := lt_of_get e; omega) (hEx.get q o hq e)⟩
        exact hf.trans ((Sb.app _ _).sx p)
      · exact Nat.le_trans hEx.len hx3.len
end Mine
end

section
open PySem PySem.W PyProof.Rows PySem.Calls
set_option linter.unusedVariables false
set_option linter.unusedSimpArgs false
set_option maxRecDepth 100000
namespace Mine

/-! names and masks -/
noncomputable def clr (m p : Nat) : Nat := if bit m p then m - 2 ^ p else m
theorem clr_lt {m p : Nat} (h : m < 16) : clr m p < 16 := by
  unfold clr; split
  · exact Nat.lt_of_le_of_lt (Nat.sub_le _ _) h
  · exact h
theorem bit_clr {m p : Nat} (hm : m < 16) (hp : p < 4) : ∀ q, q < 4 → bit (clr m p) q = (bit m q && q != p) := by
  have h : ∀ m, m < 16 → ∀ p, p < 4 → ∀ q, q < 4 → bit (clr m p) q = (bit m q && q != p) := by decide +kernel
  exact h m hm p hp
theorem bit_inj {m n : Nat} (hm : m < 16) (hn : n < 16) (h : ∀ q, q < 4 → bit m q = bit n q) : m = n := by
  have all : ∀ m, m < 16 → ∀ n, n < 16 → (List.range 4).all (fun q => bit m q == bit n q) = true → m = n := by decide +kernel
  refine all m hm n hn (List.all_eq_true.mpr fun q hq => ?_)
  rw [List.mem_range] at hq
  rw [h q hq]; simp
theorem getD_inj {L : List Nat} (h : L.Nodup) {p q : Nat} (hp : p < L.length) (hq : q < L.length) (e : L.getD p 0 = L.getD q 0) : p = q := by
  rw [List.getD, List.getD, List.getElem?_eq_getElem hp, List.getElem?_eq_getElem hq] at e
  have hpw := List.pairwise_iff_getElem.mp h
  rcases Nat.lt_trichotomy p q with x | x | x
  · exact absurd e (hpw p q hp hq x)
  · exact x
  · exact absurd e.symm (hpw q p hq hp x)
theorem mem_nm {L : List Nat} (hL : GL L) {m p : Nat} (hp : p < 4) : L.getD p 0 ∈ nm L m ↔ bit m p = true := by
  unfold nm
  constructor
  · intro h
    obtain ⟨q, hq, e⟩ := List.mem_map.mp h
    obtain ⟨h1, h2⟩ := List.mem_filter.mp hq
    rw [List.mem_range] at h1
    have := getD_inj hL.nodup (by rw [hL.len]; exact h1) (by rw [hL.len]; exact hp) e
    subst this; exact h2
  · intro h
    exact List.mem_map.mpr ⟨p, List.mem_filter.mpr ⟨List.mem_range.mpr hp, h⟩, rfl⟩
theorem nm_inj {L : List Nat} (hL : GL L) {m n : Nat} (hm : m < 16) (hn : n < 16) (h : nm L m = nm L n) : m = n := by
  refine bit_inj hm hn fun q hq => ?_
  have := (mem_nm hL (m := m) hq)
  rw [h, mem_nm hL hq] at this
  cases a : bit m q <;> cases b : bit n q <;> simp [a, b] at this <;> rfl
theorem nm_nodup {L : List Nat} (hL : GL L) (m : Nat) : (nm L m).Nodup := by
  have hr : ((List.range 4).filter (bit m)).Nodup := List.Pairwise.filter _ List.nodup_range
  unfold nm
  rw [List.Nodup, List.pairwise_map]
  refine List.Pairwise.imp_of_mem (fun {a b} ha hb hab e => ?_) hr
  refine hab (getD_inj hL.nodup ?_ ?_ e)
  · rw [hL.len]; exact List.mem_range.mp (List.mem_filter.mp ha).1
  · rw [hL.len]; exact List.mem_range.mp (List.mem_filter.mp hb).1
theorem nm_len (L : List Nat) (m : Nat) : (nm L m).length ≤ 4 := by
  unfold nm
  rw [List.length_map]
  exact List.length_filter_le _ _
theorem nm_lt {L : List Nat} (hL : GL L) (m : Nat) : ∀ c ∈ nm L m, c < 1114112 := by
  intro c hc
  obtain ⟨q, hq, rfl⟩ := List.mem_map.mp hc
  exact hL.lt _ (getD_mem' (by rw [hL.len]; exact List.mem_range.mp (List.mem_filter.mp hq).1))

/-! a sign laid in -/
noncomputable def putAt (x : List Nat) (p c : Nat) : List Nat := x.take p ++ [c] ++ x.drop (p + 1)
theorem putAt_set {x : List Nat} {p c : Nat} (h : p < x.length) : putAt x p c = x.set p c := by
  unfold putAt
  rw [List.set_eq_take_append_cons_drop, if_pos h]
  simp
theorem Wd.put {L : List Nat} (hL : GL L) {m p c : Nat} {x : List Nat} (h : Wd L m x) (hm : m < 16) (hp : p < 4) (hc : b1 (c : Int) = true) : Wd L (clr m p) (putAt x p c) := by
  have hpl : p < x.length := by rw [h.len]; exact hp
  rw [putAt_set hpl]
  refine ⟨by rw [List.length_set]; exact h.len, fun q d e => ?_⟩
  have hq : q < 4 := by have := (List.getElem?_eq_some_iff.mp e).1; rw [List.length_set, h.len] at this; exact this
  by_cases hqp : q = p
  · subst hqp
    rw [List.getElem?_set_self hpl] at e
    cases e
    refine ⟨fun hb => ?_, fun _ => hc⟩
    rw [bit_clr hm hp q hp] at hb
    simp at hb
  · rw [List.getElem?_set_ne (Ne.symm hqp)] at e
    have hs := h.at_ q d e
    unfold sgOk
    rw [bit_clr hm hp q hq]
    have : (q != p) = true := by simpa using hqp
    rw [this, Bool.and_true]
    exact hs

/-! strcoll -/
noncomputable def coll (a b : List Nat) : Int := (if decide (b < a) = true then 1 else 0) - (if decide (a < b) = true then 1 else 0)
theorem coll_self (a : List Nat) : coll a a = 0 := by
  unfold coll; omega
theorem lex_cons (a b : Nat) (x y : List Nat) : a :: x < b :: y ↔ a < b ∨ a = b ∧ x < y := List.cons_lt_cons_iff
theorem lex_tri : ∀ (a b : List Nat), a < b ∨ a = b ∨ b < a
  | [], [] => .inr (.inl rfl)
  | [], _ :: _ => .inl (by simp)
  | _ :: _, [] => .inr (.inr (by simp))
  | a :: x, b :: y => by
    rw [lex_cons, lex_cons]
    rcases Nat.lt_trichotomy a b with h | h | h
    · exact .inl (.inl h)
    · subst h
      rcases lex_tri x y with h | h | h
      · exact .inl (.inr ⟨rfl, h⟩)
      · exact .inr (.inl (by rw [h]))
      · exact .inr (.inr (.inr ⟨rfl, h⟩))
    · exact .inr (.inr (.inl h))
theorem lex_asymm : ∀ {a b : List Nat}, a < b → ¬ b < a
  | [], [], h => by simp at h
  | [], _ :: _, _ => by simp
  | _ :: _, [], h => by simp at h
  | a :: x, b :: y, h => by
    rw [lex_cons] at h ⊢
    intro g
    rcases h with h | ⟨h, h'⟩ <;> rcases g with g | ⟨g, g'⟩
    · omega
    · omega
    · omega
    · exact lex_asymm h' g'
theorem coll_eq {a b : List Nat} : (coll a b == 0) = decide (a = b) := by
  by_cases h : a = b
  · subst h; rw [coll_self]; simp
  · have hne : coll a b ≠ 0 := by
      unfold coll
      rcases lex_tri a b with h1 | h1 | h1
      · simp [h1, lex_asymm h1]
      · exact absurd h1 h
      · simp [h1, lex_asymm h1]
    simp [h, hne]
theorem coll_of_lt {a b : List Nat} (h : a < b) : coll a b = -1 := by
  unfold coll
  simp [h, lex_asymm h]
theorem coll_of_gt {a b : List Nat} (h : b < a) : coll a b = 1 := by
  unfold coll
  simp [h, lex_asymm h]
/-- a gap's sign -/
noncomputable def sg (g : Int) : Int := if g = 0 then 0 else g.fdiv (if g < 0 then -g else g)
theorem sg_pos {g : Int} (h : 0 < g) : sg g = 1 := by
  unfold sg
  rw [if_neg (by omega), if_neg (by omega), Int.fdiv_self (by omega)]
theorem sg_neg {g : Int} (h : g < 0) : sg g = -1 := by
  unfold sg
  rw [if_neg (by omega), if_pos h]
  have e : g = -1 * (-g) := by omega
  rw [e, show -(-1 * -g) = -g by omega, Int.mul_fdiv_cancel _ (by omega)]
theorem coll_at (a : Nat) (b : Nat) (hne : a ≠ b) : ∀ (x y z : List Nat), coll (x ++ a :: y) (x ++ b :: z) = sg ((a : Int) - (b : Int)) := by
  have go : ∀ (a b : Nat) (x y z : List Nat), a < b → x ++ a :: y < x ++ b :: z := by
    intro a b x y z h
    induction x with
    | nil => exact (lex_cons _ _ _ _).mpr (.inl h)
    | cons c x ih => exact (lex_cons _ _ _ _).mpr (.inr ⟨rfl, ih⟩)
  intro x y z
  rcases Nat.lt_trichotomy a b with h | h | h
  · rw [coll_of_lt (go a b x y z h), sg_neg (by omega)]
  · exact absurd h hne
  · rw [coll_of_gt (go b a x z y h), sg_pos (by omega)]
end Mine
end

section
open PySem PySem.W PyProof.Rows PySem.Calls
set_option linter.unusedVariables false
set_option linter.unusedSimpArgs false
set_option maxRecDepth 100000
namespace Mine

/-- all stays but what lies at `a`, at `b` -/
structure Sy (a b : Nat) (σ σ' : List O) : Prop where
  len : σ.length ≤ σ'.length
  get : ∀ (i : Nat) (o : O), i ≠ a → i ≠ b → σ[i]? = some o → σ'[i]? = some o
theorem Sy.refl (a b : Nat) (σ : List O) : Sy a b σ σ := ⟨Nat.le_refl _, fun _ _ _ _ e => e⟩
theorem Sb.sy {σ σ' : List O} (h : Sb σ σ') (a b : Nat) : Sy a b σ σ' := ⟨h.len, fun i o _ _ e => h.get i o e⟩
theorem Sy.trans {p q : Nat} {a b c : List O} (x : Sy p q a b) (y : Sy p q b c) : Sy p q a c := ⟨Nat.le_trans x.len y.len, fun i o h h' e => y.get i o h h' (x.get i o h h' e)⟩
theorem Sy.set {a b : Nat} {σ σ' : List O} (h : Sy a b σ σ') (o : O) : Sy a b σ (σ'.set a o) :=
  ⟨by rw [List.length_set]; exact h.len, fun i ob hi hj e => by rw [List.getElem?_set_ne (Ne.symm hi)]; exact h.get i ob hi hj e⟩
theorem Sy.set' {a b : Nat} {σ σ' : List O} (h : Sy a b σ σ') (o : O) : Sy a b σ (σ'.set b o) :=
  ⟨by rw [List.length_set]; exact h.len, fun i ob hi hj e => by rw [List.getElem?_set_ne (Ne.symm hj)]; exact h.get i ob hi hj e⟩

theorem dat_ints3 {σ : List O} {i : Nat} {xs : List Int} (h : σ[i]? = some (.list (xs.map V.int))) : dat 3 σ (.ref i) = some (.list (xs.map .int)) := by
  show (match σ[i]? with
    | some (.list xs) => (xs.mapM (dat 2 σ)).map PyData.list
    | _ => none) = _
  rw [h]
  clear h
  have : (xs.map V.int).mapM (dat 2 σ) = some (xs.map PyData.int) := by
    induction xs with
    | nil => rfl
    | cons x xs ih =>
      rw [List.map_cons, List.mapM_cons, ih]
      rfl
  dsimp only
  rw [this]; rfl
theorem shaped_ints (xs : List Int) : SeqAt.shaped (.list (xs.map .int)) = true := by
  unfold SeqAt.shaped
  simp only [PyData.canLay0, PyData.depth, lay_ints, depth_ints]
  decide
theorem eqv_ints (xs : List Int) : PyData.eqv (.list (xs.map .int)) (.list (xs.map .int)) = true := by
  simp only [PyData.eqv]; exact eqvAll_ints xs
theorem eqv_strs_nil (xs : List (List Nat)) : PyData.eqv (.list (xs.map fun x => .str ⟨x.toArray⟩)) (.list (([] : List (List Nat)).map fun x => .str ⟨x.toArray⟩)) = xs.isEmpty := by
  cases xs <;> simp [PyData.eqv, PyData.eqvAll]

noncomputable def b124 : List Stmt := match body124 with
  | [_, _, .For _ _ b _ _, _] => b
  | _ => []
noncomputable abbrev base124 (i ni : Nat) (place : Nat) (c : Nat) (first : Int) (wi le : Nat) (r : Loc) : Loc :=
  ("line", .ref i) :: ("names", .ref ni) :: ("place", .int place) :: ("letter", .str [c]) :: ("first", .int first) :: ("without", .ref wi) :: ("left", .ref le) :: r
noncomputable abbrev end124 (i ni : Nat) (place : Nat) (c : Nat) (first : Int) (wi le : Nat) : Option (V × V × V × V × Option (V × V)) → Loc
  | none => base124 i ni place c first wi le []
  | some (a, b, d, e, none) => base124 i ni place c first wi le [("turn", a), ("word", b), ("bare", d), ("told", e)]
  | some (a, b, d, e, some (f, g)) => base124 i ni place c first wi le [("turn", a), ("word", b), ("bare", d), ("told", e), ("asked", f), ("gaps", g)]

noncomputable abbrev fg124 (i ni : Nat) (place : Nat) (c : Nat) (first : Int) (wi le : Nat) (k x y t : V) : Option (V × V) → Loc
  | none => base124 i ni place c first wi le [("turn", k), ("word", x), ("bare", y), ("told", t)]
  | some (f, g) => base124 i ni place c first wi le [("turn", k), ("word", x), ("bare", y), ("told", t), ("asked", f), ("gaps", g)]
/-- the words without the letter that are told alike -/
noncomputable def alike (L : List Nat) (wo : List Nat) (n : Nat) : List Nat := wo.filter fun w => coll (nm L w) (nm L n) == 0
theorem alike_nil {L : List Nat} (hL : GL L) {wo : List Nat} {n : Nat} (hwo : ∀ w ∈ wo, w < 16) (hn : n < 16) : (alike L wo n).isEmpty = !wo.contains n := by
  have e : alike L wo n = wo.filter fun w => w == n := by
    unfold alike
    refine List.filter_congr fun w hw => ?_
    rw [coll_eq]
    by_cases h : w = n
    · subst h; simp
    · have : ¬ nm L w = nm L n := fun q => h (nm_inj hL (hwo w hw) hn q)
      simp [h, this]
  rw [e]
  cases hc : wo.contains n with
  | true =>
    have hm : n ∈ wo := by simpa using hc
    have : n ∈ wo.filter fun w => w == n := List.mem_filter.mpr ⟨hm, by simp⟩
    cases h : wo.filter fun w => w == n with
    | nil => rw [h] at this; cases this
    | cons => rfl
  | false =>
    have hm : ¬ n ∈ wo := by simpa using hc
    have : (wo.filter fun w => w == n) = [] := List.filter_eq_nil_iff.mpr fun a ha h => by
      have e : a = n := by simpa using h
      subst e; exact hm ha
    rw [this]; rfl
theorem if124 (scr : Value → Option (List V)) (L : List Nat) (hL : GL L) (i p ni : Nat) (place : Nat) (hpl : place < 4) (c : Nat) (first : Int) (wi le : Nat) (k : Nat) (x y : V) (n : Nat) (hn : n < 16)
    (wo : List Nat) (fg : Option (V × V)) (τ : List O) (KK : KS)
    (hwi : τ[wi]? = some (.list (wo.map fun m => V.str (nm L m)))) (hwo : ∀ n ∈ wo, n < 16) (hwl : wo.length ≤ 100)
    (yes : ∀ τ', wo.contains n = false → Sb τ τ' → wpS (G2 scr) 13 sc124 (fg124 i ni place c first wi le (.int k) x y (.str (nm L n)) fg) (match b124.drop 3 with | [.If _ b _ _] => b | _ => []) τ' (thenS (fun l σ K => wpS (G2 scr) 13 sc124 l [] σ K) KK))
    (no : ∀ τ', wo.contains n = true → Sb τ τ' → wpS (G2 scr) 13 sc124 (fg124 i ni place c first wi le (.int k) x y (.str (nm L n)) fg) (match b124.drop 3 with | [.If _ _ b _] => b | _ => []) τ' (thenS (fun l σ K => wpS (G2 scr) 13 sc124 l [] σ K) KK)) :
    wpS (G2 scr) 14 sc124 (fg124 i ni place c first wi le (.int k) x y (.str (nm L n)) fg) (b124.drop 3) τ KK := by
  have hlx := hwl
  have cs : fg = none ∨ ∃ f g, fg = some (f, g) := by
    rcases fg with _ | ⟨f, g⟩
    · exact .inl rfl
    · exact .inr ⟨f, g, rfl⟩
  rcases cs with rfl | ⟨f, g, rfl⟩
  all_goals
    conv => whnf
    rw [items_list hwi]
    refine And.intro (by rw [List.length_map]; omega) ?_
    refine iterGo_rule (fun k acc τ' => τ' = τ ∧ acc = (alike L (wo.take k) n).map fun m => V.str (nm L m)) 0 ⟨rfl, rfl⟩ (fun k v acc τ' KK2 hv hI hK => ?_) (fun acc τ' hI => ?_)
    · obtain ⟨rfl, rfl⟩ := hI
      rw [List.getElem?_map] at hv
      obtain ⟨w, hw, rfl⟩ := Option.map_eq_some_iff.mp hv
      rw [Nat.zero_add] at hK ⊢
      have hst : ∀ b : Bool, (coll (nm L w) (nm L n) == 0) = b → alike L (wo.take (k + 1)) n = alike L (wo.take k) n ++ (if b then [w] else []) := fun b hb => by
        unfold alike
        rw [take_snoc hw, List.filter_append]
        congr 1
        cases b <;> simp [hb]
      refine And.intro hwi ?_
      conv => whnf
      refine And.intro (fun hb => ?_) (fun hb => ?_)
      · refine hK _ _ ⟨rfl, ?_⟩
        rw [hst true hb, List.map_append]; rfl
      · refine hK _ _ ⟨rfl, ?_⟩
        rw [hst false hb]; simp
    obtain ⟨rfl, rfl⟩ := hI
    refine And.intro hwi ?_
    have el : wo.take (0 + (wo.map fun m => V.str (nm L m)).length) = wo := by simp
    rw [el]
    conv => whnf
    refine And.intro (by decide) ?_
    have em : (alike L wo n).map (fun m => V.str (nm L m)) = ((alike L wo n).map (nm L)).map V.str := by rw [List.map_map]; rfl
    have d1 : dat 3 (τ' ++ [O.list ((alike L wo n).map fun m => V.str (nm L m))] ++ [O.list []]) (.ref τ'.length) = _ := dat_strs (xs := (alike L wo n).map (nm L)) (by rw [← em]; exact (Sb.app _ _).get _ _ (get_new _ _))
    have d2 : dat 3 (τ' ++ [O.list ((alike L wo n).map fun m => V.str (nm L m))] ++ [O.list []]) (.ref (τ' ++ [O.list ((alike L wo n).map fun m => V.str (nm L m))]).length) = _ := dat_strs (xs := []) (get_new _ _)
    have hs : Sb τ' (τ' ++ [O.list ((alike L wo n).map fun m => V.str (nm L m))] ++ [O.list []]) := (Sb.app _ _).trans (Sb.app _ _)
    conv => whnf
    refine ⟨_, _, d1, d2, ⟨shaped_strs (fun x hx => ?_), shaped_strs (fun x hx => by cases hx)⟩, ?_⟩
    · obtain ⟨w, _, rfl⟩ := List.mem_map.mp hx
      exact nm_lt hL w
    rw [eqv_strs_nil, show ((alike L wo n).map (nm L)).isEmpty = (alike L wo n).isEmpty from by cases alike L wo n <;> rfl, alike_nil hL hwo hn]
    cases hb : wo.contains n with
    | true =>
      conv => whnf
      refine And.intro (fun h => by cases h) (fun _ => ?_)
      exact no _ hb hs
    | false =>
      conv => whnf
      refine And.intro (fun _ => ?_) (fun h => by cases h)
      exact yes _ hb hs
end Mine
end

section
open PySem PySem.W PyProof.Rows PySem.Calls
set_option linter.unusedVariables false
set_option linter.unusedSimpArgs false
set_option maxRecDepth 100000
namespace Mine
noncomputable def yes124 : List Stmt := match b124.drop 3 with | [.If _ b _ _] => b | _ => []
noncomputable def no124 : List Stmt := match b124.drop 3 with | [.If _ _ b _] => b | _ => []
noncomputable abbrev endK (scr : Value → Option (List V)) (KK : KS) : KS := thenS (fun l σ K => wpS (G2 scr) 13 sc124 l [] σ K) KK

theorem no_turn (scr : Value → Option (List V)) (L : List Nat) (hL : GL L) (i p ni : Nat) (place : Nat) (c : Nat) (first : Int) (wi le : Nat) (k m : Nat) (x : List Nat) (y t : V)
    (ms acc : List Nat) (rest : List V) (fg : Option (V × V)) (τ : List O) (KK : KS)
    (hline : LineAt τ i p) (hp : τ[p]? = some (.list rest)) (hrest : rest.length ≤ 100)
    (hni : τ[ni]? = some (.list (ms.map fun m => V.str (nm L m)))) (hk : ms[k]? = some m) (hkl : k ≤ 100)
    (hle : τ[le]? = some (.list (acc.map fun m => V.str (nm L m)))) (hacc : acc.length ≤ 100) (hd : p ≠ ni ∧ p ≠ le)
    (next : ∀ τ', Sy p le τ τ' → τ'[p]? = some (.list (rest ++ [.str x])) → τ'[le]? = some (.list ((acc ++ [m]).map fun m => V.str (nm L m))) →
      KK .next (fg124 i ni place c first wi le (.int k) (.str x) y t fg) τ') :
    wpS (G2 scr) 13 sc124 (fg124 i ni place c first wi le (.int k) (.str x) y t fg) no124 τ (endK scr KK) := by
  have hlx := hkl
  have cs : fg = none ∨ ∃ f g, fg = some (f, g) := by
    rcases fg with _ | ⟨f, g⟩
    · exact .inl rfl
    · exact .inr ⟨f, g, rfl⟩
  have hkl2 : k < ms.length := (List.getElem?_eq_some_iff.mp hk).1
  rcases cs with rfl | ⟨f, g, rfl⟩
  all_goals
    conv => whnf
    refine And.intro (push_meth hline) ?_
    conv => whnf
    refine ⟨p, _, hline, hp, by omega, ?_⟩
    have hni' : (τ.set p (.list (rest ++ [.str x])))[ni]? = some (.list (ms.map fun m => V.str (nm L m))) := by rw [List.getElem?_set_ne hd.1]; exact hni
    have hle' : (τ.set p (.list (rest ++ [.str x])))[le]? = some (.list (acc.map fun m => V.str (nm L m))) := by rw [List.getElem?_set_ne hd.2]; exact hle
    conv => whnf
    refine And.intro (by conv => whnf
                         simp only [hle']) ?_
    conv => whnf
    rw [listOf_ref hni']
    refine And.intro (And.intro (Int.natCast_nonneg _) (And.intro (by omega) (by rw [List.length_map]; omega))) (fun w hw => ?_)
    have hwv : w = V.str (nm L m) := by
      rw [Int.toNat_natCast, List.getElem?_map, hk] at hw
      exact (Option.some.inj hw).symm
    subst hwv
    conv => whnf
    simp only [hle']
    refine And.intro (by rw [List.length_map]; omega) ?_
    refine next _ ((((Sy.refl p le τ)).set _).set' _) ?_ ?_
    · rw [List.getElem?_set_ne (Ne.symm hd.2), List.getElem?_set_self (lt_of_get hp)]
    · rw [List.getElem?_set_self (lt_of_get hle'), List.map_append]; rfl
end Mine
end

section
open PySem PySem.W PyProof.Rows PySem.Calls
set_option linter.unusedVariables false
set_option linter.unusedSimpArgs false
set_option maxRecDepth 100000
namespace Mine
theorem eqv_ints_ne (xs : List Int) : (!PyData.eqv (.list (xs.map .int)) (.list (xs.map .int))) = false := by rw [eqv_ints]; rfl
theorem yes_tail (scr : Value → Option (List V)) (L : List Nat) (hL : GL L) (i p ni : Nat) (place : Nat) (c : Nat) (first : Int) (wi le : Nat) (k m : Nat) (x y : List Nat)
    (acc : List Nat) (rest : List V) (ai gi : Nat) (as gs : List Int) (τ : List O) (KK : KS)
    (hline : LineAt τ i p) (hp : τ[p]? = some (.list rest)) (hrest : rest.length ≤ 100)
    (hle : τ[le]? = some (.list (acc.map fun m => V.str (nm L m)))) (hacc : acc.length ≤ 100) (hd : p ≠ le)
    (ha : τ[ai]? = some (.list (as.map V.int))) (hg : τ[gi]? = some (.list (gs.map V.int))) (hag : as = gs.map sg) (hgl : gs.length ≤ 100) (hgs : ∀ g ∈ gs, g.natAbs < 1073741824)
    (next : ∀ τ', Sy p le τ τ' → τ'[p]? = some (.list (rest ++ [.str y])) → τ'[le]? = some (.list ((acc ++ [m]).map fun m => V.str (nm L m))) →
      KK .next (fg124 i ni place c first wi le (.int k) (.str x) (.str y) (.str (nm L m)) (some (.ref ai, .ref gi))) τ') :
    wpS (G2 scr) 11 sc124 (fg124 i ni place c first wi le (.int k) (.str x) (.str y) (.str (nm L m)) (some (.ref ai, .ref gi))) (yes124.drop 2) τ (endK scr KK) := by
  have hlx := hacc
  have hal : as.length ≤ 100 := by rw [hag, List.length_map]; exact hgl
  conv => whnf
  rw [items_list hg]
  refine And.intro (by rw [List.length_map]; omega) ?_
  refine iterGo_rule (fun k acc τ' => τ' = τ ∧ acc = ((gs.take k).map sg).map V.int) 0 ⟨rfl, rfl⟩ (fun k v acc τ' KK2 hv hI hK => ?_) (fun acc τ' hI => ?_)
  · obtain ⟨rfl, rfl⟩ := hI
    rw [List.getElem?_map] at hv
    obtain ⟨g, hgk, rfl⟩ := Option.map_eq_some_iff.mp hv
    rw [Nat.zero_add] at hK ⊢
    have hgb := hgs g (List.mem_of_getElem? hgk)
    have hsn : ((gs.take (k + 1)).map sg).map V.int = ((gs.take k).map sg).map V.int ++ [V.int (sg g)] := by rw [take_snoc hgk, List.map_append, List.map_append]; rfl
    refine And.intro hg ?_
    conv => whnf
    refine And.intro (fun hb => ?_) (fun hb => ?_)
    · have h0 : g = 0 := by simpa using hb
      subst h0
      refine hK _ _ ⟨rfl, ?_⟩
      rw [hsn]; rfl
    · have h0 : g ≠ 0 := by simpa using hb
      conv => whnf
      refine And.intro (And.intro (by split <;> omega) (by split <;> omega)) ?_
      refine hK _ _ ⟨rfl, ?_⟩
      rw [hsn]
      unfold sg
      rw [if_neg h0]
  obtain ⟨rfl, rfl⟩ := hI
  refine And.intro hg ?_
  have el : gs.take (0 + (gs.map V.int).length) = gs := by simp
  rw [el, ← hag]
  conv => whnf
  have hA : Sb τ' (τ' ++ [O.list (as.map V.int)]) := Sb.app _ _
  have d1 := dat_ints3 (hA.get _ _ ha)
  have d2 := dat_ints3 (get_new τ' (O.list (as.map V.int)))
  refine ⟨_, _, d1, d2, ⟨shaped_ints _, shaped_ints _⟩, ?_⟩
  rw [eqv_ints]
  have ha1 := hA.get _ _ ha
  have hp1 := hA.get _ _ hp
  have hle1 := hA.get _ _ hle
  have hline1 := hline.sb hA
  generalize τ' ++ [O.list (as.map V.int)] = T at hA ha1 hp1 hle1 hline1
  conv => whnf
  refine And.intro (fun h => by cases h) (fun _ => ?_)
  conv => whnf
  rw [items_list ha1]
  refine And.intro (by rw [List.length_map]; omega) ?_
  refine iterGo_rule (fun k acc τ2 => τ2 = T ∧ acc = []) 0 ⟨rfl, rfl⟩ (fun k v acc τ2 KK2 hv hI hK => ?_) (fun acc τ2 hI => ?_)
  · obtain ⟨rfl, rfl⟩ := hI
    rw [List.getElem?_map] at hv
    obtain ⟨a, hak, rfl⟩ := Option.map_eq_some_iff.mp hv
    refine And.intro ha1 ?_
    conv => whnf
    refine And.intro (fun h => by cases h) (fun _ => ?_)
    exact hK _ _ ⟨rfl, rfl⟩
  obtain ⟨rfl, rfl⟩ := hI
  refine And.intro ha1 ?_
  conv => whnf
  refine And.intro (by decide) ?_
  have hB : Sb τ2 (τ2 ++ [O.list []] ++ [O.list []]) := (Sb.app _ _).trans (Sb.app _ _)
  have d3 := dat_strs (σ := τ2 ++ [O.list []] ++ [O.list []]) (i := τ2.length) (xs := []) ((Sb.app _ _).get _ _ (get_new _ _))
  have d4 := dat_strs (σ := τ2 ++ [O.list []] ++ [O.list []]) (i := (τ2 ++ [O.list []]).length) (xs := []) (get_new _ _)
  conv => whnf
  refine ⟨_, _, d3, d4, ⟨shaped_strs (fun x hx => by cases hx), shaped_strs (fun x hx => by cases hx)⟩, ?_⟩
  rw [eqv_strs]
  have hp2 := hB.get _ _ hp1
  have hle2 := hB.get _ _ hle1
  have hline2 := hline1.sb hB
  generalize τ2 ++ [O.list []] ++ [O.list []] = U at hB hp2 hle2 hline2
  conv => whnf
  refine And.intro (fun h => by cases h) (fun _ => ?_)
  conv => whnf
  refine And.intro (fun h => by cases h) (fun _ => ?_)
  conv => whnf
  refine And.intro (push_meth hline2) ?_
  conv => whnf
  refine ⟨p, _, hline2, hp2, by omega, ?_⟩
  have hle' : (U.set p (.list (rest ++ [.str y])))[le]? = some (.list (acc.map fun m => V.str (nm L m))) := by rw [List.getElem?_set_ne hd]; exact hle2
  conv => whnf
  refine And.intro (by conv => whnf
                       simp only [hle']) ?_
  conv => whnf
  simp only [hle']
  refine And.intro (by rw [List.length_map]; omega) ?_
  refine next _ (((((hA.trans hB).sy p le)).set _).set' _) ?_ ?_
  · rw [List.getElem?_set_ne (Ne.symm hd), List.getElem?_set_self (lt_of_get hp2)]
  · rw [List.getElem?_set_self (lt_of_get hle'), List.map_append]; rfl
end Mine
end

section
open PySem PySem.W PyProof.Rows PySem.Calls
set_option linter.unusedVariables false
set_option linter.unusedSimpArgs false
set_option maxRecDepth 100000
namespace Mine
noncomputable def gap1 (t : List Nat) : Int := if t.length > 1 then ((t.getD 0 0 : Nat) : Int) - ((t.getD 1 0 : Nat) : Int) else 0
theorem coll_rot {t : List Nat} (h : t.Nodup) : coll t (t.drop 1 ++ t.take 1) = sg (gap1 t) := by
  match t, h with
  | [], _ => rw [show (([] : List Nat).drop 1 ++ ([] : List Nat).take 1) = [] from rfl, coll_self]; rfl
  | [a], _ => rw [show (([a] : List Nat).drop 1 ++ ([a] : List Nat).take 1) = [a] from rfl, coll_self]; rfl
  | a :: b :: r, h =>
    have hne : a ≠ b := fun e => by
      have := (List.nodup_cons.mp h).1
      exact this (e ▸ List.mem_cons_self)
    exact coll_at a b hne [] (b :: r) (r ++ [a])
theorem gap1_small {t : List Nat} (h : ∀ c ∈ t, c < 1114112) : (gap1 t).natAbs < 1073741824 := by
  unfold gap1
  split
  · rename_i hl
    have h0 := h _ (getD_mem' (L := t) (p := 0) (by omega))
    have h1 := h _ (getD_mem' (L := t) (p := 1) (by omega))
    omega
  · decide
theorem yes_turn (scr : Value → Option (List V)) (L : List Nat) (hL : GL L) (i p ni : Nat) (place : Nat) (hpl : place < 4) (c : Nat) (first : Int) (wi le : Nat) (k m u s : Nat) (x : List Nat) (hx4 : x.length = 4)
    (hxu : x[place]? = some u) (hus : u ≠ s) (hu : u < 1114112) (hs : s < 1114112)
    (acc : List Nat) (rest : List V) (fg : Option (V × V)) (τ : List O) (KK : KS)
    (hline : LineAt τ i p) (hp : τ[p]? = some (.list rest)) (hrest : rest.length ≤ 100)
    (hle : τ[le]? = some (.list (acc.map fun m => V.str (nm L m)))) (hacc : acc.length ≤ 100) (hd : p ≠ le)
    (next : ∀ τ' fg', Sy p le τ τ' → τ'[p]? = some (.list (rest ++ [.str (putAt x place s)])) → τ'[le]? = some (.list ((acc ++ [m]).map fun m => V.str (nm L m))) →
      KK .next (fg124 i ni place c first wi le (.int k) (.str x) (.str (putAt x place s)) (.str (nm L m)) (some fg')) τ') :
    wpS (G2 scr) 13 sc124 (fg124 i ni place c first wi le (.int k) (.str x) (.str (putAt x place s)) (.str (nm L m)) fg) yes124 τ (endK scr KK) := by
  have hlx := hacc
  have cs : fg = none ∨ ∃ f g, fg = some (f, g) := by
    rcases fg with _ | ⟨f, g⟩
    · exact .inl rfl
    · exact .inr ⟨f, g, rfl⟩
  have htl := nm_len L m
  have hpx : place < x.length := by omega
  have hyl : (putAt x place s).length = 4 := by rw [putAt_set hpx, List.length_set]; exact hx4
  have hys : (putAt x place s)[place]? = some s := by rw [putAt_set hpx]; exact List.getElem?_set_self hpx
  have eD : cut (some (1 : Int)) none (nm L m) = (nm L m).drop 1 := by
    show ((nm L m).take (nm L m).length).drop 1 = _
    rw [List.take_length]
  have eT : cut none (some (1 : Int)) (nm L m) = (nm L m).take 1 := rfl
  have c1 : coll x (putAt x place s) = sg ((u : Int) - (s : Int)) := by
    have e : x = x.take place ++ u :: x.drop (place + 1) := by
      rw [List.getElem?_eq_getElem hpx] at hxu
      have hxu := Option.some.inj hxu
      rw [← hxu, ← List.drop_eq_getElem_cons hpx, List.take_append_drop]
    have e2 : putAt x place s = x.take place ++ s :: x.drop (place + 1) := by unfold putAt; simp
    rw [e2]
    conv => lhs; arg 1; rw [e]
    exact coll_at u s hus _ _ _
  have c2 := coll_rot (nm_nodup hL m)
  have tail : ∀ (gi : Nat) (T : List O) (ai : Nat), Sb τ T → T[ai]? = some (.list (([coll x (putAt x place s), coll (nm L m) ((nm L m).drop 1 ++ (nm L m).take 1)] : List Int).map V.int)) → T[gi]? = some (.list (([(u : Int) - (s : Int), gap1 (nm L m)] : List Int).map V.int)) →
      wpS (G2 scr) 11 sc124 (fg124 i ni place c first wi le (.int k) (.str x) (.str (putAt x place s)) (.str (nm L m)) (some (.ref ai, .ref gi))) (yes124.drop 2) T (endK scr KK) := fun gi T ai hT h1 h2 =>
    yes_tail scr L hL i p ni place c first wi le k m x (putAt x place s) acc rest ai gi _ _ T KK (hline.sb hT) (hT.get _ _ hp) hrest (hT.get _ _ hle) hacc hd h1 h2 (by rw [c1, c2]; rfl) (by show 2 ≤ 100; decide) (fun g hg => by
      rcases List.mem_cons.mp hg with e | hg
      · subst e; omega
      · rw [List.mem_singleton] at hg; subst hg; exact gap1_small (nm_lt hL m)) fun τ' h3 h4 h5 => next τ' _ ((hT.sy p le).trans h3) h4 h5
  rcases cs with rfl | ⟨f, g, rfl⟩
  all_goals
    conv => whnf
    refine And.intro (And.intro (by omega) (And.intro (And.intro (by decide) (by decide)) trivial)) ?_
    conv => whnf
    refine And.intro (And.intro (by omega) (And.intro trivial (And.intro (by decide) (by decide)))) ?_
    rw [eD, eT]
    conv => whnf
    refine And.intro (by simp; omega) ?_
    conv => whnf
    refine And.intro (by show (2 : Nat) ≤ 1000; decide) ?_
    conv => whnf
    refine And.intro (And.intro (Int.natCast_nonneg _) (And.intro (by omega) (by omega))) (fun d hd1 => ?_)
    obtain rfl : u = d := by
      rw [Int.toNat_natCast, hxu] at hd1; exact Option.some.inj hd1
    conv => whnf
    refine And.intro (And.intro (Int.natCast_nonneg _) (And.intro (by omega) (by omega))) (fun d hd2 => ?_)
    obtain rfl : s = d := by
      rw [Int.toNat_natCast, hys] at hd2; exact Option.some.inj hd2
    conv => whnf
    refine And.intro (by omega) ?_
    conv => whnf
    have lst : ∀ (g : Int), g = gap1 (nm L m) → wpS (G2 scr) 11 sc124 (fg124 i ni place c first wi le (.int k) (.str x) (.str (putAt x place s)) (.str (nm L m)) (some (.ref τ.length, .ref (τ ++ [O.list [.int (coll x (putAt x place s)), .int (coll (nm L m) ((nm L m).drop 1 ++ (nm L m).take 1))]]).length))) (yes124.drop 2)
        (τ ++ [O.list [.int (coll x (putAt x place s)), .int (coll (nm L m) ((nm L m).drop 1 ++ (nm L m).take 1))]] ++ [O.list [.int ((u : Int) - (s : Int)), .int g]]) (endK scr KK) := fun g hg => by
      subst hg
      exact tail _ _ _ ((Sb.app _ _).trans (Sb.app _ _)) ((Sb.app _ _).get _ _ (get_new _ _)) (get_new _ _)
    refine And.intro (fun hb => ?_) (fun hb => ?_)
    · have hl1 : 1 < (nm L m).length := by
        have := of_decide_eq_true hb; omega
      conv => whnf
      refine And.intro (And.intro (by decide) (And.intro (by show 0 < _; omega) (by omega))) (fun d hd3 => ?_)
      conv => whnf
      refine And.intro (And.intro (by decide) (And.intro (by show 1 < _; omega) (by omega))) (fun d' hd4 => ?_)
      conv => whnf
      refine And.intro (by show (2 : Nat) ≤ 1000; decide) ?_
      have eg : ((d : Int) - (d' : Int)) = gap1 (nm L m) := by
        unfold gap1
        rw [if_pos hl1]
        rw [show Int.toNat 0 = 0 from rfl] at hd3
        rw [show Int.toNat 1 = 1 from rfl] at hd4
        rw [List.getD, List.getD, hd3, hd4]; rfl
      dsimp only [thenS]
      refine Eq.mp (congr (congr (congr (congrArg (wpS (G2 scr) 11 sc124) ?_) ?_) ?_) rfl) (lst _ eg)
      · kernel_rfl
      · kernel_rfl
      · kernel_rfl
    · have hl1 : ¬ 1 < (nm L m).length := by
        have := of_decide_eq_false hb; omega
      conv => whnf
      refine And.intro (by show (2 : Nat) ≤ 1000; decide) ?_
      dsimp only [thenS]
      refine Eq.mp (congr (congr (congr (congrArg (wpS (G2 scr) 11 sc124) ?_) ?_) ?_) rfl) (lst 0 (by unfold gap1; rw [if_neg hl1]))
      · kernel_rfl
      · kernel_rfl
      · kernel_rfl
end Mine
end

section
open PySem PySem.W PyProof.Rows PySem.Calls
set_option linter.unusedVariables false
set_option linter.unusedSimpArgs false
set_option maxRecDepth 100000
namespace Mine
theorem turn124 (scr : Value → Option (List V)) (L : List Nat) (hL : GL L) (i p ni : Nat) (place : Nat) (hpl : place < 4) (first : Int) (wi le : Nat) (k m : Nat) (x : List Nat) (hx : Wd L m x) (hm : m < 16)
    (ms wo acc : List Nat) (rest : List (List Nat)) (o : Option (V × V × V × V × Option (V × V))) (τ : List O) (KK : KS)
    (hline : LineAt τ i p) (hp : τ[p]? = some (.list (.str x :: rest.map V.str))) (hrest : rest.length ≤ 100)
    (hwi : τ[wi]? = some (.list (wo.map fun m => V.str (nm L m)))) (hwo : ∀ n ∈ wo, n < 16) (hwl : wo.length ≤ 100) (hin : clr m place ∉ wo → bit m place = true)
    (hni : τ[ni]? = some (.list (ms.map fun m => V.str (nm L m)))) (hk : ms[k]? = some m) (hkl : k ≤ 100)
    (hle : τ[le]? = some (.list (acc.map fun m => V.str (nm L m)))) (hacc : acc.length ≤ 100) (hd : p ≠ wi ∧ p ≠ ni ∧ p ≠ le ∧ le ≠ wi ∧ le ≠ ni)
    (next : ∀ τ' y m' r, Wd L m' y → m' = (if wo.contains (clr m place) then m else clr m place) → Sy p le τ τ' → τ'[p]? = some (.list ((rest ++ [y]).map V.str)) → τ'[le]? = some (.list ((acc ++ [m']).map fun m => V.str (nm L m))) →
      KK .next (end124 i ni place (L.getD place 0) first wi le (some r)) τ') :
    wpS (G2 scr) 17 sc124 (put "turn" (.int k) (end124 i ni place (L.getD place 0) first wi le o)) b124 τ KK := by
  have cs : o = none ∨ (∃ a b d e, o = some (a, b, d, e, none)) ∨ ∃ a b d e f g, o = some (a, b, d, e, some (f, g)) := by
    rcases o with _ | ⟨a, b, d, e, _ | ⟨f, g⟩⟩
    · exact .inl rfl
    · exact .inr (.inl ⟨a, b, d, e, rfl⟩)
    · exact .inr (.inr ⟨a, b, d, e, f, g, rfl⟩)
  have hlx := hx.len
  have e1 : cut none (some (place : Int)) x = x.take place := by
    show (x.take (place : Int).toNat).drop 0 = _
    rw [Int.toNat_natCast, List.drop_zero]
  have e2 : cut (some ((place : Int) + 1)) none x = x.drop (place + 1) := by
    show (x.take x.length).drop ((place : Int) + 1).toNat = _
    rw [List.take_length]
    congr 1
  rcases cs with rfl | ⟨a, b, d, e, rfl⟩ | ⟨a, b, d, e, f, g, rfl⟩
  · conv => whnf
    refine And.intro (get_meth hline) ?_
    conv => whnf
    refine ⟨p, _, _, hline, hp, by rw [List.length_map]; omega, ?_⟩
    conv => whnf
    refine And.intro (And.intro (by omega) (And.intro trivial (And.intro (Int.natCast_nonneg _) (by omega)))) ?_
    conv => whnf
    intro σ1 s1
    conv => whnf
    rw [e1]
    refine And.intro (by rw [List.length_take]; show min place x.length + 1 ≤ 1000; omega) ?_
    conv => whnf
    refine And.intro (And.intro (by omega) (And.intro (And.intro (by omega) (by omega)) trivial)) ?_
    rw [e2]
    conv => whnf
    refine And.intro (by simp; omega) ?_
    conv => whnf
    refine And.intro (by simp; omega) (fun σ2 s2 => ?_)
    have hT : Sb (τ.set p (O.list (List.map V.str rest))) σ2 := s1.trans s2
    have hw := hx.put hL hm hpl (sign_inv (first + (k : Int)))
    have ebn : bare (List.take place x ++ [signB (first + (k : Int))] ++ List.drop (place + 1) x) = nm L (clr m place) := bare_nm hL hw
    rw [ebn]
    have hlp := lt_of_get hp
    have q0 : ∀ j (o : O), p ≠ j → τ[j]? = some o → σ2[j]? = some o := fun j o hj e => hT.get _ _ (by rw [List.getElem?_set_ne hj]; exact e)
    have qp : σ2[p]? = some (.list (rest.map V.str)) := hT.get _ _ (List.getElem?_set_self hlp)
    have ql : LineAt σ2 i p := (hline.set hp).sb hT
    have qy : Sy p le τ σ2 := ((Sy.refl p le τ).set _).trans (hT.sy p le)
    dsimp only [thenS]
    have go := if124 scr L hL i p ni place hpl (L.getD place 0) first wi le k (.str x) (.str (putAt x place (signB (first + (k : Int))))) (clr m place) (clr_lt hm) wo none σ2 KK (q0 _ _ hd.1 hwi) hwo hwl
      (fun τ' hc s3 => by
        have hb : bit m place = true := hin (by simpa using hc)
        obtain ⟨u, hu⟩ : ∃ u, x[place]? = some u := ⟨_, List.getElem?_eq_getElem (by omega)⟩
        have hsu := hx.at_ _ _ hu
        have hv := hL.vis _ (getD_mem' (L := L) (p := place) (by rw [hL.len]; exact hpl))
        have hu' := hsu.1 hb
        have hne : u ≠ signB (first + (k : Int)) := fun e => by
          rw [← hu', e, sign_inv] at hv; cases hv
        refine yes_turn scr L hL i p ni place hpl (L.getD place 0) first wi le k (clr m place) u (signB (first + (k : Int))) x hlx hu hne (hx.lt hL u (List.mem_of_getElem? hu)) (b1_lt (sign_inv _)) acc (rest.map V.str) none τ' KK (ql.sb s3) (s3.get _ _ qp) (by rw [List.length_map]; exact hrest) (s3.get _ _ (q0 _ _ hd.2.2.1 hle)) hacc hd.2.2.1 ?_
        intro τ3 fg' h1 h2 h3
        refine next τ3 _ (clr m place) (.int k, .str x, .str (putAt x place (signB (first + (k : Int)))), .str (nm L (clr m place)), some fg') hw (by rw [hc]; rfl) ((qy.trans (s3.sy p le)).trans h1) (by rw [h2, List.map_append]; rfl) h3)
      (fun τ' hc s3 => by
        refine no_turn scr L hL i p ni place (L.getD place 0) first wi le k m x (.str (putAt x place (signB (first + (k : Int))))) (.str (nm L (clr m place))) ms acc (rest.map V.str) none τ' KK (ql.sb s3) (s3.get _ _ qp) (by rw [List.length_map]; exact hrest) (s3.get _ _ (q0 _ _ hd.2.1 hni)) hk hkl (s3.get _ _ (q0 _ _ hd.2.2.1 hle)) hacc ⟨hd.2.1, hd.2.2.1⟩ ?_
        intro τ3 h1 h2 h3
        exact next τ3 _ m (.int k, .str x, .str (putAt x place (signB (first + (k : Int)))), .str (nm L (clr m place)), none) hx (by rw [hc]; rfl) ((qy.trans (s3.sy p le)).trans h1) (by rw [h2, List.map_append]; rfl) h3)
    refine Eq.mp (congr (congr (congr (congrArg (wpS (G2 scr) 14 sc124) ?_) ?_) rfl) rfl) go
    · kernel_rfl
    · kernel_rfl
  · conv => whnf
    refine And.intro (get_meth hline) ?_
    conv => whnf
    refine ⟨p, _, _, hline, hp, by rw [List.length_map]; omega, ?_⟩
    conv => whnf
    refine And.intro (And.intro (by omega) (And.intro trivial (And.intro (Int.natCast_nonneg _) (by omega)))) ?_
    conv => whnf
    intro σ1 s1
    conv => whnf
    rw [e1]
    refine And.intro (by rw [List.length_take]; show min place x.length + 1 ≤ 1000; omega) ?_
    conv => whnf
    refine And.intro (And.intro (by omega) (And.intro (And.intro (by omega) (by omega)) trivial)) ?_
    rw [e2]
    conv => whnf
    refine And.intro (by simp; omega) ?_
    conv => whnf
    refine And.intro (by simp; omega) (fun σ2 s2 => ?_)
    have hT : Sb (τ.set p (O.list (List.map V.str rest))) σ2 := s1.trans s2
    have hw := hx.put hL hm hpl (sign_inv (first + (k : Int)))
    have ebn : bare (List.take place x ++ [signB (first + (k : Int))] ++ List.drop (place + 1) x) = nm L (clr m place) := bare_nm hL hw
    rw [ebn]
    have hlp := lt_of_get hp
    have q0 : ∀ j (o : O), p ≠ j → τ[j]? = some o → σ2[j]? = some o := fun j o hj e => hT.get _ _ (by rw [List.getElem?_set_ne hj]; exact e)
    have qp : σ2[p]? = some (.list (rest.map V.str)) := hT.get _ _ (List.getElem?_set_self hlp)
    have ql : LineAt σ2 i p := (hline.set hp).sb hT
    have qy : Sy p le τ σ2 := ((Sy.refl p le τ).set _).trans (hT.sy p le)
    dsimp only [thenS]
    have go := if124 scr L hL i p ni place hpl (L.getD place 0) first wi le k (.str x) (.str (putAt x place (signB (first + (k : Int))))) (clr m place) (clr_lt hm) wo none σ2 KK (q0 _ _ hd.1 hwi) hwo hwl
      (fun τ' hc s3 => by
        have hb : bit m place = true := hin (by simpa using hc)
        obtain ⟨u, hu⟩ : ∃ u, x[place]? = some u := ⟨_, List.getElem?_eq_getElem (by omega)⟩
        have hsu := hx.at_ _ _ hu
        have hv := hL.vis _ (getD_mem' (L := L) (p := place) (by rw [hL.len]; exact hpl))
        have hu' := hsu.1 hb
        have hne : u ≠ signB (first + (k : Int)) := fun e => by
          rw [← hu', e, sign_inv] at hv; cases hv
        refine yes_turn scr L hL i p ni place hpl (L.getD place 0) first wi le k (clr m place) u (signB (first + (k : Int))) x hlx hu hne (hx.lt hL u (List.mem_of_getElem? hu)) (b1_lt (sign_inv _)) acc (rest.map V.str) none τ' KK (ql.sb s3) (s3.get _ _ qp) (by rw [List.length_map]; exact hrest) (s3.get _ _ (q0 _ _ hd.2.2.1 hle)) hacc hd.2.2.1 ?_
        intro τ3 fg' h1 h2 h3
        refine next τ3 _ (clr m place) (.int k, .str x, .str (putAt x place (signB (first + (k : Int)))), .str (nm L (clr m place)), some fg') hw (by rw [hc]; rfl) ((qy.trans (s3.sy p le)).trans h1) (by rw [h2, List.map_append]; rfl) h3)
      (fun τ' hc s3 => by
        refine no_turn scr L hL i p ni place (L.getD place 0) first wi le k m x (.str (putAt x place (signB (first + (k : Int))))) (.str (nm L (clr m place))) ms acc (rest.map V.str) none τ' KK (ql.sb s3) (s3.get _ _ qp) (by rw [List.length_map]; exact hrest) (s3.get _ _ (q0 _ _ hd.2.1 hni)) hk hkl (s3.get _ _ (q0 _ _ hd.2.2.1 hle)) hacc ⟨hd.2.1, hd.2.2.1⟩ ?_
        intro τ3 h1 h2 h3
        exact next τ3 _ m (.int k, .str x, .str (putAt x place (signB (first + (k : Int)))), .str (nm L (clr m place)), none) hx (by rw [hc]; rfl) ((qy.trans (s3.sy p le)).trans h1) (by rw [h2, List.map_append]; rfl) h3)
    refine Eq.mp (congr (congr (congr (congrArg (wpS (G2 scr) 14 sc124) ?_) ?_) rfl) rfl) go
    · kernel_rfl
    · kernel_rfl
  · conv => whnf
    refine And.intro (get_meth hline) ?_
    conv => whnf
    refine ⟨p, _, _, hline, hp, by rw [List.length_map]; omega, ?_⟩
    conv => whnf
    refine And.intro (And.intro (by omega) (And.intro trivial (And.intro (Int.natCast_nonneg _) (by omega)))) ?_
    conv => whnf
    intro σ1 s1
    conv => whnf
    rw [e1]
    refine And.intro (by rw [List.length_take]; show min place x.length + 1 ≤ 1000; omega) ?_
    conv => whnf
    refine And.intro (And.intro (by omega) (And.intro (And.intro (by omega) (by omega)) trivial)) ?_
    rw [e2]
    conv => whnf
    refine And.intro (by simp; omega) ?_
    conv => whnf
    refine And.intro (by simp; omega) (fun σ2 s2 => ?_)
    have hT : Sb (τ.set p (O.list (List.map V.str rest))) σ2 := s1.trans s2
    have hw := hx.put hL hm hpl (sign_inv (first + (k : Int)))
    have ebn : bare (List.take place x ++ [signB (first + (k : Int))] ++ List.drop (place + 1) x) = nm L (clr m place) := bare_nm hL hw
    rw [ebn]
    have hlp := lt_of_get hp
    have q0 : ∀ j (o : O), p ≠ j → τ[j]? = some o → σ2[j]? = some o := fun j o hj e => hT.get _ _ (by rw [List.getElem?_set_ne hj]; exact e)
    have qp : σ2[p]? = some (.list (rest.map V.str)) := hT.get _ _ (List.getElem?_set_self hlp)
    have ql : LineAt σ2 i p := (hline.set hp).sb hT
    have qy : Sy p le τ σ2 := ((Sy.refl p le τ).set _).trans (hT.sy p le)
    dsimp only [thenS]
    have go := if124 scr L hL i p ni place hpl (L.getD place 0) first wi le k (.str x) (.str (putAt x place (signB (first + (k : Int))))) (clr m place) (clr_lt hm) wo (some (f, g)) σ2 KK (q0 _ _ hd.1 hwi) hwo hwl
      (fun τ' hc s3 => by
        have hb : bit m place = true := hin (by simpa using hc)
        obtain ⟨u, hu⟩ : ∃ u, x[place]? = some u := ⟨_, List.getElem?_eq_getElem (by omega)⟩
        have hsu := hx.at_ _ _ hu
        have hv := hL.vis _ (getD_mem' (L := L) (p := place) (by rw [hL.len]; exact hpl))
        have hu' := hsu.1 hb
        have hne : u ≠ signB (first + (k : Int)) := fun e => by
          rw [← hu', e, sign_inv] at hv; cases hv
        refine yes_turn scr L hL i p ni place hpl (L.getD place 0) first wi le k (clr m place) u (signB (first + (k : Int))) x hlx hu hne (hx.lt hL u (List.mem_of_getElem? hu)) (b1_lt (sign_inv _)) acc (rest.map V.str) (some (f, g)) τ' KK (ql.sb s3) (s3.get _ _ qp) (by rw [List.length_map]; exact hrest) (s3.get _ _ (q0 _ _ hd.2.2.1 hle)) hacc hd.2.2.1 ?_
        intro τ3 fg' h1 h2 h3
        refine next τ3 _ (clr m place) (.int k, .str x, .str (putAt x place (signB (first + (k : Int)))), .str (nm L (clr m place)), some fg') hw (by rw [hc]; rfl) ((qy.trans (s3.sy p le)).trans h1) (by rw [h2, List.map_append]; rfl) h3)
      (fun τ' hc s3 => by
        refine no_turn scr L hL i p ni place (L.getD place 0) first wi le k m x (.str (putAt x place (signB (first + (k : Int))))) (.str (nm L (clr m place))) ms acc (rest.map V.str) (some (f, g)) τ' KK (ql.sb s3) (s3.get _ _ qp) (by rw [List.length_map]; exact hrest) (s3.get _ _ (q0 _ _ hd.2.1 hni)) hk hkl (s3.get _ _ (q0 _ _ hd.2.2.1 hle)) hacc ⟨hd.2.1, hd.2.2.1⟩ ?_
        intro τ3 h1 h2 h3
        exact next τ3 _ m (.int k, .str x, .str (putAt x place (signB (first + (k : Int)))), .str (nm L (clr m place)), some (f, g)) hx (by rw [hc]; rfl) ((qy.trans (s3.sy p le)).trans h1) (by rw [h2, List.map_append]; rfl) h3)
    refine Eq.mp (congr (congr (congr (congrArg (wpS (G2 scr) 14 sc124) ?_) ?_) rfl) rfl) go
    · kernel_rfl
    · kernel_rfl
end Mine
end

section
open PySem PySem.W PyProof.Rows PySem.Calls
set_option linter.unusedVariables false
set_option linter.unusedSimpArgs false
set_option maxRecDepth 100000
namespace Mine
/-- the turn of a letter, in masks -/
noncomputable def wout (p : Nat) (ms : List Nat) : List Nat := ms.filter fun m => !bit m p
noncomputable def sh (p : Nat) (ms : List Nat) (m : Nat) : Nat := if (wout p ms).contains (clr m p) then m else clr m p
theorem contains_nm {L : List Nat} (hL : GL L) {m p : Nat} (hp : p < 4) : (nm L m).contains (L.getD p 0) = bit m p := by
  cases hb : bit m p with
  | true => exact List.contains_iff_mem.mpr ((mem_nm hL hp).mpr hb)
  | false =>
    cases hc : (nm L m).contains (L.getD p 0) with
    | false => rfl
    | true =>
      have := (mem_nm hL hp).mp (List.contains_iff_mem.mp hc)
      rw [hb] at this; cases this
theorem in_wout {p : Nat} {ms : List Nat} {m : Nat} (hm : m ∈ ms) (h : clr m p ∉ wout p ms) : bit m p = true := by
  cases hb : bit m p with
  | true => rfl
  | false =>
    refine absurd ?_ h
    have : clr m p = m := by unfold clr; rw [if_neg (by rw [hb]; decide)]
    rw [this]
    exact List.mem_filter.mpr ⟨hm, by rw [hb]; rfl⟩
theorem t124 (scr : Value → Option (List V)) (L : List Nat) (hL : GL L) (i p ni : Nat) (place : Nat) (hpl : place < 4) (first : Int) (ms : List Nat) (ws : List (List Nat)) (σ : List O) (K : KS) (h : LS L σ i p ni ms ws) (hne : p ≠ ni) (hz : ms.length ≤ 16) (hm : ∀ m ∈ ms, m < 16)
    (hk : ∀ (l : Loc) (σ' : List O) (r : Nat) (ws' : List (List Nat)), Sx p σ σ' → σ.length ≤ r → LS L σ' i p r (ms.map (sh place ms)) ws' → K (.ret (.ref r)) l σ') :
    wpS (G2 scr) 20 sc124 (ps124.zip [.ref i, .ref ni, .int place, .str [L.getD place 0], .int first]) body124 σ K := by
  have hlen := h.len
  have hlx := hz
  conv => whnf
  rw [items_list h.names]
  refine And.intro (by rw [List.length_map]; omega) ?_
  refine iterGo_rule (fun k acc τ => τ = σ ∧ acc = (wout place (ms.take k)).map fun m => V.str (nm L m)) 0 ⟨rfl, rfl⟩ (fun k v acc τ KK hv hI hK => ?_) (fun acc τ hI => ?_)
  · obtain ⟨rfl, rfl⟩ := hI
    rw [List.getElem?_map] at hv
    obtain ⟨m, hmk, rfl⟩ := Option.map_eq_some_iff.mp hv
    rw [Nat.zero_add] at hK ⊢
    have hst : wout place (ms.take (k + 1)) = wout place (ms.take k) ++ (if !bit m place then [m] else []) := by
      unfold wout
      rw [take_snoc hmk, List.filter_append]
      congr 1
      cases hb : bit m place <;> simp [hb]
    refine And.intro h.names ?_
    conv => whnf
    rw [contains_nm hL hpl]
    refine And.intro (fun hb => ?_) (fun hb => ?_)
    · refine hK _ _ ⟨rfl, ?_⟩
      rw [hst, hb, List.map_append]; rfl
    · refine hK _ _ ⟨rfl, ?_⟩
      rw [hst, hb]; simp
  obtain ⟨rfl, rfl⟩ := hI
  refine And.intro h.names ?_
  have el : ms.take (0 + (ms.map fun m => V.str (nm L m)).length) = ms := by simp
  rw [el]
  conv => whnf
  refine And.intro (by decide) ?_
  have hA : Sb τ (τ ++ [O.list ((wout place ms).map fun m => V.str (nm L m))] ++ [O.list []]) := (Sb.app _ _).trans (Sb.app _ _)
  have hwi : (τ ++ [O.list ((wout place ms).map fun m => V.str (nm L m))] ++ [O.list []])[τ.length]? = some (.list ((wout place ms).map fun m => V.str (nm L m))) := (Sb.app _ _).get _ _ (get_new _ _)
  have hle : (τ ++ [O.list ((wout place ms).map fun m => V.str (nm L m))] ++ [O.list []])[τ.length + 1]? = some (.list []) := by
    have := get_new (τ ++ [O.list ((wout place ms).map fun m => V.str (nm L m))]) (O.list [])
    rwa [List.length_append] at this
  have ell : (τ ++ [O.list ((wout place ms).map fun m => V.str (nm L m))]).length = τ.length + 1 := by rw [List.length_append]; rfl
  rw [ell]
  generalize τ ++ [O.list ((wout place ms).map fun m => V.str (nm L m))] ++ [O.list []] = T at hA hwi hle
  have hni := hA.get _ _ h.names
  conv => whnf
  simp only [hni]
  refine And.intro (by rw [List.length_map]; omega) ?_
  conv => whnf
  refine And.intro (by rw [List.length_map]; omega) ?_
  conv => whnf
  rw [items_rng (get_new _ _)]
  have hcount : (↑(List.map (fun m => V.str (nm L m)) ms).length : Int).toNat = ms.length := by rw [List.length_map, Int.toNat_natCast]
  rw [hcount]
  have hni2 := (Sb.app T [O.rng 0 1 ms.length]).get _ _ hni
  have hwi2 := (Sb.app T [O.rng 0 1 ms.length]).get _ _ hwi
  have hle2 := (Sb.app T [O.rng 0 1 ms.length]).get _ _ hle
  have hB : Sb τ (T ++ [O.rng 0 1 ms.length]) := hA.trans (Sb.app _ _)
  have hp2 := hB.get _ _ h.push
  have hl2 := h.line.sb hB
  show forGo _ _ _ _ _ _ _
  generalize T ++ [O.rng 0 1 ms.length] = U at hni2 hwi2 hle2 hB hp2 hl2
  have hpτ := lt_of_get h.push
  have hnτ := lt_of_get h.names
  have hd : p ≠ τ.length ∧ p ≠ ni ∧ p ≠ τ.length + 1 ∧ τ.length + 1 ≠ τ.length ∧ τ.length + 1 ≠ ni := ⟨by omega, hne, by omega, by omega, by omega⟩
  refine forGo_rule (fun k l τ' => Sy p (τ.length + 1) U τ' ∧ ∃ ws', τ'[p]? = some (.list ((ws.drop k ++ ws').map V.str)) ∧ ws'.length = k ∧ (∀ (j m : Nat) (y : List Nat), (ms.map (sh place ms))[j]? = some m → ws'[j]? = some y → Wd L m y) ∧
      τ'[τ.length + 1]? = some (.list (((ms.take k).map (sh place ms)).map fun m => V.str (nm L m))) ∧ ∃ o, l = end124 i ni place (L.getD place 0) first τ.length (τ.length + 1) o) 0
    ⟨Sy.refl _ _ _, [], by rw [hp2]; simp, rfl, fun j m y _ e => by simp at e, hle2, none, rfl⟩ (fun k v l τ' KK hv hI hK => ?_) (fun l τ' hI => ?_)
  · obtain ⟨hy, ws', hp', hwl, hwd, hle', o, rfl⟩ := hI
    rw [List.getElem?_map] at hv
    obtain ⟨k', hk', rfl⟩ := Option.map_eq_some_iff.mp hv
    obtain ⟨rfl, hlt⟩ := range_at hk'
    have hx0 : (0 : Int) + (k' : Int) * 1 = k' := by omega
    rw [hx0]
    rw [Nat.zero_add] at hp' hwl hle' hK
    have hmk : ms[k']? = some ms[k'] := List.getElem?_eq_getElem hlt
    have hwk : ws[k']? = some (ws[k']'(by omega)) := List.getElem?_eq_getElem (by omega)
    have hmm : ms[k'] ∈ ms := List.getElem_mem hlt
    refine And.intro trivial ?_
    rw [drop_at hwk] at hp'
    have go := turn124 scr L hL i p ni place hpl first τ.length (τ.length + 1) k' ms[k'] _ (h.word k' _ _ hmk hwk) (hm _ hmm) ms (wout place ms) ((ms.take k').map (sh place ms)) (ws.drop (k' + 1) ++ ws') o τ' KK ?_ hp' ?_ (hy.get _ _ (Ne.symm hd.1) (Ne.symm hd.2.2.2.1) hwi2) (fun n hn => hm n (List.mem_filter.mp hn).1) ?_ (in_wout hmm) (hy.get _ _ (Ne.symm hd.2.1) (Ne.symm hd.2.2.2.2) hni2) hmk (by omega) hle' (by rw [List.length_map, List.length_take]; omega) hd ?_
    · refine Eq.mp (congr (congr (congr (congrArg (wpS (G2 scr) 17 sc124) rfl) ?_) rfl) rfl) go
      kernel_rfl
    · obtain ⟨j, e1, e2⟩ := h.line
      have j1 := hB.get _ _ e1
      have j2 := hB.get _ _ e2
      refine ⟨j, hy.get _ _ (fun e => ?_) (fun e => ?_) j1, hy.get _ _ (fun e => ?_) (fun e => ?_) j2⟩
      · subst e; rw [hp2] at j1; cases j1
      · subst e; rw [hle2] at j1; cases j1
      · subst e; rw [hp2] at j2; cases j2
      · subst e; rw [hle2] at j2; cases j2
    · rw [List.length_append, List.length_drop]; omega
    · exact Nat.le_trans (List.length_filter_le _ _) (by omega)
    · intro τ3 y m' r hwy hm' hy3 hp3 hle3
      have hm2 : m' = sh place ms ms[k'] := hm'
      refine hK _ _ ⟨hy.trans hy3, ws' ++ [y], by rw [hp3, List.append_assoc], by rw [List.length_append, hwl]; rfl, fun j m z e1 e2 => ?_, ?_, some r, rfl⟩
      · by_cases hj : j < ws'.length
        · rw [List.getElem?_append_left hj] at e2; exact hwd j m z e1 e2
        · rw [List.getElem?_append_right (by omega)] at e2
          cases hq : j - ws'.length with
          | zero =>
            rw [hq] at e2; cases e2
            have : j = k' := by omega
            subst this
            rw [List.getElem?_map, hmk] at e1
            have e1 := Option.some.inj e1
            rw [← e1, ← hm2]; exact hwy
          | succ n => rw [hq] at e2; simp at e2
      · rw [hle3, take_snoc hmk, hm2]; simp only [List.map_append, List.map_cons, List.map_nil]
  · obtain ⟨hy, ws', hp', hwl, hwd, hle', o, rfl⟩ := hI
    refine And.intro trivial ?_
    have elx : 0 + ((List.range ms.length).map fun k : Nat => V.int (0 + (k : Int) * 1)).length = ms.length := by simp
    rw [elx] at hp' hwl hle'
    rw [List.take_length] at hle'
    rw [← hlen, List.drop_length, List.nil_append] at hp'
    have hS : Sx p τ τ' := ⟨Nat.le_trans hB.len hy.len, fun j ob hj e => hy.get _ _ hj (by have := lt_of_get e; omega) (hB.get _ _ e)⟩
    have hLS : LS L τ' i p (τ.length + 1) (ms.map (sh place ms)) ws' := ⟨h.line.sx h.push hS, hp', hle', by rw [hwl, List.length_map], fun k m x => hwd k m x⟩
    have cs : o = none ∨ (∃ a b d e, o = some (a, b, d, e, none)) ∨ ∃ a b d e f g, o = some (a, b, d, e, some (f, g)) := by
      rcases o with _ | ⟨a, b, d, e, _ | ⟨f, g⟩⟩
      · exact .inl rfl
      · exact .inr (.inl ⟨a, b, d, e, rfl⟩)
      · exact .inr (.inr ⟨a, b, d, e, f, g, rfl⟩)
    rcases cs with rfl | ⟨a, b, d, e, rfl⟩ | ⟨a, b, d, e, f, g, rfl⟩
    all_goals exact hk _ _ _ ws' hS (Nat.le_succ _) hLS
end Mine
end

section
open PySem PySem.W PyProof.Rows PySem.Calls
set_option linter.unusedVariables false
set_option linter.unusedSimpArgs false
set_option maxRecDepth 100000
namespace Mine
/-! level three -/
noncomputable def c3 (scr : Value → Option (List V)) : Contract := fun f vs σ K => match f with
  | .lawLines => (match vs with
    | [.int n, .ref li, .int first] => ∃ f : Nat, (n = (f : Int) ∧ f < 65536 ∧ σ[li]? = some (.list ((letters first).map fun c => V.str [c]))) ∧
        ∀ (T σ' : List O) (t : Nat), Sb σ T → T.length < t → Ln (letters first) f T σ' 16 → σ'[t]? = some (.tup [.ref (T.length + 6), .ref (T.length + 9)]) → K (.ref t) σ'
    | _ => False)
  | .lawTurn => (match vs with
    | [.ref i, .ref ni, .int pl, .str [c], .int first] => ∃ (L : List Nat) (place p : Nat) (ms : List Nat) (ws : List (List Nat)), (GL L ∧ pl = (place : Int) ∧ place < 4 ∧ c = L.getD place 0 ∧ LS L σ i p ni ms ws ∧ p ≠ ni ∧ ms.length ≤ 16 ∧ ∀ m ∈ ms, m < 16) ∧
        ∀ (σ' : List O) (r : Nat) (ws' : List (List Nat)), Sx p σ σ' → σ.length ≤ r → LS L σ' i p r (ms.map (sh place ms)) ws' → K (.ref r) σ'
    | _ => False)
  | .lawSets => (match vs with
    | [.ref i, .int n] => ∃ (L : List Nat) (p ni : Nat) (ms : List Nat) (ws : List (List Nat)), (GL L ∧ n = (ms.length : Int) ∧ LS L σ i p ni ms ws ∧ ms.length ≤ 16 ∧ ∀ m ∈ ms, m < 16) ∧
        ∀ (ns : List Int) (σ' : List O) (r : Nat), ns.Perm (ms.map fun m : Nat => (m : Int)) → ns.Pairwise (· ≤ ·) → Sx p σ σ' → σ.length ≤ r → σ'[r]? = some (.list (ns.map V.int)) → K (.ref r) σ'
    | _ => False)
  | f => c2 scr f vs σ K
noncomputable abbrev G3 (scr : Value → Option (List V)) : Ora := Gw scr (c3 scr)
section
variable {prog : Program} {w : World} {A : Around} {E : Value → Shared → Prop} {s : Shared} {h₀ : Heap} {mg mb : Str → Option Value} {ρ : List Addr} {σ : List O} {K : KV} {Q : Value → Shared → Prop} {dp : Nat} {scr : Value → Option (List V)}
theorem c3_ok (hs : ∀ G : Ora, G.gl = glOf → G.scr = scr → Setup prog w h₀ mg mb G) : CallOk prog w h₀ (G3 scr) 4 := by
  refine callOk_of hs (fun vs σ K h => h) fun A hf s E Q ρ σ KK u us vs R hv h r => ?_
  have S := hs (G2 scr) rfl rfl
  have C : CallOk prog w h₀ (G2 scr) 3 := c2_ok hs
  unfold c3 at h
  split at h
  · split at h
    · obtain ⟨f, ⟨rfl, h1, h2⟩, h3⟩ := h
      exact fn_run (n := 20) (KK := KK) (fn119 _) S C hf R hv rfl (t119 scr f h1 _ _ _ _ h2 fun l T σ' t a b c d => h3 T σ' t a b c d) r
    · exact h.elim
  · split at h
    · obtain ⟨L, place, p, ms, ws, ⟨hL, rfl, h1, rfl, h2, h3, h4, h5⟩, h6⟩ := h
      exact fn_run (n := 20) (KK := KK) (fn124 _) S C hf R hv rfl (t124 scr L hL _ p _ place h1 _ ms ws _ _ h2 h3 h4 h5 fun l σ' r ws' a b c => h6 σ' r ws' a b c) r
    · exact h.elim
  · split at h
    · obtain ⟨L, p, ni, ms, ws, ⟨hL, rfl, h2, h4, h5⟩, h6⟩ := h
      exact fn_run (n := 20) (KK := KK) (fn129 _) S C hf R hv rfl (t129 scr L hL _ p ni ms ws _ _ h2 h4 h5 fun l ns σ' r a b c d e => h6 ns σ' r a b c d e) r
    · exact h.elim
  · cases hb : isB u with
    | true =>
      cases u <;> first | (cases hb; done) | exact h.elim
    | false =>
      refine C.run A (hf.less (by decide)) s E Q ρ σ KK u us vs R hv ?_ r
      show (match isB u with
        | true => bcall scr u vs σ KK
        | false => c2 scr u vs σ KK)
      rw [hb]
      exact h
end
end Mine
end

section
open PySem PySem.W PyProof.Rows PySem.Calls
set_option linter.unusedVariables false
set_option linter.unusedSimpArgs false
set_option maxRecDepth 100000
namespace Mine

/-! the plain law: turns and the game are one and the same tree of ands and ors -/
noncomputable def st (m p : Nat) : Nat := if bit m p then m else m + 2 ^ p
/-- a letter's turn, of a predicate of masks -/
noncomputable def shF (p : Nat) (F : Nat → Bool) (m : Nat) : Bool := if bit m p then F (clr m p) && F m else F m || F (st m p)
structure MS (ms : List Nat) (F : Nat → Bool) : Prop where
  nodup : ms.Nodup
  lt : ∀ m ∈ ms, m < 16
  mem : ∀ m, m < 16 → (m ∈ ms ↔ F m = true)
theorem st_lt {m p : Nat} (hm : m < 16) (hp : p < 4) : st m p < 16 := by
  have h : ∀ m, m < 16 → ∀ p, p < 4 → st m p < 16 := by decide +kernel
  exact h m hm p hp
theorem clr_not {m p : Nat} (hm : m < 16) (hp : p < 4) : bit (clr m p) p = false := by
  rw [bit_clr hm hp p hp]; simp
theorem clr_of_not {m p : Nat} (h : bit m p = false) : clr m p = m := by unfold clr; rw [if_neg (by rw [h]; decide)]
theorem st_clr {m p : Nat} (hm : m < 16) (hp : p < 4) (hb : bit m p = true) : st (clr m p) p = m := by
  have h : ∀ m, m < 16 → ∀ p, p < 4 → bit m p = true → st (clr m p) p = m := by decide +kernel
  exact h m hm p hp hb
theorem clr_st {m p : Nat} (hm : m < 16) (hp : p < 4) (hb : bit m p = false) : clr (st m p) p = m ∧ bit (st m p) p = true := by
  have h : ∀ m, m < 16 → ∀ p, p < 4 → bit m p = false → clr (st m p) p = m ∧ bit (st m p) p = true := by decide +kernel
  exact h m hm p hp hb
theorem wout_mem {ms : List Nat} {m p : Nat} (hm : m < 16) (hp : p < 4) : (wout p ms).contains (clr m p) = ms.contains (clr m p) := by
  have hc := clr_not hm hp
  cases h : ms.contains (clr m p) with
  | true => exact List.contains_iff_mem.mpr (List.mem_filter.mpr ⟨List.contains_iff_mem.mp h, by rw [hc]; rfl⟩)
  | false =>
    cases h2 : (wout p ms).contains (clr m p) with
    | false => rfl
    | true =>
      have := List.contains_iff_mem.mpr (List.mem_filter.mp (List.contains_iff_mem.mp h2)).1
      rw [h] at this; cases this
theorem MS.turn {ms : List Nat} {F : Nat → Bool} (h : MS ms F) {p : Nat} (hp : p < 4) : MS (ms.map (sh p ms)) (shF p F) := by
  have val : ∀ m ∈ ms, sh p ms m = if ms.contains (clr m p) then m else clr m p := fun m hm => by
    unfold sh; rw [wout_mem (h.lt m hm) hp]
  have val0 : ∀ m ∈ ms, bit m p = false → sh p ms m = m := fun m hm hb => by
    rw [val m hm, clr_of_not hb]; split <;> rfl
  have val1 : ∀ m ∈ ms, bit m p = true → clr m p ∈ ms → sh p ms m = m := fun m hm hb hc => by
    rw [val m hm, if_pos (List.contains_iff_mem.mpr hc)]
  have val2 : ∀ m ∈ ms, bit m p = true → clr m p ∉ ms → sh p ms m = clr m p := fun m hm hb hc => by
    rw [val m hm, if_neg (fun q => hc (List.contains_iff_mem.mp q))]
  have inj : ∀ a ∈ ms, ∀ b ∈ ms, sh p ms a = sh p ms b → a = b := by
    intro a ha b hb e
    cases ba : bit a p with
    | false =>
      rw [val0 a ha ba] at e
      cases bb : bit b p with
      | false => rwa [val0 b hb bb] at e
      | true =>
        by_cases hc : clr b p ∈ ms
        · rwa [val1 b hb bb hc] at e
        · rw [val2 b hb bb hc] at e
          exact absurd (e ▸ ha) hc
    | true =>
      by_cases hca : clr a p ∈ ms
      · rw [val1 a ha ba hca] at e
        cases bb : bit b p with
        | false => rwa [val0 b hb bb] at e
        | true =>
          by_cases hc : clr b p ∈ ms
          · rwa [val1 b hb bb hc] at e
          · rw [val2 b hb bb hc] at e
            exact absurd (e ▸ ha) hc
      · rw [val2 a ha ba hca] at e
        cases bb : bit b p with
        | false =>
          rw [val0 b hb bb] at e
          exact absurd (e ▸ hb) hca
        | true =>
          by_cases hc : clr b p ∈ ms
          · rw [val1 b hb bb hc] at e
            exact absurd (e ▸ hb) hca
          · rw [val2 b hb bb hc] at e
            rw [← st_clr (h.lt a ha) hp ba, ← st_clr (h.lt b hb) hp bb, e]
  refine ⟨?_, fun m hm => ?_, fun n hn => ?_⟩
  · rw [List.Nodup, List.pairwise_map]
    exact List.Pairwise.imp_of_mem (fun {a b} ha hb hab e => hab (inj a ha b hb e)) h.nodup
  · obtain ⟨k, hk, rfl⟩ := List.mem_map.mp hm
    rw [val k hk]
    split
    · exact h.lt k hk
    · exact clr_lt (h.lt k hk)
  · unfold shF
    rw [List.mem_map]
    cases bn : bit n p with
    | true =>
      rw [if_pos rfl, Bool.and_eq_true, ← h.mem _ (clr_lt hn), ← h.mem n hn]
      constructor
      · rintro ⟨m, hm, e⟩
        cases bm : bit m p with
        | false =>
          rw [val0 m hm bm] at e
          rw [e, bn] at bm; cases bm
        | true =>
          by_cases hc : clr m p ∈ ms
          · rw [val1 m hm bm hc] at e
            subst e; exact ⟨hc, hm⟩
          · rw [val2 m hm bm hc] at e
            have := clr_not (h.lt m hm) hp
            rw [e, bn] at this; cases this
      · rintro ⟨h1, h2⟩
        exact ⟨n, h2, val1 n h2 bn h1⟩
    | false =>
      obtain ⟨s1, s2⟩ := clr_st hn hp bn
      rw [if_neg (by decide), Bool.or_eq_true, ← h.mem n hn, ← h.mem _ (st_lt hn hp)]
      constructor
      · rintro ⟨m, hm, e⟩
        cases bm : bit m p with
        | false =>
          rw [val0 m hm bm] at e
          subst e; exact .inl hm
        | true =>
          by_cases hc : clr m p ∈ ms
          · rw [val1 m hm bm hc] at e
            rw [e, bn] at bm; cases bm
          · rw [val2 m hm bm hc] at e
            right
            rw [← e, st_clr (h.lt m hm) hp bm]; exact hm
      · rintro (h1 | h1)
        · exact ⟨n, h1, val0 n h1 bn⟩
        · by_cases hc : n ∈ ms
          · exact ⟨n, hc, val0 n hc bn⟩
          · refine ⟨st n p, h1, ?_⟩
            rw [val2 _ h1 s2 (by rw [s1]; exact hc), s1]

noncomputable def turns (os : List Int) (ms : List Nat) : List Nat := os.foldl (fun ms p => ms.map (sh p.toNat ms)) ms
noncomputable def turnsF (os : List Int) (F : Nat → Bool) : Nat → Bool := os.foldl (fun F p => shF p.toNat F) F
theorem MS.turns : ∀ (os : List Int) {ms : List Nat} {F : Nat → Bool}, (∀ o ∈ os, o.toNat < 4) → MS ms F → MS (turns os ms) (turnsF os F)
  | [], _, _, _, h => h
  | o :: os, _, _, ho, h => MS.turns os (fun x hx => ho x (List.mem_cons_of_mem _ hx)) (h.turn (ho o List.mem_cons_self))

/-! trees -/
inductive Tr where
  | lf (n : Nat)
  | an (a b : Tr)
  | or (a b : Tr)
noncomputable def Tr.ev (F : Nat → Bool) : Tr → Bool
  | .lf n => F n
  | .an a b => a.ev F && b.ev F
  | .or a b => a.ev F || b.ev F
noncomputable def Tr.eqb : Tr → Tr → Bool
  | .lf n, .lf m => n == m
  | .an a b, .an c d => a.eqb c && b.eqb d
  | .or a b, .or c d => a.eqb c && b.eqb d
  | _, _ => false
theorem Tr.eqb_ev (F : Nat → Bool) : ∀ {a b : Tr}, a.eqb b = true → a.ev F = b.ev F
  | .lf n, .lf m, h => by
    have : n = m := by simpa [Tr.eqb] using h
    rw [this]
  | .an a b, .an c d, h => by
    have h := Bool.and_eq_true_iff.mp h
    rw [Tr.ev, Tr.ev, Tr.eqb_ev F h.1, Tr.eqb_ev F h.2]
  | .or a b, .or c d, h => by
    have h := Bool.and_eq_true_iff.mp h
    rw [Tr.ev, Tr.ev, Tr.eqb_ev F h.1, Tr.eqb_ev F h.2]
  | .lf _, .an _ _, h => by cases h
  | .lf _, .or _ _, h => by cases h
  | .an _ _, .lf _, h => by cases h
  | .an _ _, .or _ _, h => by cases h
  | .or _ _, .lf _, h => by cases h
  | .or _ _, .an _ _, h => by cases h
noncomputable def Tr.dual : Tr → Tr
  | .lf n => .lf n
  | .an a b => .or a.dual b.dual
  | .or a b => .an a.dual b.dual
theorem Tr.ev_dual (F : Nat → Bool) : ∀ t : Tr, t.dual.ev F = !(t.ev fun n => !F n)
  | .lf n => by simp [Tr.dual, Tr.ev]
  | .an a b => by simp [Tr.dual, Tr.ev, Tr.ev_dual F a, Tr.ev_dual F b]
  | .or a b => by simp [Tr.dual, Tr.ev, Tr.ev_dual F a, Tr.ev_dual F b]
/-- the tree of the turns; the last letter first -/
noncomputable def sT : List Int → Nat → Tr
  | [], m => .lf m
  | o :: r, m => if bit m o.toNat then .an (sT r (clr m o.toNat)) (sT r m) else .or (sT r m) (sT r (st m o.toNat))
theorem ev_sT (F : Nat → Bool) : ∀ (r : List Int) (m : Nat), (sT r m).ev F = turnsF r.reverse F m
  | [], m => rfl
  | o :: r, m => by
    have e : turnsF (o :: r).reverse F m = shF o.toNat (turnsF r.reverse F) m := by
      unfold turnsF
      rw [List.reverse_cons, List.foldl_append]; rfl
    rw [e]
    unfold sT shF
    split
    · rw [Tr.ev, ev_sT F r, ev_sT F r]
    · rw [Tr.ev, ev_sT F r, ev_sT F r]
/-- the tree of the game -/
noncomputable def gT (os : List Int) (w : Nat) : Nat → Nat → Tr
  | 0, n => .lf (relOf os n).toNat
  | j + 1, n => if bit w (os.getD j 0).toNat then .an (gT os w j n) (gT os w j (n + 2 ^ j)) else .or (gT os w j n) (gT os w j (n + 2 ^ j))
theorem trees {os : List Int} (hp : os.Perm [0, 1, 2, 3]) {w : Nat} (hw : w < 16) : (sT os.reverse w).eqb (gT os w 4 0) = true ∧ (sT os.reverse w).dual.eqb (sT os.reverse (15 - w)) = true := by
  have h := perm_all (P := fun os => (List.range 16).all fun w => (sT os.reverse w).eqb (gT os w 4 0) && (sT os.reverse w).dual.eqb (sT os.reverse (15 - w))) (by decide +kernel) hp
  have h2 := List.all_eq_true.mp h w (List.mem_range.mpr hw)
  exact Bool.and_eq_true_iff.mp h2
theorem turnsF_game {os : List Int} (hp : os.Perm [0, 1, 2, 3]) (F : Nat → Bool) {w : Nat} (hw : w < 16) : turnsF os F w = (gT os w 4 0).ev F := by
  have := Tr.eqb_ev F (trees hp hw).1
  rw [ev_sT, List.reverse_reverse] at this
  exact this
theorem turnsF_not {os : List Int} (hp : os.Perm [0, 1, 2, 3]) (F : Nat → Bool) {w : Nat} (hw : w < 16) : turnsF os (fun m => !F m) w = !(turnsF os F (15 - w)) := by
  have h := Tr.eqb_ev F (trees hp hw).2
  rw [Tr.ev_dual, ev_sT, ev_sT, List.reverse_reverse] at h
  rw [← h, Bool.not_not]
end Mine
end

section
open PySem PySem.W PyProof.Rows PySem.Calls
set_option linter.unusedVariables false
set_option linter.unusedSimpArgs false
set_option maxRecDepth 100000
namespace Mine

/-! numbers: the game's bits -/
theorem bitAnd_nat (a b : Nat) : Builtin.bitAnd (a : Int) (b : Int) = ((a &&& b : Nat) : Int) := by
  unfold Builtin.bitAnd
  simp
theorem bitOr_nat (a b : Nat) : Builtin.bitOr (a : Int) (b : Int) = ((a ||| b : Nat) : Int) := by
  unfold Builtin.bitOr Builtin.bitAnd Builtin.bitNot
  have ha : decide (0 ≤ -(a : Int) - 1) = false := by simp; omega
  have hb : decide (0 ≤ -(b : Int) - 1) = false := by simp; omega
  rw [ha, hb]
  simp only
  have e1 : (-(-(a : Int) - 1) - 1).toNat = a := by omega
  have e2 : (-(-(b : Int) - 1) - 1).toNat = b := by omega
  rw [e1, e2]
  omega
theorem tb_bit (m p : Nat) : m.testBit p = bit m p := by
  unfold bit
  rw [Nat.testBit_eq_decide_div_mod_eq]
  by_cases h : m / 2 ^ p % 2 = 1 <;> simp [h]

/-- a number of bits -/
noncomputable def numB (b : Nat → Bool) : Nat → Nat
  | 0 => 0
  | k + 1 => 2 ^ k * (if b k then 1 else 0) + numB b k
theorem numB_lt (b : Nat → Bool) : ∀ k, numB b k < 2 ^ k
  | 0 => by simp [numB]
  | k + 1 => by
    have := numB_lt b k
    unfold numB
    rw [Nat.pow_succ]
    split <;> omega
theorem numB_bit (b : Nat → Bool) (n : Nat) : ∀ k, (numB b k).testBit n = (decide (n < k) && b n)
  | 0 => by simp [numB]
  | k + 1 => by
    unfold numB
    rw [Nat.testBit_two_pow_mul_add _ (numB_lt b k)]
    by_cases h : n < k
    · rw [if_pos h, numB_bit b n k]
      simp [h, Nat.lt_succ_of_lt h]
    · rw [if_neg h]
      by_cases h2 : n = k
      · subst h2
        cases hb : b n <;> simp [hb]
      · have h3 : ¬ n < k + 1 := by omega
        have h4 : 1 ≤ n - k := by omega
        simp only [h3, decide_false, Bool.false_and]
        cases b k
        · simp
        · rw [if_pos rfl]
          obtain ⟨j, hj⟩ : ∃ j, n - k = j + 1 := ⟨n - k - 1, by omega⟩
          rw [hj]
          cases hh : Nat.testBit 1 (j + 1) with
          | false => rfl
          | true => exact absurd (Nat.testBit_one_eq_true_iff_self_eq_zero.mp hh) (by omega)
theorem ask_sum (os : List Int) (f : Nat) (i : Nat) (h : ∀ n, n < i → 0 ≤ relOf os n) : (askL os (f : Int) i).sum = ((numB (fun n => bit f (relOf os n).toNat) i : Nat) : Int) := by
  induction i with
  | zero => rfl
  | succ k ih =>
    have e : askL os (f : Int) (k + 1) = askL os (f : Int) k ++ [(((f : Int).fdiv (2 ^ (relOf os k).toNat)).fmod 2) * 2 ^ k] := by
      unfold askL
      rw [List.range_succ, List.map_append]; rfl
    rw [e, List.sum_append, ih fun n hn => h n (by omega)]
    have key : ((f : Int).fdiv (2 ^ (relOf os k).toNat)).fmod 2 = ((f / 2 ^ (relOf os k).toNat % 2 : Nat) : Int) := by
      rw [fmod_pos _ (by decide), Int.fdiv_eq_ediv_of_nonneg _ (by exact_mod_cast Nat.zero_le (2 ^ (relOf os k).toNat))]
      push_cast
      rfl
    rw [key]
    have hb : f / 2 ^ (relOf os k).toNat % 2 = if bit f (relOf os k).toNat then 1 else 0 := by
      unfold bit
      have : f / 2 ^ (relOf os k).toNat % 2 = 0 ∨ f / 2 ^ (relOf os k).toNat % 2 = 1 := by omega
      rcases this with h | h <;> rw [h] <;> rfl
    rw [hb]
    simp only [List.sum_cons, List.sum_nil, numB]
    by_cases hq : bit f (relOf os k).toNat = true
    · rw [if_pos hq]; push_cast; omega
    · rw [if_neg hq]; push_cast; omega
/-- the game in numbers -/
noncomputable def gN (os : List Int) (w : Nat) (a : Nat) : Nat → Nat
  | 0 => a
  | k + 1 => if bit w (os.getD k 0).toNat then gN os w a k &&& (gN os w a k / 2 ^ 2 ^ k) else gN os w a k ||| (gN os w a k / 2 ^ 2 ^ k)
theorem game_nat (os : List Int) (w a : Nat) : ∀ k, game os (a : Int) (w : Int) k = ((gN os w a k : Nat) : Int)
  | 0 => rfl
  | k + 1 => by
    have e : game os (a : Int) (w : Int) (k + 1) = gstep os w (game os a w k) k := by
      unfold game
      rw [List.range_succ, List.foldl_append]; rfl
    rw [e, game_nat os w a k]
    unfold gstep
    have d : ((gN os w a k : Nat) : Int).fdiv (2 ^ 2 ^ k) = ((gN os w a k / 2 ^ 2 ^ k : Nat) : Int) := by
      rw [Int.fdiv_eq_ediv_of_nonneg _ (by exact_mod_cast Nat.zero_le (2 ^ 2 ^ k))]
      push_cast
      rfl
    rw [d, bitI_bit, bitAnd_nat, bitOr_nat]
    show _ = (((if bit w (os.getD k 0).toNat then gN os w a k &&& (gN os w a k / 2 ^ 2 ^ k) else gN os w a k ||| (gN os w a k / 2 ^ 2 ^ k)) : Nat) : Int)
    split <;> rfl
theorem gN_tree {os : List Int} {w a : Nat} {F : Nat → Bool} (h : ∀ n, n < 16 → a.testBit n = F (relOf os n).toNat) : ∀ j n, n + 2 ^ j ≤ 16 → (gN os w a j).testBit n = (gT os w j n).ev F
  | 0, n, hn => h n (by simp at hn; omega)
  | j + 1, n, hn => by
    have hn' : n + 2 ^ j + 2 ^ j ≤ 16 := by rw [Nat.pow_succ] at hn; omega
    have i1 := gN_tree (w := w) h j n (Nat.le_trans (Nat.le_add_right _ _) hn')
    have i2 := gN_tree (w := w) h j (n + 2 ^ j) hn'
    unfold gN gT
    split
    · rw [Nat.testBit_and, Nat.testBit_div_two_pow, i1, i2]; rfl
    · rw [Nat.testBit_or, Nat.testBit_div_two_pow, i1, i2]; rfl
theorem won_bit {os : List Int} (hp : os.Perm [0, 1, 2, 3]) (f : Nat) {w : Nat} (hw : w < 16) : ((game os (askL os (f : Int) 16).sum (w : Int) 4).fmod 2 != 0) = turnsF os (bit f) w := by
  rw [ask_sum os f 16 fun n hn => (rel_small hp hn).1, game_nat, turnsF_game hp _ hw]
  rw [← gN_tree (os := os) (w := w) (F := bit f) (a := numB (fun n => bit f (relOf os n).toNat) 16) (fun n hn => by rw [numB_bit]; simp [hn]) 4 0 (by decide), tb_bit]
  have := bitI_bit (gN os w (numB (fun n => bit f (relOf os n).toNat) 16) 4) 0
  unfold bitI at this
  rw [← this]
  simp
theorem wonL_eq {os : List Int} (hp : os.Perm [0, 1, 2, 3]) (f : Nat) : wonL os (f : Int) 16 = ((List.range 16).filter (turnsF os (bit f))).map fun w : Nat => (w : Int) := by
  unfold wonL
  congr 1
  exact List.filter_congr fun w hw => won_bit hp f (List.mem_range.mp hw)
end Mine
end

section
open PySem PySem.W PyProof.Rows PySem.Calls
set_option linter.unusedVariables false
set_option linter.unusedSimpArgs false
set_option maxRecDepth 100000
namespace Mine

theorem eq_of_sorted : ∀ {a b : List Int}, a.Perm b → a.Pairwise (· ≤ ·) → b.Pairwise (· ≤ ·) → a = b
  | [], b, h, _, _ => h.nil_eq
  | x :: a, [], h, _, _ => absurd h.symm.nil_eq (by simp)
  | x :: a, y :: b, h, ha, hb => by
    have hxa := List.pairwise_cons.mp ha
    have hyb := List.pairwise_cons.mp hb
    have hx : x ∈ y :: b := h.mem_iff.mp List.mem_cons_self
    have hy : y ∈ x :: a := h.mem_iff.mpr List.mem_cons_self
    have e : x = y := by
      rcases List.mem_cons.mp hx with h1 | h1
      · exact h1
      · rcases List.mem_cons.mp hy with h2 | h2
        · exact h2.symm
        · exact Int.le_antisymm (hxa.1 y h2) (hyb.1 x h1)
    subst e
    rw [eq_of_sorted ((List.perm_cons x).mp h) hxa.2 hyb.2]
theorem MS.sorted {ms : List Nat} {F : Nat → Bool} (h : MS ms F) {ns : List Int} (hp : ns.Perm (ms.map fun m : Nat => (m : Int))) (hs : ns.Pairwise (· ≤ ·)) : ns = ((List.range 16).filter F).map fun m : Nat => (m : Int) := by
  have hq : ms.Perm ((List.range 16).filter F) := by
    refine (List.perm_ext_iff_of_nodup h.nodup (List.Pairwise.filter _ List.nodup_range)).mpr fun m => ?_
    rw [List.mem_filter, List.mem_range]
    constructor
    · intro hm
      exact ⟨h.lt m hm, (h.mem m (h.lt m hm)).mp hm⟩
    · rintro ⟨h1, h2⟩
      exact (h.mem m h1).mpr h2
  refine eq_of_sorted (hp.trans (hq.map _)) hs ?_
  rw [List.pairwise_map]
  refine List.Pairwise.imp (fun {a b} (hab : a < b) => by omega) (List.Pairwise.filter _ List.pairwise_lt_range)
theorem fam_ms (f : Nat) (b : Bool) : MS (fam f 16 b) (fun m => bit f m == b) := by
  refine ⟨List.Pairwise.filter _ List.nodup_range, fun m hm => ?_, fun m hm => ?_⟩
  · exact List.mem_range.mp (List.mem_filter.mp hm).1
  · unfold fam
    rw [List.mem_filter, List.mem_range]
    exact ⟨fun h => h.2, fun h => ⟨hm, h⟩⟩
theorem os_lt {os : List Int} (hp : os.Perm [0, 1, 2, 3]) : ∀ o ∈ os, 0 ≤ o ∧ o.toNat < 4 := fun o ho => by
  have : o ∈ ([0, 1, 2, 3] : List Int) := hp.mem_iff.mp ho
  simp only [List.mem_cons, List.not_mem_nil, or_false] at this
  omega
/-- what is left of the chosen -/
theorem plain_in {os : List Int} (hp : os.Perm [0, 1, 2, 3]) {f : Nat} {ns : List Int} (h : ns.Perm ((turns os (fam f 16 true)).map fun m : Nat => (m : Int))) (hs : ns.Pairwise (· ≤ ·)) : ns = wonL os (f : Int) 16 := by
  have hm := (fam_ms f true).turns os fun o ho => (os_lt hp o ho).2
  have e : (fun m => bit f m == true) = bit f := by funext m; simp
  rw [e] at hm
  rw [wonL_eq hp, hm.sorted h hs]
noncomputable def restL (won : List Int) (i : Nat) : List Int := ((List.range i).filter fun k : Nat => !(won.contains (15 + (k : Int) * (-1)))).map fun k : Nat => 15 - (15 + (k : Int) * (-1))
theorem won_has {os : List Int} (hp : os.Perm [0, 1, 2, 3]) (f : Nat) {k : Nat} (hk : k < 16) : (wonL os (f : Int) 16).contains (15 + (k : Int) * (-1)) = turnsF os (bit f) (15 - k) := by
  rw [wonL_eq hp]
  have e : (15 + (k : Int) * (-1)) = ((15 - k : Nat) : Int) := by omega
  rw [e]
  have hl : 15 - k < 16 := by omega
  cases h : turnsF os (bit f) (15 - k) with
  | true => exact List.contains_iff_mem.mpr (List.mem_map.mpr ⟨_, List.mem_filter.mpr ⟨List.mem_range.mpr hl, h⟩, rfl⟩)
  | false =>
    cases h2 : (((List.range 16).filter (turnsF os (bit f))).map fun w : Nat => (w : Int)).contains ((15 - k : Nat) : Int) with
    | false => rfl
    | true =>
      obtain ⟨m, hm, e2⟩ := List.mem_map.mp (List.contains_iff_mem.mp h2)
      have : m = 15 - k := by omega
      subst this
      rw [(List.mem_filter.mp hm).2] at h; cases h
/-- what is left of all others -/
theorem plain_out {os : List Int} (hp : os.Perm [0, 1, 2, 3]) {f : Nat} {ns : List Int} (h : ns.Perm ((turns os (fam f 16 false)).map fun m : Nat => (m : Int))) (hs : ns.Pairwise (· ≤ ·)) : ns = restL (wonL os (f : Int) 16) 16 := by
  have hm := (fam_ms f false).turns os fun o ho => (os_lt hp o ho).2
  have e : (fun m => bit f m == false) = fun m => !bit f m := by funext m; cases bit f m <;> rfl
  rw [e] at hm
  rw [hm.sorted h hs]
  unfold restL
  have e1 : (List.range 16).filter (turnsF os fun m => !bit f m) = (List.range 16).filter fun k : Nat => !((wonL os (f : Int) 16).contains (15 + (k : Int) * (-1))) := List.filter_congr fun k hk => by
    rw [won_has hp f (List.mem_range.mp hk), turnsF_not hp _ (List.mem_range.mp hk)]
  rw [e1]
  refine List.map_congr_left fun k _ => by omega
theorem turns_len (os : List Int) : ∀ ms : List Nat, (turns os ms).length = ms.length := by
  induction os with
  | nil => exact fun _ => rfl
  | cons o os ih =>
    intro ms
    show (turns os (ms.map (sh o.toNat ms))).length = _
    rw [ih, List.length_map]
end Mine
end

section
open PySem PySem.W PyProof.Rows PySem.Calls
set_option linter.unusedVariables false
set_option linter.unusedSimpArgs false
set_option maxRecDepth 100000
namespace Mine

theorem LineAt.sx2 {σ σ' : List O} {i q p : Nat} {xs : List V} (h : LineAt σ i q) (hp : σ[p]? = some (.list xs)) (s : Sx p σ σ') : LineAt σ' i q := by
  obtain ⟨j, h1, h2⟩ := h
  exact ⟨j, s.get _ _ (fun e => by subst e; rw [hp] at h1; cases h1) h1, s.get _ _ (fun e => by subst e; rw [hp] at h2; cases h2) h2⟩
theorem LS.sx {L : List Nat} {σ σ' : List O} {i q ni p : Nat} {ms : List Nat} {ws : List (List Nat)} {xs : List V} (h : LS L σ i q ni ms ws) (hp : σ[p]? = some (.list xs)) (h1 : p ≠ q) (h2 : p ≠ ni) (s : Sx p σ σ') : LS L σ' i q ni ms ws :=
  ⟨h.line.sx2 hp s, s.get _ _ (Ne.symm h1) h.push, s.get _ _ (Ne.symm h2) h.names, h.len, h.word⟩
noncomputable def b139 : List Stmt := match body139.drop 6 with
  | .For _ _ b _ _ :: _ => b
  | _ => []
noncomputable abbrev base139 (u : Value) (ci : Nat) (f : Nat) (first : Int) (oi li ln nl : Nat) (r : Loc) : Loc :=
  ("script", .g u) :: ("cells", .ref ci) :: ("family", .int f) :: ("first", .int first) :: ("order", .ref oi) :: ("letters", .ref li) :: ("lines", .ref ln) :: ("names", .ref nl) :: r
noncomputable abbrev lp139 (u : Value) (ci : Nat) (f : Nat) (first : Int) (oi li ln nl : Nat) : Option V → Loc
  | none => base139 u ci f first oi li ln nl []
  | some v => base139 u ci f first oi li ln nl [("place", v)]
/-- both lines, as the letters' turns go -/
structure Two (first : Int) (f : Nat) (os : List Int) (t oi li : Nat) (τ : List O) (nl : Nat) (ms0 ms1 : List Nat) : Prop where
  lines : τ[t + 6]? = some (.list [.ref (t + 1), .ref (t + 4)])
  order : τ[oi]? = some (.list (os.map V.int))
  lets : τ[li]? = some (.list ((letters first).map fun c => V.str [c]))
  names : ∃ n0 n1, τ[nl]? = some (.list [.ref n0, .ref n1]) ∧ t + 6 ≤ n0 ∧ t + 6 ≤ n1 ∧ (∃ ws, LS (letters first) τ (t + 1) (t + 2) n0 ms0 ws) ∧ ∃ ws, LS (letters first) τ (t + 4) (t + 5) n1 ms1 ws
  old : oi < t ∧ li < t ∧ t + 6 ≤ nl
  len0 : ms0.length ≤ 16
  len1 : ms1.length ≤ 16
  lt0 : ∀ m ∈ ms0, m < 16
  lt1 : ∀ m ∈ ms1, m < 16
theorem sh_lt {p : Nat} {ms : List Nat} {m : Nat} (h : m < 16) : sh p ms m < 16 := by
  unfold sh; split
  · exact h
  · exact clr_lt h
theorem step139 (scr : Value → Option (List V)) (u : Value) (ci f : Nat) (first : Int) (oi li t nl : Nat) (os : List Int) (o : Int) (ho : 0 ≤ o ∧ o.toNat < 4) (v : Option V) (ms0 ms1 : List Nat) (τ : List O) (KK : KS) (h : Two first f os t oi li τ nl ms0 ms1)
    (next : ∀ τ' nl', Two first f os t oi li τ' nl' (ms0.map (sh o.toNat ms0)) (ms1.map (sh o.toNat ms1)) → KK .next (lp139 u ci f first oi li (t + 6) nl' (some (.int o))) τ') :
    wpS (G3 scr) 13 sc139 (put "place" (.int o) (lp139 u ci f first oi li (t + 6) nl v)) b139 τ KK := by
  obtain ⟨n0, n1, hnl, g0, g1, ⟨ws0, L0⟩, ⟨ws1, L1⟩⟩ := h.names
  have eo : o = ((o.toNat : Nat) : Int) := by omega
  generalize hpl : o.toNat = pl at ho eo next
  subst eo
  have hlx := ho
  have hlet : (letters first)[pl]? = some ((letters first).getD pl 0) := by
    rw [List.getD, List.getElem?_eq_getElem (by rw [(letters_ok first).len]; exact ho.2)]; rfl
  have hlen4 : (letters first).length = 4 := rfl
  have hs : Sb τ (τ ++ [O.rng 0 1 (Int.toNat 2)]) := Sb.app _ _
  have hA := hs.get _ _ h.lines
  have hB := hs.get _ _ hnl
  have hC := hs.get _ _ h.lets
  have L0' := L0.sb hs
  have L1' := L1.sb hs
  have hput : put "place" (.int ((pl : Nat) : Int)) (lp139 u ci f first oi li (t + 6) nl v) = lp139 u ci f first oi li (t + 6) nl (some (.int ((pl : Nat) : Int))) := by cases v <;> kernel_rfl
  rw [hput]
  all_goals
    conv => whnf
    refine And.intro (by decide) ?_
    conv => whnf
    rw [items_rng (get_new _ _)]
    refine And.intro (by decide) ?_
    conv => whnf
    refine And.intro trivial ?_
    conv => whnf
    rw [listOf_ref hA]
    refine And.intro (And.intro (by decide) (And.intro (by decide) (by show (0 : Nat) < 2; decide))) (fun w hw => ?_)
    obtain rfl : V.ref (t + 1) = w := Option.some.inj hw
    conv => whnf
    rw [listOf_ref hB]
    refine And.intro (And.intro (by decide) (And.intro (by decide) (by show (0 : Nat) < 2; decide))) (fun w hw => ?_)
    obtain rfl : V.ref n0 = w := Option.some.inj hw
    conv => whnf
    rw [listOf_ref hC]
    refine And.intro (And.intro (Int.natCast_nonneg _) (And.intro (by omega) (by rw [List.length_map, hlen4]; omega))) (fun w hw => ?_)
    obtain rfl : V.str [(letters first).getD pl 0] = w := by
      rw [Int.toNat_natCast, List.getElem?_map, hlet] at hw
      exact Option.some.inj hw
    conv => whnf
    refine ⟨letters first, pl, t + 2, ms0, ws0, ⟨letters_ok first, rfl, ho.2, rfl, L0', by omega, h.len0, h.lt0⟩, fun σ1 r0 ws0' x1 q1 N0 => ?_⟩
    have L1a := L1'.sx L0'.push (by omega) (by omega) x1
    have hA1 := x1.get _ _ (by omega) hA
    have hB1 := x1.get _ _ (by have := h.old; omega) hB
    have hC1 := x1.get _ _ (by have := h.old; omega) hC
    conv => whnf
    refine And.intro trivial ?_
    conv => whnf
    rw [listOf_ref hA1]
    refine And.intro (And.intro (by decide) (And.intro (by decide) (by show (1 : Nat) < 2; decide))) (fun w hw => ?_)
    obtain rfl : V.ref (t + 4) = w := Option.some.inj hw
    conv => whnf
    rw [listOf_ref hB1]
    refine And.intro (And.intro (by decide) (And.intro (by decide) (by show (1 : Nat) < 2; decide))) (fun w hw => ?_)
    obtain rfl : V.ref n1 = w := Option.some.inj hw
    conv => whnf
    rw [listOf_ref hC1]
    refine And.intro (And.intro (Int.natCast_nonneg _) (And.intro (by omega) (by rw [List.length_map, hlen4]; omega))) (fun w hw => ?_)
    obtain rfl : V.str [(letters first).getD pl 0] = w := by
      rw [Int.toNat_natCast, List.getElem?_map, hlet] at hw
      exact Option.some.inj hw
    conv => whnf
    refine ⟨letters first, pl, t + 5, ms1, ws1, ⟨letters_ok first, rfl, ho.2, rfl, L1a, by omega, h.len1, h.lt1⟩, fun σ2 r1 ws1' x2 q2 N1 => ?_⟩
    have h6 := lt_of_get hA
    have N0a := N0.sx L1a.push (by omega) (by omega) x2
    have hA2 := x2.get _ _ (by omega) hA1
    have hC2 := x2.get _ _ (by have := h.old; omega) hC1
    have hO2 := x2.get _ _ (by have := h.old; omega) (x1.get _ _ (by have := h.old; omega) (hs.get _ _ h.order))
    have hl1 := x1.len
    have hl2 := x2.len
    conv => whnf
    refine And.intro trivial ?_
    refine next _ σ2.length ⟨(Sb.app _ _).get _ _ hA2, (Sb.app _ _).get _ _ hO2, (Sb.app _ _).get _ _ hC2, ⟨r0, r1, get_new _ _, by omega, by omega, ⟨ws0', N0a.sb (Sb.app _ _)⟩, ⟨ws1', N1.sb (Sb.app _ _)⟩⟩, ⟨h.old.1, h.old.2.1, by omega⟩, by rw [List.length_map]; exact h.len0, by rw [List.length_map]; exact h.len1, fun m hm => ?_, fun m hm => ?_⟩
    · obtain ⟨k, hk, rfl⟩ := List.mem_map.mp hm
      exact sh_lt (h.lt0 k hk)
    · obtain ⟨k, hk, rfl⟩ := List.mem_map.mp hm
      exact sh_lt (h.lt1 k hk)
end Mine
end

section
open PySem PySem.W PyProof.Rows PySem.Calls
set_option linter.unusedVariables false
set_option linter.unusedSimpArgs false
set_option maxRecDepth 100000
namespace Mine

theorem dat_two {σ : List O} {i a b : Nat} {xs ys : List Int} (h : σ[i]? = some (.list [.ref a, .ref b])) (ha : σ[a]? = some (.list (xs.map V.int))) (hb : σ[b]? = some (.list (ys.map V.int))) : dat 3 σ (.ref i) = some (.list [.list (xs.map .int), .list (ys.map .int)]) := by
  show (match σ[i]? with
    | some (.list xs) => (xs.mapM (dat 2 σ)).map PyData.list
    | _ => none) = _
  rw [h]
  have e : ([.ref a, .ref b] : List V).mapM (dat 2 σ) = some [.list (xs.map .int), .list (ys.map .int)] := by
    rw [List.mapM_cons, dat_ints ha, List.mapM_cons, dat_ints hb]
    rfl
  dsimp only
  rw [e]; rfl

/-- the law's beginning: up to the loop -/
theorem start139 (scr : Value → Option (List V)) (u : Value) (ns : List Int) (hu : scr u = some (ns.map V.int)) (hz : ns.length ≤ 1000) (σ : List O) (K : KS)
    (next : ∀ (ci f : Nat) (first : Int) (os : List Int) (oi li t nl : Nat) (τ : List O), f < 65536 → os.Perm [0, 1, 2, 3] → Two first f os t oi li τ nl (fam f 16 true) (fam f 16 false) →
      wpS (G3 scr) 14 sc139 (lp139 u ci f first oi li (t + 6) nl none) (body139.drop 6) τ K) :
    wpS (G3 scr) 20 sc139 (ps139.zip [.g u]) body139 σ K := by
  have hlx := hz
  conv => whnf
  refine ⟨ns, ⟨hu, hz⟩, fun cs σ1 ci hcs s1 q1 hci => ?_⟩
  match cs, hcs with
  | [c0, c1, c2], _ =>
  conv => whnf
  rw [listOf_ref hci]
  refine And.intro (And.intro (by decide) (And.intro (by decide) (by show (0 : Nat) < 3; decide))) (fun w hw => ?_)
  obtain rfl : V.int c0 = w := Option.some.inj hw
  conv => whnf
  refine And.intro (by decide) ?_
  conv => whnf
  rw [listOf_ref hci]
  refine And.intro (And.intro (by decide) (And.intro (by decide) (by show (0 : Nat) < 3; decide))) (fun w hw => ?_)
  obtain rfl : V.int c0 = w := Option.some.inj hw
  conv => whnf
  refine And.intro (by decide) ?_
  conv => whnf
  rw [listOf_ref hci]
  refine And.intro (And.intro (by decide) (And.intro (by decide) (by show (2 : Nat) < 3; decide))) (fun w hw => ?_)
  obtain rfl : V.int c2 = w := Option.some.inj hw
  conv => whnf
  refine And.intro (by show (2 : Nat) ≤ 1000; decide) ?_
  conv => whnf
  rw [get_new]
  obtain ⟨f, hf, hfl⟩ : ∃ f : Nat, c0.fmod 65536 = (f : Int) ∧ f < 65536 := by
    have h0 := Int.emod_nonneg c0 (show (65536 : Int) ≠ 0 by decide)
    have h1 := Int.emod_lt_of_pos c0 (show (0 : Int) < 65536 by decide)
    exact ⟨(c0 % 65536).toNat, by rw [fmod_pos _ (by decide)]; omega, by omega⟩
  rw [hf]
  generalize c0.fdiv 65536 + c2 = first
  have hci2 := (Sb.app σ1 [O.tup [.int (f : Int), .int first]]).get _ _ hci
  generalize σ1 ++ [O.tup [.int (f : Int), .int first]] = σ2 at hci2
  conv => whnf
  rw [listOf_ref hci2]
  refine And.intro (And.intro (by decide) (And.intro (by decide) (by show (1 : Nat) < 3; decide))) (fun w hw => ?_)
  obtain rfl : V.int c1 = w := Option.some.inj hw
  conv => whnf
  intro os σ3 oi hp s3 q3 hoi
  conv => whnf
  refine And.intro (by decide) ?_
  conv => whnf
  rw [items_rng (get_new _ _)]
  refine And.intro (by decide) ?_
  refine iterGo_rule (fun k acc τ => Sb σ3 τ ∧ acc = ((letters first).take k).map fun c => V.str [c]) 0 ⟨Sb.app _ _, rfl⟩ (fun k v acc τ KK hv hI hK => ?_) (fun acc τ hI => ?_)
  · obtain ⟨hs, rfl⟩ := hI
    rw [List.getElem?_map] at hv
    obtain ⟨k', hk', rfl⟩ := Option.map_eq_some_iff.mp hv
    obtain ⟨rfl, hlt⟩ := range_at hk'
    have hlt4 : k' < 4 := hlt
    have hx0 : (0 : Int) + (k' : Int) * 1 = k' := by omega
    rw [hx0]
    rw [Nat.zero_add] at hK ⊢
    have hg : (letters first)[k']? = some (signA (first + 5 * (k' : Int))) := by
      unfold letters
      rw [List.getElem?_map, List.getElem?_range hlt4]; rfl
    refine And.intro trivial ?_
    conv => whnf
    refine And.intro (by decide) ?_
    conv => whnf
    intro σ4 s4
    refine hK _ _ ⟨hs.trans s4, ?_⟩
    rw [take_snoc hg, List.map_append]; rfl
  obtain ⟨hs, rfl⟩ := hI
  refine And.intro trivial ?_
  have el : (letters first).take (0 + ((List.range (Int.toNat 4)).map fun k : Nat => V.int (0 + (k : Int) * 1)).length) = letters first := by
    rw [List.length_map, List.length_range]
    rfl
  rw [el]
  have hli : (τ ++ [O.list ((letters first).map fun c => V.str [c])])[τ.length]? = some (.list ((letters first).map fun c => V.str [c])) := get_new _ _
  have hoi2 := (Sb.app τ [O.list ((letters first).map fun c => V.str [c])]).get _ _ (hs.get _ _ hoi)
  conv => whnf
  refine ⟨f, ⟨rfl, hfl, hli⟩, fun T σ5 t s5 ht hLn htt => ?_⟩
  conv => whnf
  simp only [htt]
  conv => whnf
  have hlines := hLn.lines
  simp only [hlines]
  refine And.intro (by show (2 : Nat) ≤ 1000000; decide) ?_
  conv => whnf
  refine And.intro (fun h => by cases h) (fun _ => ?_)
  have hT1 := lt_of_get (s5.get _ _ hli)
  have hT2 := lt_of_get (s5.get _ _ hoi2)
  have z : ∀ b, (fam f 16 b).length ≤ 16 := fun b => by
    have := List.length_filter_le (fun m => bit f m == b) (List.range 16)
    rw [List.length_range] at this
    exact this
  have two : Two first f os T.length oi τ.length σ5 (T.length + 9) (fam f 16 true) (fam f 16 false) := ⟨hlines, hLn.sb.get _ _ (s5.get _ _ hoi2), hLn.sb.get _ _ (s5.get _ _ hli), ⟨_, _, hLn.names, by omega, by omega, hLn.in_, hLn.out⟩, ⟨hT2, hT1, by omega⟩, z _, z _, (fam_ms f true).lt, (fam_ms f false).lt⟩
  have go := next ci f first os oi τ.length T.length (T.length + 9) σ5 hfl hp two
  exact Eq.mp (by kernel_rfl) go
end Mine
end

section
open PySem PySem.W PyProof.Rows PySem.Calls
set_option linter.unusedVariables false
set_option linter.unusedSimpArgs false
set_option maxRecDepth 100000
namespace Mine

/-- the law's end: what is left, who has won -/
theorem end139 (scr : Value → Option (List V)) (u : Value) (ci f : Nat) (first : Int) (oi li t nl : Nat) (os : List Int) (hos : os.Perm [0, 1, 2, 3]) (v : V) (τ : List O) (K : KS)
    (h : Two first f os t oi li τ nl (turns os (fam f 16 true)) (turns os (fam f 16 false)))
    (next : ∀ l τ', K (.ret (.bool true)) l τ') :
    wpS (G3 scr) 13 sc139 (lp139 u ci f first oi li (t + 6) nl (some v)) (body139.drop 7) τ K := by
  obtain ⟨n0, n1, hnl, g0, g1, ⟨ws0, L0⟩, ⟨ws1, L1⟩⟩ := h.names
  have hlx := g0
  have hs : Sb τ (τ ++ [O.rng 0 1 (Int.toNat 2)]) := Sb.app _ _
  have hA := hs.get _ _ h.lines
  have hB := hs.get _ _ hnl
  have L0' := L0.sb hs
  have L1' := L1.sb hs
  have hN0 := L0'.names
  all_goals
    conv => whnf
    refine And.intro (by decide) ?_
    conv => whnf
    rw [items_rng (get_new _ _)]
    refine And.intro (by decide) ?_
    conv => whnf
    refine And.intro trivial ?_
    conv => whnf
    rw [listOf_ref hA]
    refine And.intro (And.intro (by decide) (And.intro (by decide) (by show (0 : Nat) < 2; decide))) (fun w hw => ?_)
    obtain rfl : V.ref (t + 1) = w := Option.some.inj hw
    conv => whnf
    rw [listOf_ref hB]
    refine And.intro (And.intro (by decide) (And.intro (by decide) (by show (0 : Nat) < 2; decide))) (fun w hw => ?_)
    obtain rfl : V.ref n0 = w := Option.some.inj hw
    conv => whnf
    simp only [hN0]
    refine And.intro (by rw [List.length_map]; have := h.len0; omega) ?_
    conv => whnf
    refine ⟨letters first, t + 2, n0, _, ws0, ⟨letters_ok first, by rw [List.length_map], L0', h.len0, h.lt0⟩, fun ns0 σ1 r0 p0 o0 x1 q1 hr0 => ?_⟩
    have L1a := L1'.sx L0'.push (by omega) (by omega) x1
    have hA1 := x1.get _ _ (by omega) hA
    have hB1 := x1.get _ _ (by have := h.old; omega) hB
    have hN1 := L1a.names
    conv => whnf
    refine And.intro trivial ?_
    conv => whnf
    rw [listOf_ref hA1]
    refine And.intro (And.intro (by decide) (And.intro (by decide) (by show (1 : Nat) < 2; decide))) (fun w hw => ?_)
    obtain rfl : V.ref (t + 4) = w := Option.some.inj hw
    conv => whnf
    rw [listOf_ref hB1]
    refine And.intro (And.intro (by decide) (And.intro (by decide) (by show (1 : Nat) < 2; decide))) (fun w hw => ?_)
    obtain rfl : V.ref n1 = w := Option.some.inj hw
    conv => whnf
    simp only [hN1]
    refine And.intro (by rw [List.length_map]; have := h.len1; omega) ?_
    conv => whnf
    refine ⟨letters first, t + 5, n1, _, ws1, ⟨letters_ok first, by rw [List.length_map], L1a, h.len1, h.lt1⟩, fun ns1 σ2 r1 p1 o1 x2 q2 hr1 => ?_⟩
    have hT := lt_of_get hA
    have hr0a := x2.get _ _ (by omega) hr0
    have hO2 := x2.get _ _ (by have := h.old; omega) (x1.get _ _ (by have := h.old; omega) (hs.get _ _ h.order))
    have e0 := plain_in hos p0 o0
    have e1 := plain_out hos p1 o1
    subst e0 e1
    conv => whnf
    refine And.intro trivial ?_
    have hL3 := get_new σ2 (O.list ([] ++ [V.ref r0] ++ [V.ref r1]))
    have s3 := Sb.app σ2 [O.list ([] ++ [V.ref r0] ++ [V.ref r1])]
    have hr0b := s3.get _ _ hr0a
    have hr1b := s3.get _ _ hr1
    have hO3 := s3.get _ _ hO2
    conv => whnf
    refine ⟨os, ⟨hos, hO3⟩, fun σ4 wi s4 q4 hwi => ?_⟩
    have hL4 := s4.get _ _ hL3
    have hr0c := s4.get _ _ hr0b
    have hr1c := s4.get _ _ hr1b
    conv => whnf
    refine And.intro (by decide) ?_
    conv => whnf
    rw [items_rng (get_new _ _)]
    refine And.intro (by decide) ?_
    have s5 := Sb.app σ4 [O.rng 15 (-1) (Int.toNat (15 - (-1)))]
    refine iterGo_rule (fun k acc τ' => τ' = σ4 ++ [O.rng 15 (-1) (Int.toNat (15 - (-1)))] ∧ acc = (restL (wonL os (f : Int) 16) k).map V.int) 0 ⟨rfl, rfl⟩ (fun k v acc τ' KK hv hI hK => ?_) (fun acc τ' hI => ?_)
    · obtain ⟨rfl, rfl⟩ := hI
      rw [List.getElem?_map] at hv
      obtain ⟨k', hk', rfl⟩ := Option.map_eq_some_iff.mp hv
      obtain ⟨rfl, hlt⟩ := range_at hk'
      rw [Nat.zero_add] at hK ⊢
      have hst : restL (wonL os (f : Int) 16) (k' + 1) = restL (wonL os (f : Int) 16) k' ++ (if (!((wonL os (f : Int) 16).contains (15 + (k' : Int) * (-1)))) = true then [15 - (15 + (k' : Int) * (-1))] else []) := by
        exact frs _ _ _
      have hw5 := s5.get _ _ hwi
      refine And.intro trivial ?_
      conv => whnf
      simp only [hw5]
      refine ⟨_, rfl, ?_⟩
      conv => whnf
      refine And.intro (fun hb => ?_) (fun hb => ?_)
      · refine hK _ _ ⟨rfl, ?_⟩
        rw [hst, if_pos hb, List.map_append]; rfl
      · refine hK _ _ ⟨rfl, ?_⟩
        rw [hst, if_neg (by rw [hb]; decide), List.append_nil]
    obtain ⟨rfl, rfl⟩ := hI
    refine And.intro trivial ?_
    have el : 0 + ((List.range (Int.toNat (15 - (-1)))).map fun k : Nat => V.int (15 + (k : Int) * (-1))).length = 16 := by simp
    rw [el]
    generalize σ4 ++ [O.rng 15 (-1) (Int.toNat (15 - (-1)))] = σ5 at s5
    have hw6 := (Sb.app σ5 [O.list ((restL (wonL os (f : Int) 16) 16).map V.int)]).get _ _ (s5.get _ _ hwi)
    have hL6 := (Sb.app σ5 [O.list ((restL (wonL os (f : Int) 16) 16).map V.int)]).get _ _ (s5.get _ _ hL4)
    have hr6 := (Sb.app σ5 [O.list ((restL (wonL os (f : Int) 16) 16).map V.int)]).get _ _ (s5.get _ _ hr0c)
    have hr7 := (Sb.app σ5 [O.list ((restL (wonL os (f : Int) 16) 16).map V.int)]).get _ _ (s5.get _ _ hr1c)
    have hn6 := get_new σ5 (O.list ((restL (wonL os (f : Int) 16) 16).map V.int))
    conv => whnf
    refine And.intro (by show (2 : Nat) ≤ 1000; decide) ?_
    generalize σ5 ++ [O.list ((restL (wonL os (f : Int) 16) 16).map V.int)] = σ6 at hw6 hL6 hr6 hr7 hn6
    have s7 := Sb.app σ6 [O.list [V.ref wi, V.ref σ5.length]]
    have d1 := dat_two (s7.get _ _ hL6) (s7.get _ _ hr6) (s7.get _ _ hr7)
    have d2 := dat_two (get_new σ6 (O.list [V.ref wi, V.ref σ5.length])) (s7.get _ _ hw6) (s7.get _ _ hn6)
    conv => whnf
    refine ⟨_, _, d1, d2, ⟨shaped_two _ _, shaped_two _ _⟩, ?_⟩
    rw [eqv_two]
    exact next _ _
/-- the law, walked: its answer is True -/
theorem t139 (scr : Value → Option (List V)) (u : Value) (ns : List Int) (hu : scr u = some (ns.map V.int)) (hz : ns.length ≤ 1000) (σ : List O) (K : KS) (next : ∀ l τ', K (.ret (.bool true)) l τ') :
    wpS (G3 scr) 20 sc139 (ps139.zip [.g u]) body139 σ K := by
  refine start139 scr u ns hu hz σ K fun ci f first os oi li t nl τ hf hos two => ?_
  conv => whnf
  rw [items_list two.order]
  refine forGo_rule (fun k l τ' => ∃ nl v, Two first f os t oi li τ' nl (turns (os.take k) (fam f 16 true)) (turns (os.take k) (fam f 16 false)) ∧ l = lp139 u ci f first oi li (t + 6) nl v ∧ (k = 0 ∨ v.isSome = true)) 0 ⟨nl, none, two, rfl, .inl rfl⟩ (fun k v l τ' KK hv hI hK => ?_) (fun l τ' hI => ?_)
  · obtain ⟨nl', v', two', rfl, -⟩ := hI
    rw [List.getElem?_map] at hv
    obtain ⟨o, ho, rfl⟩ := Option.map_eq_some_iff.mp hv
    rw [Nat.zero_add] at two' hK
    refine And.intro two'.order ?_
    have go := step139 scr u ci f first oi li t nl' os o (os_lt hos o (List.mem_of_getElem? ho)) v' _ _ τ' KK two' fun τ2 nl2 two2 => hK _ _ ⟨nl2, some (.int o), ?_, rfl, .inr rfl⟩
    · refine Eq.mp (congr (congr (congr (congrArg (wpS (G3 scr) 13 sc139) rfl) ?_) rfl) rfl) go
      kernel_rfl
    · have e : ∀ ms, turns (os.take (k + 1)) ms = (turns (os.take k) ms).map (sh o.toNat (turns (os.take k) ms)) := fun ms => by
        unfold turns
        rw [take_snoc ho, List.foldl_append]; rfl
      rw [e, e]
      exact two2
  · obtain ⟨nl', v', two', rfl, hv⟩ := hI
    refine And.intro two'.order ?_
    have el : 0 + (os.map V.int).length = os.length := by simp
    rw [el] at two' hv
    rw [List.take_length] at two'
    have hlen := hos.length_eq
    obtain ⟨v', rfl⟩ : ∃ x, v' = some x := by
      rcases hv with hv | hv
      · rw [hv] at hlen; cases hlen
      · exact Option.isSome_iff_exists.mp hv
    have go := end139 scr u ci f first oi li t nl' os hos v' τ' K two' next
    dsimp only [thenS]
    refine Eq.mp (congr (congr (congr (congrArg (wpS (G3 scr) 13 sc139) rfl) ?_) rfl) rfl) go
    kernel_rfl
end Mine
end

section
open PySem PySem.W PyProof.Rows PySem.Calls
set_option linter.unusedVariables false
set_option linter.unusedSimpArgs false
set_option maxRecDepth 100000
namespace Mine

/-! the head's parts: the oracle's setup off the heap as the top leaves it -/
noncomputable def tk22 : List Nat := [205, 206, 207, 208, 209, 210, 191, 211, 212, 213, 214, 192, 193, 194, 195, 196, 197, 215, 216, 217, 218, 219, 220, 189, 190, 198, 199]
noncomputable def es22 : List (Int × Value) := (b1List.zip tk22).map fun p => (p.1, .int p.1 p.2)
noncomputable def tab22 (P : Params) : SetTable := ⟨127, #[0, 1, 2, 3, 4, 5, 6, 7, 8, 9, 10, 11, 12, 13, 14, 15, 16, 17, 18, 19, 20, 21, 22, 45, 79, 96, 127], #[], 0, !P.followText "set-order", 2, true⟩
theorem obj22 (P : Params) : (Mine.K P).lookup 22 = some ⟨.type "set", none, .set es22.toArray 29 (tab22 P), #[]⟩ := by kernel_rfl
theorem es22_all : (es22.all fun e => match e.2 with
    | .int k _ => e.1 == k && hashInt k == k && b1List.contains k
    | _ => false) = true := by decide +kernel
theorem es22_has : (b1List.all fun k => es22.any fun e => Value.isInt k e.2) = true := by decide +kernel
theorem set22_of {prog : Program} {w : World} {h : Heap} (X : (Mine.K w.params).In h) : h.SetOf (intKind prog w) 22 b1 27 := by
  refine ⟨_, es22.toArray, 29, tab22 w.params, X _ _ (obj22 _), ⟨rfl, rfl, rfl⟩, rfl, fun e he => ?_, fun k => ⟨fun hk => ?_, fun ⟨e, he, hk⟩ => ?_⟩, by decide +kernel, by kernel_rfl, by decide +kernel⟩
  · have h1 := List.all_eq_true.mp es22_all e (by simpa using he)
    split at h1
    · rename_i k t e2
      simp only [Bool.and_eq_true, beq_iff_eq] at h1
      refine ⟨⟨k, by rw [e2]; exact intKind_is prog w k t, by rw [h1.1.1]; exact h1.1.2.symm⟩, by rw [e2]; rfl⟩
    · cases h1
  · have hm : k ∈ b1List := List.contains_iff_mem.mp hk
    have h1 := List.all_eq_true.mp es22_has k hm
    obtain ⟨e, he, h2⟩ := List.any_eq_true.mp h1
    exact ⟨e, by simpa using he, h2⟩
  · have h1 := List.all_eq_true.mp es22_all e (by simpa using he)
    obtain ⟨t, e2⟩ := Value.isInt_shape (show Value.isInt k e.2 = true from hk)
    rw [e2] at h1
    simp only [Bool.and_eq_true] at h1
    exact h1.2
/-- a name of the text in the heap, or a builtin -/
noncomputable def glB (P : Params) (p : Str × GN) : Bool := match nsIn (Mine.K P) mainGlobals p.1 with
  | some (some v) => v == gval p.2
  | some none => bootBuiltins p.1 == some (gval p.2) && p.1 != ("__name__" : Str)
  | none => false
theorem gl_all (P : Params) : glList.all (glB P) = true := by kernel_rfl
theorem gl_good (P : Params) {x : Str} {u : GN} (h : (x, u) ∈ glList) : nsIn (Mine.K P) mainGlobals x = some (some (gval u)) ∨ (nsIn (Mine.K P) mainGlobals x = some none ∧ bootBuiltins x = some (gval u) ∧ x ≠ "__name__") := by
  have e := List.all_eq_true.mp (gl_all P) _ h
  unfold glB at e
  split at e
  · rename_i v q
    exact .inl (by rw [q, beq_iff_eq.mp e])
  · rename_i q
    have e := Bool.and_eq_true_iff.mp e
    exact .inr ⟨q, beq_iff_eq.mp e.1, by simpa using e.2⟩
  · cases e
theorem lookup_mem {x : Str} {u : GN} : ∀ {l : List (Str × GN)}, l.lookup x = some u → (x, u) ∈ l
  | [], h => by cases h
  | (y, v) :: l, h => by
    by_cases e : x = y
    · subst e
      have : v = u := by simpa using h
      subst this; exact List.mem_cons_self
    · have hb : (x == y) = false := by simpa using e
      rw [List.lookup_cons, hb] at h
      exact List.mem_cons_of_mem _ (lookup_mem h)
noncomputable def scrOf (b : Addr) (ns : List Int) : Value → Option (List V)
  | .ref a => if a = b then some (ns.map V.int) else none
  | _ => none
theorem setup_of {prog : Program} {w : World} {h : Heap} {mg mb : Str → Option Value} {b : Addr} {us : List Value} {ns : List Int} (X : (Mine.K w.params).In h) (nsg : h.Ns mainGlobals mg) (nsb : h.Ns builtinsNs mb) (lim : h.NoLimit) (bt : ∀ x : Str, x ≠ "__name__" → mb x = bootBuiltins x)
    (hl : h.IsList b us.toArray) (hi : IntsAre us ns) (G : Ora) (g : G.gl = glOf) (sc : G.scr = scrOf b ns) : Setup prog w h mg mb G where
  inK := X
  nsg := nsg
  nsb := nsb
  lim := lim
  gl := fun x u e => by
    rw [g] at e
    rcases gl_good w.params (lookup_mem e) with h1 | ⟨h1, h2, h3⟩
    · exact .inl (mg_of X nsg h1)
    · exact .inr ⟨mg_none_of X nsg h1, (bt x h3).trans h2⟩
  scr := fun u xs e => by
    rw [sc] at e
    unfold scrOf at e
    split at e
    · split at e
      · rename_i a q
        subst q
        cases e
        exact ⟨_, us, rfl, hl, vrs_ints hi⟩
      · cases e
    · cases e
  set22 := set22_of X
theorem rep_nil (h : Heap) : Rep h [] [] h := ⟨fun _ _ e => e, rfl, List.nodup_nil, fun _ hm => (nomatch hm), fun i a o e _ => by simp at e⟩
/-- the law, run -/
theorem law_run {prog : Program} {w : World} {mg mb : Str → Option Value} {b : Addr} {us : List Value} {ns : List Int} {s : Shared} {RR : Result → Shared → Prop} (X : (Mine.K w.params).In s.heap) (nsg : s.heap.Ns mainGlobals mg) (nsb : s.heap.Ns builtinsNs mb) (lim : s.heap.NoLimit) (bt : ∀ x : Str, x ≠ "__name__" → mb x = bootBuiltins x)
    (hl : s.heap.IsList b us.toArray) (hi : IntsAre us ns) (hz : ns.length ≤ 1000)
    (r : ∀ s', (∀ c o, s.heap.get? c = some o → s'.heap.get? c = some o) → s'.os = s.os → s'.gens = s.gens → RR (.ok (.ret (.bool true))) s') :
    codeAny (model prog w) callerA (.call (.ref 139) ⟨[.ref b], []⟩) RR s := by
  have hs : ∀ G : Ora, G.gl = glOf → G.scr = scrOf b ns → Setup prog w s.heap mg mb G := fun G g sc => setup_of X nsg nsb lim bt hl hi G g sc
  refine fn_code (dp := 4) (n := 20) (KK := fun v _ => v = .bool true) (vs := [.g (.ref b)]) (fn139 _) (hs (G3 (scrOf b ns)) rfl rfl) (c3_ok hs) ⟨rfl, by decide +kernel, by decide +kernel⟩ (rep_nil _) ⟨rfl, trivial⟩ rfl
    (t139 (scrOf b ns) (.ref b) ns (by simp [scrOf]) hz [] _ fun l τ' => rfl) fun u v σ' t s' hk vr R x => ?_
  subst hk
  obtain rfl := vr
  obtain ⟨h', tk, e⟩ := x.same
  refine r s' (fun c o ho => x.keep c o (fun hm => by cases hm) ho) (by rw [e]) (by rw [e])
end Mine
end

section
open PySem PySem.W PyProof.Rows
set_option linter.unusedVariables false
namespace Mine
set_option maxRecDepth 100000
set_option maxHeartbeats 0

noncomputable def q : Program := view PySem.Challenge.pw_wo0009_01 [1, 2, 4, 6, 8, 10, 11, 12, 13, 14, 15, 16, 17, 18]
noncomputable def loose : List Str := [PySem.Str.ofString "b1_set"]
noncomputable def H : Hook := kHook K addrs (fun _ => by kernel_rfl)
noncomputable def Xt : Shared → Bool := fun s => xlAt q [] s && recOk (RowW.records PySem.Challenge.rw_wo0009_01.row.toRowW) s
noncomputable def pw : Program := PySem.Challenge.rw_wo0009_01.row.toRowW.prog

/-! the heap behind the second statement -/
noncomputable def oA3 (P : Params) : Obj := ⟨(.type "dict"), none, (.dict (([⟨PyData.keyHash P (PySem.Str.ofString "__name__"), (.str (PySem.Str.ofString "__name__") 165), (.str (PySem.Str.ofString "cpy313.stringprep") 187)⟩, ⟨PyData.keyHash P (PySem.Str.ofString "__doc__"), (.str (PySem.Str.ofString "__doc__") 166), .none⟩, ⟨PyData.keyHash P (PySem.Str.ofString "__package__"), (.str (PySem.Str.ofString "__package__") 167), .none⟩, ⟨PyData.keyHash P (PySem.Str.ofString "__loader__"), (.str (PySem.Str.ofString "__loader__") 168), (ldr P)⟩, ⟨PyData.keyHash P (PySem.Str.ofString "__spec__"), (.str (PySem.Str.ofString "__spec__") 169), .none⟩, ⟨PyData.keyHash P (PySem.Str.ofString "__annotations__"), (.str (PySem.Str.ofString "__annotations__") 170), (.ref 6)⟩, ⟨PyData.keyHash P (PySem.Str.ofString "__builtins__"), (.str (PySem.Str.ofString "__builtins__") 171), (.ref 4)⟩, ⟨PyData.keyHash P (PySem.Str.ofString "__file__"), (.str (PySem.Str.ofString "__file__") 173), (.str (PySem.Str.ofString "/claim/cut.py") 172)⟩, ⟨PyData.keyHash P (PySem.Str.ofString "__cached__"), (.str (PySem.Str.ofString "__cached__") 174), .none⟩, ⟨PyData.keyHash P (PySem.Str.ofString "b1_set"), (.str (PySem.Str.ofString "b1_set") 248), (.ref 22)⟩] : List _).toArray) 10), ([] : List _).toArray⟩
noncomputable def oA11 (P : Params) : Obj := ⟨(.type "tuple"), none, (.seq (([] : List _).toArray) 0), ([] : List _).toArray⟩
noncomputable def oA12 (P : Params) : Obj := ⟨.none, none, (.fields (([] : List _).toArray)), ([] : List _).toArray⟩
noncomputable def oA13 (P : Params) : Obj := ⟨(.type "code"), none, (.fields (([(.str (PySem.Str.ofString "<module>") 182), (.str (PySem.Str.ofString "<module>") 183), (.str (PySem.Str.ofString "/claim/cut.py") 184), (.int 1 0), (.int 0 0), (.int 0 0), (.int 0 0), (.int 0 0), (.ref 11), (.bool false), (.int 181 0), (.ref 12), .none, .none, .none, .none, (.int 185 0), (.int 1 0), (.str (PySem.Str.ofString "/claim/cut.py") 186)] : List _).toArray)), ([] : List _).toArray⟩
noncomputable def oA14 (P : Params) : Obj := ⟨(.type "frame"), none, .plain, ([(some (.ref 13)), (some (.ref 3)), (some (.ref 3)), none, (some (.str (PySem.Str.ofString "__main__") 164)), none, (some (.ref 0))] : List _).toArray⟩
noncomputable def oA15 (P : Params) : Obj := ⟨(.type "list"), none, (.seq (([(.int 173 189), (.int 847 190), (.int 6150 191), (.int 6155 192), (.int 6156 193), (.int 6157 194), (.int 8203 195), (.int 8204 196), (.int 8205 197), (.int 8288 198), (.int 65279 199)] : List _).toArray) 0), ([] : List _).toArray⟩
noncomputable def oA16 (P : Params) : Obj := ⟨(.type "range"), none, (.fields (([(.int 65024 200), (.int 65040 201), (.int 1 202)] : List _).toArray)), ([] : List _).toArray⟩
noncomputable def oA17 (P : Params) : Obj := ⟨(.type "list"), none, (.seq (([(.int 65024 205), (.int 65025 206), (.int 65026 207), (.int 65027 208), (.int 65028 209), (.int 65029 210), (.int 65030 211), (.int 65031 212), (.int 65032 213), (.int 65033 214), (.int 65034 215), (.int 65035 216), (.int 65036 217), (.int 65037 218), (.int 65038 219), (.int 65039 220)] : List _).toArray) 18), ([] : List _).toArray⟩
noncomputable def oA18 (P : Params) : Obj := ⟨(.type "range_iterator"), none, (.fields (([(.int 65040 0), (.int 0 0), (.int 1 0)] : List _).toArray)), ([] : List _).toArray⟩
noncomputable def oA19 (P : Params) : Obj := ⟨(.type "tuple"), none, (.seq (([] : List _).toArray) 0), ([] : List _).toArray⟩
noncomputable def oA20 (P : Params) : Obj := ⟨(.type "StopIteration"), none, (.fields (([(.ref 19), .none, .none, .none, (.bool false), .none] : List _).toArray)), ([] : List _).toArray⟩
noncomputable def oA21 (P : Params) : Obj := ⟨(.type "list"), none, (.seq (([(.int 173 189), (.int 847 190), (.int 6150 191), (.int 6155 192), (.int 6156 193), (.int 6157 194), (.int 8203 195), (.int 8204 196), (.int 8205 197), (.int 8288 198), (.int 65279 199), (.int 65024 205), (.int 65025 206), (.int 65026 207), (.int 65027 208), (.int 65028 209), (.int 65029 210), (.int 65030 211), (.int 65031 212), (.int 65032 213), (.int 65033 214), (.int 65034 215), (.int 65035 216), (.int 65036 217), (.int 65037 218), (.int 65038 219), (.int 65039 220)] : List _).toArray) 0), ([] : List _).toArray⟩
noncomputable def oA22 (P : Params) : Obj := ⟨(.type "set"), none, (.set (([(65024, (.int 65024 205)), (65025, (.int 65025 206)), (65026, (.int 65026 207)), (65027, (.int 65027 208)), (65028, (.int 65028 209)), (65029, (.int 65029 210)), (6150, (.int 6150 191)), (65030, (.int 65030 211)), (65031, (.int 65031 212)), (65032, (.int 65032 213)), (65033, (.int 65033 214)), (6155, (.int 6155 192)), (6156, (.int 6156 193)), (6157, (.int 6157 194)), (8203, (.int 8203 195)), (8204, (.int 8204 196)), (8205, (.int 8205 197)), (65034, (.int 65034 215)), (65035, (.int 65035 216)), (65036, (.int 65036 217)), (65037, (.int 65037 218)), (65038, (.int 65038 219)), (65039, (.int 65039 220)), (173, (.int 173 189)), (847, (.int 847 190)), (8288, (.int 8288 198)), (65279, (.int 65279 199))] : List _).toArray) 29 ⟨127, (([0, 1, 2, 3, 4, 5, 6, 7, 8, 9, 10, 11, 12, 13, 14, 15, 16, 17, 18, 19, 20, 21, 22, 45, 79, 96, 127] : List _).toArray), (([] : List _).toArray), 0, !P.followText "set-order", 2, true⟩), ([] : List _).toArray⟩
noncomputable def oA23 (P : Params) : Obj := ⟨(.type "list_iterator"), none, (.fields (([.none, (.int 27 0)] : List _).toArray)), ([] : List _).toArray⟩
noncomputable def oA24 (P : Params) : Obj := ⟨(.type "tuple"), none, (.seq (([] : List _).toArray) 0), ([] : List _).toArray⟩
noncomputable def oA25 (P : Params) : Obj := ⟨(.type "StopIteration"), none, (.fields (([(.ref 24), .none, .none, .none, (.bool false), .none] : List _).toArray)), ([] : List _).toArray⟩
noncomputable def treeA (P : Params) : BT := (.node (boot_o_0 P) (.node (boot_o_1 P) (.node (oA3 P) (.node (boot_o_7 P) (.node (oA15 P) .nil .nil) (.node (oA23 P) .nil .nil)) (.node (oA11 P) (.node (oA19 P) .nil .nil) .nil)) (.node (boot_o_5 P) (.node (boot_o_9 P) (.node (oA17 P) .nil .nil) (.node (oA25 P) .nil .nil)) (.node (oA13 P) (.node (oA21 P) .nil .nil) .nil))) (.node (boot_o_2 P) (.node (boot_o_4 P) (.node (boot_o_8 P) (.node (oA16 P) .nil .nil) (.node (oA24 P) .nil .nil)) (.node (oA12 P) (.node (oA20 P) .nil .nil) .nil)) (.node (boot_o_6 P) (.node (boot_o_10 P) (.node (oA18 P) .nil .nil) .nil) (.node (oA14 P) (.node (oA22 P) .nil .nil) .nil))))
noncomputable def sA (w : World) (os : OsState) : SharedT := ⟨treeA w.params, 26, {}, #[], boot_drawn, 249, os⟩
noncomputable def s0 (w : World) (os : OsState) : Shared := ⟨boot_heap w.params, #[], boot_drawn, boot_toks, os⟩
noncomputable def pos0 : Pos := ⟨0, 0, 0, 0⟩
noncomputable def posA : Pos := ⟨2, 0, 2, 6⟩
noncomputable def envT : Env := { scope := pw.main.scope, locals := mainNs, globals := mainNs, cells := [], code := .ref 13, frame := some 14 }
noncomputable def bT : List Stmt := behindTheImports pw
noncomputable def cT : Code := .body bT envT
noncomputable def annT : Option Value := some (.ref 6)
noncomputable abbrev twPieces (l : List Stmt) (env : Env) (c : Code) (p : Pos) (B : List Frame) : Thread := ⟨(PySem.W.Fast.tw12563942051412417395 l env).wrap doneF deadEnd id id, c, p, B⟩
noncomputable abbrev FineA (w : World) : Prop := ∀ os : OsState, ((PySem.W.Fast.tw15667345088766844465 PySem.W.Fast.tw14364793385576792824 pw w 11 annT 12 (s0 w os) (topStub pw)).map fun x => (x.2, PySem.W.Fast.tw14374325043358763698 PySem.W.Fast.tw14364793385576792824 pw w 11 annT 1 1100 x.1 (twPieces (bT.take 2) envT cT pos0 [topFrame pos0]))) =
  some (⟨PySem.W.Fast.tw11892475500146522536 PySem.W.Fast.tw14364793385576792824 cT, cT, pos0, [topFrame pos0]⟩, some (.next, (sA w os).abs, cT, posA))
theorem fineA_false_false (w : World) : FineA ((w.withFollow "special-get-raises" false).withFollow "set-order" false) := fun os => by kernel_rfl
theorem fineA_true_false (w : World) : FineA ((w.withFollow "special-get-raises" true).withFollow "set-order" false) := fun os => by kernel_rfl
theorem fineA_false_true (w : World) : FineA ((w.withFollow "special-get-raises" false).withFollow "set-order" true) := fun os => by kernel_rfl
theorem fineA_true_true (w : World) : FineA ((w.withFollow "special-get-raises" true).withFollow "set-order" true) := fun os => by kernel_rfl
theorem fineA (w : World) : FineA w :=
  byRow2 "set-order" (P := FineA) (byRow2 "special-get-raises" (P := fun w => FineA (w.withFollow "set-order" false)) fineA_false_false fineA_true_false)
    (byRow2 "special-get-raises" (P := fun w => FineA (w.withFollow "set-order" true)) fineA_false_true fineA_true_true) w
noncomputable abbrev Looks (P : Params) (s : Shared) := (staticsOk (importedModules pw.main.body) (boot_heap P) s.heap && namesBound pw s.heap && gensDone s && laidKept (boot_heap P) s.heap, PySem.W.Fast.tw4187177175401517315 q loose (importedModules pw.main.body) Xt true s, H.obs s)
noncomputable abbrev FineB (w : World) : Prop := ∀ os : OsState, ((PySem.W.Fast.tw10110043849684766642 PySem.W.Fast.tw14364793385576792824 pw w 11 annT 1 800 (sA w os) (twPieces (bT.drop 2) envT cT posA [topFrame pos0])).map fun r => (r.1, r.2.2.1, Looks w.params r.2.1.abs)) = some (.next, cT, true, openGood q loose, H.val w)
theorem fineB (w : World) : FineB w := fun os => by kernel_rfl
theorem finT (w : World) (s : Shared) (p : Pos) : PySem.W.topRun treeTable pw w 11 annT 2 s ⟨doneF .next, cT, p, [topFrame pos0]⟩ = some s := by kernel_rfl
theorem blockT (w : World) (s : Shared) : segRun treeTable pw w 11 annT 1 1 s (blockOf bT envT cT pos0 [topFrame pos0]) = some (.next, s, cT, pos0) := by kernel_rfl
theorem sizeT (P : Params) : ((boot_heap P).isNs mainGlobals && (#[] : Array GenState).size == 0, (boot_heap P).objs.size, (boot_heap P).nsMap mainGlobals "__annotations__") = (true, 11, annT) := by kernel_rfl
theorem openT : ∀ w : World, (fencedOpening treeTable pw w 3540).map (fun s => (s.heap, s.gens, s.drawn, s.toks)) = some (boot_heap w.params, Array.mk [], boot_drawn, boot_toks) := boot_open (by kernel_rfl) (by kernel_rfl) (fun s => by kernel_rfl)
theorem pieces_eq (l : List Stmt) (env : Env) (c : Code) (p : Pos) (B : List Frame) : piecesOf l env c p B = twPieces l env c p B := by
  unfold twPieces
  rw [← PySem.W.Fast.te12563942051412417395]
theorem runA (w : World) (os : OsState) : ∃ s1, topGo treeTable pw w 11 annT 12 (s0 w os) (topStub pw) = some (s1, ⟨denote treeTable cT, cT, pos0, [topFrame pos0]⟩) ∧ segRun treeTable pw w 11 annT 1 1100 s1 (piecesOf (bT.take 2) envT cT pos0 [topFrame pos0]) = some (.next, (sA w os).abs, cT, posA) := by
  have h := fineA w os
  rw [← PySem.W.Fast.te15667345088766844465, ← PySem.W.Fast.te14364793385576792824, ← PySem.W.Fast.te14374325043358763698, ← PySem.W.Fast.te11892475500146522536, ← pieces_eq] at h
  obtain ⟨⟨s1, t1⟩, e1, e2⟩ := Option.map_eq_some_iff.mp h
  obtain ⟨rfl, e3⟩ := Prod.mk.inj e2
  exact ⟨s1, e1, e3⟩
theorem runB (w : World) (os : OsState) : ∃ s1 p, segRunT treeTable pw w 11 annT 1 800 (sA w os) (piecesOf (bT.drop 2) envT cT posA [topFrame pos0]) = some (.next, s1, cT, p) ∧ Looks w.params s1.abs = (true, openGood q loose, H.val w) := by
  have h := fineB w os
  rw [← PySem.W.Fast.te10110043849684766642, ← PySem.W.Fast.te14364793385576792824, ← pieces_eq] at h
  obtain ⟨⟨f, s1, c, p⟩, e1, e2⟩ := Option.map_eq_some_iff.mp h
  obtain ⟨rfl, e3⟩ := Prod.mk.inj e2
  obtain ⟨rfl, e4⟩ := Prod.mk.inj e3
  exact ⟨s1, p, e1, e4⟩
theorem run (w : World) (os : OsState) : ∃ s1, topRun treeTable pw w 11 annT (12 + (1 + (1100 + (800 + 2)))) (s0 w os) (topStub pw) = some s1 ∧ Looks w.params s1 = (true, openGood q loose, H.val w) := by
  obtain ⟨sa, a1, a2⟩ := runA w os
  obtain ⟨sb, p, b1, b2⟩ := runB w os
  refine ⟨sb.abs, go_top a1 (piece_block (blockT w sa) ?_), b2⟩
  have k := piece_app (rest := []) (segRun_of b1) (piece_nil (finT w sb.abs p))
  have k2 := piece_app a2 k
  rw [List.append_nil, List.take_append_drop] at k2
  exact k2
theorem runL (w : World) (os : OsState) : ∃ s1, topRun treeTable pw w 11 annT 3540 (s0 w os) (topStub pw) = some s1 ∧ (staticsOk (importedModules pw.main.body) (boot_heap w.params) s1.heap && namesBound pw s1.heap && gensDone s1 && laidKept (boot_heap w.params) s1.heap) = true ∧ openSeen q loose (importedModules pw.main.body) Xt true s1 = openGood q loose ∧ H.obs s1 = H.val w := by
  obtain ⟨s1, r, l⟩ := run w os
  obtain ⟨l1, l2, l3⟩ : _ ∧ _ ∧ _ := by simpa only [Prod.mk.injEq] using l
  rw [← PySem.W.Fast.te4187177175401517315] at l2
  exact ⟨s1, topRun_mono 1625 _ _ _ _ r, l1, l2, l3⟩
theorem topL (w : World) (os : OsState) : ∃ s1, topFrom treeTable pw w 3540 (s0 w os) = some s1 ∧ openSeen q loose (importedModules pw.main.body) Xt true s1 = openGood q loose ∧ H.obs s1 = H.val w := by
  obtain ⟨s1, r, l1, l2, l3⟩ := runL w os
  obtain ⟨z1, z2, z3⟩ : _ ∧ _ ∧ _ := by simpa only [Prod.mk.injEq] using sizeT w.params
  refine ⟨s1, ?_, l2, l3⟩
  unfold s0 at r ⊢
  simp only [topFrom, z1, z2, z3, r, l1, Option.bind_some]
theorem open_of {p : Program} {w : World} {N : Nat} {s s1 : Shared} (e : fencedOpening treeTable p w N = some s) (t : topFrom treeTable p w N s = some s1) : openEnds treeTable p w N = some s1 := by
  unfold openEnds
  rw [e, Option.bind_some, t]
theorem left_of {p q : Program} {loose : List Str} {Xt : Shared → Bool} {α : Type} {Yf : Shared → α} {Ya : World → α} {N : Nat} (h : ∀ w : World, ∃ s1, openEnds treeTable p w N = some s1 ∧ openSeen q loose (importedModules p.main.body) Xt true s1 = openGood q loose ∧ Yf s1 = Ya w) : LeftO p q loose Xt Yf Ya N := fun w => by
  obtain ⟨s1, e, l2, l3⟩ := h w
  rw [e]
  exact congrArg some (Prod.ext l2 l3)
theorem left : LeftO pw q loose Xt H.obs H.val 3540 := left_of fun w => by
  obtain ⟨⟨h, gs, d, k, os⟩, e, e'⟩ := Option.map_eq_some_iff.mp (openT w)
  obtain ⟨rfl, rfl, rfl, rfl⟩ : h = boot_heap w.params ∧ gs = Array.mk [] ∧ d = boot_drawn ∧ k = boot_toks := by simpa using e'
  obtain ⟨s1, t, l2, l3⟩ := topL w os
  exact ⟨s1, open_of e t, l2, l3⟩
end Mine
end

section
open PySem PySem.W PyProof.Rows
namespace Mine
set_option maxRecDepth 100000
set_option maxHeartbeats 8000000
theorem tst : PySem.Challenge.rw_wo0009_01.Holds := by
  w_on; o_law
  refine holds_open (q := q) (loose := loose) (Xt := Xt) (XP := XL q []) (Yf := Hook.obs H) (Ya := Hook.val H) (YP := Hook.says H) (N := 3540) left (Hook.of H) (Hook.keeps H) (fun s e => xl_of s (Bool.and_eq_true_iff.mp e).1) XL.keeps (by rfl) (by rfl) (by rfl) (fun s e => recFacts_of (Bool.and_eq_true_iff.mp e).2) (by rfl) (by assumption) (by decide +kernel) ⟨rfl, rfl, rfl, rfl, rfl, by decide +kernel⟩ ?hw ?hc
  case hw => w_witness2
  case hc =>
    intro w s₀ s₁ mg mb G Y fa o pm cd doc dV kV ho hd hcd hD hmg hg args vals as hpre hlay hrd hwl hlo
    have KX : (Mine.K w.params).In s₁.heap := kIn_of Y
    refine Ground.open G ?_
    intro T B D TE TW
    have e139 := mg_of (n := PySem.Str.ofString "law") (v := .ref 139) KX T.g (by kernel_rfl)
    have hmg' : mg (PySem.Str.ofString "law") = some (.ref fa) := hmg
    rw [e139] at hmg'
    obtain rfl : fa = 139 := by cases hmg'; rfl
    clear hcd hD ho hd hmg hmg'
    wrow_args hpre hlay hrd hwl hlo
    refine enter_call ?_
    refine codeAny_mono ?_ (fun _ _ g => GoodW.toG g)
    refine law_run KX T.g T.b T.nolimit T.builtins (by assumption) (by assumption) ?_ fun s' kp hos hgs => ?_
    · omega
    · refine ⟨.inl ⟨_, .bool true, [], rfl, raisesW_false ?_, .bool true, ?_, unshared_nil⟩, kp, hos, hgs.trans hg⟩
      · wrow_none_raised
      · wrow_post
end Mine
end

theorem PySem.Challenge.cw_wo0009_01_holds : PySem.Challenge.rw_wo0009_01.Holds :=
  Mine.tst
