import PyProof.Rows.All
import Wide.All
import OpenK.AllK
import Wide.FinOn
import PySem.Challenge.RW_in0141_01
open PySem PySem.W PyProof.Rows PySem.Calls
set_option Elab.async false
set_option maxRecDepth 100000
set_option maxHeartbeats 8000000
set_option linter.all false
namespace Mine
-- HD
section
abbrev pw : Program := PySem.Challenge.pw_in0141_01
section
local macro_rules | `(tactic| o_head $_) => `(tactic| assumption)
theorem hd (h : OpenRow.Holds (PySem.Challenge.rw_in0141_01).row) : OpenRow.Holds (PySem.Challenge.rw_in0141_01).row := by k_head
theorem hx (h : OpenRow.Holds { (PySem.Challenge.rw_in0141_01).row with name := Str.ofString "zzz" }) : OpenRow.Holds { (PySem.Challenge.rw_in0141_01).row with name := Str.ofString "zzz" } := by x_head
end
noncomputable def zs (s : String) : Str := Str.ofString s
noncomputable def zt (s : String) (n : Nat) : Value := .str (Str.ofString s) n
noncomputable def ze (P : Params) (s : String) (t : Nat) (v : Value) : DictEntry := ⟨PyData.keyHash P (Str.ofString s), .str (Str.ofString s) t, v⟩
noncomputable def garb (P : Params) : List (Nat × Obj) := [
  (16, ⟨(.type "getset_descriptor"), none, (.fields #[(zt "__dict__" 201), (.ref 14), (.builtin "function.__dict__"), (.builtin "function.__dict__#set")]), #[]⟩),
  (17, ⟨(.type "getset_descriptor"), none, (.fields #[(zt "__weakref__" 203), (.ref 14), (.builtin "ExceptionGroup.__weakref__"), .none]), #[]⟩),
  (18, ⟨.none, none, (.seq #[(.int 13 0), (.str ⟨#[6, 189, 10, 95, 95, 109, 111, 100, 117, 108, 101, 95, 95, 6, 186, 17, 95, 102, 114, 111, 122, 101, 110, 95, 105, 109, 112, 111, 114, 116, 108, 105, 98, 6, 190, 15, 95, 95, 102, 105, 114, 115, 116, 108, 105, 110, 101, 110, 111, 95, 95, 4, 187, 0, 971, 6, 191, 7, 95, 95, 100, 111, 99, 95, 95, 9, 52, 95, 102, 114, 111, 122, 101, 110, 95, 105, 109, 112, 111, 114, 116, 108, 105, 98, 46, 66, 117, 105, 108, 116, 105, 110, 73, 109, 112, 111, 114, 116, 101, 114, 46, 95, 95, 100, 111, 99, 95, 95, 58, 115, 116, 114, 35, 111, 112, 97, 113, 117, 101, 6, 192, 7, 95, 79, 82, 73, 71, 73, 78, 6, 188, 8, 98, 117, 105, 108, 116, 45, 105, 110, 6, 193, 9, 102, 105, 110, 100, 95, 115, 112, 101, 99, 9, 50, 95, 102, 114, 111, 122, 101, 110, 95, 105, 109, 112, 111, 114, 116, 108, 105, 98, 46, 66, 117, 105, 108, 116, 105, 110, 73, 109, 112, 111, 114, 116, 101, 114, 46, 102, 105, 110, 100, 95, 115, 112, 101, 99, 35, 111, 112, 97, 113, 117, 101, 6, 194, 13, 99, 114, 101, 97, 116, 101, 95, 109, 111, 100, 117, 108, 101, 9, 54, 95, 102, 114, 111, 122, 101, 110, 95, 105, 109, 112, 111, 114, 116, 108, 105, 98, 46, 66, 117, 105, 108, 116, 105, 110, 73, 109, 112, 111, 114, 116, 101, 114, 46, 99, 114, 101, 97, 116, 101, 95, 109, 111, 100, 117, 108, 101, 35, 111, 112, 97, 113, 117, 101, 6, 195, 11, 101, 120, 101, 99, 95, 109, 111, 100, 117, 108, 101, 9, 52, 95, 102, 114, 111, 122, 101, 110, 95, 105, 109, 112, 111, 114, 116, 108, 105, 98, 46, 66, 117, 105, 108, 116, 105, 110, 73, 109, 112, 111, 114, 116, 101, 114, 46, 101, 120, 101, 99, 95, 109, 111, 100, 117, 108, 101, 35, 111, 112, 97, 113, 117, 101, 6, 196, 8, 103, 101, 116, 95, 99, 111, 100, 101, 9, 49, 95, 102, 114, 111, 122, 101, 110, 95, 105, 109, 112, 111, 114, 116, 108, 105, 98, 46, 66, 117, 105, 108, 116, 105, 110, 73, 109, 112, 111, 114, 116, 101, 114, 46, 103, 101, 116, 95, 99, 111, 100, 101, 35, 111, 112, 97, 113, 117, 101, 6, 197, 10, 103, 101, 116, 95, 115, 111, 117, 114, 99, 101, 9, 51, 95, 102, 114, 111, 122, 101, 110, 95, 105, 109, 112, 111, 114, 116, 108, 105, 98, 46, 66, 117, 105, 108, 116, 105, 110, 73, 109, 112, 111, 114, 116, 101, 114, 46, 103, 101, 116, 95, 115, 111, 117, 114, 99, 101, 35, 111, 112, 97, 113, 117, 101, 6, 198, 10, 105, 115, 95, 112, 97, 99, 107, 97, 103, 101, 9, 51, 95, 102, 114, 111, 122, 101, 110, 95, 105, 109, 112, 111, 114, 116, 108, 105, 98, 46, 66, 117, 105, 108, 116, 105, 110, 73, 109, 112, 111, 114, 116, 101, 114, 46, 105, 115, 95, 112, 97, 99, 107, 97, 103, 101, 35, 111, 112, 97, 113, 117, 101, 6, 199, 11, 108, 111, 97, 100, 95, 109, 111, 100, 117, 108, 101, 9, 52, 95, 102, 114, 111, 122, 101, 110, 95, 105, 109, 112, 111, 114, 116, 108, 105, 98, 46, 66, 117, 105, 108, 116, 105, 110, 73, 109, 112, 111, 114, 116, 101, 114, 46, 108, 111, 97, 100, 95, 109, 111, 100, 117, 108, 101, 35, 111, 112, 97, 113, 117, 101, 6, 200, 21, 95, 95, 115, 116, 97, 116, 105, 99, 95, 97, 116, 116, 114, 105, 98, 117, 116, 101, 115, 95, 95, 4, 0, 0, 15, 6, 202, 8, 95, 95, 100, 105, 99, 116, 95, 95, 4, 0, 0, 16, 6, 204, 11, 95, 95, 119, 101, 97, 107, 114, 101, 102, 95, 95, 4, 0, 0, 17]⟩ 0), (.bool true), (.bool true), (zt "" 205), (.int 21 0), (.str ⟨#[6, 227, 10, 95, 95, 109, 111, 100, 117, 108, 101, 95, 95, 6, 217, 17, 95, 102, 114, 111, 122, 101, 110, 95, 105, 109, 112, 111, 114, 116, 108, 105, 98, 6, 228, 15, 95, 95, 102, 105, 114, 115, 116, 108, 105, 110, 101, 110, 111, 95, 95, 4, 218, 0, 562, 6, 229, 7, 95, 95, 100, 111, 99, 95, 95, 9, 47, 95, 102, 114, 111, 122, 101, 110, 95, 105, 109, 112, 111, 114, 116, 108, 105, 98, 46, 77, 111, 100, 117, 108, 101, 83, 112, 101, 99, 46, 95, 95, 100, 111, 99, 95, 95, 58, 115, 116, 114, 35, 111, 112, 97, 113, 117, 101, 6, 230, 8, 95, 95, 105, 110, 105, 116, 95, 95, 9, 44, 95, 102, 114, 111, 122, 101, 110, 95, 105, 109, 112, 111, 114, 116, 108, 105, 98, 46, 77, 111, 100, 117, 108, 101, 83, 112, 101, 99, 46, 95, 95, 105, 110, 105, 116, 95, 95, 35, 111, 112, 97, 113, 117, 101, 6, 231, 8, 95, 95, 114, 101, 112, 114, 95, 95, 9, 44, 95, 102, 114, 111, 122, 101, 110, 95, 105, 109, 112, 111, 114, 116, 108, 105, 98, 46, 77, 111, 100, 117, 108, 101, 83, 112, 101, 99, 46, 95, 95, 114, 101, 112, 114, 95, 95, 35, 111, 112, 97, 113, 117, 101, 6, 232, 6, 95, 95, 101, 113, 95, 95, 9, 42, 95, 102, 114, 111, 122, 101, 110, 95, 105, 109, 112, 111, 114, 116, 108, 105, 98, 46, 77, 111, 100, 117, 108, 101, 83, 112, 101, 99, 46, 95, 95, 101, 113, 95, 95, 35, 111, 112, 97, 113, 117, 101, 6, 233, 6, 99, 97, 99, 104, 101, 100, 9, 42, 95, 102, 114, 111, 122, 101, 110, 95, 105, 109, 112, 111, 114, 116, 108, 105, 98, 46, 77, 111, 100, 117, 108, 101, 83, 112, 101, 99, 46, 99, 97, 99, 104, 101, 100, 35, 111, 112, 97, 113, 117, 101, 6, 234, 6, 112, 97, 114, 101, 110, 116, 9, 42, 95, 102, 114, 111, 122, 101, 110, 95, 105, 109, 112, 111, 114, 116, 108, 105, 98, 46, 77, 111, 100, 117, 108, 101, 83, 112, 101, 99, 46, 112, 97, 114, 101, 110, 116, 35, 111, 112, 97, 113, 117, 101, 6, 235, 12, 104, 97, 115, 95, 108, 111, 99, 97, 116, 105, 111, 110, 9, 48, 95, 102, 114, 111, 122, 101, 110, 95, 105, 109, 112, 111, 114, 116, 108, 105, 98, 46, 77, 111, 100, 117, 108, 101, 83, 112, 101, 99, 46, 104, 97, 115, 95, 108, 111, 99, 97, 116, 105, 111, 110, 35, 111, 112, 97, 113, 117, 101, 6, 236, 21, 95, 95, 115, 116, 97, 116, 105, 99, 95, 97, 116, 116, 114, 105, 98, 117, 116, 101, 115, 95, 95, 4, 0, 0, 23, 6, 238, 8, 95, 95, 100, 105, 99, 116, 95, 95, 4, 0, 0, 24, 6, 240, 11, 95, 95, 119, 101, 97, 107, 114, 101, 102, 95, 95, 4, 0, 0, 25, 6, 241, 8, 95, 95, 104, 97, 115, 104, 95, 95, 0]⟩ 0), (.bool true), (.bool true), (zt "" 242)] 1), #[]⟩),
  (19, ⟨(.type "list"), none, (.seq #[] 0), #[]⟩),
  (20, ⟨(.type "dict"), none, (.dict #[ze P "name" 208 (zt "_sre" 207), ze P "loader" 209 (.ref 14), ze P "origin" 210 (zt "built-in" 184), ze P "loader_state" 211 .none, ze P "submodule_search_locations" 212 .none, ze P "_uninitialized_submodules" 213 (.ref 19), ze P "_set_fileattr" 214 (.bool false), ze P "_cached" 215 .none, ze P "_initializing" 243 (.bool false)] 9), #[]⟩),
  (21, ⟨(.type "dict"), none, (.dict #[ze P "__module__" 227 (zt "_frozen_importlib" 217), ze P "__firstlineno__" 228 (.int 562 218), ze P "__doc__" 229 (.builtin "_frozen_importlib.ModuleSpec.__doc__:str#opaque"), ze P "__init__" 230 (.builtin "_frozen_importlib.ModuleSpec.__init__#opaque"), ze P "__repr__" 231 (.builtin "_frozen_importlib.ModuleSpec.__repr__#opaque"), ze P "__eq__" 232 (.builtin "_frozen_importlib.ModuleSpec.__eq__#opaque"), ze P "cached" 233 (.builtin "_frozen_importlib.ModuleSpec.cached#opaque"), ze P "parent" 234 (.builtin "_frozen_importlib.ModuleSpec.parent#opaque"), ze P "has_location" 235 (.builtin "_frozen_importlib.ModuleSpec.has_location#opaque"), ze P "__static_attributes__" 236 (.ref 23), ze P "__dict__" 238 (.ref 24), ze P "__weakref__" 240 (.ref 25), ze P "__hash__" 241 .none] 13), #[]⟩),
  (22, ⟨(.type "type"), none, (.cls { name := (zs "ModuleSpec"), bases := [(.type "object")], mro := [(.ref 22), (.type "object")], ns := 21, qualname := (zs "ModuleSpec") }), #[]⟩),
  (23, ⟨(.type "tuple"), none, (.seq #[(zt "_cached" 219), (zt "_set_fileattr" 220), (zt "_uninitialized_submodules" 221), (zt "loader" 222), (zt "loader_state" 223), (zt "name" 224), (zt "origin" 225), (zt "submodule_search_locations" 226)] 0), #[]⟩),
  (24, ⟨(.type "getset_descriptor"), none, (.fields #[(zt "__dict__" 237), (.ref 22), (.builtin "function.__dict__"), (.builtin "function.__dict__#set")]), #[]⟩),
  (25, ⟨(.type "getset_descriptor"), none, (.fields #[(zt "__weakref__" 239), (.ref 22), (.builtin "ExceptionGroup.__weakref__"), .none]), #[]⟩),
  (26, ⟨(.ref 22), some 20, .plain, #[]⟩),
  (27, ⟨.none, none, (.seq #[(.int 11 0), (.str ⟨#[6, 247, 8, 95, 95, 110, 97, 109, 101, 95, 95, 6, 246, 4, 95, 115, 114, 101, 6, 248, 7, 95, 95, 100, 111, 99, 95, 95, 0, 6, 250, 11, 95, 95, 112, 97, 99, 107, 97, 103, 101, 95, 95, 6, 249, 0, 6, 251, 10, 95, 95, 108, 111, 97, 100, 101, 114, 95, 95, 4, 0, 0, 14, 6, 252, 8, 95, 95, 115, 112, 101, 99, 95, 95, 4, 0, 0, 26, 6, 253, 7, 99, 111, 109, 112, 105, 108, 101, 9, 12, 95, 115, 114, 101, 46, 99, 111, 109, 112, 105, 108, 101, 6, 254, 8, 116, 101, 109, 112, 108, 97, 116, 101, 9, 13, 95, 115, 114, 101, 46, 116, 101, 109, 112, 108, 97, 116, 101, 6, 255, 11, 103, 101, 116, 99, 111, 100, 101, 115, 105, 122, 101, 9, 16, 95, 115, 114, 101, 46, 103, 101, 116, 99, 111, 100, 101, 115, 105, 122, 101, 6, 256, 13, 97, 115, 99, 105, 105, 95, 105, 115, 99, 97, 115, 101, 100, 9, 18, 95, 115, 114, 101, 46, 97, 115, 99, 105, 105, 95, 105, 115, 99, 97, 115, 101, 100, 6, 257, 15, 117, 110, 105, 99, 111, 100, 101, 95, 105, 115, 99, 97, 115, 101, 100, 9, 20, 95, 115, 114, 101, 46, 117, 110, 105, 99, 111, 100, 101, 95, 105, 115, 99, 97, 115, 101, 100, 6, 258, 13, 97, 115, 99, 105, 105, 95, 116, 111, 108, 111, 119, 101, 114, 9, 18, 95, 115, 114, 101, 46, 97, 115, 99, 105, 105, 95, 116, 111, 108, 111, 119, 101, 114, 6, 259, 15, 117, 110, 105, 99, 111, 100, 101, 95, 116, 111, 108, 111, 119, 101, 114, 9, 20, 95, 115, 114, 101, 46, 117, 110, 105, 99, 111, 100, 101, 95, 116, 111, 108, 111, 119, 101, 114, 6, 261, 5, 77, 65, 71, 73, 67, 4, 260, 0, 20230612, 6, 263, 8, 67, 79, 68, 69, 83, 73, 90, 69, 4, 262, 0, 4, 6, 265, 9, 77, 65, 88, 82, 69, 80, 69, 65, 84, 4, 264, 0, 4294967295, 6, 267, 9, 77, 65, 88, 71, 82, 79, 85, 80, 83, 4, 266, 0, 1073741823, 6, 269, 9, 99, 111, 112, 121, 114, 105, 103, 104, 116, 6, 268, 53, 32, 83, 82, 69, 32, 50, 46, 50, 46, 50, 32, 67, 111, 112, 121, 114, 105, 103, 104, 116, 32, 40, 99, 41, 32, 49, 57, 57, 55, 45, 50, 48, 48, 50, 32, 98, 121, 32, 83, 101, 99, 114, 101, 116, 32, 76, 97, 98, 115, 32, 65, 66, 32]⟩ 0), (.bool true), (.bool false), (zt "_sre" 271), (.int 29 0), (.str ⟨#[6, 296, 8, 95, 95, 110, 97, 109, 101, 95, 95, 6, 295, 12, 95, 99, 111, 108, 108, 101, 99, 116, 105, 111, 110, 115, 6, 297, 7, 95, 95, 100, 111, 99, 95, 95, 9, 31, 95, 99, 111, 108, 108, 101, 99, 116, 105, 111, 110, 115, 46, 95, 95, 100, 111, 99, 95, 95, 58, 115, 116, 114, 35, 111, 112, 97, 113, 117, 101, 6, 299, 11, 95, 95, 112, 97, 99, 107, 97, 103, 101, 95, 95, 6, 298, 0, 6, 300, 10, 95, 95, 108, 111, 97, 100, 101, 114, 95, 95, 4, 0, 0, 14, 6, 301, 8, 95, 95, 115, 112, 101, 99, 95, 95, 4, 0, 0, 33, 6, 302, 15, 95, 99, 111, 117, 110, 116, 95, 101, 108, 101, 109, 101, 110, 116, 115, 9, 28, 95, 99, 111, 108, 108, 101, 99, 116, 105, 111, 110, 115, 46, 95, 99, 111, 117, 110, 116, 95, 101, 108, 101, 109, 101, 110, 116, 115, 6, 303, 5, 100, 101, 113, 117, 101, 8, 17, 99, 111, 108, 108, 101, 99, 116, 105, 111, 110, 115, 46, 100, 101, 113, 117, 101, 6, 304, 11, 100, 101, 102, 97, 117, 108, 116, 100, 105, 99, 116, 8, 23, 99, 111, 108, 108, 101, 99, 116, 105, 111, 110, 115, 46, 100, 101, 102, 97, 117, 108, 116, 100, 105, 99, 116, 6, 305, 15, 95, 100, 101, 113, 117, 101, 95, 105, 116, 101, 114, 97, 116, 111, 114, 8, 27, 99, 111, 108, 108, 101, 99, 116, 105, 111, 110, 115, 46, 95, 100, 101, 113, 117, 101, 95, 105, 116, 101, 114, 97, 116, 111, 114, 6, 306, 23, 95, 100, 101, 113, 117, 101, 95, 114, 101, 118, 101, 114, 115, 101, 95, 105, 116, 101, 114, 97, 116, 111, 114, 8, 35, 99, 111, 108, 108, 101, 99, 116, 105, 111, 110, 115, 46, 95, 100, 101, 113, 117, 101, 95, 114, 101, 118, 101, 114, 115, 101, 95, 105, 116, 101, 114, 97, 116, 111, 114, 6, 307, 12, 95, 116, 117, 112, 108, 101, 103, 101, 116, 116, 101, 114, 8, 24, 99, 111, 108, 108, 101, 99, 116, 105, 111, 110, 115, 46, 95, 116, 117, 112, 108, 101, 103, 101, 116, 116, 101, 114, 6, 308, 11, 79, 114, 100, 101, 114, 101, 100, 68, 105, 99, 116, 8, 23, 99, 111, 108, 108, 101, 99, 116, 105, 111, 110, 115, 46, 79, 114, 100, 101, 114, 101, 100, 68, 105, 99, 116]⟩ 0), (.bool true), (.bool false), (zt "_collections" 310)] 1), #[]⟩),
  (28, ⟨(.type "tuple"), none, (.seq #[(zt "deque" 277)] 0), #[]⟩),
  (29, ⟨(.type "dict"), none, (.dict #[ze P "__name__" 296 (zt "_collections" 295), ze P "__doc__" 297 (.builtin "off-the-table:_collections.__doc__:shared#opaque"), ze P "__package__" 299 (zt "" 298), ze P "__loader__" 300 (.builtin "off-the-table:_collections.__loader__:shared#opaque"), ze P "__spec__" 301 (.builtin "off-the-table:_collections.__spec__:shared#opaque"), ze P "_count_elements" 302 (.builtin "_collections._count_elements"), ze P "deque" 303 (.type "collections.deque"), ze P "defaultdict" 304 (.type "collections.defaultdict"), ze P "_deque_iterator" 305 (.builtin "off-the-table:_collections._deque_iterator:shared#opaque"), ze P "_deque_reverse_iterator" 306 (.builtin "off-the-table:_collections._deque_reverse_iterator:shared#opaque"), ze P "_tuplegetter" 307 (.type "collections._tuplegetter"), ze P "OrderedDict" 308 (.type "collections.OrderedDict")] 12), #[]⟩),
  (30, ⟨(.type "module"), some 29, .plain, #[]⟩),
  (31, ⟨(.type "list"), none, (.seq #[] 0), #[]⟩),
  (32, ⟨(.type "dict"), none, (.dict #[ze P "name" 283 (zt "_collections" 282), ze P "loader" 284 (.ref 14), ze P "origin" 285 (zt "built-in" 281), ze P "loader_state" 286 .none, ze P "submodule_search_locations" 287 .none, ze P "_uninitialized_submodules" 288 (.ref 31), ze P "_set_fileattr" 289 (.bool false), ze P "_cached" 290 .none, ze P "_initializing" 291 (.bool false)] 9), #[]⟩),
  (33, ⟨(.ref 22), some 32, .plain, #[]⟩),
  (34, ⟨(.type "tuple"), none, (.seq #[] 0), #[]⟩),
  (35, ⟨.none, none, (.fields #[(.int 3 0), (.int 0 0), (.ref 43), (.int 7 0), (.int 0 0), (.ref 50), (.int 52 0), (.int 0 0), (.ref 97), (.int 57 0), (.int 0 0), (.ref 104), (.int 64 0), (.int 0 0), (.ref 111), (.int 66 0), (.int 0 0), (.ref 124), (.int 73 0), (.int 0 0), (.ref 146), (.int 75 0), (.int 0 0), (.ref 158), (.int 77 0), (.int 0 0), (.ref 170), (.int 247 0), (.int 0 0), (.ref 400), (.int 453 0), (.int 0 0), (.ref 647), (.int 474 0), (.int 0 0), (.ref 654), (.int 479 0), (.int 0 0), (.ref 661), (.int 484 0), (.int 0 0), (.ref 668), (.int 487 0), (.int 0 0), (.ref 675), (.int 508 0), (.int 0 0), (.ref 682), (.int 517 0), (.int 0 0), (.ref 689), (.int 771 0), (.int 0 0), (.ref 784), (.int 775 0), (.int 0 0), (.ref 792), (.int 783 0), (.int 0 0), (.ref 800), (.int 792 0), (.int 0 0), (.ref 807), (.int 802 0), (.int 0 0), (.ref 812), (.int 813 0), (.int 0 0), (.ref 817), (.int 831 0), (.int 0 0), (.ref 822)]), #[]⟩),
  (36, ⟨(.type "code"), none, (.fields #[(zt "<module>" 319), (zt "<module>" 320), (zt "/claim/cut.py" 321), (.int 1 0), (.int 0 0), (.int 0 0), (.int 0 0), (.int 0 0), (.ref 34), (.bool false), (.int 318 0), (.ref 35), .none, .none, .none, .none, (.int 322 0), (.int 1 0), (zt "/claim/cut.py" 323)]), #[]⟩),
  (37, ⟨(.type "frame"), none, .plain, #[some (.ref 36), some (.ref 3), some (.ref 3), none, some (zt "__main__" 164), none, some (.ref 0)]⟩),
  (45, ⟨(.type "tuple"), none, (.seq #[] 0), #[]⟩),
  (46, ⟨(.type "builtin_function_or_method"), none, (.fields #[(.builtin "type.__prepare__"), (.type "type")]), #[]⟩),
  (47, ⟨(.type "dict"), none, (.dict #[ze P "__module__" 340 (zt "cpy313.netrc" 331), ze P "__qualname__" 342 (zt "_netrclex" 341), ze P "__firstlineno__" 344 (.int 7 343), ze P "__init__" 352 (.ref 58), ze P "_read_char" 360 (.ref 65), ze P "get_token" 370 (.ref 72), ze P "push_token" 378 (.ref 79), ze P "__static_attributes__" 383 (.ref 80)] 8), #[]⟩),
  (48, ⟨(.type "tuple"), none, (.seq #[] 0), #[]⟩),
  (49, ⟨.none, none, (.fields #[(.int 9 0), (.int 4 0), (.ref 57), (.int 15 0), (.int 4 0), (.ref 64), (.int 21 0), (.int 4 0), (.ref 71), (.int 48 0), (.int 4 0), (.ref 78)]), #[]⟩),
  (50, ⟨(.type "code"), none, (.fields #[(zt "_netrclex" 335), (zt "_netrclex" 336), (zt "/claim/cut.py" 337), (.int 7 0), (.int 0 0), (.int 0 0), (.int 0 0), (.int 0 0), (.ref 48), (.bool false), (.int 318 0), (.ref 49), .none, .none, .none, .none, (.int 338 0), (.int 7 0), (zt "/claim/cut.py" 339)]), #[]⟩),
  (51, ⟨(.type "frame"), none, .plain, #[some (.ref 50), some (.ref 3), some (.ref 47), none, some (zt "cpy313.netrc" 331), none, some (.ref 0)]⟩),
  (85, ⟨(.type "super"), none, (.fields #[(.ref 82), (.ref 82), (.ref 82)]), #[]⟩),
  (86, ⟨(.type "builtin_function_or_method"), none, (.fields #[(.builtin "object.__init_subclass__"), (.ref 82)]), #[]⟩),
  (87, ⟨(.type "list"), none, (.seq #[(.int 14 394), (.int 17 395), (.int 4 396), (.int 1 397), (.int 1 398), (.int 21 399), (.int 9 400), (.int 0 401), (.int 604043296 402), (.int 1 403), (.int 0 404), (.int 0 405), (.int 0 406), (.int 0 407), (.int 0 408), (.int 8 409), (.int 4 410), (.int 0 411), (.int 13 412), (.int 14 413), (.int 21 414), (.int 9 415), (.int 0 416), (.int 604043296 417), (.int 1 418), (.int 0 419), (.int 0 420), (.int 0 421), (.int 0 422), (.int 0 423), (.int 8 424), (.int 4 425), (.int 0 426), (.int 1 427)] 0), #[]⟩),
  (88, ⟨(.type "dict"), none, (.dict #[] 0), #[]⟩),
  (89, ⟨(.type "tuple"), none, (.seq #[.none] 0), #[]⟩),
  (107, ⟨(.type "builtin_function_or_method"), none, (.fields #[(.builtin "type.__prepare__"), (.type "type")]), #[]⟩),
  (108, ⟨(.type "dict"), none, (.dict #[ze P "__module__" 456 (zt "io" 461), ze P "__qualname__" 458 (zt "UnsupportedOperation" 457), ze P "__firstlineno__" 460 (.int 64 459), ze P "__static_attributes__" 463 (.ref 113)] 4), #[]⟩),
  (109, ⟨(.type "tuple"), none, (.seq #[] 0), #[]⟩),
  (110, ⟨.none, none, (.fields #[]), #[]⟩),
  (111, ⟨(.type "code"), none, (.fields #[(zt "UnsupportedOperation" 451), (zt "UnsupportedOperation" 452), (zt "/claim/cut.py" 453), (.int 64 0), (.int 0 0), (.int 0 0), (.int 0 0), (.int 0 0), (.ref 109), (.bool false), (.int 318 0), (.ref 110), .none, .none, .none, .none, (.int 454 0), (.int 64 0), (zt "/claim/cut.py" 455)]), #[]⟩),
  (112, ⟨(.type "frame"), none, .plain, #[some (.ref 111), some (.ref 3), some (.ref 108), none, some (zt "io" 431), none, some (.ref 0)]⟩),
  (117, ⟨(.type "super"), none, (.fields #[(.ref 115), (.ref 115), (.ref 115)]), #[]⟩),
  (118, ⟨(.type "builtin_function_or_method"), none, (.fields #[(.builtin "object.__init_subclass__"), (.ref 115)]), #[]⟩),
  (119, ⟨(.type "tuple"), none, (.seq #[] 0), #[]⟩),
  (120, ⟨(.type "builtin_function_or_method"), none, (.fields #[(.builtin "type.__prepare__"), (.type "type")]), #[]⟩),
  (121, ⟨(.type "dict"), none, (.dict #[ze P "__module__" 478 (zt "io" 483), ze P "__qualname__" 480 (zt "IOBase" 479), ze P "__firstlineno__" 482 (.int 66 481), ze P "__new__" 493 (.ref 132), ze P "__static_attributes__" 494 (.ref 133)] 5), #[]⟩),
  (122, ⟨(.type "tuple"), none, (.seq #[] 0), #[]⟩),
  (123, ⟨.none, none, (.fields #[(.int 69 0), (.int 4 0), (.ref 131)]), #[]⟩),
  (124, ⟨(.type "code"), none, (.fields #[(zt "IOBase" 473), (zt "IOBase" 474), (zt "/claim/cut.py" 475), (.int 66 0), (.int 0 0), (.int 0 0), (.int 0 0), (.int 0 0), (.ref 122), (.bool false), (.int 318 0), (.ref 123), .none, .none, .none, .none, (.int 476 0), (.int 66 0), (zt "/claim/cut.py" 477)]), #[]⟩),
  (125, ⟨(.type "frame"), none, .plain, #[some (.ref 124), some (.ref 3), some (.ref 121), none, some (zt "io" 431), none, some (.ref 0)]⟩),
  (139, ⟨(.type "super"), none, (.fields #[(.ref 135), (.ref 135), (.ref 135)]), #[]⟩),
  (140, ⟨(.type "builtin_function_or_method"), none, (.fields #[(.builtin "object.__init_subclass__"), (.ref 135)]), #[]⟩),
  (142, ⟨(.type "builtin_function_or_method"), none, (.fields #[(.builtin "type.__prepare__"), (.type "type")]), #[]⟩),
  (143, ⟨(.type "dict"), none, (.dict #[ze P "__module__" 510 (zt "io" 515), ze P "__qualname__" 512 (zt "BufferedIOBase" 511), ze P "__firstlineno__" 514 (.int 73 513), ze P "__static_attributes__" 517 (.ref 148)] 4), #[]⟩),
  (144, ⟨(.type "tuple"), none, (.seq #[] 0), #[]⟩),
  (145, ⟨.none, none, (.fields #[]), #[]⟩),
  (146, ⟨(.type "code"), none, (.fields #[(zt "BufferedIOBase" 505), (zt "BufferedIOBase" 506), (zt "/claim/cut.py" 507), (.int 73 0), (.int 0 0), (.int 0 0), (.int 0 0), (.int 0 0), (.ref 144), (.bool false), (.int 318 0), (.ref 145), .none, .none, .none, .none, (.int 508 0), (.int 73 0), (zt "/claim/cut.py" 509)]), #[]⟩),
  (147, ⟨(.type "frame"), none, .plain, #[some (.ref 146), some (.ref 3), some (.ref 143), none, some (zt "io" 431), none, some (.ref 0)]⟩),
  (151, ⟨(.type "super"), none, (.fields #[(.ref 150), (.ref 150), (.ref 150)]), #[]⟩),
  (152, ⟨(.type "builtin_function_or_method"), none, (.fields #[(.builtin "object.__init_subclass__"), (.ref 150)]), #[]⟩),
  (154, ⟨(.type "builtin_function_or_method"), none, (.fields #[(.builtin "type.__prepare__"), (.type "type")]), #[]⟩),
  (155, ⟨(.type "dict"), none, (.dict #[ze P "__module__" 528 (zt "io" 533), ze P "__qualname__" 530 (zt "TextIOBase" 529), ze P "__firstlineno__" 532 (.int 75 531), ze P "__static_attributes__" 535 (.ref 160)] 4), #[]⟩),
  (156, ⟨(.type "tuple"), none, (.seq #[] 0), #[]⟩),
  (157, ⟨.none, none, (.fields #[]), #[]⟩),
  (158, ⟨(.type "code"), none, (.fields #[(zt "TextIOBase" 523), (zt "TextIOBase" 524), (zt "/claim/cut.py" 525), (.int 75 0), (.int 0 0), (.int 0 0), (.int 0 0), (.int 0 0), (.ref 156), (.bool false), (.int 318 0), (.ref 157), .none, .none, .none, .none, (.int 526 0), (.int 75 0), (zt "/claim/cut.py" 527)]), #[]⟩),
  (159, ⟨(.type "frame"), none, .plain, #[some (.ref 158), some (.ref 3), some (.ref 155), none, some (zt "io" 431), none, some (.ref 0)]⟩),
  (163, ⟨(.type "super"), none, (.fields #[(.ref 162), (.ref 162), (.ref 162)]), #[]⟩),
  (164, ⟨(.type "builtin_function_or_method"), none, (.fields #[(.builtin "object.__init_subclass__"), (.ref 162)]), #[]⟩),
  (166, ⟨(.type "builtin_function_or_method"), none, (.fields #[(.builtin "type.__prepare__"), (.type "type")]), #[]⟩),
  (167, ⟨(.type "dict"), none, (.dict #[ze P "__module__" 546 (zt "_io" 551), ze P "__qualname__" 548 (zt "BytesIO" 547), ze P "__firstlineno__" 550 (.int 77 549), ze P "__init__" 560 (.ref 179), ze P "_BytesIO__check" 567 (.ref 186), ze P "_BytesIO__line" 578 (.ref 193), ze P "closed" 586 (.ref 201), ze P "close" 593 (.ref 208), ze P "__enter__" 600 (.ref 215), ze P "__exit__" 608 (.ref 222), ze P "readable" 615 (.ref 229), ze P "writable" 622 (.ref 236), ze P "seekable" 629 (.ref 243), ze P "isatty" 636 (.ref 250), ze P "flush" 643 (.ref 257), ze P "fileno" 650 (.ref 264), ze P "detach" 657 (.ref 271), ze P "getvalue" 664 (.ref 278), ze P "getbuffer" 671 (.ref 285), ze P "tell" 678 (.ref 292), ze P "seek" 688 (.ref 300), ze P "truncate" 696 (.ref 308), ze P "read" 708 (.ref 316), ze P "read1" 718 (.ref 324), ze P "readinto" 728 (.ref 331), ze P "readinto1" 736 (.ref 338), ze P "readline" 746 (.ref 346), ze P "readlines" 754 (.ref 354), ze P "__iter__" 761 (.ref 361), ze P "__next__" 769 (.ref 368), ze P "write" 779 (.ref 375), ze P "writelines" 787 (.ref 382), ze P "__repr__" 794 (.ref 389), ze P "__static_attributes__" 797 (.ref 390)] 34), #[]⟩),
  (168, ⟨(.type "tuple"), none, (.seq #[] 0), #[]⟩),
  (169, ⟨.none, none, (.fields #[(.int 80 0), (.int 4 0), (.ref 178), (.int 86 0), (.int 4 0), (.ref 185), (.int 90 0), (.int 4 0), (.ref 192), (.int 104 0), (.int 4 0), (.ref 199), (.int 107 0), (.int 4 0), (.ref 207), (.int 110 0), (.int 4 0), (.ref 214), (.int 114 0), (.int 4 0), (.ref 221), (.int 117 0), (.int 4 0), (.ref 228), (.int 121 0), (.int 4 0), (.ref 235), (.int 125 0), (.int 4 0), (.ref 242), (.int 129 0), (.int 4 0), (.ref 249), (.int 133 0), (.int 4 0), (.ref 256), (.int 136 0), (.int 4 0), (.ref 263), (.int 139 0), (.int 4 0), (.ref 270), (.int 142 0), (.int 4 0), (.ref 277), (.int 145 0), (.int 4 0), (.ref 284), (.int 148 0), (.int 4 0), (.ref 291), (.int 152 0), (.int 4 0), (.ref 299), (.int 169 0), (.int 4 0), (.ref 307), (.int 172 0), (.int 4 0), (.ref 315), (.int 186 0), (.int 4 0), (.ref 323), (.int 189 0), (.int 4 0), (.ref 330), (.int 203 0), (.int 4 0), (.ref 337), (.int 206 0), (.int 4 0), (.ref 345), (.int 213 0), (.int 4 0), (.ref 353), (.int 216 0), (.int 4 0), (.ref 360), (.int 219 0), (.int 4 0), (.ref 367), (.int 226 0), (.int 4 0), (.ref 374), (.int 242 0), (.int 4 0), (.ref 381), (.int 245 0), (.int 4 0), (.ref 388)]), #[]⟩),
  (170, ⟨(.type "code"), none, (.fields #[(zt "BytesIO" 541), (zt "BytesIO" 542), (zt "/claim/cut.py" 543), (.int 77 0), (.int 0 0), (.int 0 0), (.int 0 0), (.int 0 0), (.ref 168), (.bool false), (.int 318 0), (.ref 169), .none, .none, .none, .none, (.int 544 0), (.int 77 0), (zt "/claim/cut.py" 545)]), #[]⟩),
  (171, ⟨(.type "frame"), none, .plain, #[some (.ref 170), some (.ref 3), some (.ref 167), none, some (zt "io" 431), none, some (.ref 0)]⟩),
  (393, ⟨(.type "super"), none, (.fields #[(.ref 392), (.ref 392), (.ref 392)]), #[]⟩),
  (394, ⟨(.type "builtin_function_or_method"), none, (.fields #[(.builtin "object.__init_subclass__"), (.ref 392)]), #[]⟩),
  (396, ⟨(.type "builtin_function_or_method"), none, (.fields #[(.builtin "type.__prepare__"), (.type "type")]), #[]⟩),
  (397, ⟨(.type "dict"), none, (.dict #[ze P "__module__" 808 (zt "_io" 813), ze P "__qualname__" 810 (zt "StringIO" 809), ze P "__firstlineno__" 812 (.int 247 811), ze P "__init__" 825 (.ref 409), ze P "_StringIO__translated" 834 (.ref 416), ze P "_StringIO__check" 841 (.ref 423), ze P "_StringIO__check_dot" 848 (.ref 430), ze P "_StringIO__line" 863 (.ref 437), ze P "closed" 871 (.ref 445), ze P "line_buffering" 879 (.ref 453), ze P "newlines" 887 (.ref 461), ze P "encoding" 895 (.ref 469), ze P "errors" 903 (.ref 477), ze P "close" 910 (.ref 484), ze P "__enter__" 917 (.ref 491), ze P "__exit__" 925 (.ref 498), ze P "readable" 932 (.ref 505), ze P "writable" 939 (.ref 512), ze P "seekable" 946 (.ref 519), ze P "isatty" 953 (.ref 526), ze P "flush" 960 (.ref 533), ze P "fileno" 967 (.ref 540), ze P "detach" 974 (.ref 547), ze P "getvalue" 981 (.ref 554), ze P "tell" 988 (.ref 561), ze P "seek" 998 (.ref 569), ze P "truncate" 1006 (.ref 577), ze P "read" 1018 (.ref 585), ze P "readline" 1028 (.ref 593), ze P "readlines" 1038 (.ref 601), ze P "__iter__" 1045 (.ref 608), ze P "__next__" 1053 (.ref 615), ze P "write" 1065 (.ref 622), ze P "writelines" 1073 (.ref 629), ze P "__repr__" 1080 (.ref 636), ze P "__static_attributes__" 1084 (.ref 637)] 36), #[]⟩),
  (398, ⟨(.type "tuple"), none, (.seq #[] 0), #[]⟩),
  (399, ⟨.none, none, (.fields #[(.int 250 0), (.int 4 0), (.ref 408), (.int 263 0), (.int 4 0), (.ref 415), (.int 271 0), (.int 4 0), (.ref 422), (.int 275 0), (.int 4 0), (.ref 429), (.int 279 0), (.int 4 0), (.ref 436), (.int 312 0), (.int 4 0), (.ref 443), (.int 316 0), (.int 4 0), (.ref 451), (.int 320 0), (.int 4 0), (.ref 459), (.int 324 0), (.int 4 0), (.ref 467), (.int 328 0), (.int 4 0), (.ref 475), (.int 331 0), (.int 4 0), (.ref 483), (.int 334 0), (.int 4 0), (.ref 490), (.int 338 0), (.int 4 0), (.ref 497), (.int 341 0), (.int 4 0), (.ref 504), (.int 345 0), (.int 4 0), (.ref 511), (.int 349 0), (.int 4 0), (.ref 518), (.int 353 0), (.int 4 0), (.ref 525), (.int 357 0), (.int 4 0), (.ref 532), (.int 360 0), (.int 4 0), (.ref 539), (.int 363 0), (.int 4 0), (.ref 546), (.int 366 0), (.int 4 0), (.ref 553), (.int 369 0), (.int 4 0), (.ref 560), (.int 373 0), (.int 4 0), (.ref 568), (.int 390 0), (.int 4 0), (.ref 576), (.int 393 0), (.int 4 0), (.ref 584), (.int 407 0), (.int 4 0), (.ref 592), (.int 414 0), (.int 4 0), (.ref 600), (.int 417 0), (.int 4 0), (.ref 607), (.int 421 0), (.int 4 0), (.ref 614), (.int 428 0), (.int 4 0), (.ref 621), (.int 447 0), (.int 4 0), (.ref 628), (.int 450 0), (.int 4 0), (.ref 635)]), #[]⟩),
  (400, ⟨(.type "code"), none, (.fields #[(zt "StringIO" 803), (zt "StringIO" 804), (zt "/claim/cut.py" 805), (.int 247 0), (.int 0 0), (.int 0 0), (.int 0 0), (.int 0 0), (.ref 398), (.bool false), (.int 318 0), (.ref 399), .none, .none, .none, .none, (.int 806 0), (.int 247 0), (zt "/claim/cut.py" 807)]), #[]⟩),
  (401, ⟨(.type "frame"), none, .plain, #[some (.ref 400), some (.ref 3), some (.ref 397), none, some (zt "io" 431), none, some (.ref 0)]⟩),
  (640, ⟨(.type "super"), none, (.fields #[(.ref 639), (.ref 639), (.ref 639)]), #[]⟩),
  (641, ⟨(.type "builtin_function_or_method"), none, (.fields #[(.builtin "object.__init_subclass__"), (.ref 639)]), #[]⟩),
  (684, ⟨(.type "tuple"), none, (.seq #[] 0), #[]⟩),
  (685, ⟨(.type "builtin_function_or_method"), none, (.fields #[(.builtin "type.__prepare__"), (.type "type")]), #[]⟩),
  (686, ⟨(.type "dict"), none, (.dict #[ze P "__module__" 1156 (zt "cpy313.shlex" 1147), ze P "__qualname__" 1158 (zt "shlex" 1157), ze P "__firstlineno__" 1160 (.int 517 1159), ze P "__init__" 1172 (.ref 698), ze P "punctuation_chars" 1180 (.ref 706), ze P "push_token" 1188 (.ref 713), ze P "push_source" 1197 (.ref 721), ze P "pop_source" 1204 (.ref 728), ze P "get_token" 1216 (.ref 735), ze P "read_token" 1227 (.ref 742), ze P "sourcehook" 1235 (.ref 749), ze P "error_leader" 1244 (.ref 757), ze P "__iter__" 1251 (.ref 764), ze P "__next__" 1259 (.ref 771), ze P "__static_attributes__" 1280 (.ref 772)] 15), #[]⟩),
  (687, ⟨(.type "tuple"), none, (.seq #[] 0), #[]⟩),
  (688, ⟨.none, none, (.fields #[(.int 519 0), (.int 4 0), (.ref 697), (.int 561 0), (.int 4 0), (.ref 704), (.int 564 0), (.int 4 0), (.ref 712), (.int 569 0), (.int 4 0), (.ref 720), (.int 582 0), (.int 4 0), (.ref 727), (.int 589 0), (.int 4 0), (.ref 734), (.int 616 0), (.int 4 0), (.ref 741), (.int 753 0), (.int 4 0), (.ref 748), (.int 760 0), (.int 4 0), (.ref 756), (.int 763 0), (.int 4 0), (.ref 763), (.int 766 0), (.int 4 0), (.ref 770)]), #[]⟩),
  (689, ⟨(.type "code"), none, (.fields #[(zt "shlex" 1151), (zt "shlex" 1152), (zt "/claim/cut.py" 1153), (.int 517 0), (.int 0 0), (.int 0 0), (.int 0 0), (.int 0 0), (.ref 687), (.bool false), (.int 318 0), (.ref 688), .none, .none, .none, .none, (.int 1154 0), (.int 517 0), (zt "/claim/cut.py" 1155)]), #[]⟩),
  (690, ⟨(.type "frame"), none, .plain, #[some (.ref 689), some (.ref 3), some (.ref 686), none, some (zt "cpy313.shlex" 1147), none, some (.ref 0)]⟩),
  (777, ⟨(.type "super"), none, (.fields #[(.ref 774), (.ref 774), (.ref 774)]), #[]⟩),
  (778, ⟨(.type "builtin_function_or_method"), none, (.fields #[(.builtin "object.__init_subclass__"), (.ref 774)]), #[]⟩)]
def weave : Nat → List (Nat × Obj) → List (Nat × Obj) → List Obj
  | 0, _, _ => []
  | n + 1, k, g => match k, g with
    | [], g => g.map (·.2)
    | k, [] => k.map (·.2)
    | (a, o) :: k', (b, q) :: g' => match Nat.blt a b with
      | true => o :: weave n k' g
      | false => q :: weave n k g'
noncomputable def fullL (P : Params) : List Obj := weave 1000 (hx.heap_1 P) (garb P)
noncomputable def o2 (P : Params) : Obj := ⟨.none, none, (.dict #[ze P "\x69mport.loaded._sre" 183 (.bool true), ze P "class._frozen_importlib.BuiltinImporter" 185 (.ref 14), ze P "watched.\x69mport" 206 (.ref 18), ze P "class._frozen_importlib.ModuleSpec" 216 (.ref 22), ze P "sys.modules.booked-epoch" 245 (.int 4 0), ze P "\x69mport.later-laid._sre" 270 (.bool true), ze P "watched.library" 272 (.ref 27), ze P "watched.library-objects" 0 (zt "\u000c\u001e" 0), ze P "watched.library-deep._sre" 273 (zt "\u0004\u0000\u0000\u000b\u0004\u0000\u0000\u000b\u0004\u0000\u0000\u0003\u0004\u0000\u0000\u000b\u0008\u0004dict\u0002" 0), ze P "\x69mport.loaded._collections" 280 (.bool true), ze P "sys.modules.landed._collections" 294 (.bool true), ze P "\x69mport.later-laid._collections" 309 (.bool true), ze P "watched.library-deep._collections" 311 (zt "\u0004\u0000\u0000\u001d\u0004\u0000\u0000\u001d\u0004\u0000\u0000\u0003\u0004\u0000\u0000\u001d\u0008\u0004dict\u0002" 0)] 13), #[]⟩
noncomputable def o3 (P : Params) : Obj := ⟨(.type "dict"), none, (.dict #[ze P "__name__" 165 (zt "__main__" 164), ze P "__doc__" 166 .none, ze P "__package__" 167 .none, ze P "__loader__" 168 (.builtin "__main__.__loader__#opaque"), ze P "__spec__" 169 .none, ze P "__annotations__" 170 (.ref 6), ze P "__builtins__" 171 (.ref 4), ze P "__file__" 173 (zt "/claim/cut.py" 172), ze P "__cached__" 174 .none, ze P "_sre" 275 (.ref 12), ze P "deque" 317 (.type "collections.deque")] 11), #[]⟩
noncomputable def l0 (P : Params) : List Obj := (((fullL P).take 34).set 2 (o2 P)).set 3 (o3 P)
noncomputable def la (P : Params) : List Obj := ((((fullL P).take 38).set 2 (o2 P)).set 3 (o3 P)).set 35 ⟨.none, none, .fields #[], #[]⟩
noncomputable def H0 (P : Params) : Heap := ⟨⟨l0 P⟩, {}⟩
noncomputable def Ha (P : Params) : Heap := ⟨⟨la P⟩, {}⟩
noncomputable def H1 (P : Params) : Heap := ⟨⟨fullL P⟩, {}⟩
def odds : List Obj → List Obj
  | [] => []
  | [a] => [a]
  | a :: _ :: r => a :: odds r
def bt : Nat → List Obj → BT
  | 0, _ => .nil
  | _ + 1, [] => .nil
  | n + 1, o :: r => .node o (bt n (odds r)) (bt n (odds r.tail))
abbrev lo : List Str := [Str.ofString "_twin_re_1", Str.ofString "UnsupportedOperation", Str.ofString "IOBase", Str.ofString "BufferedIOBase", Str.ofString "TextIOBase", Str.ofString "BytesIO", Str.ofString "StringIO", Str.ofString "join_path", Str.ofString "shlex", Str.ofString "join_shlex", Str.ofString "_find_unsafe", Str.ofString "safe_repr"]
noncomputable def hd.view_1 : Program :=
  (fun (l : List Stmt) (_ : l = [0, 1, 2, 4, 5, 7, 8, 9, 10, 11, 12, 13, 14, 16, 17, 18, 19, 21, 22, 24, 25, 26, 27, 28, 30, 33, 34, 35, 36].filterMap fun i => pw.main.body[i]?) => ({ pw with main := { pw.main with body := l } } : Program)) [_, _, _, _, _, _, _, _, _, _, _, _, _, _, _, _, _, _, _, _, _, _, _, _, _, _, _, _, _] rfl
end
local macro_rules | `(tactic| walk_at $s:str) => `(tactic| k_extra $s)
local macro_rules | `(tactic| k_get) => `(tactic| k_extra "k_get")
local macro_rules | `(tactic| k_put) => `(tactic| k_extra "k_put")
local macro_rules | `(tactic| size_fits) => `(tactic| k_extra "size_fits")
local macro_rules | `(tactic| k_ne) => `(tactic| k_extra "k_ne")
local macro_rules | `(tactic| k_in) => `(tactic| k_extra "k_in")
local macro_rules | `(tactic| k_mem) => `(tactic| k_extra "k_mem")
local macro_rules | `(tactic| tb_rel) => `(tactic| k_extra "tb_rel")
local macro_rules | `(tactic| tb_start) => `(tactic| k_extra "tb_start")
local macro_rules | `(tactic| ktr_rel) => `(tactic| k_extra "ktr_rel")
local macro_rules | `(tactic| kas_types) => `(tactic| k_extra "kas_types")
local macro_rules | `(tactic| kse_has) => `(tactic| k_extra "kse_has")
local macro_rules | `(tactic| x_close) => `(tactic| k_extra "x_close")
theorem filled : PySem.Challenge.rw_in0141_01 = PySem.Challenge.rw_in0141_01 ∧ hd.heap_1 = hd.heap_1 := by k_fill; exact ⟨rfl, rfl⟩
-- HdB
section
theorem wsd_a : sreFenced pw.main = true := by
  rw [PySem.W.Fast.te11788848310118352699]; kernel_rfl
theorem wsd_b : ((moduleNames pw.main.body).isEmpty || lookedIntoSs (moduleNames pw.main.body) pw.main.body) = true := by
  rw [PySem.W.Fast.te9807087744658564304, PySem.W.Fast.te12862048085361865435]; kernel_rfl
theorem wsd_c : namesResolve pw = true := by
  rw [PySem.W.Fast.te8377067652309620493]; kernel_rfl
theorem wsd_d : pw.boundNames.all (fun n => !worldNames.contains n) = true := by
  rw [PySem.W.R.allR_eq, PySem.W.Fast.te18344453789297297638, PySem.W.Fast.te3471404346716756564, PySem.W.Fast.sDec_eq, PySem.W.Fast.te14412699480532031325]; kernel_rfl
theorem wsd_e : namesMeet pw pw.main.body (fun _ n => attrL n) = true := by
  rw [PySem.W.Fast.te17119622794617984870, PySem.W.Fast.te17868728402115742887]; kernel_rfl
theorem wsd_f : noRoadLSs { strict := !(importedModules pw.main.body).all cThrough.contains, foot := none, bare := (["vars", "dir", "locals"] : List Str).filter (readsOut pw pw.main.body) } pw.main.body = true := by
  rw [PySem.W.Fast.te8326940854005059898, PySem.W.R.allR_eq, PySem.W.Fast.te5923862056798008813, PySem.W.Fast.te3471404346716756564, PySem.W.Fast.sDec_eq, PySem.W.Fast.te17691160309236699985, PySem.W.R.filterR_eq, PySem.W.Fast.te13343964577679436407]; kernel_rfl
theorem wsd_looks : looksOpen pw = true := by
  unfold looksOpen
  rw [wsd_a, wsd_b, wsd_c, wsd_d, wsd_e, wsd_f]; rfl
theorem wsd : OpenLaw.wellSaid PySem.Challenge.rw_in0141_01 = true := by
  unfold OpenLaw.wellSaid OpenRow.wellSaid OpenRow.partSaid
  repeat' (with_reducible refine look_both ?_ ?_)
  · exact wsd_looks
  all_goals (
    (try rw [PySem.W.R.allR_eq]); (try rw [PySem.W.R.mapR_eq]); (try rw [PySem.W.R.anyR_eq]); (try rw [PySem.W.Fast.te3471404346716756564]); (try rw [PySem.W.Fast.sDec_eq]); (try rw [PySem.W.Fast.te18344453789297297638])
    (try rw [PySem.W.Fast.named_eq]); (try rw [PySem.W.Fast.te13582783067957832011]); (try rw [PySem.W.Fast.te12749700546528644094]); (try rw [PySem.W.Fast.te10501279942588096481]); (try rw [PySem.W.Fast.te8179353310426384613])
    (try rw [PySem.W.Fast.te8326940854005059898]); (try rw [PySem.W.Fast.te797321630700447069]); (try rw [PySem.W.Fast.te9572597257264208301]); (try rw [PySem.W.Fast.te9558739934217749035]); (try rw [PySem.W.Fast.te16286561074155671207])
    (try rw [PySem.W.Fast.te6984425678791042302]); (try rw [PySem.W.Fast.te17095254045102204799]); (try rw [PySem.W.Fast.te12879404354523853263]); (try rw [PySem.W.Fast.te482687673346738481]); (try rw [PySem.W.Fast.te17119622794617984870])
    (try rw [PySem.W.Fast.te10792542408131684335]); (try rw [PySem.W.Fast.te7723801398212525404])
    kernel_rfl)
end
-- HdC
section
noncomputable abbrev tT : String → Option Builtin := PySem.W.Fast.tw14364793385576792824
theorem tT_eq : treeTable = tT := PySem.W.Fast.te14364793385576792824
theorem r_open {p : Program} {w : World} {N : Nat} {α : Type} {f : Shared → α} {r : Option α} (h : (fencedOpening tT p w N).map f = r) : (fencedOpening treeTable p w N).map f = r := by rw [tT_eq]; exact h
theorem c_open (w : World) : (fencedOpening treeTable pw w 6000).map (fun s => (s.heap, s.gens, s.drawn, s.toks)) = some (H0 w.params, #[], {}, 318) := by
  refine r_open ?_
  kernel_rfl
theorem c_size (w : World) : ((H0 w.params).isNs mainGlobals && (#[] : Array GenState).size == 0, (H0 w.params).objs.size, (H0 w.params).nsMap mainGlobals "__annotations__") = (true, 34, some (Value.ref 6)) := by
  kernel_rfl
noncomputable def env0 : Env := { scope := pw.main.scope, locals := mainNs, globals := mainNs, cells := [], code := .ref 36, frame := some 37 }
noncomputable abbrev bE : List Stmt := behindTheImports pw
noncomputable abbrev cE : Code := .body bE env0
abbrev ps0 : Pos := ⟨0, 0, 0, 0⟩
abbrev psF : Pos := ⟨831, 0, 839, 57⟩
theorem c_pre (w : World) (os : OsState) : topGo treeTable pw w 34 (some (Value.ref 6)) 12 ⟨H0 w.params, #[], {}, 318, os⟩ (topStub pw) = some (⟨Ha w.params, #[], {}, 324, os⟩, ⟨denote treeTable cE, cE, ps0, [topFrame ps0]⟩) := by
  rw [tT_eq]
  kernel_rfl
theorem c_block (w : World) (os : OsState) : segRun treeTable pw w 34 (some (Value.ref 6)) 1 1 ⟨Ha w.params, #[], {}, 324, os⟩ (blockOf bE env0 cE ps0 [topFrame ps0]) = some (.next, SharedT.abs ⟨bt 12 (la w.params), 38, {}, #[], {}, 324, os⟩, cE, ps0) := by
  rw [tT_eq]
  kernel_rfl
end
-- HdD
section
noncomputable def lb (P : Params) : List Obj := (((((fullL P).take 395).set 3 ⟨(.type "dict"), none, (.dict #[ze P "__name__" 165 (zt "io" 431), ze P "__doc__" 166 .none, ze P "__package__" 167 .none, ze P "__loader__" 168 (.builtin "__main__.__loader__#opaque"), ze P "__spec__" 169 .none, ze P "__annotations__" 170 (.ref 6), ze P "__builtins__" 171 (.ref 4), ze P "__file__" 173 (zt "/claim/cut.py" 172), ze P "__cached__" 174 .none, ze P "_sre" 275 (.ref 12), ze P "deque" 317 (.type "collections.deque"), ze P "_wall" 330 (.ref 44), ze P "_netrclex" 390 (.ref 82), ze P "_twin_re_1" 430 (.ref 91), ze P "_whence" 440 (.ref 98), ze P "_index" 448 (.ref 105), ze P "UnsupportedOperation" 470 (.ref 115), ze P "IOBase" 502 (.ref 135), ze P "BufferedIOBase" 520 (.ref 150), ze P "TextIOBase" 538 (.ref 162), ze P "BytesIO" 800 (.ref 392)] 21), #[]⟩).set 35 ⟨.none, none, (.fields #[(.int 3 0), (.int 0 0), (.ref 43), (.int 7 0), (.int 0 0), (.ref 50), (.int 52 0), (.int 0 0), (.ref 97), (.int 57 0), (.int 0 0), (.ref 104), (.int 64 0), (.int 0 0), (.ref 111), (.int 66 0), (.int 0 0), (.ref 124), (.int 73 0), (.int 0 0), (.ref 146), (.int 75 0), (.int 0 0), (.ref 158), (.int 77 0), (.int 0 0), (.ref 170)]), #[]⟩).set 162 ⟨(.type "type"), none, (.cls { name := (zs "TextIOBase"), bases := [(.ref 135)], mro := [(.ref 162), (.ref 135), (.type "object")], ns := 161, qualname := (zs "TextIOBase") }), #[some (.ref 153), none, some (zt "TextIOBase" 521), some (zt "TextIOBase" 529), some .none, some (.bool true)]⟩)
noncomputable def lc (P : Params) : List Obj := ((((fullL P).take 642).set 3 ⟨(.type "dict"), none, (.dict #[ze P "__name__" 165 (zt "io" 431), ze P "__doc__" 166 .none, ze P "__package__" 167 .none, ze P "__loader__" 168 (.builtin "__main__.__loader__#opaque"), ze P "__spec__" 169 .none, ze P "__annotations__" 170 (.ref 6), ze P "__builtins__" 171 (.ref 4), ze P "__file__" 173 (zt "/claim/cut.py" 172), ze P "__cached__" 174 .none, ze P "_sre" 275 (.ref 12), ze P "deque" 317 (.type "collections.deque"), ze P "_wall" 330 (.ref 44), ze P "_netrclex" 390 (.ref 82), ze P "_twin_re_1" 430 (.ref 91), ze P "_whence" 440 (.ref 98), ze P "_index" 448 (.ref 105), ze P "UnsupportedOperation" 470 (.ref 115), ze P "IOBase" 502 (.ref 135), ze P "BufferedIOBase" 520 (.ref 150), ze P "TextIOBase" 538 (.ref 162), ze P "BytesIO" 800 (.ref 392), ze P "StringIO" 1087 (.ref 639)] 22), #[]⟩).set 35 ⟨.none, none, (.fields #[(.int 3 0), (.int 0 0), (.ref 43), (.int 7 0), (.int 0 0), (.ref 50), (.int 52 0), (.int 0 0), (.ref 97), (.int 57 0), (.int 0 0), (.ref 104), (.int 64 0), (.int 0 0), (.ref 111), (.int 66 0), (.int 0 0), (.ref 124), (.int 73 0), (.int 0 0), (.ref 146), (.int 75 0), (.int 0 0), (.ref 158), (.int 77 0), (.int 0 0), (.ref 170), (.int 247 0), (.int 0 0), (.ref 400)]), #[]⟩)
noncomputable abbrev sA : List Stmt := bE.take 12
noncomputable abbrev sB : List Stmt := (bE.drop 12).take 1
noncomputable abbrev sC : List Stmt := bE.drop 13
theorem bE_split : bE = sA ++ (sB ++ (sC ++ [])) := by
  rw [List.append_nil, show sC = (bE.drop 12).drop 1 by rw [List.drop_drop], List.take_append_drop, List.take_append_drop]
theorem c_run1 (w : World) (os : OsState) : segRunT treeTable pw w 34 (some (Value.ref 6)) 1 2700 ⟨bt 12 (la w.params), 38, {}, #[], {}, 324, os⟩ (piecesOf sA env0 cE ps0 [topFrame ps0]) = some (.next, ⟨bt 12 (lb w.params), 395, {}, #[], {}, 801, os⟩, cE, ⟨77, 0, 246, 17⟩) := by
  rw [tT_eq, PySem.W.Fast.te10110043849684766642]
  kernel_rfl
theorem c_run2 (w : World) (os : OsState) : segRunT treeTable pw w 34 (some (Value.ref 6)) 1 1600 ⟨bt 12 (lb w.params), 395, {}, #[], {}, 801, os⟩ (piecesOf sB env0 cE ⟨77, 0, 246, 17⟩ [topFrame ps0]) = some (.next, ⟨bt 12 (lc w.params), 642, {}, #[], {}, 1088, os⟩, cE, ⟨247, 0, 451, 17⟩) := by
  rw [tT_eq, PySem.W.Fast.te10110043849684766642]
  kernel_rfl
theorem c_run3 (w : World) (os : OsState) : segRunT treeTable pw w 34 (some (Value.ref 6)) 1 1150 ⟨bt 12 (lc w.params), 642, {}, #[], {}, 1088, os⟩ (piecesOf sC env0 cE ⟨247, 0, 451, 17⟩ [topFrame ps0]) = some (.next, ⟨bt 12 (fullL w.params), 824, {}, #[], {}, 1349, os⟩, cE, psF) := by
  rw [tT_eq, PySem.W.Fast.te10110043849684766642]
  kernel_rfl
end
-- HdE
section
theorem c_fin (w : World) (os : OsState) : topRun treeTable pw w 34 (some (Value.ref 6)) 2 (SharedT.abs ⟨bt 12 (fullL w.params), 824, {}, #[], {}, 1349, os⟩) (restOf [] env0 cE psF [topFrame ps0]) = some ⟨H1 w.params, #[], {}, 1349, os⟩ := by
  rw [tT_eq]
  kernel_rfl
theorem c_tail (w : World) (os : OsState) : (staticsOk (importedModules pw.main.body) (H0 w.params) (H1 w.params) && namesBound pw (H1 w.params) && gensDone ⟨H1 w.params, #[], {}, 1349, os⟩ && laidKept (H0 w.params) (H1 w.params)) = true := by
  kernel_rfl
theorem c_seen (w : World) (os : OsState) : openSeen hd.view_1 lo (importedModules pw.main.body) (fun s => xlAt hd.view_1 [] s && recOk (PySem.Challenge.rw_in0141_01).row.records s) true ⟨H1 w.params, #[], {}, 1349, os⟩ = openGood hd.view_1 lo := by
  rw [PySem.W.Fast.te4187177175401517315]
  kernel_rfl
theorem c_frag (P : Params) : (hd.heap_1 P).map (fun p => some p.2) = ((hd.heap_1 P).map (·.1)).map (fun a => (H1 P).get? a) := by
  kernel_rfl
end
-- HdF
section
noncomputable def as0 : List Addr := [2, 3, 38, 40, 41, 43, 44, 52, 54, 55, 57, 58, 59, 61, 62, 64, 65, 66, 68, 69, 71, 72, 73, 75, 76, 78, 79, 80, 81, 82, 83, 84, 90, 91, 92, 94, 95, 97, 98, 99, 101, 102, 104, 105, 106, 113, 114, 115, 116, 126, 128, 129, 131, 132, 133, 134, 135, 136, 137, 138, 141, 148, 149, 150, 153, 160, 161, 162, 165, 172, 173, 175, 176, 178, 179, 180, 182, 183, 185, 186, 187, 189, 190, 192, 193, 194, 196, 197, 199, 200, 201, 202, 204, 205, 207, 208, 209, 211, 212, 214, 215, 216, 218, 219, 221, 222, 223, 225, 226, 228, 229, 230, 232, 233, 235, 236, 237, 239, 240, 242, 243, 244, 246, 247, 249, 250, 251, 253, 254, 256, 257, 258, 260, 261, 263, 264, 265, 267, 268, 270, 271, 272, 274, 275, 277, 278, 279, 281, 282, 284, 285, 286, 288, 289, 291, 292, 293, 294, 296, 297, 299, 300, 301, 302, 304, 305, 307, 308, 309, 310, 312, 313, 315, 316, 317, 318, 320, 321, 323, 324, 325, 327, 328, 330, 331, 332, 334, 335, 337, 338, 339, 340, 342, 343, 345, 346, 347, 348, 350, 351, 353, 354, 355, 357, 358, 360, 361, 362, 364, 365, 367, 368, 369, 371, 372, 374, 375, 376, 378, 379, 381, 382, 383, 385, 386, 388, 389, 390, 391, 392, 395, 402, 403, 405, 406, 408, 409, 410, 412, 413, 415, 416, 417, 419, 420, 422, 423, 424, 426, 427, 429, 430, 431, 433, 434, 436, 437, 438, 440, 441, 443, 444, 445, 446, 448, 449, 451, 452, 453, 454, 456, 457, 459, 460, 461, 462, 464, 465, 467, 468, 469, 470, 472, 473, 475, 476, 477, 478, 480, 481, 483, 484, 485, 487, 488, 490, 491, 492, 494, 495, 497, 498, 499, 501, 502, 504, 505, 506, 508, 509, 511, 512, 513, 515, 516, 518, 519, 520, 522, 523, 525, 526, 527, 529, 530, 532, 533, 534, 536, 537, 539, 540, 541, 543, 544, 546, 547, 548, 550, 551, 553, 554, 555, 557, 558, 560, 561, 562, 563, 565, 566, 568, 569, 570, 571, 573, 574, 576, 577, 578, 579, 581, 582, 584, 585, 586, 587, 589, 590, 592, 593, 594, 595, 597, 598, 600, 601, 602, 604, 605, 607, 608, 609, 611, 612, 614, 615, 616, 618, 619, 621, 622, 623, 625, 626, 628, 629, 630, 632, 633, 635, 636, 637, 638, 639, 642, 644, 645, 647, 648, 649, 651, 652, 654, 655, 656, 658, 659, 661, 662, 663, 665, 666, 668, 669, 670, 672, 673, 675, 676, 677, 679, 680, 682, 683, 691, 692, 694, 695, 697, 698, 699, 701, 702, 704, 705, 706, 707, 709, 710, 712, 713, 714, 715, 717, 718, 720, 721, 722, 724, 725, 727, 728, 729, 731, 732, 734, 735, 736, 738, 739, 741, 742, 743, 745, 746, 748, 749, 750, 751, 753, 754, 756, 757, 758, 760, 761, 763, 764, 765, 767, 768, 770, 771, 772, 773, 774, 775, 776, 779, 781, 782, 784, 785, 786, 787, 789, 790, 792, 793, 794, 795, 797, 798, 800, 801, 802, 804, 805, 807, 808, 809, 812, 813, 814, 817, 818, 819, 822, 823]
theorem as0_eq (P : Params) : as0 = (hd.heap_1 P).map (·.1) := by kernel_rfl
noncomputable abbrev hk : Hook := kmHook hd.heap_1 as0 as0_eq [803, 780]
theorem c_hook (w : World) (os : OsState) : hk.obs ⟨H1 w.params, #[], {}, 1349, os⟩ = hk.val w := by
  show (as0.map (H1 w.params).get?, List.map (H1 w.params).get? [803, 780]) = (_, _)
  refine Prod.ext ?_ ?_
  · rw [as0_eq w.params]; exact (c_frag _).symm
  · kernel_rfl
theorem c_top (w : World) (os : OsState) : topRun treeTable pw w 34 (some (Value.ref 6)) (12 + (1 + (2700 + (1600 + (1150 + 2))))) ⟨H0 w.params, #[], {}, 318, os⟩ (topStub pw) = some ⟨H1 w.params, #[], {}, 1349, os⟩ := by
  refine go_top (c_pre w os) ?_
  show topRun treeTable pw w 34 (some (Value.ref 6)) (1 + (2700 + (1600 + (1150 + 2)))) ⟨Ha w.params, #[], {}, 324, os⟩ ⟨denote treeTable (.body bE env0), .body bE env0, ps0, [topFrame ps0]⟩ = _
  refine piece_block (c_block w os) ?_
  have h := piece_app (segRun_of (c_run1 w os)) (piece_app (segRun_of (c_run2 w os)) (piece_app (rest := []) (segRun_of (c_run3 w os)) (c_fin w os)))
  rw [← bE_split] at h
  exact h
theorem c_left : LeftO pw hd.view_1 lo (fun s => xlAt hd.view_1 [] s && recOk (PySem.Challenge.rw_in0141_01).row.records s) hk.obs hk.val 6000 :=
  LeftO.of_pieces (open_ := c_open) (size := c_size) (run := c_top) (le := by decide) (looks := fun w => funext fun os => Prod.ext (c_tail w os) (Prod.ext (c_seen w os) (c_hook w os)))
theorem c_left' : LeftO (PySem.Challenge.rw_in0141_01).row.prog hd.view_1 lo (fun s => xlAt hd.view_1 [] s && recOk (PySem.Challenge.rw_in0141_01).row.records s) hk.obs hk.val 6000 := c_left
theorem okq : (chainsOk hd.view_1 && opensWell (PySem.Challenge.rw_in0141_01).row.prog && (frees (PySem.Challenge.rw_in0141_01).row.toRowW && (PySem.Challenge.rw_in0141_01).row.within.isEmpty)) = true := by decide +kernel
theorem bareq : (PySem.Challenge.rw_in0141_01).row.prog.bare := ⟨rfl, rfl, rfl, rfl, rfl, by decide +kernel⟩
theorem xlq (s : Shared) (e : (xlAt hd.view_1 [] s && recOk (PySem.Challenge.rw_in0141_01).row.records s) = true) : XL hd.view_1 [] (s.heap.nsMap mainGlobals) s.heap := xl_of s (Bool.and_eq_true_iff.mp e).1
theorem recq (s : Shared) (e : (xlAt hd.view_1 [] s && recOk (PySem.Challenge.rw_in0141_01).row.records s) = true) : RecFacts (PySem.Challenge.rw_in0141_01).row.records s.heap := recFacts_of (Bool.and_eq_true_iff.mp e).2
theorem topq {d : DefRec} {kwd : List (Str × PySem.Expr)} (hdef : defOf hd.view_1 (PySem.Challenge.rw_in0141_01).row.name = some (d, kwd)) (hp : (PySem.Challenge.rw_in0141_01).row.prog.theDef (PySem.Challenge.rw_in0141_01).row.name = some (d.params, d.body, d.scope)) (hq : kwWritten? d.params.kwonlyargs d.params.kw_defaults = some kwd)
    (hw : (PySem.Challenge.rw_in0141_01).row.toRowW.promised) (hc : WalkO hd.view_1 lo (XL hd.view_1 []) hk.says (PySem.Challenge.rw_in0141_01).row.toRowW d kwd fun f vs => PySem.call f vs) : PySem.Challenge.rw_in0141_01.Holds :=
  holds_law wsd fun said => PySem.W.holds_open (r := (PySem.Challenge.rw_in0141_01).row) (d := d) (kwd := kwd) c_left' hk.of hk.keeps xlq XL.keeps hdef hp hq recq rfl said okq bareq hw hc
theorem promq : (PySem.Challenge.rw_in0141_01).row.toRowW.promised := by w_witness2
end
-- Base
section
noncomputable abbrev P0 : Program := Challenge.rw_in0141_01.row.prog

/-- every object of h but those at chg stands in h' -/
def Keeps (chg : List Addr) (h h' : Heap) : Prop := ∀ b o, h.get? b = some o → b ∉ chg → h'.get? b = some o
/-- the objects stand in h and not in the base -/
def Own (g h : Heap) (l : List (Addr × Obj)) : Prop := ∀ p ∈ l, h.get? p.1 = some p.2 ∧ g.get? p.1 = none

theorem Keeps.refl (chg : List Addr) (h : Heap) : Keeps chg h h := fun _ _ e _ => e
theorem Keeps.trans {c h h' h'' } (a : Keeps c h h') (b : Keeps c h' h'') : Keeps c h h'' := fun x o e n => b x o (a x o e n) n
theorem Keeps.mono {c c' : List Addr} {h h'} (a : Keeps c h h') (s : ∀ x ∈ c, x ∈ c') : Keeps c' h h' := fun x o e n => a x o e fun q => n (s x q)
theorem Keeps.sub {g h h' : Heap} {c : List Addr} (k : Keeps c h h') (S : ∀ b o, g.get? b = some o → h.get? b = some o) (hc : ∀ a ∈ c, g.get? a = none) : ∀ b o, g.get? b = some o → h'.get? b = some o :=
  fun b o e => k b o (S b o e) fun q => by rw [hc b q] at e; cases e
theorem Own.keep {g h h' : Heap} {c : List Addr} {l : List (Addr × Obj)} (O : Own g h l) (k : Keeps c h h') (hn : ∀ p ∈ l, p.1 ∉ c) : Own g h' l :=
  fun p hp => ⟨k _ _ (O p hp).1 (hn p hp), (O p hp).2⟩
theorem Own.sub {g h : Heap} {l l' : List (Addr × Obj)} (O : Own g h l) (hs : ∀ p ∈ l', p ∈ l) : Own g h l' := fun p hp => O p (hs p hp)
theorem Own.of_news {g h : Heap} {L : Addr} {l : List (Addr × Obj)} (N : News g L h l) : Own g h l := fun p hp => ⟨(N p hp).1, (N p hp).2.2⟩
theorem Fr.after {g h h' : Heap} {L : Addr} {m : Str → Option Value} {c : List Addr} (F : Fr g L h m) (k : Keeps c h h') (hL : L ∉ c) (hc : ∀ a ∈ c, g.get? a = none) : Fr g L h' m :=
  ⟨F.ns.at' fun o e => k L o e hL, k.sub F.keep hc, F.above⟩
theorem News.after {g h h' : Heap} {L : Addr} {l : List (Addr × Obj)} {c : List Addr} (N : News g L h l) (k : Keeps c h h') (hn : ∀ p ∈ l, p.1 ∉ c) : News g L h' l :=
  fun p hp => ⟨k _ _ (N p hp).1 (hn p hp), (N p hp).2⟩
theorem keeps_out {g h h' : Heap} {L : Addr} {m : Str → Option Value} {l : List (Addr × Obj)} {chg : List Addr} (hG : ∀ b o, h.get? b = some o → b ∉ l.map (·.1) → g.get? b = some o) (F : Fr g L h' m)
    (hold : ∀ p ∈ l, h.get? p.1 = some p.2) (hnew : ∀ p ∈ l, p.1 ∉ chg → h'.get? p.1 = some p.2) : Keeps chg h h' := fun b o e n => by
  by_cases q : b ∈ l.map (·.1)
  · obtain ⟨p, hp, rfl⟩ := List.mem_map.mp q
    rw [hold p hp] at e; cases e
    exact hnew p hp n
  · exact F.keep b o (hG b o e q)

/-- a def of the written part is entered: what it may change is hidden from the base -/
theorem enter {w : World} {A : Around} {s : Shared} {g : Heap} {R : Result → Shared → Prop} {p : Program} {loose : List Str} {mg mb : Str → Option Value}
    {name qual : Str} {params : Arguments} {body : List Stmt} {scope : Scope} {dV kV doc pm cdv ct oc : Value} {an od : Option Addr} {osl : Array (Option Value)} {f : Addr} {args : Args} {binds : List (Str × Value)} (l : List (Addr × Obj))
    (X₀ : (hd.heap_1 w.params).In g) (T : TopRead p loose mg mb g) (S : ∀ b o, g.get? b = some o → s.heap.get? b = some o) (O : Own g s.heap l)
    (ho : (hd.heap_1 w.params).lookup f = some ⟨oc, od, .func (fnOf name qual params body scope dV kV doc pm an cdv ct), osl⟩) (hcd : codeIn (hd.heap_1 w.params) cdv qual = true) (hroom : A.depth < recursionLimit)
    (hbind : BindsTo s (fnOf name qual params body scope dV kV doc pm an cdv ct) args binds) (hloc : ∀ y ∈ binds, scope.names.lookup y.1 = some .local)
    (h : ∀ g' L' h₁, Fr g' L' h₁ (fun y => binds.reverse.lookup y) → News g' L' h₁ l → (hd.heap_1 w.params).In g' → TopRead p loose mg mb g' → (∀ b o, s.heap.get? b = some o → b ∉ l.map (·.1) → g'.get? b = some o) → (∀ b o, g.get? b = some o → g'.get? b = some o) →
      wpAny (model P0 w) (A.deeper (envOf qual scope L' f cdv)) (execs body (envOf qual scope L' f cdv))
        (fun fl s' => R (.ok (.ret (match fl with | .ret v => v | _ => .none))) s')
        (fun e s' => wpAny (model P0 w) (A.deeper (envOf qual scope L' f cdv)) (leaving (envOf qual scope L' f cdv) e) (fun _ s'' => R (.error e) s'') (fun e' s'' => R (.error e') s'') s')
        { s with heap := h₁, toks := s.toks + binds.length })
    (hco : scope.isCoroutine = false) (hgen : scope.isGenerator = false) (hk : scope.kind = .function)
    (hcell : ∀ x ∈ scope.names, x.2 ≠ .cell) : codeAny (model P0 w) A (.call (.ref f) args) R s := by
  have hX := X₀.keeps S
  have hsub : ∀ b o, g.get? b = some o → (hideAll s.heap (l.map (·.1))).get? b = some o := fun b o e => hideAll_get _ (S b o e) fun q => by
    obtain ⟨x, hx, rfl⟩ := List.mem_map.mp q
    rw [(O x hx).2] at e; cases e
  refine codeAny_call_def (fd := fnOf name qual params body scope dV kV doc pm an cdv ct) (body := body) (binds := binds) hroom (hX _ _ ho) rfl (T.nolimit.keeps S) (codeRec_of hX hcd) rfl hbind hcell hloc (fun h₁ hns hk₁ => ?_) hco hgen hk
  exact h (hideAll s.heap (l.map (·.1))) s.heap.objs.size h₁ ⟨hns, fun b o e => hk₁ b o (of_hideAll _ e), Nat.le_of_eq (hideAll_size _ _)⟩
    (fun q hq => ⟨hk₁ _ _ (O q hq).1, Nat.ne_of_lt (Heap.lt_size (O q hq).1), hideAll_none _ (List.mem_map_of_mem hq)⟩) (X₀.keeps hsub) (T.keeps hsub) (fun b o e n => hideAll_get _ e n) hsub
theorem isStr_str (a b : Str) (t : Tok) : (Value.str a t).isStr b = (a == b) := rfl
theorem find_put_eq (name : Str) (hsh : Int) (t : Tok) (v : Value) : ∀ es : List DictEntry, ∃ e, (putL name hsh (.str name t) v es).find? (·.key.isStr name) = some e ∧ e.val = v
  | [] => ⟨⟨hsh, .str name t, v⟩, by simp [putL, isStr_str], rfl⟩
  | e :: r => by
    cases q : e.key.isStr name with
    | true => exact ⟨⟨e.hash, e.key, v⟩, by simp [putL, q], rfl⟩
    | false =>
      obtain ⟨e', h1, h2⟩ := find_put_eq name hsh t v r
      exact ⟨e', by simp only [putL, q]; simpa [q] using h1, h2⟩
theorem getL_put_eq {name : Str} {hsh : Int} {t : Tok} {v : Value} {es : List DictEntry} : getL name (putL name hsh (.str name t) v es) = some (some v) := by
  obtain ⟨e, h1, h2⟩ := find_put_eq name hsh t v es
  unfold getL
  rw [h1]
  exact congrArg (fun z => some (some z)) h2
theorem isStr_ne {k : Value} {a b : Str} (h : k.isStr a = true) (n : b ≠ a) : k.isStr b = false := by
  cases k with
  | str s t =>
    have e : s = a := eq_of_beq h
    subst e
    show (s == b) = false
    exact beq_false_of_ne (Ne.symm n)
  | _ => cases h
theorem find_put_ne {name name' : Str} (hn : name' ≠ name) (hsh : Int) (t : Tok) (v : Value) : ∀ es : List DictEntry,
    ((putL name hsh (.str name t) v es).find? (·.key.isStr name')).map (·.val) = (es.find? (·.key.isStr name')).map (·.val)
  | [] => by simp [putL, isStr_str, Ne.symm hn]
  | e :: r => by
    cases q : e.key.isStr name with
    | true =>
      have q' := isStr_ne q hn
      simp [putL, q, q']
    | false =>
      have ih := find_put_ne hn hsh t v r
      simp only [putL, q]
      cases q' : e.key.isStr name' with
      | true => simp [q']
      | false => simpa [q'] using ih
theorem any_put (name : Str) (hsh : Int) (t : Tok) (v : Value) : ∀ es : List DictEntry, (putL name hsh (.str name t) v es).any (·.refKey) = es.any (·.refKey)
  | [] => by simp [putL, DictEntry.refKey]
  | e :: r => by
    have ih := any_put name hsh t v r
    cases q : e.key.isStr name with
    | true => simp [putL, q, DictEntry.refKey]
    | false => simp only [putL, q, Bool.false_eq_true, if_false, List.any_cons, ih]
theorem getL_eq (name : Str) (es : List DictEntry) : getL name es = match (es.find? (·.key.isStr name)).map (·.val) with | some v => some (some v) | none => if es.any (·.refKey) then none else some none := by
  unfold getL
  cases es.find? (·.key.isStr name) <;> rfl
theorem getL_put_ne {name name' : Str} {hsh : Int} {t : Tok} {v : Value} {es : List DictEntry} (hn : name' ≠ name) : getL name' (putL name hsh (.str name t) v es) = getL name' es := by
  rw [getL_eq, getL_eq, find_put_ne hn, any_put]
theorem length_put (name : Str) (hsh : Int) (k v : Value) : ∀ es : List DictEntry, (putL name hsh k v es).length ≤ es.length + 1
  | [] => by simp [putL]
  | e :: r => by
    have ih := length_put name hsh k v r
    cases q : e.key.isStr name with
    | true => simp [putL, q]
    | false => simp only [putL, q]; simpa using ih
theorem length_put_of {name : Str} {hsh : Int} {k v w : Value} : ∀ {es : List DictEntry}, getL name es = some (some w) → (putL name hsh k v es).length = es.length
  | [], h => by simp [getL] at h
  | e :: r, h => by
    cases q : e.key.isStr name with
    | true => simp [putL, q]
    | false =>
      simp only [putL, q]
      have : getL name r = some (some w) := by
        rw [getL_eq] at h ⊢
        simp only [List.find?_cons, q] at h
        cases z : Option.map (·.val) (r.find? (·.key.isStr name)) with
        | none => rw [z] at h; dsimp only at h; split at h <;> cases h
        | some y => rw [z] at h; exact h
      simpa using length_put_of this
theorem isSome_of {name : Str} {es : List DictEntry} {v : Value} (h : getL name es = some (some v)) : (getL name es).isSome = true := by rw [h]; rfl
theorem isSome_of' {name : Str} {es : List DictEntry} (h : getL name es = some none) : (getL name es).isSome = true := by rw [h]; rfl
theorem length_put_le {name : Str} {hsh : Int} {k v : Value} {es : List DictEntry} {j : Nat} (h : es.length ≤ j) : (putL name hsh k v es).length ≤ j + 1 := Nat.le_trans (length_put _ _ _ _ _) (Nat.succ_le_succ h)
theorem Own.back {g g' h : Heap} {L : Addr} {l : List (Addr × Obj)} (N : News g' L h l) (hg : ∀ b o, g.get? b = some o → g'.get? b = some o) : Own g h l := fun p hp => ⟨(N p hp).1, by
  cases q : g.get? p.1 with
  | none => rfl
  | some o => have := hg _ _ q; rw [(N p hp).2.2] at this; cases this⟩
/-- what stands at a call: the written part, the names, and the base's objects -/
structure Cx (w : World) (p : Program) (loose : List Str) (mg mb : Str → Option Value) (g h : Heap) : Prop where
  X : (hd.heap_1 w.params).In g
  T : TopRead p loose mg mb g
  S : ∀ b o, g.get? b = some o → h.get? b = some o
theorem Cx.keep {w : World} {p : Program} {loose : List Str} {mg mb : Str → Option Value} {g h h' : Heap} {c : List Addr} (C : Cx w p loose mg mb g h) (k : Keeps c h h') (hc : ∀ a ∈ c, g.get? a = none) : Cx w p loose mg mb g h' :=
  ⟨C.X, C.T, k.sub C.S hc⟩
theorem inst_ne_dict {g h : Heap} {x dx : Addr} {C dy : Addr} {es : List DictEntry} {n : Nat} {r : List (Addr × Obj)} (O : Own g h ((x, instObj C dy) :: (dx, dictOf es n) :: r)) : @Ne Nat x dx := by
  intro e
  have h1 := (O _ (.head _)).1
  have h2 := (O _ (.tail _ (.head _))).1
  dsimp only at h1 h2
  rw [e, h2] at h1
  cases h1
/-- two objects that differ lie apart -/
theorem ne_of_objs {g h : Heap} {l : List (Addr × Obj)} {a b : Addr} {o o' : Obj} (O : Own g h l) (ha : (a, o) ∈ l) (hb : (b, o') ∈ l) (hn : o ≠ o') : @Ne Nat a b := by
  intro e
  have h1 := (O _ ha).1
  have h2 := (O _ hb).1
  dsimp only at h1 h2
  rw [e, h2] at h1
  exact hn (Option.some.inj h1).symm
/-- a def whose arguments are bound by a run that makes objects alone (stars) -/
theorem enterB {w : World} {A : Around} {s : Shared} {g : Heap} {R : Result → Shared → Prop} {p : Program} {loose : List Str} {mg mb : Str → Option Value}
    {name qual : Str} {params : Arguments} {body : List Stmt} {scope : Scope} {dV kV doc pm cdv ct oc : Value} {an od : Option Addr} {osl : Array (Option Value)} {f : Addr} {args : Args} (B : List (Str × Value) → Prop) (l : List (Addr × Obj))
    (C : Cx w p loose mg mb g s.heap) (O : Own g s.heap l)
    (ho : (hd.heap_1 w.params).lookup f = some ⟨oc, od, .func (fnOf name qual params body scope dV kV doc pm an cdv ct), osl⟩) (hcd : codeIn (hd.heap_1 w.params) cdv qual = true) (hroom : A.depth < recursionLimit)
    (hbind : wpAny (model P0 w) A.in1 (bindArgs (fnOf name qual params body scope dV kV doc pm an cdv ct) args) (fun b s₁ => B b ∧ ∃ h₁ tk₁, s₁ = { s with heap := h₁, toks := tk₁ } ∧ Keeps [] s.heap h₁) (fun _ _ => False) s)
    (hloc : ∀ b, B b → ∀ y ∈ b, scope.names.lookup y.1 = some .local)
    (h : ∀ binds, B binds → ∀ g' L' h₁ tk₁, Fr g' L' h₁ (fun y => binds.reverse.lookup y) → News g' L' h₁ l → (hd.heap_1 w.params).In g' → TopRead p loose mg mb g' → (∀ b o, s.heap.get? b = some o → b ∉ l.map (·.1) → g'.get? b = some o) → (∀ b o, g.get? b = some o → g'.get? b = some o) →
      wpAny (model P0 w) (A.deeper (envOf qual scope L' f cdv)) (execs body (envOf qual scope L' f cdv))
        (fun fl s' => R (.ok (.ret (match fl with | .ret v => v | _ => .none))) s')
        (fun e s' => wpAny (model P0 w) (A.deeper (envOf qual scope L' f cdv)) (leaving (envOf qual scope L' f cdv) e) (fun _ s'' => R (.error e) s'') (fun e' s'' => R (.error e') s'') s')
        { s with heap := h₁, toks := tk₁ })
    (hco : scope.isCoroutine = false) (hgen : scope.isGenerator = false) (hk : scope.kind = .function)
    (hcell : ∀ x ∈ scope.names, x.2 ≠ .cell) : codeAny (model P0 w) A (.call (.ref f) args) R s := by
  have hX := C.X.keeps C.S
  refine codeAny_call_function (fd := fnOf name qual params body scope dV kV doc pm an cdv ct) hroom (hX _ _ ho) rfl hco hgen rfl (codeRec_of hX hcd) (wpAny_mono hbind (fun b s₁ z => ?_) fun _ _ z => z.elim)
  obtain ⟨hB, h₁, tk₁, rfl, hk₁⟩ := z
  have S₁ : ∀ b o, g.get? b = some o → h₁.get? b = some o := fun b o e => hk₁ b o (C.S b o e) (fun q => nomatch q)
  have O₁ : Own g h₁ l := O.keep hk₁ (fun _ _ q => nomatch q)
  have hsub : ∀ b o, g.get? b = some o → (hideAll h₁ (l.map (·.1))).get? b = some o := fun b o e => hideAll_get _ (S₁ b o e) fun q => by
    obtain ⟨x, hx, rfl⟩ := List.mem_map.mp q
    rw [(O x hx).2] at e; cases e
  refine wpAny_newFunctionEnv hcell (hloc b hB) (fun h₂ hns₂ hsb₂ => ⟨(C.T.nolimit.keeps S₁).fresh _ hsb₂, codeAny_func ?_⟩) hk
  have hk₂ : ∀ b o, h₁.get? b = some o → h₂.get? b = some o := fun b o e => hsb₂.extBut b o (Nat.ne_of_lt (Heap.lt_size e)) (Heap.get?_push_of_some _ e)
  exact h b hB (hideAll h₁ (l.map (·.1))) h₁.objs.size h₂ _ ⟨hns₂, fun b o e => hk₂ b o (of_hideAll _ e), Nat.le_of_eq (hideAll_size _ _)⟩
    (fun q hq => ⟨hk₂ _ _ (O₁ q hq).1, Nat.ne_of_lt (Heap.lt_size (O₁ q hq).1), hideAll_none _ (List.mem_map_of_mem hq)⟩) (C.X.keeps hsub) (C.T.keeps hsub) (fun b o e n => hideAll_get _ (hk₁ b o e (fun q => nomatch q)) n) hsub
/-- what was made since stands apart from what stood -/
theorem Keeps.fresh {h h₁ h₂ : Heap} {c : List Addr} (k : Keeps [] h h₁) (k' : Keeps c h₁ h₂) (hc : ∀ a ∈ c, h.get? a = none) : Keeps [] h h₂ := fun b o e _ =>
  k' b o (k b o e (fun q => nomatch q)) fun q => by rw [hc b q] at e; cases e
theorem none_of {g h : Heap} (S : ∀ b o, g.get? b = some o → h.get? b = some o) {b : Addr} (e : h.get? b = none) : g.get? b = none := by
  cases q : g.get? b with
  | none => rfl
  | some o => have := S b o q; rw [e] at this; cases this
theorem wp_tok {M : Model} {A : Around} {α : Type} {m : Sem α} {Q : α → Shared → Prop} {E : Value → Shared → Prop} {h : Heap} {g : Array GenState} {d : Drawn} {t k : Nat} {o : OsState} (x : ∀ t, wpAny M A m Q E ⟨h, g, d, t, o⟩) : wpAny M A m Q E ⟨h, g, d, t + k, o⟩ := x _
end
-- TxtL
section
open PySem PySem.W PyProof.Rows PySem.Calls PySem.Builtin PySem.Builtin.Str
/-- a text by its signs' numbers -/
def tx (l : List Nat) : Str := ⟨l.toArray⟩
theorem tx_length (l : List Nat) : (tx l).length = l.length := by simp [tx, Str.length]
theorem tx_append (a b : List Nat) : tx a ++ tx b = tx (a ++ b) := by
  show Str.append _ _ = _
  simp [tx, Str.append]
theorem tx_inj {a b : List Nat} (h : tx a = tx b) : a = b := by
  have := congrArg Str.cps h
  simpa [tx] using this
theorem tx_cps (x : Str) : tx x.cps.toList = x := by cases x; simp [tx]
theorem range_pick (l : List Nat) (a n : Nat) (h : a + n ≤ l.length) : ((List.range n).map (fun (k : Nat) => ((a : Int) + 1 * (k : Int)).toNat)).filterMap (fun i => l.toArray[i]?) = (l.drop a).take n := by
  have e : ∀ k : Nat, ((a : Int) + 1 * (k : Int)).toNat = a + k := fun k => by omega
  simp only [e]
  induction n with
  | zero => simp
  | succ n ih =>
    rw [List.range_succ, List.map_append, List.filterMap_append, ih (by omega)]
    have hl : a + n < l.length := by omega
    rw [List.take_add_one]
    congr 1
    simp [hl]
theorem slice_ss (l : List Nat) (a b : Nat) (hab : a ≤ b) (hb : b ≤ l.length) : Txt.slice (tx l) (some (a : Int)) (some (b : Int)) = tx ((l.drop a).take (b - a)) := by
  have hn : (tx l).length = l.length := tx_length l
  have hi : strSliceIndices (some (a : Int)) (some (b : Int)) 1 l.length = (List.range (b - a)).map (fun (k : Nat) => ((a : Int) + 1 * (k : Int)).toNat) := by
    unfold strSliceIndices sliceRange
    simp only [show (1 : Int) > 0 by decide, if_true]
    rw [if_neg (show ¬ ((a : Int) < 0) by omega), if_neg (show ¬ ((b : Int) < 0) by omega)]
    rw [show max 0 (min (a : Int) (l.length : Int)) = (a : Int) by omega, show max 0 (min (b : Int) (l.length : Int)) = (b : Int) by omega]
    congr 2
    split
    · rw [Int.ediv_one]; omega
    · omega
  unfold Txt.slice
  rw [hn, hi]
  split
  · rename_i h
    have h' : b - a = l.length := by simpa using h
    have : a = 0 := by omega
    subst this
    have : b = l.length := by omega
    subst this
    simp
  · rw [show (fun x => (tx l).cps[x]?) = fun i => l.toArray[i]? from rfl, range_pick l a (b - a) (by omega)]
    rfl
theorem slice_last (l : List Nat) : Txt.slice (tx l) none (some (-1)) = tx l.dropLast := by
  have hn : (tx l).length = l.length := tx_length l
  have hi : strSliceIndices none (some (-1)) 1 l.length = (List.range (l.length - 1)).map (fun (k : Nat) => (((0 : Nat) : Int) + 1 * (k : Int)).toNat) := by
    unfold strSliceIndices sliceRange
    simp only [show (1 : Int) > 0 by decide, if_true, show (-1 : Int) < 0 by decide]
    rw [show max 0 (min (-1 + (l.length : Int)) (l.length : Int)) = ((l.length - 1 : Nat) : Int) by omega]
    congr 2
    split
    · rw [Int.ediv_one]; omega
    · omega
  unfold Txt.slice
  rw [hn, hi]
  split
  · rename_i h
    have h' : l.length - 1 = l.length := by simpa using h
    have : l = [] := List.length_eq_zero_iff.mp (by omega)
    subst this
    rfl
  · rw [show (fun x => (tx l).cps[x]?) = fun i => l.toArray[i]? from rfl, range_pick l 0 (l.length - 1) (by omega), List.drop_zero]
    show tx _ = _
    rw [List.dropLast_eq_take]
/-- what StringIO.read hands out -/
theorem read_text (l : List Nat) (a b : Nat) (hab : a ≤ b) (hb : b ≤ l.length) : Txt.slice (Txt.slice (tx l) (some (a : Int)) (some (b : Int)) ++ Str.ofString " ") none (some (-1)) = tx ((l.drop a).take (b - a)) := by
  rw [slice_ss l a b hab hb, show Str.ofString " " = tx [32] from rfl, tx_append, slice_last, List.dropLast_concat]
theorem read_text1 (l : List Nat) (a : Nat) (h : a < l.length) : Txt.slice (Txt.slice (tx l) (some (a : Int)) (some ((a : Int) + 1)) ++ Str.ofString " ") none (some (-1)) = tx [l[a]] := by
  have e := read_text l a (a + 1) (by omega) (by omega)
  rw [show a + 1 - a = 1 by omega, List.drop_eq_getElem_cons h, List.take_succ_cons, List.take_zero] at e
  exact e
end
-- TxtS
section
open PySem.Builtin PySem.Builtin.Str
theorem slice_one {l : List Nat} {a c : Nat} (hc : l[a]? = some c) : Txt.slice (tx l) (some ([(a : Int)].getD (Int.toNat 0) 0)) (some ([(a : Int)].getD (Int.toNat 0) 0 + 1)) = tx [c] := by
  obtain ⟨h, e⟩ := List.getElem?_eq_some_iff.mp hc
  subst e
  have z := slice_ss l a (a + 1) (by omega) (by omega)
  rw [show a + 1 - a = 1 by omega, List.drop_eq_getElem_cons h, List.take_succ_cons, List.take_zero] at z
  exact z
theorem slice_past {l : List Nat} {a : Nat} (ha : a = l.length) : Txt.slice (tx l) (some ([(a : Int)].getD (Int.toNat 0) 0)) (some ([(a : Int)].getD (Int.toNat 0) 0 + 1)) = tx [] := by
  subst ha
  show Txt.slice (tx l) (some (l.length : Int)) (some ((l.length : Int) + 1)) = tx []
  have hn : (tx l).length = l.length := tx_length l
  have hi : strSliceIndices (some (l.length : Int)) (some ((l.length : Int) + 1)) 1 l.length = [] := by
    unfold strSliceIndices sliceRange
    simp only [show (1 : Int) > 0 by decide, if_true]
    rw [if_neg (show ¬ ((l.length : Int) < 0) by omega), if_neg (show ¬ ((l.length : Int) + 1 < 0) by omega)]
    rw [show max 0 (min (l.length : Int) (l.length : Int)) = (l.length : Int) by omega, show max 0 (min ((l.length : Int) + 1) (l.length : Int)) = (l.length : Int) by omega]
    simp
  unfold Txt.slice
  rw [hn, hi]
  split
  · rename_i h
    have : l = [] := by
      have : (0 : Nat) = l.length := by simpa using h
      exact List.length_eq_zero_iff.mp this.symm
    subst this
    rfl
  · rfl
end
-- C1
section
theorem reg_C1 : True := by
  k_with_none
  k_with "k_get" => (first | assumption | exact getL_put_eq | (refine Eq.trans (getL_put_ne (by decide +kernel)) ?_; k_get) | (refine' isSome_of ?h9z; case h9z => k_get) | (refine' isSome_of' ?h9z; case h9z => k_get) | exact rfl)
  k_with "k_put" => (exact rfl)
  k_with "setAttr ref" => (k_here; k_dflt (
    (refine' set_dict ?k19z ?k29z ?k39z ?k49z ?k59z ?k69z ?k79z ?k89z ?k99z ?k109z ?k119z ?k129z ?k139z ?_; (case k19z => k_asm); (case k29z => k_asm); (case k39z => k_asm); (case k49z => k_inst); (case k59z => exact rfl); (case k69z => k_is); (case k79z => k_is); (case k89z => k_is); (case k99z => k_is); (case k109z => k_get); (case k119z => exact rfl); (case k129z => k_upd); (case k139z => ((repeat (refine length_put_le ?_)); omega)); k_whole; intro h' F' N'; (try k_sweep))))
  k_with "size_fits" => (first | assumption | ((try simp only [tx_length]); rw [sizeLine_eq]; omega))
  k_with "k_ne" => (first | assumption | (refine Ne.symm ?_; assumption))
  k_with "tb_rel" => (first
    | exact List.forall_mem_nil _
    | (refine List.forall_mem_cons.mpr ⟨?ta9z, ?tb9z⟩; (case ta9z => first | exact fun _ => News.get (by assumption) (by k_mem) | exact fun h9 => absurd (by simp) h9); (case tb9z => tb_rel)))
  k_with "tb_start" => (
    refine wpAny_call ?_
    refine' enter _ (Cx.X (by assumption)) (Cx.T (by assumption)) (Cx.S (by assumption)) (by assumption) ?k19z ?k29z ?k39z ?k49z ?k59z ?_ ?k69z ?k79z ?k89z ?k99z
    (case k19z => k_is)
    (case k29z => k_is)
    (case k39z => ((try simp only [depth_deeper, depth_under_make, depth_in1, recursionLimit]); omega))
    (case k49z => first | exact BindsTo.of_eq rfl | exact binds_K (Frag.In.keeps (Cx.X (by assumption)) (Cx.S (by assumption))) rfl (by k_is) rfl rfl rfl)
    (case k59z => exact locs rfl)
    (case k69z => exact rfl)
    (case k79z => exact rfl)
    (case k89z => exact rfl)
    (case k99z => decide)
    skip)
  k_with "exec If" => (refine wpAny_If ?_)
  k_with "execs nil" => (refine wpAny_execs_nil ?_)
  k_with "execs cons" => ((with_reducible refine wpAny_execs_cons ?_); (try dsimp only); (try k_fold); (try (with_reducible refine wp_tok ?_; intro tk9)))
  trivial

theorem check_ok {w : World} {p : Program} {loose : List Str} {mg mb : Str → Option Value} {g : Heap} {A : Around} {s : Shared} {Q E : Value → Shared → Prop}
  {x dx : Addr} {es : List DictEntry} {n : Nat} {buf : Str} {tb : Tok}
  (C : Cx w p loose mg mb g s.heap)
  (O : Own g s.heap [(x, instObj 639 dx), (dx, dictOf es n)])
  (hbuf : getL "_StringIO__buf" es = some (some (.str buf tb)))
  (hdp : A.depth ≤ 590)
  (hret : ∀ h' tk', Keeps [] s.heap h' → Q .none { s with heap := h', toks := tk' }) :
  wpAny (model P0 w) A (call (.ref 423) [.ref x]) Q E s := by
  tb_start
  intro g' L' h' F' N' X' T' hG9 hg9
  dsimp only
  k_fold
  k_steps
  rename Fr _ _ _ _ => F9
  rename News _ _ _ _ => N9
  exact hret _ _ (keeps_out hG9 F9 (fun p hp => (O p hp).1) (by tb_rel))

theorem index_ok {w : World} {p : Program} {loose : List Str} {mg mb : Str → Option Value} {g : Heap} {A : Around} {s : Shared} {Q E : Value → Shared → Prop}
  {k : Int} {tk : Tok} {v : Value}
  (C : Cx w p loose mg mb g s.heap)
  (h1 : 0 ≤ k) (h2 : k ≤ 1000)
  (hdp : A.depth ≤ 590)
  (hret : ∀ h' tk' t', Keeps [] s.heap h' → Q (.int k t') { s with heap := h', toks := tk' }) :
  wpAny (model P0 w) A (call (.ref 105) [.int k tk, v]) Q E s := by
  have O : Own g s.heap [] := fun _ h => nomatch h
  tb_start
  intro g' L' h' F' N' X' T' hG9 hg9
  dsimp only
  k_fold
  k_steps
  repeat' (first | (dsimp only) | (k_unfold; dsimp only))
  rename Fr _ _ _ _ => F9
  exact hret _ _ _ (keeps_out hG9 F9 (fun p hp => nomatch hp) (fun p hp => nomatch hp))

/-- a StringIO of the text buf, read up to pos -/
def Sio (g h : Heap) (x dx : Addr) (buf : List Nat) (pos : Nat) : Prop := ∃ es n tb tp, Own g h [(x, instObj 639 dx), (dx, dictOf es n)] ∧ getL "_StringIO__buf" es = some (some (.str (tx buf) tb)) ∧
  getL "_StringIO__pos" es = some (some (.int (pos : Int) tp)) ∧ getL "_StringIO__check" es = some none ∧ getL "read" es = some none ∧ es.length ≤ 50
theorem Sio.intro {g h : Heap} {x dx : Addr} {buf : List Nat} {pos : Nat} {es : List DictEntry} {n : Nat} {tb tp : Tok} (O : Own g h [(x, instObj 639 dx), (dx, dictOf es n)]) (h1 : getL "_StringIO__buf" es = some (some (.str (tx buf) tb)))
  (h2 : getL "_StringIO__pos" es = some (some (.int (pos : Int) tp))) (h3 : getL "_StringIO__check" es = some none) (h4 : getL "read" es = some none) (h5 : es.length ≤ 50) : Sio g h x dx buf pos := ⟨es, n, tb, tp, O, h1, h2, h3, h4, h5⟩
theorem Sio.keep {g h h' : Heap} {x dx : Addr} {buf : List Nat} {pos : Nat} {c : List Addr} (I : Sio g h x dx buf pos) (k : Keeps c h h') (h1 : x ∉ c) (h2 : dx ∉ c) : Sio g h' x dx buf pos := by
  obtain ⟨es, n, tb, tp, O, r⟩ := I
  exact ⟨es, n, tb, tp, O.keep k (by simp [h1, h2]), r⟩

-- the calls that are cut
theorem reg_C1_1 : True := by
  k_with "call ref" => (
    (with_reducible show wpAny _ _ (call (Value.ref 105) _ _) _ _ _)
    refine' index_ok ⟨by assumption, by assumption, Fr.keep (by assumption)⟩ ?h19z ?h29z ?hdp9z ?_
    (case h19z => omega)
    (case h29z => omega)
    (case hdp9z => (simp only [depth_deeper, depth_under_make]; omega))
    intro h' tk' t' hk9
    (have F9 := Fr.after (by assumption) hk9 (fun q => nomatch q) (fun _ q => nomatch q))
    (have N9 := News.after (by assumption) hk9 (fun _ _ q => nomatch q))
    clear hk9
    (try k_sweep))
  trivial
theorem reg_C1_2 : True := by
  k_with "call ref" => (
    (with_reducible show wpAny _ _ (call (Value.ref 423) _ _) _ _ _)
    refine' check_ok ⟨by assumption, by assumption, Fr.keep (by assumption)⟩ ?O9z ?hb9z ?hdp9z ?_
    (case O9z => exact Own.of_news (by assumption))
    (case hb9z => assumption)
    (case hdp9z => (simp only [depth_deeper, depth_under_make]; omega))
    intro h' tk' hk9
    (have F9 := Fr.after (by assumption) hk9 (fun q => nomatch q) (fun _ q => nomatch q))
    (have N9 := News.after (by assumption) hk9 (fun _ _ q => nomatch q))
    clear hk9
    (try k_sweep))
  trivial

theorem read_ok {w : World} {p : Program} {loose : List Str} {mg mb : Str → Option Value} {g : Heap} {A : Around} {s : Shared} {Q E : Value → Shared → Prop}
  {x dx : Addr} {buf : List Nat} {pos : Nat} {t1 : Tok}
  (C : Cx w p loose mg mb g s.heap)
  (I : Sio g s.heap x dx buf pos)
  (hlt : pos < buf.length) (hlen : buf.length ≤ 1000)
  (hdp : A.depth ≤ 580)
  (hret : ∀ h' tk' t', Keeps [dx] s.heap h' → Sio g h' x dx buf (pos + 1) → Q (.str (tx [buf[pos]]) t') { s with heap := h', toks := tk' }) :
  wpAny (model P0 w) A (call (.ref 585) [.ref x, .int 1 t1]) Q E s := by
  obtain ⟨es, n, tb, tp, O, hbuf, hpos, hchk, hrd, hle⟩ := I
  have hxd := inst_ne_dict O
  have hlt9 := hlt
  rw [← tx_length buf] at hlt hlen
  tb_start
  intro g' L' h' F' N' X' T' hG9 hg9
  dsimp only
  k_fold
  k_steps
  all_goals (repeat' (first | dsimp only | (k_unfold; dsimp only)))
  · rename Fr _ _ _ _ => F9
    rename News _ _ _ _ => N9
    have O9 := Own.back N9 hg9
    rw [read_text1 buf pos hlt9]
    exact hret _ _ _ (keeps_out hG9 F9 (fun p hp => (O p hp).1) (by tb_rel)) (Sio.intro O9 (by k_get) getL_put_eq (by k_get) (by k_get) (by rw [length_put_of hpos]; exact hle))
  · rename Fr _ _ _ _ => F9
    rename News _ _ _ _ => N9
    have O9 := Own.back N9 hg9
    have e : (tx buf).length = pos + 1 := by omega
    rw [e, show ((pos + 1 : Nat) : Int) = (pos : Int) + 1 from rfl, read_text1 buf pos hlt9]
    rw [e] at O9
    exact hret _ _ _ (keeps_out hG9 F9 (fun p hp => (O p hp).1) (by tb_rel)) (Sio.intro O9 (by k_get) getL_put_eq (by k_get) (by k_get) (by rw [length_put_of hpos]; exact hle))

theorem read_end {w : World} {p : Program} {loose : List Str} {mg mb : Str → Option Value} {g : Heap} {A : Around} {s : Shared} {Q E : Value → Shared → Prop}
  {x dx : Addr} {buf : List Nat} {pos : Nat} {t1 : Tok}
  (C : Cx w p loose mg mb g s.heap)
  (I : Sio g s.heap x dx buf pos)
  (hlt : buf.length ≤ pos) (hlen : buf.length ≤ 1000)
  (hdp : A.depth ≤ 580)
  (hret : ∀ h' tk' t', Keeps [] s.heap h' → Q (.str (tx []) t') { s with heap := h', toks := tk' }) :
  wpAny (model P0 w) A (call (.ref 585) [.ref x, .int 1 t1]) Q E s := by
  obtain ⟨es, n, tb, tp, O, hbuf, hpos, hchk, hrd, hle⟩ := I
  have hxd := inst_ne_dict O
  rw [← tx_length buf] at hlt hlen
  tb_start
  intro g' L' h' F' N' X' T' hG9 hg9
  dsimp only
  k_fold
  k_steps
  all_goals (repeat' (first | dsimp only | (k_unfold; dsimp only)))
  rename Fr _ _ _ _ => F9
  rename News _ _ _ _ => N9
  exact hret _ _ _ (keeps_out hG9 F9 (fun p hp => (O p hp).1) (by tb_rel))
end
theorem reg_C1_end : True := by
  k_with_none
  trivial
-- C2
section
theorem reg_C2 : True := by
  k_with_none
  k_with "k_get" => (first | assumption | exact getL_put_eq | (refine Eq.trans (getL_put_ne (by decide +kernel)) ?_; k_get) | (refine' isSome_of ?h9z; case h9z => k_get) | (refine' isSome_of' ?h9z; case h9z => k_get) | exact rfl)
  k_with "k_put" => (exact rfl)
  k_with "setAttr ref" => (k_here; k_dflt (
    (refine' set_dict ?k19z ?k29z ?k39z ?k49z ?k59z ?k69z ?k79z ?k89z ?k99z ?k109z ?k119z ?k129z ?k139z ?_; (case k19z => k_asm); (case k29z => k_asm); (case k39z => k_asm); (case k49z => k_inst); (case k59z => exact rfl); (case k69z => k_is); (case k79z => k_is); (case k89z => k_is); (case k99z => k_is); (case k109z => k_get); (case k119z => exact rfl); (case k129z => k_upd); (case k139z => ((repeat (refine length_put_le ?_)); omega)); k_whole; intro h' F' N'; (try k_sweep))))
  k_with "size_fits" => (first | assumption | ((try simp only [tx_length]); rw [sizeLine_eq]; omega))
  k_with "k_ne" => (first | assumption | (refine Ne.symm ?_; assumption))
  k_with "tb_rel" => (first
    | exact List.forall_mem_nil _
    | (refine List.forall_mem_cons.mpr ⟨?ta9z, ?tb9z⟩; (case ta9z => first | exact fun _ => News.get (by assumption) (by k_mem) | exact fun h9 => absurd (by simp) h9); (case tb9z => tb_rel)))
  k_with "tb_start" => (
    refine wpAny_call ?_
    refine' enter _ (Cx.X (by assumption)) (Cx.T (by assumption)) (Cx.S (by assumption)) (by assumption) ?k19z ?k29z ?k39z ?k49z ?k59z ?_ ?k69z ?k79z ?k89z ?k99z
    (case k19z => k_is)
    (case k29z => k_is)
    (case k39z => ((try simp only [depth_deeper, depth_under_make, depth_in1, recursionLimit]); omega))
    (case k49z => first | exact BindsTo.of_eq rfl | exact binds_K (Frag.In.keeps (Cx.X (by assumption)) (Cx.S (by assumption))) rfl (by k_is) rfl rfl rfl)
    (case k59z => exact locs rfl)
    (case k69z => exact rfl)
    (case k79z => exact rfl)
    (case k89z => exact rfl)
    (case k99z => decide)
    skip)
  k_with "exec If" => (refine wpAny_If ?_)
  k_with "execs nil" => (refine wpAny_execs_nil ?_)
  k_with "execs cons" => ((with_reducible refine wpAny_execs_cons ?_); (try dsimp only); (try k_fold); (try (with_reducible refine wp_tok ?_; intro tk9)))
  trivial
/-- a walk under a wider roof serves under a narrower one -/
theorem wp_roof {α : Type} {M : Model} {A : Around} {t : Sem α} {Q : α → Shared → Prop} {E : Value → Shared → Prop} {s : Shared} (hh : A.handled = none) (hd : A.depth ≤ 600) (hu : A.units ≤ 5000)
    (h : wpAny M { handled := none, depth := 600, frames := none, guards := none, units := 5000 } t Q E s) : wpAny M A t Q E s :=
  fun Γ p hΓ => h Γ p ⟨hΓ.1.trans hh, Nat.le_trans hΓ.2.1 hd, (fun _ e => nomatch e), (fun _ e => nomatch e), Nat.le_trans hΓ.2.2.2.2 hu⟩
theorem code_roof {M : Model} {A : Around} {c : Code} {R : Result → Shared → Prop} {s : Shared} (hh : A.handled = none) (hd : A.depth ≤ 600) (hu : A.units ≤ 5000)
    (h : codeAny M { handled := none, depth := 600, frames := none, guards := none, units := 5000 } c R s) : codeAny M A c R s :=
  fun Γ p hc hΓ => h Γ p hc ⟨hΓ.1.trans hh, Nat.le_trans hΓ.2.1 hd, (fun _ e => nomatch e), (fun _ e => nomatch e), Nat.le_trans hΓ.2.2.2.2 hu⟩

/-- a run that makes objects alone -/
def XPost (s : Shared) (R : Value → List (Addr × Obj) → Prop) : Value → Shared → Prop := fun v s' => ∃ h' tk' news, s' = { s with heap := h', toks := tk' } ∧ PySem.W.X.Mem s.heap h' [] news ∧ R v news
theorem mem_keeps {h h' : Heap} {news : List (Addr × Obj)} (D : PySem.W.X.Mem h h' [] news) : Keeps [] h h' := fun b o e _ => D.keep b o e (Bool.or_eq_true_iff.mpr (.inr rfl))
theorem reg_C2_1 : True := by
  k_with "x_close" => (first | exact ⟨_, _, _, rfl, by assumption, _, rfl, by k_mem⟩ | exact ⟨_, _, _, rfl, by assumption, ⟨_, _⟩, rfl, rfl⟩)
  trivial
abbrev dequeObj : Obj := { cls := .type "collections.deque", data := .fields #[.none, .int 0 0] }

open PySem.W.X in
theorem deque_ok {w : World} {A : Around} {s : Shared} {Q E : Value → Shared → Prop} (hh : A.handled = none) (hd : A.depth ≤ 600) (hu : A.units ≤ 5000)
    (hret : ∀ a h' tk', Keeps [] s.heap h' → h'.get? a = some dequeObj → s.heap.get? a = none → Q (.ref a) { s with heap := h', toks := tk' }) :
    wpAny (model P0 w) A (call (.type "collections.deque") []) Q E s := by
  have z : wpAny (model P0 w) A (call (.type "collections.deque") []) (XPost s fun v news => ∃ a, v = .ref a ∧ (a, dequeObj) ∈ news) E s := by
    refine wp_roof hh hd hu ?_
    x_run
  refine wpAny_mono z (fun v s' h => ?_) fun _ _ e => e
  obtain ⟨h', tk', news, rfl, D, a, rfl, hm⟩ := h
  exact hret a h' tk' (mem_keeps D) (D.nw _ hm).1 (D.nw _ hm).2

open PySem.W.X in
theorem objnew_ok {w : World} {A : Around} {s : Shared} {Q E : Value → Shared → Prop} (X : (hd.heap_1 w.params).In s.heap) (hh : A.handled = none) (hd : A.depth ≤ 600) (hu : A.units ≤ 5000)
    (hret : ∀ a d h' tk', Keeps [] s.heap h' → h'.get? a = some (instObj 639 d) → s.heap.get? a = none → h'.get? d = some (dictOf [] 0) → s.heap.get? d = none → Q (.ref a) { s with heap := h', toks := tk' }) :
    wpAny (model P0 w) A (call (.builtin "object.__new__") [.ref 639]) Q E s := by
  have z : wpAny (model P0 w) A (call (.builtin "object.__new__") [.ref 639]) (XPost s fun v news => ∃ p : Addr × Addr, v = .ref p.1 ∧ news = [(p.1, instObj 639 p.2), (p.2, dictOf [] 0)]) E s := by
    refine wp_roof hh hd hu ?_
    x_run
  refine wpAny_mono z (fun v s' h => ?_) fun _ _ e => e
  obtain ⟨h', tk', news, rfl, D, ⟨a, d⟩, rfl, rfl⟩ := h
  exact hret a d h' tk' (mem_keeps D) (D.nw _ (.head _)).1 (D.nw _ (.head _)).2 (D.nw _ (.tail _ (.head _))).1 (D.nw _ (.tail _ (.head _))).2
end
theorem reg_C2_end : True := by
  k_with_none
  trivial
-- C3
section
theorem reg_C3 : True := by
  k_with_none
  k_with "k_get" => (first | assumption | exact getL_put_eq | (refine Eq.trans (getL_put_ne (by decide +kernel)) ?_; k_get) | (refine' isSome_of ?h9z; case h9z => k_get) | (refine' isSome_of' ?h9z; case h9z => k_get) | exact rfl)
  k_with "k_put" => (exact rfl)
  k_with "setAttr ref" => (k_here; k_dflt (
    (refine' set_dict ?k19z ?k29z ?k39z ?k49z ?k59z ?k69z ?k79z ?k89z ?k99z ?k109z ?k119z ?k129z ?k139z ?_; (case k19z => k_asm); (case k29z => k_asm); (case k39z => k_asm); (case k49z => k_inst); (case k59z => exact rfl); (case k69z => k_is); (case k79z => k_is); (case k89z => k_is); (case k99z => k_is); (case k109z => k_get); (case k119z => exact rfl); (case k129z => k_upd); (case k139z => ((repeat (refine length_put_le ?_)); omega)); k_whole; intro h' F' N'; (try k_sweep))))
  k_with "size_fits" => (first | assumption | ((try simp only [tx_length]); rw [sizeLine_eq]; omega))
  k_with "k_ne" => (first | assumption | (refine Ne.symm ?_; assumption))
  k_with "tb_rel" => (first
    | exact List.forall_mem_nil _
    | (refine List.forall_mem_cons.mpr ⟨?ta9z, ?tb9z⟩; (case ta9z => first | exact fun _ => News.get (by assumption) (by k_mem) | exact fun h9 => absurd (by simp) h9); (case tb9z => tb_rel)))
  k_with "tb_start" => (
    refine wpAny_call ?_
    refine' enter _ (Cx.X (by assumption)) (Cx.T (by assumption)) (Cx.S (by assumption)) (by assumption) ?k19z ?k29z ?k39z ?k49z ?k59z ?_ ?k69z ?k79z ?k89z ?k99z
    (case k19z => k_is)
    (case k29z => k_is)
    (case k39z => ((try simp only [depth_deeper, depth_under_make, depth_in1, recursionLimit]); omega))
    (case k49z => first | exact BindsTo.of_eq rfl | exact binds_K (Frag.In.keeps (Cx.X (by assumption)) (Cx.S (by assumption))) rfl (by k_is) rfl rfl rfl)
    (case k59z => exact locs rfl)
    (case k69z => exact rfl)
    (case k79z => exact rfl)
    (case k89z => exact rfl)
    (case k99z => decide)
    skip)
  k_with "exec If" => (refine wpAny_If ?_)
  k_with "execs nil" => (refine wpAny_execs_nil ?_)
  k_with "execs cons" => ((with_reducible refine wpAny_execs_cons ?_); (try dsimp only); (try k_fold); (try (with_reducible refine wp_tok ?_; intro tk9)))
  trivial
theorem wpAny_of_eq' {α : Type} {M : Model} {A : Around} {t t' : Sem α} {Q : α → Shared → Prop} {E : Value → Shared → Prop} {s : Shared} (e : t = t') (h : wpAny M A t' Q E s) : wpAny M A t Q E s := e ▸ h
theorem iobase_new {w : World} {p : Program} {loose : List Str} {mg mb : Str → Option Value} {g : Heap} {A : Around} {s : Shared} {R : Result → Shared → Prop} {v : Value}
  (C : Cx w p loose mg mb g s.heap) (hh : A.handled = none) (hd : A.depth ≤ 500) (hu : A.units ≤ 4000)
  (hret : ∀ a d h' tk', Keeps [] s.heap h' → h'.get? a = some (instObj 639 d) → s.heap.get? a = none → h'.get? d = some (dictOf [] 0) → s.heap.get? d = none → R (.ok (.ret (.ref a))) { s with heap := h', toks := tk' }) :
  codeAny (model P0 w) A (.call (.ref 132) ⟨[.ref 639, v], []⟩) R s := by
  have O : Own g s.heap [] := fun _ h => nomatch h
  refine' enterB (fun b => ∃ a c : Addr, b = [(Str.ofString "cls", Value.ref 639), (Str.ofString "args", Value.ref a), (Str.ofString "kwargs", Value.ref c)]) _ C O ?k1 ?k2 ?k3 ?k4 ?k5 ?_ ?k6 ?k7 ?k8 ?k9
  case k1 => k_is
  case k2 => k_is
  case k3 => exact Nat.lt_of_le_of_lt hd (by decide)
  case k4 =>
    refine wpAny_of_eq' (t' := (newTuple [v]).bind fun t => (alloc { cls := .type "dict", data := .dict #[] }).bind fun d => pure [(Str.ofString "cls", Value.ref 639), (Str.ofString "args", t), (Str.ofString "kwargs", Value.ref d)]) (by kernel_rfl) ?_
    refine wpAny_bind (wpAny_newTuple ?_ (by show 1 ≤ sizeLine; decide))
    refine wpAny_bind (wpAny_alloc (wpAny_pure ⟨⟨_, _, rfl⟩, _, _, rfl, fun b o e _ => Heap.get?_push_of_some _ (Heap.get?_push_of_some _ e)⟩))
  case k5 =>
    rintro b ⟨a, c, rfl⟩
    exact locs rfl
  case k6 => exact rfl
  case k7 => exact rfl
  case k8 => exact rfl
  case k9 => decide
  rintro b ⟨a, c, rfl⟩ g' L' h' tk9 F' N' X' T' hG9 hg9
  try dsimp only
  k_fold
  k_steps
  have F9 : Fr _ _ _ _ := F'
  refine objnew_ok (X'.keeps F'.keep) hh (by rw [depth_deeper]; omega) (by rw [units_deeper]; omega) fun a d h'' tk'' k e1 e2 e3 e4 => ?_
  have k0 : Keeps [] s.heap h' := keeps_out hG9 F' (fun p hp => nomatch hp) (fun p hp => nomatch hp)
  have none_of : ∀ b, h'.get? b = none → s.heap.get? b = none := fun b e => by
    cases q : s.heap.get? b with
    | none => rfl
    | some o => have := k0 b o q (fun q => nomatch q); rw [e] at this; cases this
  exact hret a d h'' _ (k0.trans k) e1 (none_of _ e2) e3 (none_of _ e4)
end
theorem reg_C3_end : True := by
  k_with_none
  trivial
-- C4
section
theorem reg_C4 : True := by
  k_with_none
  k_with "k_get" => (first | assumption | exact getL_put_eq | (refine Eq.trans (getL_put_ne (by decide +kernel)) ?_; k_get) | (refine' isSome_of ?h9z; case h9z => k_get) | (refine' isSome_of' ?h9z; case h9z => k_get) | exact rfl)
  k_with "k_put" => (exact rfl)
  k_with "setAttr ref" => (k_here; k_dflt (
    (refine' set_dict ?k19z ?k29z ?k39z ?k49z ?k59z ?k69z ?k79z ?k89z ?k99z ?k109z ?k119z ?k129z ?k139z ?_; (case k19z => k_asm); (case k29z => k_asm); (case k39z => k_asm); (case k49z => k_inst); (case k59z => exact rfl); (case k69z => k_is); (case k79z => k_is); (case k89z => k_is); (case k99z => k_is); (case k109z => k_get); (case k119z => exact rfl); (case k129z => k_upd); (case k139z => ((repeat (refine length_put_le ?_)); omega)); k_whole; intro h' F' N'; (try k_sweep))))
  k_with "size_fits" => (first | assumption | ((try simp only [tx_length]); rw [sizeLine_eq]; omega))
  k_with "k_ne" => (first | assumption | (refine Ne.symm ?_; assumption))
  k_with "tb_rel" => (first
    | exact List.forall_mem_nil _
    | (refine List.forall_mem_cons.mpr ⟨?ta9z, ?tb9z⟩; (case ta9z => first | exact fun _ => News.get (by assumption) (by k_mem) | exact fun h9 => absurd (by simp) h9); (case tb9z => tb_rel)))
  k_with "tb_start" => (
    refine wpAny_call ?_
    refine' enter _ (Cx.X (by assumption)) (Cx.T (by assumption)) (Cx.S (by assumption)) (by assumption) ?k19z ?k29z ?k39z ?k49z ?k59z ?_ ?k69z ?k79z ?k89z ?k99z
    (case k19z => k_is)
    (case k29z => k_is)
    (case k39z => ((try simp only [depth_deeper, depth_under_make, depth_in1, recursionLimit]); omega))
    (case k49z => first | exact BindsTo.of_eq rfl | exact binds_K (Frag.In.keeps (Cx.X (by assumption)) (Cx.S (by assumption))) rfl (by k_is) rfl rfl rfl)
    (case k59z => exact locs rfl)
    (case k69z => exact rfl)
    (case k79z => exact rfl)
    (case k89z => exact rfl)
    (case k99z => decide)
    skip)
  k_with "exec If" => (refine wpAny_If ?_)
  k_with "execs nil" => (refine wpAny_execs_nil ?_)
  k_with "execs cons" => ((with_reducible refine wpAny_execs_cons ?_); (try dsimp only); (try k_fold); (try (with_reducible refine wp_tok ?_; intro tk9)))
  trivial
open PySem.Builtin

theorem made_none {w : World} {h : Heap} {C : Addr} {oc : Value} {od : Option Addr} {cd : ClassData} {sl : Array (Option Value)} {c : Value} {l : List Value}
  (hC : h.get? C = some ⟨oc, od, .cls cd, sl⟩) (hm : cd.mro = c :: l) (h4 : sl.toList[4]? = some (some Value.none)) : Looks (model P0 w) h (Bind.madeBy (.ref C)) none := by
  have hm' : Looks (model P0 w) h (mroOf (.ref C)) cd.mro := ((Looks.ld (part := none) hC).andThen .now).andThen .now
  intro A Q E s k q
  unfold Bind.madeBy
  refine wpAny_bind (hm' A _ E s k ?_)
  rw [hm, List.forIn_cons]
  refine wpAny_bind (wpAny_bind (wpAny_bind (wpAny_bind (wpAny_loadPart (k _ _ hC) (wpAny_pure ?_)))))
  dsimp only
  rw [← Array.getElem?_toList, h4]
  exact wpAny_pure (wpAny_pure (wpAny_pure q))

theorem new_of {w : World} {A : Around} {s : Shared} {Q E : Value → Shared → Prop} (X : (hd.heap_1 w.params).In s.heap) (h : Q (.ref 132) { s with toks := s.toks + 1 }) :
    wpAny (model P0 w) A (getAttr (.ref 639) "__new__") Q E s := by
  refine' cls_bind (mc := .type "type") X ?k1 ?k2 (wpAny_call (sm_get (s := { s with toks := s.toks + 1 }) (p := 136) (C := 639) (f := .ref 132) (rest := []) X ?k3 (handed_on rfl h)))
  case k1 => k_is
  case k2 => k_is
  case k3 => k_is

theorem sio_call {w : World} {p : Program} {loose : List Str} {mg mb : Str → Option Value} {g : Heap} {A : Around} {s : Shared} {R : Result → Shared → Prop} {v : Value}
  (C : Cx w p loose mg mb g s.heap) (hh : A.handled = none) (hd : A.depth ≤ 400) (hu : A.units ≤ 3000)
  (hq : ∀ x d h' tk', Keeps [] s.heap h' → h'.get? x = some (instObj 639 d) → s.heap.get? x = none → h'.get? d = some (dictOf [] 0) → s.heap.get? d = none →
    codeAny (model P0 w) (A.under (.builtin "type.__call__" ⟨.ref 639 :: [v], []⟩)) (.call (.ref 409) ⟨[.ref x, v], []⟩) (InitBack x R) { s with heap := h', toks := tk' }) :
  codeAny (model P0 w) A (.call (.ref 639) ⟨[v], []⟩) R s := by
  obtain ⟨hp, gg, dd, tt, oo⟩ := s
  have hX := C.X.keeps C.S
  have hC := hX 639 ⟨_, _, .cls _, _⟩ (by k_is)
  have call := looks_specialIn (M := model P0 w) hX (v := .ref 639) (name := "__call__") (r := some (.builtin "type.__call__")) (by k_is)
  have typ := looks_instIn (M := model P0 w) hX (v := .ref 639) (base := .type "type") (r := true) (by k_is)
  have made := made_none (w := w) hC rfl rfl
  refine codeAny_of_tree ?_
  show wpAny _ _ (callAny (.ref 639) _) _ _ _
  refine nd_load hC ?_
  show wpAny _ _ (callAny.viaDunder (.ref 639) _) _ _ _
  unfold callAny.viaDunder
  refine wpAny_bind (call.at ?_)
  dsimp only
  rw [tc_bind]
  refine wpAny_bind (wpAny_pure (wpAny_bind (wpAny_pure ?_)))
  refine wpAny_pure (a := Fin.again (.call (.builtin "type.__call__") ⟨.ref 639 :: [v], []⟩)) (And.intro rfl ?_)
  refine codeAny_call_builtin_at (Code.quiet_builtin _ (by decide +kernel)) entry_typeCall (check_slot tc_kind tc_split typ (tc_args _ _ _) ?_)
  unfold Builtin.«type.__call__»
  have hm : Looks (model P0 w) hp (mroOf (.ref 639)) _ := ((Looks.ld (part := none) hC).andThen .now).andThen .now
  repeat (first | (with_reducible refine new_of hX ?_) | (with_reducible refine wpAny_call ?_) | lk)
  refine iobase_new ⟨C.X, C.T, C.S⟩ hh (by show A.depth + 1 ≤ 500; omega) (by show A.units + 1 ≤ 4000; omega) fun a d h' tk' k e1 e2 e3 e4 => ?_
  have C' : Cx w p loose mg mb g h' := ⟨C.X, C.T, k.sub C.S (fun _ q => nomatch q)⟩
  have hX' := C'.X.keeps C'.S
  have t1 : Looks (model P0 w) h' (typeOf (.ref a)) (.ref 639) := (Looks.ld e1).andThen .now
  have i1 := looks_findIn (M := model P0 w) hX' (t := .ref 639) (name := "__init__") (r := some (.ref 409)) (by k_is)
  have s1 := looks_subIn (M := model P0 w) hX' (t := .ref 639) (base := .ref 639) (r := true) (by k_is)
  have b1 := bind_fn (M := model P0 w) hX' (f := 409) (.ref a) (by k_is)
  unfold isInstance callSpecial? specialOf
  repeat (first | (with_reducible refine wpAny_call ?_) | lk)
  refine codeAny_mono (hq a d h' tk' k e1 e2 e3 e4) fun r s' z => ?_
  rcases r with e | f
  · exact z
  · cases f with
    | ret v' => obtain ⟨rfl, z⟩ := z; exact wpAny_pure (wpAny_pure z)
    | _ => exact z.elim
end
theorem reg_C4_end : True := by
  k_with_none
  trivial
-- C5
section
theorem reg_C5 : True := by
  k_with_none
  k_with "k_get" => (first | assumption | exact getL_put_eq | (refine Eq.trans (getL_put_ne (by decide +kernel)) ?_; k_get) | (refine' isSome_of ?h9z; case h9z => k_get) | (refine' isSome_of' ?h9z; case h9z => k_get) | exact rfl)
  k_with "k_put" => (exact rfl)
  k_with "setAttr ref" => (k_here; k_dflt (
    (refine' set_dict ?k19z ?k29z ?k39z ?k49z ?k59z ?k69z ?k79z ?k89z ?k99z ?k109z ?k119z ?k129z ?k139z ?_; (case k19z => k_asm); (case k29z => k_asm); (case k39z => k_asm); (case k49z => k_inst); (case k59z => exact rfl); (case k69z => k_is); (case k79z => k_is); (case k89z => k_is); (case k99z => k_is); (case k109z => k_get); (case k119z => exact rfl); (case k129z => k_upd); (case k139z => ((repeat (refine length_put_le ?_)); omega)); k_whole; intro h' F' N'; (try k_sweep))))
  k_with "size_fits" => (first | assumption | ((try simp only [tx_length]); rw [sizeLine_eq]; omega))
  k_with "k_ne" => (first | assumption | (refine Ne.symm ?_; assumption))
  k_with "tb_rel" => (first
    | exact List.forall_mem_nil _
    | (refine List.forall_mem_cons.mpr ⟨?ta9z, ?tb9z⟩; (case ta9z => first | exact fun _ => News.get (by assumption) (by k_mem) | exact fun h9 => absurd (by simp) h9); (case tb9z => tb_rel)))
  k_with "tb_start" => (
    refine wpAny_call ?_
    refine' enter _ (Cx.X (by assumption)) (Cx.T (by assumption)) (Cx.S (by assumption)) (by assumption) ?k19z ?k29z ?k39z ?k49z ?k59z ?_ ?k69z ?k79z ?k89z ?k99z
    (case k19z => k_is)
    (case k29z => k_is)
    (case k39z => ((try simp only [depth_deeper, depth_under_make, depth_in1, recursionLimit]); omega))
    (case k49z => first | exact BindsTo.of_eq rfl | exact binds_K (Frag.In.keeps (Cx.X (by assumption)) (Cx.S (by assumption))) rfl (by k_is) rfl rfl rfl)
    (case k59z => exact locs rfl)
    (case k69z => exact rfl)
    (case k79z => exact rfl)
    (case k89z => exact rfl)
    (case k99z => decide)
    skip)
  k_with "exec If" => (refine wpAny_If ?_)
  k_with "execs nil" => (refine wpAny_execs_nil ?_)
  k_with "execs cons" => ((with_reducible refine wpAny_execs_cons ?_); (try dsimp only); (try k_fold); (try (with_reducible refine wp_tok ?_; intro tk9)))
  trivial
theorem translated_ok {w : World} {p : Program} {loose : List Str} {mg mb : Str → Option Value} {g : Heap} {A : Around} {s : Shared} {Q E : Value → Shared → Prop}
  {x dx : Addr} {es : List DictEntry} {n : Nat} {buf : Str} {tb tn : Tok}
  (C : Cx w p loose mg mb g s.heap)
  (O : Own g s.heap [(x, instObj 639 dx), (dx, dictOf es n)])
  (hnl : getL "_StringIO__newline" es = some (some (.str "\n" tn)))
  (hdp : A.depth ≤ 590)
  (hret : ∀ h' tk', Keeps [] s.heap h' → Q (.str buf tb) { s with heap := h', toks := tk' }) :
  wpAny (model P0 w) A (call (.ref 416) [.ref x, .str buf tb]) Q E s := by
  tb_start
  intro g' L' h' F' N' X' T' hG9 hg9
  dsimp only
  k_fold
  k_steps
  all_goals (repeat' (first | (dsimp only) | (k_unfold; dsimp only)))
  rename Fr _ _ _ _ => F9
  rename News _ _ _ _ => N9
  exact hret _ _ (keeps_out hG9 F9 (fun p hp => (O p hp).1) (by tb_rel))

theorem reg_C5_1 : True := by
  k_with "call ref" => (
    (with_reducible show wpAny _ _ (call (Value.ref 416) _ _) _ _ _)
    refine' translated_ok ⟨by assumption, by assumption, Fr.keep (by assumption)⟩ ?O9z ?hb9z ?hdp9z ?_
    (case O9z => exact Own.of_news (by assumption))
    (case hb9z => k_get)
    (case hdp9z => (simp only [depth_deeper, depth_under_make]; omega))
    intro h' tk' hk9
    (have F9 := Fr.after (by assumption) hk9 (fun q => nomatch q) (fun _ q => nomatch q))
    (have N9 := News.after (by assumption) hk9 (fun _ _ q => nomatch q))
    clear hk9
    (try k_sweep))
  trivial

theorem sio_new {w : World} {p : Program} {loose : List Str} {mg mb : Str → Option Value} {g : Heap} {A : Around} {s : Shared} {Q E : Value → Shared → Prop} {buf : List Nat} {t : Tok}
  (C : Cx w p loose mg mb g s.heap) (hh : A.handled = none) (hd : A.depth ≤ 400) (hu : A.units ≤ 3000) (hlen : buf.length ≤ 1000)
  (hret : ∀ x d h' tk', Keeps [] s.heap h' → s.heap.get? x = none → s.heap.get? d = none → Sio g h' x d buf 0 → Q (.ref x) { s with heap := h', toks := tk' }) :
  wpAny (model P0 w) A (call (.ref 639) [.str (tx buf) t]) Q E s := by
  refine wpAny_call (sio_call C hh hd hu fun x d h₀ tk₀ k e1 e2 e3 e4 => ?_)
  have C' : Cx w p loose mg mb g h₀ := ⟨C.X, C.T, k.sub C.S (fun _ q => nomatch q)⟩
  have none_of : ∀ b, s.heap.get? b = none → g.get? b = none := fun b e => by
    cases q : g.get? b with
    | none => rfl
    | some o => have := C.S b o q; rw [e] at this; cases this
  have O : Own g h₀ [(x, instObj 639 d), (d, dictOf [] 0)] := fun p hp => by
    rcases List.mem_cons.mp hp with rfl | hp
    · exact ⟨e1, none_of _ e2⟩
    · rw [List.mem_singleton.mp hp]; exact ⟨e3, none_of _ e4⟩
  have hxd := inst_ne_dict O
  rw [← tx_length buf] at hlen
  refine' enter _ C'.X C'.T C'.S O ?k1 ?k2 ?k3 ?k4 ?k5 ?_ ?k6 ?k7 ?k8 ?k9
  case k1 => k_is
  case k2 => k_is
  case k3 => show A.depth + 1 < recursionLimit; exact Nat.lt_of_le_of_lt (Nat.succ_le_succ hd) (by decide)
  case k4 => first | exact BindsTo.of_eq rfl | exact binds_K (C'.X.keeps C'.S) rfl (by k_is) rfl rfl rfl
  case k5 => exact locs rfl
  case k6 => exact rfl
  case k7 => exact rfl
  case k8 => exact rfl
  case k9 => decide
  intro g' L' h' F' N' X' T' hG9 hg9
  dsimp only
  k_fold
  k_steps
  all_goals (repeat' (first | (dsimp only) | (k_unfold; dsimp only)))
  rename Fr _ _ _ _ => F9
  rename News _ _ _ _ => N9
  have O9 := Own.back N9 hg9
  refine ⟨rfl, ?_⟩
  exact hret x d _ _ (k.fresh (keeps_out (chg := [d]) hG9 F9 (fun p hp => (O p hp).1) (by tb_rel)) (by simpa using e4)) e2 e4 (Sio.intro O9 (by k_get) (by k_get) (by k_get) (by k_get) (by ((repeat (refine length_put_le ?_)); exact Nat.zero_le _)))
end
theorem reg_C5_end : True := by
  k_with_none
  trivial
-- Base2
section
def AllNe (d : Addr) : List (Addr × Obj) → Prop
  | [] => True
  | p :: r => (@Ne Nat p.1 d) ∧ AllNe d r
theorem allNe_of {g h : Heap} {L d : Addr} : ∀ {l : List (Addr × Obj)}, News g L h l → h.get? d = none → AllNe d l
  | [], _, _ => trivial
  | p :: _, N, e => ⟨(fun q => by have := (N p (.head _)).1; rw [q, e] at this; cases this), allNe_of (fun q hq => N q (.tail _ hq)) e⟩
/-- a new object goes onto the ledger -/
theorem News.newer {g h h' : Heap} {L a : Addr} {o : Obj} {m : Str → Option Value} {l : List (Addr × Obj)} (F : Fr g L h m) (N : News g L h l) (k : Keeps [] h h') (e : h'.get? a = some o) (en : h.get? a = none) : News g L h' ((a, o) :: l) := fun p hp => by
  rcases List.mem_cons.mp hp with rfl | hp
  · refine ⟨e, fun q => ?_, none_of F.keep en⟩
    obtain ⟨oL, _, _, hL, _⟩ := F.ns
    dsimp only at q
    rw [← q, en] at hL; cases hL
  · exact ⟨k _ _ (N p hp).1 (fun q => nomatch q), (N p hp).2⟩
theorem News.newer2 {g h h' : Heap} {L a b : Addr} {o o' : Obj} {m : Str → Option Value} {l : List (Addr × Obj)} (F : Fr g L h m) (N : News g L h l) (k : Keeps [] h h') (e : h'.get? a = some o) (en : h.get? a = none) (e' : h'.get? b = some o') (en' : h.get? b = none) : News g L h' ((a, o) :: (b, o') :: l) := fun p hp => by
  rcases List.mem_cons.mp hp with rfl | hp
  · exact News.newer F N k e en _ (.head _)
  · exact News.newer F N k e' en' _ hp
theorem getL_ex {n : Str} {es : List DictEntry} {v : Value} {f : Tok → Value} (h : getL n es = some (some v)) (e : ∃ t, v = f t) : ∃ t, getL n es = some (some (f t)) := by
  obtain ⟨t, rfl⟩ := e
  exact ⟨t, h⟩
theorem News.swap {g h h' : Heap} {L d : Addr} {o o' : Obj} {l l' : List (Addr × Obj)} (N : News g L h l) (k : Keeps [d] h h') (U : Upd d o o' l l') (e : h'.get? d = some o') : News g L h' l' := by
  obtain ⟨pre, post, rfl, rfl, a, b⟩ := U.split
  intro p hp
  have old : ∀ q ∈ pre ++ (d, o) :: post, q.1 ≠ d → h'.get? q.1 = some q.2 ∧ q.1 ≠ L ∧ g.get? q.1 = none := fun q hq hn => ⟨k _ _ (N q hq).1 (by simpa using hn), (N q hq).2⟩
  rcases List.mem_append.mp hp with hp | hp
  · exact old p (List.mem_append_left _ hp) (a p hp)
  · rcases List.mem_cons.mp hp with rfl | hp
    · exact ⟨e, (N (d, o) (List.mem_append_right _ (.head _))).2⟩
    · exact old p (List.mem_append_right _ (.tail _ hp)) (b p hp)
theorem Fr.swap {g h h' : Heap} {L d : Addr} {o : Obj} {m : Str → Option Value} {l : List (Addr × Obj)} (F : Fr g L h m) (N : News g L h l) (hm : (d, o) ∈ l) (k : Keeps [d] h h') : Fr g L h' m :=
  Fr.after F k (fun q => (N _ hm).2.1 (List.mem_singleton.mp q).symm) (fun a ha => by rw [List.mem_singleton.mp ha]; exact (N _ hm).2.2)
end
-- Lx
section
theorem reg_Lx : True := by
  k_with_none
  k_with "kse_has" => (first | with_reducible assumption | with_reducible exact List.mem_cons_self | (with_reducible refine List.mem_cons_of_mem _ ?_; kse_has) | (with_reducible refine List.mem_append_left _ ?_; kse_has) | (with_reducible refine List.mem_append_right _ ?_; kse_has))
  trivial
def wordchars : Str := Str.ofString "abcdfeghijklmnopqrstuvwxyzABCDEFGHIJKLMNOPQRSTUVWXYZ0123456789_" ++ Str.ofString "ßàáâãäåæçèéêëìíîïðñòóôõöøùúûüýþÿÀÁÂÃÄÅÆÇÈÉÊËÌÍÎÏÐÑÒÓÔÕÖØÙÚÛÜÝÞ"
/-- a lexer's attributes: st its state (none: None), tok its token -/
structure LxA (es : List DictEntry) (sx pb fs : Addr) (st : Option Str) (tok : Str) : Prop where
  instream : getL "instream" es = some (some (.ref sx))
  posix : getL "posix" es = some (some (.bool true))
  eof : getL "eof" es = some (some .none)
  commenters : ∃ t, getL "commenters" es = some (some (.str "#" t))
  wordchars : ∃ t, getL "wordchars" es = some (some (.str wordchars t))
  whitespace : ∃ t, getL "whitespace" es = some (some (.str " \t\r\n" t))
  split : getL "whitespace_split" es = some (some (.bool false))
  quotes : ∃ t, getL "quotes" es = some (some (.str "'\"" t))
  escape : ∃ t, getL "escape" es = some (some (.str "\\" t))
  escapedquotes : ∃ t, getL "escapedquotes" es = some (some (.str "\"" t))
  state : ∃ t, getL "state" es = some (some (match st with | some x => .str x t | none => .none))
  pushback : getL "pushback" es = some (some (.ref pb))
  debug : ∃ t, getL "debug" es = some (some (.int 0 t))
  token : ∃ t, getL "token" es = some (some (.str tok t))
  filestack : getL "filestack" es = some (some (.ref fs))
  source : getL "source" es = some (some .none)
  punct : ∃ t, getL "_punctuation_chars" es = some (some (.str "" t))
  m1 : getL "read_token" es = some none
  m2 : getL "get_token" es = some none
  m3 : getL "punctuation_chars" es = some none
  m4 : getL "_StringIO__buf" es = some none
  len : es.length ≤ 50
/-- a lexer of the line, read up to pos -/
def Lx (g h : Heap) (x d sx dsx pb fs : Addr) (line : List Nat) (pos : Nat) (st : Option Str) (tok : Str) : Prop :=
  ∃ es n, Own g h [(x, instObj 774 d), (d, dictOf es n), (pb, dequeObj), (fs, dequeObj)] ∧ Sio g h sx dsx line pos ∧ LxA es sx pb fs st tok
/-- the six objects of a lexer, and what parts them -/
theorem lx_open {g h : Heap} {x d sx dsx pb fs : Addr} {es es2 : List DictEntry} {n n2 : Nat} {b : Str} {tb : Tok} (O1 : Own g h [(x, instObj 774 d), (d, dictOf es n), (pb, dequeObj), (fs, dequeObj)]) (O2 : Own g h [(sx, instObj 639 dsx), (dsx, dictOf es2 n2)])
  (h1 : getL "_StringIO__buf" es2 = some (some (.str b tb))) (h2 : getL "_StringIO__buf" es = some none) :
  Own g h [(x, instObj 774 d), (d, dictOf es n), (sx, instObj 639 dsx), (dsx, dictOf es2 n2), (pb, dequeObj), (fs, dequeObj)] ∧
  ((@Ne Nat x d) ∧ (@Ne Nat x dsx) ∧ (@Ne Nat d dsx) ∧ (@Ne Nat d sx) ∧ (@Ne Nat sx dsx) ∧ (@Ne Nat pb d) ∧ (@Ne Nat pb dsx) ∧ (@Ne Nat fs d) ∧ (@Ne Nat fs dsx) ∧ (@Ne Nat x sx)) := by
  have O : Own g h [(x, instObj 774 d), (d, dictOf es n), (sx, instObj 639 dsx), (dsx, dictOf es2 n2), (pb, dequeObj), (fs, dequeObj)] := fun p hp => by
    simp only [List.mem_cons, List.not_mem_nil, or_false] at hp
    rcases hp with rfl | rfl | rfl | rfl | rfl | rfl
    · exact O1 _ (by first | kse_has | simp)
    · exact O1 _ (by first | kse_has | simp)
    · exact O2 _ (by first | kse_has | simp)
    · exact O2 _ (by first | kse_has | simp)
    · exact O1 _ (by first | kse_has | simp)
    · exact O1 _ (by first | kse_has | simp)
  refine ⟨O, ne_of_objs O (o := instObj 774 d) (o' := dictOf es n) (by first | kse_has | simp) (by first | kse_has | simp) ?_, ne_of_objs O (o := instObj 774 d) (o' := dictOf es2 n2) (by first | kse_has | simp) (by first | kse_has | simp) ?_, ne_of_objs O (o := dictOf es n) (o' := dictOf es2 n2) (by first | kse_has | simp) (by first | kse_has | simp) ?_, ne_of_objs O (o := dictOf es n) (o' := instObj 639 dsx) (by first | kse_has | simp) (by first | kse_has | simp) ?_,
    ne_of_objs O (o := instObj 639 dsx) (o' := dictOf es2 n2) (by first | kse_has | simp) (by first | kse_has | simp) ?_, ne_of_objs O (o := dequeObj) (o' := dictOf es n) (by first | kse_has | simp) (by first | kse_has | simp) ?_, ne_of_objs O (o := dequeObj) (o' := dictOf es2 n2) (by first | kse_has | simp) (by first | kse_has | simp) ?_,
    ne_of_objs O (o := dequeObj) (o' := dictOf es n) (by first | kse_has | simp) (by first | kse_has | simp) ?_, ne_of_objs O (o := dequeObj) (o' := dictOf es2 n2) (by first | kse_has | simp) (by first | kse_has | simp) ?_, ne_of_objs O (o := instObj 774 d) (o' := instObj 639 dsx) (by first | kse_has | simp) (by first | kse_has | simp) ?_⟩
  all_goals first | (intro e; cases e; done) | (intro e; have e' := congrArg Obj.data e; simp only [PySem.Data.dict.injEq] at e'; have e2 : es = es2 := by simpa using e'.1
                                                subst e2; rw [h1] at h2; cases h2) | (intro e; have e' := congrArg Obj.cls e; simp at e')
theorem lx_fin {g h : Heap} {x d sx dsx pb fs : Addr} {line : List Nat} {es9 es : List DictEntry} {n9 n : Nat} {tb tp : Tok} (O : Own g h [(fs, dequeObj), (pb, dequeObj), (sx, instObj 639 dsx), (dsx, dictOf es9 n9), (x, instObj 774 d), (d, dictOf es n)])
  (h1 : getL "_StringIO__buf" es9 = some (some (.str (tx line) tb))) (h2 : getL "_StringIO__pos" es9 = some (some (.int ((0 : Nat) : Int) tp))) (h3 : getL "_StringIO__check" es9 = some none) (h4 : getL "read" es9 = some none) (h5 : es9.length ≤ 50)
  (a : LxA es sx pb fs (some " ") "") : Lx g h x d sx dsx pb fs line 0 (some " ") "" :=
  ⟨es, n, O.sub (l' := [(x, instObj 774 d), (d, dictOf es n), (pb, dequeObj), (fs, dequeObj)]) (by first | kse_has | simp), Sio.intro (O.sub (l' := [(sx, instObj 639 dsx), (dsx, dictOf es9 n9)]) (by first | kse_has | simp)) h1 h2 h3 h4 h5, a⟩
theorem fresh_of {g' hp h₀ : Heap} {x d b : Addr} {ox od : Obj} (hG : ∀ b o, h₀.get? b = some o → b ∉ [(x, ox), (d, od)].map (·.1) → g'.get? b = some o) (k : Keeps [] hp h₀) (ex : hp.get? x = none) (ed : hp.get? d = none) (e : g'.get? b = none) : hp.get? b = none := by
  cases q : hp.get? b with
  | none => rfl
  | some o =>
    have h1 : b ≠ x := fun z => by rw [z, ex] at q; cases q
    have h2 : b ≠ d := fun z => by rw [z, ed] at q; cases q
    have := hG b o (k b o q (fun z => nomatch z)) (by simp [h1, h2])
    rw [e] at this; cases this
theorem LxA.setState {es : List DictEntry} {sx pb fs : Addr} {st : Option Str} {tok : Str} (a : LxA es sx pb fs st tok) (st' : Option Str) {hsh : Int} {t u : Tok} {v : Value} (hv : v = match st' with | some x => .str x u | none => .none) :
    LxA (putL "state" hsh (.str "state" t) v es) sx pb fs st' tok := by
  have ne : ∀ {nm : Str} {r}, nm ≠ "state" → getL nm es = r → getL nm (putL "state" hsh (.str "state" t) v es) = r := fun h e => (getL_put_ne h).trans e
  have ne' : ∀ {nm : Str} {f : Tok → Option (Option Value)}, nm ≠ "state" → (∃ t, getL nm es = f t) → ∃ t', getL nm (putL "state" hsh (.str "state" t) v es) = f t' := fun h ⟨t, e⟩ => ⟨t, ne h e⟩
  obtain ⟨ts, hs⟩ := a.state
  exact ⟨ne (by decide +kernel) a.instream, ne (by decide +kernel) a.posix, ne (by decide +kernel) a.eof, ne' (by decide +kernel) a.commenters, ne' (by decide +kernel) a.wordchars, ne' (by decide +kernel) a.whitespace, ne (by decide +kernel) a.split, ne' (by decide +kernel) a.quotes, ne' (by decide +kernel) a.escape, ne' (by decide +kernel) a.escapedquotes,
    ⟨u, by rw [getL_put_eq, hv]; cases st' <;> rfl⟩, ne (by decide +kernel) a.pushback, ne' (by decide +kernel) a.debug, ne' (by decide +kernel) a.token, ne (by decide +kernel) a.filestack, ne (by decide +kernel) a.source, ne' (by decide +kernel) a.punct, ne (by decide +kernel) a.m1, ne (by decide +kernel) a.m2, ne (by decide +kernel) a.m3, ne (by decide +kernel) a.m4,
    by rw [length_put_of hs]; exact a.len⟩
theorem LxA.setToken {es : List DictEntry} {sx pb fs : Addr} {st : Option Str} {tok : Str} (a : LxA es sx pb fs st tok) (tok' : Str) {hsh : Int} {t u : Tok} :
    LxA (putL "token" hsh (.str "token" t) (.str tok' u) es) sx pb fs st tok' := by
  have ne : ∀ {nm : Str} {r}, nm ≠ "token" → getL nm es = r → getL nm (putL "token" hsh (.str "token" t) (.str tok' u) es) = r := fun h e => (getL_put_ne h).trans e
  have ne' : ∀ {nm : Str} {f : Tok → Option (Option Value)}, nm ≠ "token" → (∃ t, getL nm es = f t) → ∃ t', getL nm (putL "token" hsh (.str "token" t) (.str tok' u) es) = f t' := fun h ⟨t, e⟩ => ⟨t, ne h e⟩
  obtain ⟨ts, hs⟩ := a.token
  exact ⟨ne (by decide +kernel) a.instream, ne (by decide +kernel) a.posix, ne (by decide +kernel) a.eof, ne' (by decide +kernel) a.commenters, ne' (by decide +kernel) a.wordchars, ne' (by decide +kernel) a.whitespace, ne (by decide +kernel) a.split, ne' (by decide +kernel) a.quotes, ne' (by decide +kernel) a.escape, ne' (by decide +kernel) a.escapedquotes,
    ne' (by decide +kernel) a.state, ne (by decide +kernel) a.pushback, ne' (by decide +kernel) a.debug, ⟨u, getL_put_eq⟩, ne (by decide +kernel) a.filestack, ne (by decide +kernel) a.source, ne' (by decide +kernel) a.punct, ne (by decide +kernel) a.m1, ne (by decide +kernel) a.m2, ne (by decide +kernel) a.m3, ne (by decide +kernel) a.m4,
    by rw [length_put_of hs]; exact a.len⟩
theorem News.tl {g h : Heap} {L : Addr} {a : Addr × Obj} {l : List (Addr × Obj)} (N : News g L h (a :: l)) : News g L h l := fun p hp => N p (.tail _ hp)
theorem lx_end {g h : Heap} {x d sx dsx pb fs : Addr} {es es2 : List DictEntry} {n n2 pos : Nat} {line : List Nat} {tb tp : Tok} {st : Option Str} {tok : Str} (O : Own g h [(x, instObj 774 d), (d, dictOf es n), (sx, instObj 639 dsx), (dsx, dictOf es2 n2), (pb, dequeObj), (fs, dequeObj)])
  (h1 : getL "_StringIO__buf" es2 = some (some (.str (tx line) tb))) (h2 : getL "_StringIO__pos" es2 = some (some (.int ((pos : Nat) : Int) tp))) (h3 : getL "_StringIO__check" es2 = some none) (h4 : getL "read" es2 = some none) (h5 : es2.length ≤ 50)
  (a : LxA es sx pb fs st tok) : Lx g h x d sx dsx pb fs line pos st tok :=
  ⟨es, n, O.sub (by first | kse_has | simp), Sio.intro (n := n2) (O.sub (l' := [(sx, instObj 639 dsx), (dsx, dictOf es2 n2)]) (by first | kse_has | simp)) h1 h2 h3 h4 h5, a⟩
end
theorem reg_Lx_end : True := by
  k_with_none
  trivial
-- C6
section
theorem reg_C6 : True := by
  k_with_none
  k_with "size_fits" => (first | assumption | ((try simp only [tx_length]); rw [sizeLine_eq]; omega))
  k_with "k_ne" => (first | assumption | (refine Ne.symm ?_; assumption))
  k_with "tb_rel" => (first
    | exact List.forall_mem_nil _
    | (refine List.forall_mem_cons.mpr ⟨?ta9z, ?tb9z⟩; (case ta9z => first | exact fun _ => News.get (by assumption) (by k_mem) | exact fun h9 => absurd (by simp) h9); (case tb9z => tb_rel)))
  k_with "tb_start" => (
    refine wpAny_call ?_
    refine' enter _ (Cx.X (by assumption)) (Cx.T (by assumption)) (Cx.S (by assumption)) (by assumption) ?k19z ?k29z ?k39z ?k49z ?k59z ?_ ?k69z ?k79z ?k89z ?k99z
    (case k19z => k_is)
    (case k29z => k_is)
    (case k39z => ((try simp only [depth_deeper, depth_under_make, depth_in1, recursionLimit]); omega))
    (case k49z => first | exact BindsTo.of_eq rfl | exact binds_K (Frag.In.keeps (Cx.X (by assumption)) (Cx.S (by assumption))) rfl (by k_is) rfl rfl rfl)
    (case k59z => exact locs rfl)
    (case k69z => exact rfl)
    (case k79z => exact rfl)
    (case k89z => exact rfl)
    (case k99z => decide)
    skip)
  k_with "exec If" => (refine wpAny_If ?_)
  k_with "execs nil" => (refine wpAny_execs_nil ?_)
  k_with "execs cons" => ((with_reducible refine wpAny_execs_cons ?_); (try dsimp only); (try k_fold); (try (with_reducible refine wp_tok ?_; intro tk9)))
  trivial
theorem reg_C6_1 : True := by
  k_with "call type:collections.deque" => (
    refine' deque_ok ?hh9z ?hd9z ?hu9z ?_
    (case hh9z => assumption)
    (case hd9z => (simp only [depth_deeper, depth_under_make]; omega))
    (case hu9z => (show _ ≤ 5000); (try simp only [units_deeper]); (first | omega | (show Around.units _ + 1 + 3 ≤ 5000); omega))
    intro a9 h' tk' hk9 he9 hn9
    (have N9 := News.newer (by assumption) (by assumption) hk9 he9 hn9)
    (have F9 := Fr.after (by assumption) hk9 (fun q => nomatch q) (fun _ q => nomatch q))
    (have q9 := allNe_of (by assumption) hn9)
    (simp only [AllNe, and_true] at q9)
    (repeat (obtain ⟨_, q9⟩ := q9))
    clear hk9 he9 hn9
    (try k_sweep))
  trivial
theorem reg_C6_2 : True := by
  k_with "call ref" => (
    (with_reducible show wpAny _ _ (call (Value.ref 639) _ _) _ _ _)
    refine' sio_new ⟨by assumption, by assumption, Fr.keep (by assumption)⟩ ?hh9z ?hd9z ?hu9z ?hl9z ?_
    (case hh9z => assumption)
    (case hd9z => (simp only [depth_deeper, depth_under_make]; omega))
    (case hu9z => (show _ ≤ 3000); (try simp only [units_deeper]); (first | omega | (show Around.units _ + 1 + 3 ≤ 3000); omega))
    (case hl9z => omega)
    intro x9 d9 h' tk' hk9 hn9 hm9 hs9
    (have q9 := allNe_of (by assumption) hn9)
    (have q8 := allNe_of (by assumption) hm9)
    (simp only [AllNe, and_true] at q9 q8)
    (repeat (obtain ⟨_, q9⟩ := q9))
    (repeat (obtain ⟨_, q8⟩ := q8))
    (obtain ⟨es9, n9, tb9, tp9, O9, f91, f92, f93, f94, f95⟩ := hs9)
    (have e9 := inst_ne_dict O9)
    (have N9 := News.newer2 (by assumption) (by assumption) hk9 (O9 _ (.head _)).1 hn9 (O9 _ (.tail _ (.head _))).1 hm9)
    (have F9 := Fr.after (by assumption) hk9 (fun q => nomatch q) (fun _ q => nomatch q))
    clear hk9 hn9 hm9
    (try k_sweep))
  trivial

theorem lx_new {w : World} {p : Program} {loose : List Str} {mg mb : Str → Option Value} {g : Heap} {A : Around} {s : Shared} {Q E : Value → Shared → Prop} {line : List Nat} {t : Tok}
  (C : Cx w p loose mg mb g s.heap) (hh : A.handled = none) (hd : A.depth ≤ 390) (hu : A.units ≤ 2900) (hlen : line.length ≤ 1000)
  (hret : ∀ (x d sx dsx pb fs : Addr) h' tk', Keeps [] s.heap h' → (∀ a ∈ [x, d, sx, dsx, pb, fs], s.heap.get? a = none) → Lx g h' x d sx dsx pb fs line 0 (some " ") "" → Q (.ref x) { s with heap := h', toks := tk' }) :
  wpAny (model P0 w) A (call (.ref 774) [.str (tx line) t, .none, .bool true]) Q E s := by
  have hX := C.X.keeps C.S
  refine wpAny_call ?_
  obtain ⟨hp, gg, dd, tt, oo⟩ := s
  refine make_core (makes_of hX (by k_is)) (looks_findIn hX (r := some (.ref 698)) (by k_is)) (fun self => bind_fn hX self (by k_is)) (.inl rfl) ?_
  have k : Keeps [] hp ((hp.push emptyDict).push (instObj 774 hp.objs.size)) := fun b o e _ => Heap.get?_push_of_some _ (Heap.get?_push_of_some _ e)
  have C' : Cx w p loose mg mb g ((hp.push emptyDict).push (instObj 774 hp.objs.size)) := ⟨C.X, C.T, k.sub C.S (fun _ q => nomatch q)⟩
  have e1 : ((hp.push emptyDict).push (instObj 774 hp.objs.size)).get? (hp.objs.size + 1) = some (instObj 774 hp.objs.size) := by
    have := Heap.get?_push_size (h := hp.push emptyDict) (o := instObj 774 hp.objs.size) rfl
    rwa [Heap.size_push] at this
  have e3 : ((hp.push emptyDict).push (instObj 774 hp.objs.size)).get? hp.objs.size = some (dictOf [] 0) := Heap.get?_push_of_some _ (Heap.get?_push_size _ rfl)
  have e2 : hp.get? (hp.objs.size + 1) = none := Heap.get?_none_of_le (Nat.le_succ _)
  have e4 : hp.get? hp.objs.size = none := Heap.get?_none_of_le (Nat.le_refl _)
  have O : Own g ((hp.push emptyDict).push (instObj 774 hp.objs.size)) [(hp.objs.size + 1, instObj 774 hp.objs.size), (hp.objs.size, dictOf [] 0)] := fun p hp' => by
    rcases List.mem_cons.mp hp' with rfl | hp'
    · exact ⟨e1, none_of C.S e2⟩
    · rw [List.mem_singleton.mp hp']; exact ⟨e3, none_of C.S e4⟩
  generalize hp.objs.size + 1 = x at *
  generalize hp.objs.size = d at *
  generalize (hp.push emptyDict).push (instObj 774 d) = h₀ at *
  have hxd := inst_ne_dict O
  have hlen0 := hlen
  rw [← tx_length line] at hlen
  refine' enter _ C'.X C'.T C'.S O ?k1 ?k2 ?k3 ?k4 ?k5 ?_ ?k6 ?k7 ?k8 ?k9
  case k1 => k_is
  case k2 => k_is
  case k3 => show A.depth + 1 < recursionLimit; exact Nat.lt_of_le_of_lt (Nat.succ_le_succ hd) (by decide)
  case k4 => first | exact BindsTo.of_eq rfl | exact binds_K (C'.X.keeps C'.S) rfl (by k_is) rfl rfl rfl
  case k5 => exact locs rfl
  case k6 => exact rfl
  case k7 => exact rfl
  case k8 => exact rfl
  case k9 => decide
  intro g' L' h' F' N' X' T' hG9 hg9
  dsimp only
  k_fold
  k_steps
  all_goals (repeat' (first | (dsimp only) | (k_unfold; dsimp only)))
  rename Fr _ _ _ _ => F9
  rename News _ _ _ _ => N9
  try dsimp only at N9
  have O9 := Own.back N9 hg9
  refine ⟨rfl, ?_⟩
  refine hret x d _ _ _ _ _ _ (k.fresh (keeps_out (chg := [d]) hG9 F9 (fun p hp => (O p hp).1) (by tb_rel)) (by simpa using e4)) ?_ (lx_fin O9 (by assumption) (by assumption) (by assumption) (by assumption) (by assumption) ?_)
  · simp only [List.forall_mem_cons]
    exact ⟨e2, e4, fresh_of hG9 k e2 e4 (N9 _ (.tail _ (.tail _ (.head _)))).2.2, fresh_of hG9 k e2 e4 (N9 _ (.tail _ (.tail _ (.tail _ (.head _))))).2.2, fresh_of hG9 k e2 e4 (N9 _ (.tail _ (.head _))).2.2, fresh_of hG9 k e2 e4 (N9 _ (.head _)).2.2, List.forall_mem_nil _⟩
  · refine' ⟨?a1, ?a2, ?a3, ?a4, ?a5, ?a6, ?a7, ?a8, ?a9, ?a10, ?a11, ?a12, ?a13, ?a14, ?a15, ?a16, ?a17, ?a18, ?a19, ?a20, ?a21, ?a22⟩
    all_goals (first | k_get | (refine' getL_ex ?th ?te; (case th => k_get); (case te => exact ⟨_, rfl⟩)) | exact Nat.le_of_ble_eq_true rfl | skip)
end
theorem reg_C6_end : True := by
  k_with_none
  trivial
-- RdK
section
theorem read_at {w : World} {p : Program} {loose : List Str} {mg mb : Str → Option Value} {g : Heap} {A : Around} {s : Shared} {Q E : Value → Shared → Prop}
  {x dx : Addr} {buf : List Nat} {pos c : Nat} {t1 : Tok}
  (C : Cx w p loose mg mb g s.heap)
  (I : Sio g s.heap x dx buf pos)
  (hc : buf[pos]? = some c) (hlen : buf.length ≤ 1000)
  (hdp : A.depth ≤ 580)
  (hret : ∀ h' tk' t', Keeps [dx] s.heap h' → Sio g h' x dx buf (pos + 1) → Q (.str (tx [c]) t') { s with heap := h', toks := tk' }) :
  wpAny (model P0 w) A (call (.ref 585) [.ref x, .int 1 t1]) Q E s := by
  obtain ⟨hl, e⟩ := List.getElem?_eq_some_iff.mp hc
  subst e
  exact read_ok C I hl hlen hdp hret
end
-- Chr
section
/-- a sign stands in a text -/
def has (b : Str) (c : Nat) : Bool := decide (c ∈ b.cps.toList)
section
variable {prog : Program} {w : World} {A : Around} {E : Value → Shared → Prop} {s : Shared}
theorem in_is {v : Bool} {b : Str} {c : Nat} {t u : Tok} {Q : Value → Shared → Prop} (h : has b c = v) (hq : Q (.bool v) s) : wpAny (model prog w) A (compareOp .In (.str (tx [c]) u) (.str b t)) Q E s := by
  refine PyProof.Rows.in_str ?_
  rw [show tx [c] = ⟨#[c]⟩ from rfl, StrLaws.found_one]
  have h' : decide (c ∈ b.cps.toList) = v := h
  rw [h']; exact hq
theorem eq_is {v : Bool} {x y : Str} {t u : Tok} {Q : Value → Shared → Prop} (h : (x == y) = v) (hq : Q (.bool v) s) : wpAny (model prog w) A (compareOp .Eq (.str x t) (.str y u)) Q E s :=
  PyProof.Rows.eq_str (h ▸ hq)
theorem truth_one {c : Nat} {t : Tok} {Q : Bool → Shared → Prop} (hq : Q true { s with toks := s.toks + 1 + 1 }) : wpAny (model prog w) A (truthy (.str (tx [c]) t)) Q E s :=
  PySem.P.truthy_str (by show ¬ ((1 : Nat) : Int) ≥ 2 ^ 63; decide) hq
theorem truth_lit {x : Str} {t : Tok} {v : Bool} {Q : Bool → Shared → Prop} (h : x.length < 1000000 ∧ ((x.length : Int) != 0) = v) (hq : Q v { s with toks := s.toks + 1 + 1 }) : wpAny (model prog w) A (truthy (.str x t)) Q E s :=
  PySem.P.truthy_str (by have := h.1; omega) (by rw [h.2]; exact hq)
theorem truth_tx {l : List Nat} {t : Tok} {Q : Bool → Shared → Prop} (hl : l.length ≤ 100000) (h0 : l = [] → Q false { s with toks := s.toks + 1 + 1 }) (h1 : l ≠ [] → Q true { s with toks := s.toks + 1 + 1 }) : wpAny (model prog w) A (truthy (.str (tx l) t)) Q E s :=
  PySem.P.truthy_str (by rw [tx_length]; omega) (by
    rw [tx_length]
    cases l with
    | nil => exact h0 rfl
    | cons a r => exact h1 (by simp))
theorem iadd_tx {a b : List Nat} {t u : Tok} {Q : Value → Shared → Prop} (hsz : a.length + b.length ≤ 1000000) (hq : ∀ t' tk, Q (.str (tx (a ++ b)) t') { s with toks := tk }) : wpAny (model prog w) A (inplaceOp .Add (.str (tx a) t) (.str (tx b) u)) Q E s :=
  PyProof.Rows.iadd_str (fun t' tk => by rw [tx_append]; exact hq t' tk) (by rw [tx_length, tx_length, sizeLine_eq]; omega)
theorem tx_beq (a b : List Nat) : (tx a == tx b) = (a == b) := by
  rw [Bool.eq_iff_iff, beq_iff_eq, beq_iff_eq]
  exact ⟨tx_inj, fun e => by rw [e]⟩
end
end
-- Loop
section
/-- a turn's end: less is left, and the invariant holds -/
structure Turned (I : Nat → Shared → Prop) (n : Nat) (s : Shared) : Prop where
  ex : ∃ m, m < n ∧ I m s
section
variable {prog : Program} {w : World} {A : Around} {E : Value → Shared → Prop} {s : Shared} {env : Env}
/-- a while by what holds between its turns -/
theorem while_by {test : Expr} {body : List Stmt} {pos : Pos} {Q : Flow → Shared → Prop} (I : Nat → Shared → Prop) (n : Nat) (h : I n s)
    (turn : ∀ (E' : Value → Shared → Prop) n s, I n s → wpAny (model prog w) A (isTrue test env (eval test env)) (fun b s₂ =>
        if b then wpAny (model prog w) A (execs body env) (fun f s₃ => match f with
            | .next | .cont => Turned I n s₃
            | .brk => Q .next s₃
            | .ret v => Q (.ret v) s₃) E' s₂
        else wpAny (model prog w) A (execs [] env) (fun f s₃ => Q f s₃) E' s₂) E' s) :
    wpAny (model prog w) A (exec (.While test body [] pos) env) Q E s := by
  rw [exec_While]
  refine wpAny_bind (wpAny_standAt (wpAny_runOwn (codeAny_whileLoop I (fun n s hI => wpAny_mono (turn _ n s hI) (fun b s₂ hb => ?_) fun _ _ e => e) n h)))
  cases b with
  | false => exact hb
  | true => exact wpAny_mono hb (fun f s₃ hf => by cases f <;> first | exact hf.ex | exact hf) fun _ _ e => e
theorem if_keep {m : Str → Option Value} {a b : Str} {u v : Option Value} (hn : a ≠ b) (e : m a = v) : (if a = b then u else m a) = v := by rw [if_neg hn]; exact e
end
end
-- C7
section
theorem reg_C7 : True := by
  k_with_none
  k_with "k_get" => (first | assumption | exact getL_put_eq | (refine Eq.trans (getL_put_ne (by decide +kernel)) ?_; k_get) | (refine' isSome_of ?h9z; case h9z => k_get) | (refine' isSome_of' ?h9z; case h9z => k_get) | exact rfl)
  k_with "k_put" => (exact rfl)
  k_with "setAttr ref" => (k_here; k_dflt (
    (refine' set_dict ?k19z ?k29z ?k39z ?k49z ?k59z ?k69z ?k79z ?k89z ?k99z ?k109z ?k119z ?k129z ?k139z ?_; (case k19z => k_asm); (case k29z => k_asm); (case k39z => k_asm); (case k49z => k_inst); (case k59z => exact rfl); (case k69z => k_is); (case k79z => k_is); (case k89z => k_is); (case k99z => k_is); (case k109z => k_get); (case k119z => exact rfl); (case k129z => k_upd); (case k139z => ((repeat (refine length_put_le ?_)); omega)); k_whole; intro h' F' N'; (try k_sweep))))
  k_with "size_fits" => (first | assumption | ((try simp only [tx_length]); rw [sizeLine_eq]; omega))
  k_with "k_ne" => (first | assumption | (refine Ne.symm ?_; assumption))
  k_with "tb_rel" => (first
    | exact List.forall_mem_nil _
    | (refine List.forall_mem_cons.mpr ⟨?ta9z, ?tb9z⟩; (case ta9z => first | exact fun _ => News.get (by assumption) (by k_mem) | exact fun h9 => absurd (by simp) h9); (case tb9z => tb_rel)))
  k_with "tb_start" => (
    refine wpAny_call ?_
    refine' enter _ (Cx.X (by assumption)) (Cx.T (by assumption)) (Cx.S (by assumption)) (by assumption) ?k19z ?k29z ?k39z ?k49z ?k59z ?_ ?k69z ?k79z ?k89z ?k99z
    (case k19z => k_is)
    (case k29z => k_is)
    (case k39z => ((try simp only [depth_deeper, depth_under_make, depth_in1, recursionLimit]); omega))
    (case k49z => first | exact BindsTo.of_eq rfl | exact binds_K (Frag.In.keeps (Cx.X (by assumption)) (Cx.S (by assumption))) rfl (by k_is) rfl rfl rfl)
    (case k59z => exact locs rfl)
    (case k69z => exact rfl)
    (case k79z => exact rfl)
    (case k89z => exact rfl)
    (case k99z => decide)
    skip)
  k_with "call ref" => (
    (with_reducible show wpAny _ _ (call (Value.ref 585) _ _) _ _ _)
    refine' read_at ⟨by assumption, by assumption, Fr.keep (by assumption)⟩ (Sio.intro (Own.sub (Own.of_news (by assumption)) ?O9z) ?b19z ?b29z ?b39z ?b49z ?b59z) ?hc9z ?hl9z ?hdp9z ?_
    (case O9z => (refine List.forall_mem_cons.mpr ⟨?_, List.forall_mem_cons.mpr ⟨?_, List.forall_mem_nil _⟩⟩ <;> k_mem))
    (case b19z => assumption)
    (case b29z => assumption)
    (case b39z => assumption)
    (case b49z => assumption)
    (case b59z => assumption)
    (case hc9z => assumption)
    (case hl9z => assumption)
    (case hdp9z => (simp only [depth_deeper]; omega))
    intro h' tk' t' hk9 hs9
    (obtain ⟨es9, n9, tb9, tp9, O9, f91, f92, f93, f94, f95⟩ := hs9)
    (have F9 := Fr.swap (by assumption) (by assumption) (by k_mem) hk9)
    (have N9 := News.swap (by assumption) hk9 (by k_upd) (O9 _ (.tail _ (.head _))).1)
    (dsimp only at N9)
    clear hk9 O9
    (try k_sweep))
  k_with "compareOp In str str" => (first | refine in_is (v := true) (by decide +kernel) ?_ | refine in_is (v := false) (by decide +kernel) ?_ | refine in_is (by assumption) ?_)
  k_with "compareOp Eq str str" => (first | refine eq_is (v := true) (by decide +kernel) ?_ | refine eq_is (v := false) (by decide +kernel) ?_ | refine eq_is (by assumption) ?_)
  k_with "truthy str" => (first | with_reducible refine truth_one ?_ | (with_reducible (refine truth_lit (v := false) (by decide +kernel) ?_)) | (with_reducible (refine truth_lit (v := true) (by decide +kernel) ?_)) | (with_reducible (refine truth_tx (by omega) ?_ ?_) <;> intro hw9))
  k_with "inplaceOp Add str str" => (refine iadd_tx (by ((try simp only [List.length_cons, List.length_nil]); omega)) ?_; intro t9 tk9)
  k_with "eval Name" => (k_here; k_dflt (refine' ld ?k19z ?k29z ?_; (case k19z => k_asm); (case k29z => (first | assumption | (refine if_keep (by decide +kernel) ?_; first | assumption | (refine if_keep (by decide +kernel) ?_; first | assumption | (refine if_keep (by decide +kernel) ?_; assumption))))); k_whole))
  k_with "call ref" => (
    (with_reducible show wpAny _ _ (call (Value.ref 585) _ _) _ _ _)
    refine' read_end ⟨by assumption, by assumption, Fr.keep (by assumption)⟩ (Sio.intro (Own.sub (Own.of_news (by assumption)) ?O9z) ?b19z ?b29z ?b39z ?b49z ?b59z) ?hc9z ?hl9z ?hdp9z ?_
    (case O9z => (refine List.forall_mem_cons.mpr ⟨?_, List.forall_mem_cons.mpr ⟨?_, List.forall_mem_nil _⟩⟩ <;> k_mem))
    (case b19z => assumption)
    (case b29z => assumption)
    (case b39z => assumption)
    (case b49z => assumption)
    (case b59z => assumption)
    (case hc9z => assumption)
    (case hl9z => assumption)
    (case hdp9z => (simp only [depth_deeper]; omega))
    intro h' tk' t' hk9
    (have F9 := Fr.after (by assumption) hk9 (fun q => nomatch q) (fun _ q => nomatch q))
    (have N9 := News.after (by assumption) hk9 (fun _ _ q => nomatch q))
    clear hk9
    (try k_sweep))
  k_with "exec If" => (refine wpAny_If ?_)
  k_with "execs nil" => (refine wpAny_execs_nil ?_)
  k_with "execs cons" => ((with_reducible refine wpAny_execs_cons ?_); (try dsimp only); (try k_fold); (try (with_reducible refine wp_tok ?_; intro tk9)))
  trivial
theorem punct_code {w : World} {p : Program} {loose : List Str} {mg mb : Str → Option Value} {g : Heap} {A : Around} {s : Shared} {R : Result → Shared → Prop}
  {x d : Addr} {es : List DictEntry} {n : Nat} {t : Tok}
  (C : Cx w p loose mg mb g s.heap)
  (O : Own g s.heap [(x, instObj 774 d), (d, dictOf es n)])
  (hp : getL "_punctuation_chars" es = some (some (.str "" t)))
  (hdp : A.depth ≤ 590)
  (hret : ∀ h' tk', Keeps [] s.heap h' → R (.ok (.ret (.str "" t))) { s with heap := h', toks := tk' }) :
  codeAny (model P0 w) A (.call (.ref 705) ⟨[.ref x], []⟩) R s := by
  refine' enter _ C.X C.T C.S O ?k1 ?k2 ?k3 ?k4 ?k5 ?_ ?k6 ?k7 ?k8 ?k9
  case k1 => k_is
  case k2 => k_is
  case k3 => exact Nat.lt_of_le_of_lt hdp (by decide)
  case k4 => exact BindsTo.of_eq rfl
  case k5 => exact locs rfl
  case k6 => exact rfl
  case k7 => exact rfl
  case k8 => exact rfl
  case k9 => decide
  intro g' L' h' F' N' X' T' hG9 hg9
  dsimp only
  k_fold
  k_steps
  all_goals (repeat' (first | (dsimp only) | (k_unfold; dsimp only)))
  rename Fr _ _ _ _ => F9
  rename News _ _ _ _ => N9
  exact hret _ _ (keeps_out hG9 F9 (fun p hp => (O p hp).1) (by tb_rel))

theorem reg_C7_1 : True := by
  k_with "getAttr ref" => (
    (with_reducible show wpAny _ _ (getAttr (Value.ref _) (PySem.Str.ofString "punctuation_chars") _) _ _ _)
    (k_dflt (refine' get_prop ?k19z ?k29z ?k39z ?k49z ?k59z ?k69z ?k79z ?k89z ?k99z ?_; (case k19z => k_asm); (case k29z => k_asm); (case k39z => k_inst); (case k49z => k_is); (case k59z => k_is); (case k69z => k_is); (case k79z => k_is); (case k89z => k_is); (case k99z => k_is); k_whole))
    (refine' punct_code ⟨by assumption, by assumption, Fr.keep (by assumption)⟩ (Own.sub (Own.of_news (by assumption)) ?O9z) ?hb9z ?hdp9z ?_)
    (case O9z => (refine List.forall_mem_cons.mpr ⟨?_, List.forall_mem_cons.mpr ⟨?_, List.forall_mem_nil _⟩⟩ <;> k_mem))
    (case hb9z => k_get)
    (case hdp9z => (simp only [depth_deeper, depth_under_make, depth_in1]; omega))
    intro h' tk' hk9
    (have F9 := Fr.after (by assumption) hk9 (fun q => nomatch q) (fun _ q => nomatch q))
    (have N9 := News.after (by assumption) hk9 (fun _ _ q => nomatch q))
    clear hk9
    (show wpAny _ _ (handedOut _) _ _ _)
    (refine handed_on rfl ?_)
    (try dsimp only)
    (try k_sweep))
  trivial
theorem reg_C7_2 : True := by
  k_with "ktr_rel" => (first | assumption | exact if_pos rfl | (refine if_keep (by decide +kernel) ?_; ktr_rel))
  trivial
/-- what stands between the turns of read_token -/
def RtI (g' : Heap) (L' : Addr) (x d sx dsx pb fs : Addr) (line : List Nat) (a₀ : Nat) (word : List Nat) (s₀ : Shared) (n : Nat) (s : Shared) : Prop :=
  ∃ h tk m es k es2 n2 tb tp pos q st tok ve, s = { s₀ with heap := h, toks := tk } ∧ Fr g' L' h m ∧ m "self" = some (.ref x) ∧ m "quoted" = some (.bool q) ∧ m "escapedstate" = some ve ∧
    News g' L' h [(x, instObj 774 d), (d, dictOf es k), (sx, instObj 639 dsx), (dsx, dictOf es2 n2), (pb, dequeObj), (fs, dequeObj)] ∧
    getL "_StringIO__buf" es2 = some (some (.str (tx line) tb)) ∧ getL "_StringIO__pos" es2 = some (some (.int ((pos : Nat) : Int) tp)) ∧ getL "_StringIO__check" es2 = some none ∧ getL "read" es2 = some none ∧ es2.length ≤ 50 ∧
    LxA es sx pb fs (some st) tok ∧
    ((n = word.length + 4 ∧ pos = a₀ ∧ q = false ∧ st = tx [32] ∧ tok = tx []) ∨
     (∃ j, j < word.length + 1 ∧ n = word.length - j + 3 ∧ pos = a₀ + 1 + j ∧ st = tx [39] ∧ tok = tx (word.take j)) ∨
     (n = 1 ∧ pos = a₀ + 2 + word.length ∧ q = true ∧ st = tx [97] ∧ tok = tx word))
theorem RtI.intro {g' : Heap} {L' : Addr} {x d sx dsx pb fs : Addr} {line : List Nat} {a₀ : Nat} {word : List Nat} {s₀ : Shared} {n : Nat} {h : Heap} {tk : Nat} {m : Str → Option Value} {es es2 : List DictEntry} {k n2 pos : Nat} {tb tp : Tok} {q : Bool} {st tok : Str} {ve : Value}
  (F : Fr g' L' h m) (N : News g' L' h [(x, instObj 774 d), (d, dictOf es k), (sx, instObj 639 dsx), (dsx, dictOf es2 n2), (pb, dequeObj), (fs, dequeObj)]) (h1 : m "self" = some (.ref x)) (h2 : m "quoted" = some (.bool q)) (h3 : m "escapedstate" = some ve)
  (b1 : getL "_StringIO__buf" es2 = some (some (.str (tx line) tb))) (b2 : getL "_StringIO__pos" es2 = some (some (.int ((pos : Nat) : Int) tp))) (b3 : getL "_StringIO__check" es2 = some none) (b4 : getL "read" es2 = some none) (b5 : es2.length ≤ 50) (a : LxA es sx pb fs (some st) tok)
  (hp : (n = word.length + 4 ∧ pos = a₀ ∧ q = false ∧ st = tx [32] ∧ tok = tx []) ∨
     (∃ j, j < word.length + 1 ∧ n = word.length - j + 3 ∧ pos = a₀ + 1 + j ∧ st = tx [39] ∧ tok = tx (word.take j)) ∨
     (n = 1 ∧ pos = a₀ + 2 + word.length ∧ q = true ∧ st = tx [97] ∧ tok = tx word)) : RtI g' L' x d sx dsx pb fs line a₀ word s₀ n { s₀ with heap := h, toks := tk } :=
  ⟨h, tk, m, es, k, es2, n2, tb, tp, pos, q, st, tok, ve, rfl, F, h1, h2, h3, N, b1, b2, b3, b4, b5, a, hp⟩

theorem read_token_ok {w : World} {p : Program} {loose : List Str} {mg mb : Str → Option Value} {g : Heap} {A : Around} {s : Shared} {Q E : Value → Shared → Prop}
  {x d sx dsx pb fs : Addr} {line pre word suf : List Nat}
  (C : Cx w p loose mg mb g s.heap) (hh : A.handled = none) (hdp : A.depth ≤ 560) (hlen : line.length ≤ 1000)
  (hline : line = pre ++ 39 :: (word ++ 39 :: suf)) (hw : ∀ c ∈ word, c ≠ 10 ∧ c ≠ 39) (hsuf : suf = [] ∨ ∃ r, suf = 32 :: r)
  (I : Lx g s.heap x d sx dsx pb fs line pre.length (some (tx [32])) (tx []))
  (hret : ∀ h' tk' t', Keeps [d, dsx] s.heap h' → Lx g h' x d sx dsx pb fs line (pre.length + 2 + word.length + suf.length.min 1) (if suf = [] then none else some (tx [32])) (tx []) → Q (.str (tx word) t') { s with heap := h', toks := tk' }) :
  wpAny (model P0 w) A (call (.ref 742) [.ref x]) Q E s := by
  obtain ⟨es, n, O1, ⟨es2, n2, tb, tp, O2, hbuf, hpos, hchk, hrd, hle⟩, a⟩ := I
  obtain ⟨O, q1, q2, q3, q4, q5, q6, q7, q8, q9, q10⟩ := lx_open O1 O2 hbuf a.m4
  have hwl : word.length ≤ 1000 := by rw [hline] at hlen; simp at hlen; omega
  tb_start
  intro g' L' h' F' N' X' T' hG9 hg9
  dsimp only
  k_fold
  repeat' (first | (k_unfold; (try dsimp only)) | ((fail_if_success (with_reducible show wpAny _ _ (exec (PySem.Stmt.While _ _ _ _) _) _ _ _)); walk1))
  rename Fr _ _ _ _ => F9
  rename News _ _ _ _ => N9
  refine while_by (RtI g' L' x d sx dsx pb fs line pre.length word s) (word.length + 4) (RtI.intro F9 N9 rfl rfl rfl hbuf hpos hchk hrd hle a (.inl ⟨rfl, rfl, rfl, rfl, rfl⟩)) ?_
  clear F9 N9 hbuf hpos hchk hrd hle a O1 O2
  rintro E' n9 s9 ⟨h, tk, m, es, k, es2, n2, tb, tp, pos, q, st, tok, ve, rfl, F9, hm1, hm2, hm3, N9, hbuf, hpos, hchk, hrd, hle, a, hp⟩
  have a0 := a
  obtain ⟨a1, a2, a3, ⟨t4, a4⟩, ⟨t5, a5⟩, ⟨t6, a6⟩, a7, ⟨t8, a8⟩, ⟨t9, a9⟩, ⟨t10, a10⟩, ⟨t11, a11⟩, a12, ⟨t13, a13⟩, ⟨t14, a14⟩, a15, a16, ⟨t17, a17⟩, a18, a19, a20, a22, a21⟩ := a
  dsimp only at a11
  rcases hp with ⟨rfl, rfl, rfl, rfl, rfl⟩ | ⟨j, hj, rfl, rfl, rfl, rfl⟩ | ⟨rfl, rfl, rfl, rfl, rfl⟩
  · have hc : line[pre.length]? = some 39 := by rw [hline]; simp
    (try dsimp only)
    (try k_fold)
    k_steps
    rename Fr _ _ _ _ => F8
    rename News _ _ _ _ => N8
    refine ⟨word.length + 3, by omega, RtI.intro F8 N8 (by ktr_rel) (by ktr_rel) (by ktr_rel) (by assumption) (by assumption) (by assumption) (by assumption) (by assumption) (a0.setState (some (tx [39])) rfl) (.inr (.inl ⟨0, by omega, by omega, rfl, rfl, rfl⟩))⟩
  · by_cases hjw : j < word.length
    · have hc : line[pre.length + 1 + j]? = some word[j] := by
        rw [hline, List.getElem?_append_right (by omega)]
        simp [show pre.length + 1 + j - pre.length = j + 1 by omega, List.getElem?_append_left hjw, hjw]
      have hcw := hw word[j] (List.getElem_mem hjw)
      have htk : word.take (j + 1) = word.take j ++ [word[j]] := by rw [List.take_add_one]; simp [hjw]
      have hlt : (word.take j).length ≤ 1000 := by rw [List.length_take]; omega
      generalize hcc : word[j] = c at hc hcw htk
      have f1 : (tx [c] == Str.ofString "\n") = false := by rw [show Str.ofString "\n" = tx [10] from rfl, tx_beq]; simpa using hcw.1
      have f2 : (tx [c] == tx [39]) = false := by rw [tx_beq]; simpa using hcw.2
      have fin : ∀ {h' : Heap} {tk' : Nat} {m' : Str → Option Value} {es' es2' : List DictEntry} {k' n2' : Nat} {tb' tp' : Tok} {q' : Bool} {ve' : Value} {hsh : Int} {t u : Tok},
          Fr g' L' h' m' → News g' L' h' [(x, instObj 774 d), (d, dictOf (putL "token" hsh (.str "token" t) (.str (tx (word.take j ++ [c])) u) es') k'), (sx, instObj 639 dsx), (dsx, dictOf es2' n2'), (pb, dequeObj), (fs, dequeObj)] → m' "self" = some (.ref x) → m' "quoted" = some (.bool q') → m' "escapedstate" = some ve' →
          getL "_StringIO__buf" es2' = some (some (.str (tx line) tb')) → getL "_StringIO__pos" es2' = some (some (.int ((pre.length + 1 + j + 1 : Nat) : Int) tp')) → getL "_StringIO__check" es2' = some none → getL "read" es2' = some none → es2'.length ≤ 50 → LxA es' sx pb fs (some (tx [39])) (tx (word.take j)) →
          Turned (RtI g' L' x d sx dsx pb fs line pre.length word s) (word.length - j + 3) { s with heap := h', toks := tk' } := fun F N h1 h2 h3 b1 b2 b3 b4 b5 a => ⟨word.length - (j + 1) + 3, by omega, RtI.intro F N h1 h2 h3 b1 b2 b3 b4 b5 (a.setToken _) (.inr (.inl ⟨j + 1, by omega, rfl, by omega, rfl, by rw [htk]⟩))⟩
      cases f3 : has (Str.ofString "\\") c
      · (try dsimp only)
        (try k_fold)
        k_steps
        rename Fr _ _ _ _ => F8
        rename News _ _ _ _ => N8
        exact fin F8 N8 (by ktr_rel) (by ktr_rel) (by ktr_rel) (by assumption) (by assumption) (by assumption) (by assumption) (by assumption) a0
      · (try dsimp only)
        (try k_fold)
        k_steps
        rename Fr _ _ _ _ => F8
        rename News _ _ _ _ => N8
        exact fin F8 N8 (by ktr_rel) (by ktr_rel) (by ktr_rel) (by assumption) (by assumption) (by assumption) (by assumption) (by assumption) a0
    · have hj' : j = word.length := by omega
      subst hj'
      have hc : line[pre.length + 1 + word.length]? = some 39 := by
        rw [hline, List.getElem?_append_right (by omega)]
        simp [show pre.length + 1 + word.length - pre.length = word.length + 1 by omega]
      (try dsimp only)
      (try k_fold)
      k_steps
      rename Fr _ _ _ _ => F8
      rename News _ _ _ _ => N8
      refine ⟨1, by omega, RtI.intro F8 N8 (by ktr_rel) (by ktr_rel) (by ktr_rel) (by assumption) (by assumption) (by assumption) (by assumption) (by assumption) (a0.setState (some (Str.ofString "a")) rfl) (.inr (.inr ⟨rfl, by omega, rfl, rfl, by rw [List.take_length]⟩))⟩
  · rcases hsuf with rfl | ⟨r, rfl⟩
    · have hc : line.length ≤ pre.length + 2 + word.length := by rw [hline]; simp; omega
      (try dsimp only)
      (try k_fold)
      k_steps
      all_goals (repeat' (first | (dsimp only) | (k_unfold; dsimp only)))
      rename Fr _ _ _ _ => F8
      rename News _ _ _ _ => N8
      have O8 := Own.back N8 hg9
      refine hret _ _ _ (keeps_out hG9 F8 (fun p hp => (O p hp).1) ?_) ?_
      · tb_rel
      · exact lx_end (Own.back (News.tl N8) hg9) (by assumption) (by assumption) (by assumption) (by assumption) (by assumption) ((a0.setState none (u := 0) rfl).setToken _)
      
    · have hc : line[pre.length + 2 + word.length]? = some 32 := by
        rw [hline, List.getElem?_append_right (by omega)]
        simp [show pre.length + 2 + word.length - pre.length = word.length + 1 + 1 by omega]
      (try dsimp only)
      (try k_fold)
      k_steps
      all_goals (repeat' (first | (dsimp only) | (k_unfold; dsimp only)))
      all_goals (rename Fr _ _ _ _ => F8; rename News _ _ _ _ => N8)
      all_goals (refine hret _ _ _ (keeps_out hG9 F8 (fun p hp => (O p hp).1) ?_) ?_)
      all_goals first | tb_rel | skip
      all_goals rw [if_neg (by simp), show (32 :: r).length.min 1 = 1 from Nat.min_eq_right (by simp)]

      all_goals exact lx_end (Own.back (News.tl N8) hg9) (by assumption) (by assumption) (by assumption) (by assumption) (by assumption) ((a0.setState (some (tx [32])) rfl).setToken _)
end
theorem reg_C7_end : True := by
  k_with_none
  trivial
-- Dq
section
open PySem.Builtin
theorem noBool_deque : typeLookup (.type "collections.deque") "__bool__" = pure none := by rw [typeLookup_type, builtinLookup_eq_fast]; kernel_rfl
theorem slot_deque_len : Slot "collections.deque" "__len__" "collections.deque.__len__" :=
  .of (owner := "collections.deque") (n := "__len__") (by rw [typeLookup_type, builtinLookup_eq_fast]; kernel_rfl) (by decide +kernel) (by decide +kernel) (by decide +kernel)
    (by first | exact .inl (by decide +kernel) | exact .inr (by decide +kernel)) (by rw [isSubtype_type]; kernel_rfl)
theorem owner_deque : Manifest.owners.lookup (String.ofList ['e','u','q','e','d','.','s','n','o','i','t','c','e','l','l','o','c'].reverse) = some Manifest.sig_collections_deque := by kernel_rfl
theorem args_deque_len (a : Value) : argsOk "collections.deque.__len__" ⟨[a], []⟩ := by
  unfold argsOk; rw [signature?_of (id := "collections.deque.__len__") (n := ['_', '_', 'n', 'e', 'l', '_', '_']) (o := ['e','u','q','e','d','.','s','n','o','i','t','c','e','l','l','o','c']) (by kernel_rfl) owner_deque]; kernel_rfl
theorem entry_deque_len : entryFor table "collections.deque.__len__" = some Builtin.«collections.deque.__len__» := entryFor_of_tree (by kernel_rfl)
/-- an empty deque is false -/
theorem truthy_deque {prog : Program} {w : World} {A : Around} {E : Value → Shared → Prop} {s : Shared} {a : Addr} {Q : Bool → Shared → Prop} (ho : s.heap.get? a = some dequeObj)
    (h : Q false { s with toks := s.toks + 1 + 1 }) : wpAny (model prog w) A (truthy (.ref a)) Q E s := by
  have hT : s.TypeIs (.ref a) "collections.deque" := ⟨_, ho, rfl⟩
  have key : wpAny (model prog w) A (runValue (.builtin "len" ⟨[.ref a], []⟩)) (fun r s' => r = .int 0 (s.toks + 1) ∧ Q false s') E s := by
    refine wpAny_runValue (codeAny_builtin entry_len ?_)
    rw [Around.under_plainId plain_len _]
    unfold Builtin.«len»
    refine wpAny_bind (m := oneArg "len" _) (wpAny_pure ?_)
    refine wpAny_bind (m := callSpecial? (.ref a) (Str.ofString "__len__")) (wpAny_callSpecial?_slot (name := Str.ofString "__len__") hT slot_deque_len
      (wpAny_call_entry slot_deque_len hT entry_deque_len ?_ (args_deque_len _)))
    unfold Builtin.«collections.deque.__len__» slotArgs Builtin.Deque.size fieldsOf
    dsimp only
    refine wpAny_bind (wpAny_pure ?_)
    refine wpAny_bind (wpAny_bind (wpAny_bind (wpAny_load ho ?_)))
    dsimp only
    refine wpAny_pure (wpAny_pure ?_)
    show wpAny _ _ (retInt _) _ _ _
    unfold retInt
    refine wpAny_bind (wpAny_mkInt (wpAny_pure ⟨_, rfl, ?_⟩))
    refine wpAny_bind (wpAny_holding (wpAny_pure ?_))
    refine wpAny_bind (wpAny_letGo ?_)
    show wpAny _ _ (if (0 : Int) < 0 then _ else _) _ _ _
    rw [if_neg (by omega)]
    show wpAny _ _ (if (0 : Int) ≥ 2 ^ 63 then _ else _) _ _ _
    rw [if_neg (by omega)]
    exact wpAny_bind (wpAny_mkInt (wpAny_pure ⟨rfl, h⟩))
  unfold truthy
  first
    | refine wpAny_bind (wpAny_callSpecial?_none (name := Str.ofString "__bool__") hT noBool_deque ?_)
    | refine wpAny_bind (wpAny_pure (wpAny_bind (wpAny_callSpecial?_none (name := Str.ofString "__bool__") hT noBool_deque ?_)))
  first
    | refine wpAny_bind (wpAny_specialOf (name := Str.ofString "__len__") hT slot_deque_len.lookup ?_)
    | refine wpAny_bind (wpAny_pure (wpAny_bind (wpAny_specialOf (name := Str.ofString "__len__") hT slot_deque_len.lookup ?_)))
  first
    | exact wpAny_bind (wpAny_mono key (fun r s' h' => by obtain ⟨rfl, hq⟩ := h'; exact wpAny_pure hq) fun _ _ e => e)
    | exact wpAny_bind (wpAny_pure (wpAny_bind (wpAny_mono key (fun r s' h' => by obtain ⟨rfl, hq⟩ := h'; exact wpAny_pure hq) fun _ _ e => e)))
end
-- C8
section
theorem reg_C8 : True := by
  k_with_none
  k_with "k_get" => (first | assumption | exact getL_put_eq | (refine Eq.trans (getL_put_ne (by decide +kernel)) ?_; k_get) | (refine' isSome_of ?h9z; case h9z => k_get) | (refine' isSome_of' ?h9z; case h9z => k_get) | exact rfl)
  k_with "k_put" => (exact rfl)
  k_with "setAttr ref" => (k_here; k_dflt (
    (refine' set_dict ?k19z ?k29z ?k39z ?k49z ?k59z ?k69z ?k79z ?k89z ?k99z ?k109z ?k119z ?k129z ?k139z ?_; (case k19z => k_asm); (case k29z => k_asm); (case k39z => k_asm); (case k49z => k_inst); (case k59z => exact rfl); (case k69z => k_is); (case k79z => k_is); (case k89z => k_is); (case k99z => k_is); (case k109z => k_get); (case k119z => exact rfl); (case k129z => k_upd); (case k139z => ((repeat (refine length_put_le ?_)); omega)); k_whole; intro h' F' N'; (try k_sweep))))
  k_with "size_fits" => (first | assumption | ((try simp only [tx_length]); rw [sizeLine_eq]; omega))
  k_with "k_ne" => (first | assumption | (refine Ne.symm ?_; assumption))
  k_with "tb_rel" => (first
    | exact List.forall_mem_nil _
    | (refine List.forall_mem_cons.mpr ⟨?ta9z, ?tb9z⟩; (case ta9z => first | exact fun _ => News.get (by assumption) (by k_mem) | exact fun h9 => absurd (by simp) h9); (case tb9z => tb_rel)))
  k_with "tb_start" => (
    refine wpAny_call ?_
    refine' enter _ (Cx.X (by assumption)) (Cx.T (by assumption)) (Cx.S (by assumption)) (by assumption) ?k19z ?k29z ?k39z ?k49z ?k59z ?_ ?k69z ?k79z ?k89z ?k99z
    (case k19z => k_is)
    (case k29z => k_is)
    (case k39z => ((try simp only [depth_deeper, depth_under_make, depth_in1, recursionLimit]); omega))
    (case k49z => first | exact BindsTo.of_eq rfl | exact binds_K (Frag.In.keeps (Cx.X (by assumption)) (Cx.S (by assumption))) rfl (by k_is) rfl rfl rfl)
    (case k59z => exact locs rfl)
    (case k69z => exact rfl)
    (case k79z => exact rfl)
    (case k89z => exact rfl)
    (case k99z => decide)
    skip)
  k_with "kse_has" => (first | with_reducible assumption | with_reducible exact List.mem_cons_self | (with_reducible refine List.mem_cons_of_mem _ ?_; kse_has) | (with_reducible refine List.mem_append_left _ ?_; kse_has) | (with_reducible refine List.mem_append_right _ ?_; kse_has))
  k_with "compareOp In str str" => (first | refine in_is (v := true) (by decide +kernel) ?_ | refine in_is (v := false) (by decide +kernel) ?_ | refine in_is (by assumption) ?_)
  k_with "compareOp Eq str str" => (first | refine eq_is (v := true) (by decide +kernel) ?_ | refine eq_is (v := false) (by decide +kernel) ?_ | refine eq_is (by assumption) ?_)
  k_with "truthy str" => (first | with_reducible refine truth_one ?_ | (with_reducible (refine truth_lit (v := false) (by decide +kernel) ?_)) | (with_reducible (refine truth_lit (v := true) (by decide +kernel) ?_)) | (with_reducible (refine truth_tx (by omega) ?_ ?_) <;> intro hw9))
  k_with "inplaceOp Add str str" => (refine iadd_tx (by ((try simp only [List.length_cons, List.length_nil]); omega)) ?_; intro t9 tk9)
  k_with "eval Name" => (k_here; k_dflt (refine' ld ?k19z ?k29z ?_; (case k19z => k_asm); (case k29z => (first | assumption | (refine if_keep (by decide +kernel) ?_; first | assumption | (refine if_keep (by decide +kernel) ?_; first | assumption | (refine if_keep (by decide +kernel) ?_; assumption))))); k_whole))
  k_with "call ref" => (
    (with_reducible show wpAny _ _ (call (Value.ref 585) _ _) _ _ _)
    refine' read_end ⟨by assumption, by assumption, Fr.keep (by assumption)⟩ (Sio.intro (Own.sub (Own.of_news (by assumption)) ?O9z) ?b19z ?b29z ?b39z ?b49z ?b59z) ?hc9z ?hl9z ?hdp9z ?_
    (case O9z => (refine List.forall_mem_cons.mpr ⟨?_, List.forall_mem_cons.mpr ⟨?_, List.forall_mem_nil _⟩⟩ <;> k_mem))
    (case b19z => assumption)
    (case b29z => assumption)
    (case b39z => assumption)
    (case b49z => assumption)
    (case b59z => assumption)
    (case hc9z => assumption)
    (case hl9z => assumption)
    (case hdp9z => (simp only [depth_deeper]; omega))
    intro h' tk' t' hk9
    (have F9 := Fr.after (by assumption) hk9 (fun q => nomatch q) (fun _ q => nomatch q))
    (have N9 := News.after (by assumption) hk9 (fun _ _ q => nomatch q))
    clear hk9
    (try k_sweep))
  k_with "exec If" => (refine wpAny_If ?_)
  k_with "execs nil" => (refine wpAny_execs_nil ?_)
  k_with "execs cons" => ((with_reducible refine wpAny_execs_cons ?_); (try dsimp only); (try k_fold); (try (with_reducible refine wp_tok ?_; intro tk9)))
  trivial
theorem reg_C8_1 : True := by
  k_with "getAttr ref" => (
    (with_reducible show wpAny _ _ (getAttr (Value.ref _) (PySem.Str.ofString "punctuation_chars") _) _ _ _)
    (k_dflt (refine' get_prop ?k19z ?k29z ?k39z ?k49z ?k59z ?k69z ?k79z ?k89z ?k99z ?_; (case k19z => k_asm); (case k29z => k_asm); (case k39z => k_inst); (case k49z => k_is); (case k59z => k_is); (case k69z => k_is); (case k79z => k_is); (case k89z => k_is); (case k99z => k_is); k_whole))
    (refine' punct_code ⟨by assumption, by assumption, Fr.keep (by assumption)⟩ (Own.sub (Own.of_news (by assumption)) ?O9z) ?hb9z ?hdp9z ?_)
    (case O9z => (refine List.forall_mem_cons.mpr ⟨?_, List.forall_mem_cons.mpr ⟨?_, List.forall_mem_nil _⟩⟩ <;> k_mem))
    (case hb9z => k_get)
    (case hdp9z => (simp only [depth_deeper, depth_under_make, depth_in1]; omega))
    intro h' tk' hk9
    (have F9 := Fr.after (by assumption) hk9 (fun q => nomatch q) (fun _ q => nomatch q))
    (have N9 := News.after (by assumption) hk9 (fun _ _ q => nomatch q))
    clear hk9
    (show wpAny _ _ (handedOut _) _ _ _)
    (refine handed_on rfl ?_)
    (try dsimp only)
    (try k_sweep))
  trivial
theorem read_token_none {w : World} {p : Program} {loose : List Str} {mg mb : Str → Option Value} {g : Heap} {A : Around} {s : Shared} {Q E : Value → Shared → Prop}
  {x d sx dsx pb fs : Addr} {line : List Nat}
  (C : Cx w p loose mg mb g s.heap) (hh : A.handled = none) (hdp : A.depth ≤ 560) (hlen : line.length ≤ 1000)
  (I : Lx g s.heap x d sx dsx pb fs line line.length none (tx []))
  (hret : ∀ h' tk', Keeps [d, dsx] s.heap h' → Lx g h' x d sx dsx pb fs line line.length none (tx []) → Q .none { s with heap := h', toks := tk' }) :
  wpAny (model P0 w) A (call (.ref 742) [.ref x]) Q E s := by
  obtain ⟨es, n, O1, ⟨es2, n2, tb, tp, O2, hbuf, hpos, hchk, hrd, hle⟩, a⟩ := I
  obtain ⟨O, q1, q2, q3, q4, q5, q6, q7, q8, q9, q10⟩ := lx_open O1 O2 hbuf a.m4
  have a0 := a
  obtain ⟨a1, a2, a3, ⟨t4, a4⟩, ⟨t5, a5⟩, ⟨t6, a6⟩, a7, ⟨t8, a8⟩, ⟨t9, a9⟩, ⟨t10, a10⟩, ⟨t11, a11⟩, a12, ⟨t13, a13⟩, ⟨t14, a14⟩, a15, a16, ⟨t17, a17⟩, a18, a19, a20, a22, a21⟩ := a
  dsimp only at a11
  have hc : line.length ≤ line.length := Nat.le_refl _
  tb_start
  intro g' L' h' F' N' X' T' hG9 hg9
  dsimp only
  k_fold
  repeat' (first | (k_unfold; (try dsimp only)) | ((fail_if_success (with_reducible show wpAny _ _ (exec (PySem.Stmt.While _ _ _ _) _) _ _ _)); walk1))
  refine while_by (fun n9 s9 => n9 = 0 ∧ s9 = _) 0 ⟨rfl, rfl⟩ ?_
  rintro E' n9 s9 ⟨rfl, rfl⟩
  (try dsimp only)
  (try k_fold)
  k_steps
  all_goals (repeat' (first | (dsimp only) | (k_unfold; dsimp only)))
  rename Fr _ _ _ _ => F8
  rename News _ _ _ _ => N8
  refine hret _ _ (keeps_out hG9 F8 (fun p hp => (O p hp).1) ?_) ?_
  · tb_rel
  · exact lx_end (Own.back N8 hg9) (by assumption) (by assumption) (by assumption) (by assumption) (by assumption) ((a0.setToken _).setToken _)

/-- a lexer's six objects behind a call that changed its two dicts -/
theorem lx_swap {g h h' : Heap} {L : Addr} {m : Str → Option Value} {x d sx dsx pb fs : Addr} {es es2 : List DictEntry} {n n2 pos : Nat} {line : List Nat} {st : Option Str} {tok : Str}
  (F : Fr g L h m) (N : News g L h [(x, instObj 774 d), (d, dictOf es n), (sx, instObj 639 dsx), (dsx, dictOf es2 n2), (pb, dequeObj), (fs, dequeObj)]) (k : Keeps [d, dsx] h h') (I : Lx g h' x d sx dsx pb fs line pos st tok) :
  Fr g L h' m ∧ ∃ es n es2 n2 tb tp, News g L h' [(x, instObj 774 d), (d, dictOf es n), (sx, instObj 639 dsx), (dsx, dictOf es2 n2), (pb, dequeObj), (fs, dequeObj)] ∧
    getL "_StringIO__buf" es2 = some (some (.str (tx line) tb)) ∧ getL "_StringIO__pos" es2 = some (some (.int ((pos : Nat) : Int) tp)) ∧ getL "_StringIO__check" es2 = some none ∧ getL "read" es2 = some none ∧ es2.length ≤ 50 ∧ LxA es sx pb fs st tok := by
  have h1 := (N (d, dictOf es n) (by first | kse_has | simp)).2
  have h2 := (N (dsx, dictOf es2 n2) (by first | kse_has | simp)).2
  refine ⟨Mine.Fr.after F k ?_ ?_, ?_⟩
  · intro q; simp only [List.mem_cons, List.not_mem_nil, or_false] at q; rcases q with q | q
    · exact h1.1 q.symm
    · exact h2.1 q.symm
  · intro a q; simp only [List.mem_cons, List.not_mem_nil, or_false] at q; rcases q with rfl | rfl
    · exact h1.2
    · exact h2.2
  · obtain ⟨es', n', O1, ⟨es2', n2', tb, tp, O2, b1, b2, b3, b4, b5⟩, a⟩ := I
    refine ⟨es', n', es2', n2', tb, tp, ?_, b1, b2, b3, b4, b5, a⟩
    intro p hp
    simp only [List.mem_cons, List.not_mem_nil, or_false] at hp
    rcases hp with rfl | rfl | rfl | rfl | rfl | rfl
    · exact ⟨(O1 _ (by first | kse_has | simp)).1, (N (x, instObj 774 d) (by first | kse_has | simp)).2⟩
    · exact ⟨(O1 (d, dictOf es' n') (by first | kse_has | simp)).1, h1⟩
    · exact ⟨(O2 _ (by first | kse_has | simp)).1, (N (sx, instObj 639 dsx) (by first | kse_has | simp)).2⟩
    · exact ⟨(O2 (dsx, dictOf es2' n2') (by first | kse_has | simp)).1, h2⟩
    · exact ⟨(O1 _ (by first | kse_has | simp)).1, (N (pb, dequeObj) (by first | kse_has | simp)).2⟩
    · exact ⟨(O1 _ (by first | kse_has | simp)).1, (N (fs, dequeObj) (by first | kse_has | simp)).2⟩
theorem reg_C8_2 : True := by
  k_with "truthy ref" => (refine truthy_deque (News.get (by assumption) (by k_mem)) ?_)
  trivial
theorem reg_C8_3 : True := by
  k_with "call ref" => (
    (with_reducible show wpAny _ _ (call (Value.ref 742) _ _) _ _ _)
    first
    | refine' read_token_ok ⟨by assumption, by assumption, Fr.keep (by assumption)⟩ (by assumption) ?hdp9z (by assumption) (by assumption) (by assumption) (by assumption) (lx_end (Own.of_news (by assumption)) (by assumption) (by assumption) (by assumption) (by assumption) (by assumption) (by assumption)) ?_
      (case hdp9z => (simp only [depth_deeper]; omega))
      intro h' tk' t' hk9 hs9
    | refine' read_token_none ⟨by assumption, by assumption, Fr.keep (by assumption)⟩ (by assumption) ?hdp9z (by assumption) (lx_end (Own.of_news (by assumption)) (by assumption) (by assumption) (by assumption) (by assumption) (by assumption) (by assumption)) ?_
      (case hdp9z => (simp only [depth_deeper]; omega))
      intro h' tk' hk9 hs9
    (obtain ⟨F9, es8, n8, es9, n9, tb9, tp9, N9, f91, f92, f93, f94, f95, a9⟩ := lx_swap (by assumption) (by assumption) hk9 hs9)
    clear hk9 hs9
    (have a8 := a9)
    (obtain ⟨a1, a2, a3, ⟨t4, a4⟩, ⟨t5, a5⟩, ⟨t6, a6⟩, a7, ⟨t8, a8⟩, ⟨t9, a9⟩, ⟨t10, a10⟩, ⟨t11, a11⟩, a12, ⟨t13, a13⟩, ⟨t14, a14⟩, a15, a16, ⟨t17, a17⟩, a18, a19, a20, a22, a21⟩ := a9)
    (try k_sweep))
  trivial
theorem get_token_ok {w : World} {p : Program} {loose : List Str} {mg mb : Str → Option Value} {g : Heap} {A : Around} {s : Shared} {Q E : Value → Shared → Prop}
  {x d sx dsx pb fs : Addr} {line pre word suf : List Nat}
  (C : Cx w p loose mg mb g s.heap) (hh : A.handled = none) (hdp : A.depth ≤ 550) (hlen : line.length ≤ 1000)
  (hline : line = pre ++ 39 :: (word ++ 39 :: suf)) (hw : ∀ c ∈ word, c ≠ 10 ∧ c ≠ 39) (hsuf : suf = [] ∨ ∃ r, suf = 32 :: r)
  (I : Lx g s.heap x d sx dsx pb fs line pre.length (some (tx [32])) (tx []))
  (hret : ∀ h' tk' t', Keeps [d, dsx] s.heap h' → Lx g h' x d sx dsx pb fs line (pre.length + 2 + word.length + suf.length.min 1) (if suf = [] then none else some (tx [32])) (tx []) → Q (.str (tx word) t') { s with heap := h', toks := tk' }) :
  wpAny (model P0 w) A (call (.ref 735) [.ref x]) Q E s := by
  obtain ⟨es, n, O1, ⟨es2, n2, tb, tp, O2, hbuf, hpos, hchk, hrd, hle⟩, a⟩ := I
  obtain ⟨O, q1, q2, q3, q4, q5, q6, q7, q8, q9, q10⟩ := lx_open O1 O2 hbuf a.m4
  have a0 := a
  obtain ⟨a1, a2, a3, ⟨t4, a4⟩, ⟨t5, a5⟩, ⟨t6, a6⟩, a7, ⟨t8, a8⟩, ⟨t9, a9⟩, ⟨t10, a10⟩, ⟨t11, a11⟩, a12, ⟨t13, a13⟩, ⟨t14, a14⟩, a15, a16, ⟨t17, a17⟩, a18, a19, a20, a22, a21⟩ := a
  dsimp only at a11
  tb_start
  intro g' L' h' F' N' X' T' hG9 hg9
  dsimp only
  k_fold
  repeat' (first | (k_unfold; (try dsimp only)) | ((fail_if_success (with_reducible show wpAny _ _ (exec (PySem.Stmt.While _ _ _ _) _) _ _ _)); walk1))
  refine while_by (fun n9 s9 => n9 = 0 ∧ s9 = _) 0 ⟨rfl, rfl⟩ ?_
  rintro E' n9 s9 ⟨rfl, rfl⟩
  (try dsimp only)
  (try k_fold)
  k_steps
  all_goals (repeat' (first | (dsimp only) | (k_unfold; dsimp only)))
  rename Fr _ _ _ _ => F8
  rename News _ _ _ _ => N8
  refine hret _ _ _ (keeps_out hG9 F8 (fun p hp => (O p hp).1) ?_) ?_
  · tb_rel
  · exact lx_end (Own.back N8 hg9) (by assumption) (by assumption) (by assumption) (by assumption) (by assumption) (by assumption)
theorem get_token_none {w : World} {p : Program} {loose : List Str} {mg mb : Str → Option Value} {g : Heap} {A : Around} {s : Shared} {Q E : Value → Shared → Prop}
  {x d sx dsx pb fs : Addr} {line : List Nat}
  (C : Cx w p loose mg mb g s.heap) (hh : A.handled = none) (hdp : A.depth ≤ 550) (hlen : line.length ≤ 1000)
  (I : Lx g s.heap x d sx dsx pb fs line line.length none (tx []))
  (hret : ∀ h' tk', Keeps [d, dsx] s.heap h' → Lx g h' x d sx dsx pb fs line line.length none (tx []) → Q .none { s with heap := h', toks := tk' }) :
  wpAny (model P0 w) A (call (.ref 735) [.ref x]) Q E s := by
  obtain ⟨es, n, O1, ⟨es2, n2, tb, tp, O2, hbuf, hpos, hchk, hrd, hle⟩, a⟩ := I
  obtain ⟨O, q1, q2, q3, q4, q5, q6, q7, q8, q9, q10⟩ := lx_open O1 O2 hbuf a.m4
  have a0 := a
  obtain ⟨a1, a2, a3, ⟨t4, a4⟩, ⟨t5, a5⟩, ⟨t6, a6⟩, a7, ⟨t8, a8⟩, ⟨t9, a9⟩, ⟨t10, a10⟩, ⟨t11, a11⟩, a12, ⟨t13, a13⟩, ⟨t14, a14⟩, a15, a16, ⟨t17, a17⟩, a18, a19, a20, a22, a21⟩ := a
  dsimp only at a11
  tb_start
  intro g' L' h' F' N' X' T' hG9 hg9
  dsimp only
  k_fold
  repeat' (first | (k_unfold; (try dsimp only)) | ((fail_if_success (with_reducible show wpAny _ _ (exec (PySem.Stmt.While _ _ _ _) _) _ _ _)); walk1))
  refine while_by (fun n9 s9 => n9 = 0 ∧ s9 = _) 0 ⟨rfl, rfl⟩ ?_
  rintro E' n9 s9 ⟨rfl, rfl⟩
  (try dsimp only)
  (try k_fold)
  k_steps
  all_goals (repeat' (first | (dsimp only) | (k_unfold; dsimp only)))
  rename Fr _ _ _ _ => F8
  rename News _ _ _ _ => N8
  refine hret _ _ (keeps_out hG9 F8 (fun p hp => (O p hp).1) ?_) ?_
  · tb_rel
  · exact lx_end (Own.back N8 hg9) (by assumption) (by assumption) (by assumption) (by assumption) (by assumption) (by assumption)
end
theorem reg_C8_end : True := by
  k_with_none
  trivial
-- Enter2
section
theorem hidden_sub {g h : Heap} {l : List (Addr × Obj)} (S : ∀ b o, g.get? b = some o → h.get? b = some o) (O : Own g h l) : ∀ b o, g.get? b = some o → (hideAll h (l.map (·.1))).get? b = some o :=
  fun b o e => hideAll_get _ (S b o e) fun q => by
    obtain ⟨x, hx, rfl⟩ := List.mem_map.mp q
    rw [(O x hx).2] at e; cases e
/-- a def of the written part that bears cells -/
theorem enterC {w : World} {A : Around} {s : Shared} {g : Heap} {R : Result → Shared → Prop} {p : Program} {loose : List Str} {mg mb : Str → Option Value}
    {name qual : Str} {params : Arguments} {body : List Stmt} {scope : Scope} {dV kV doc pm cdv ct oc : Value} {an od : Option Addr} {osl : Array (Option Value)} {f : Addr} {args : Args} {binds : List (Str × Value)} (l : List (Addr × Obj))
    (C : Cx w p loose mg mb g s.heap) (O : Own g s.heap l)
    (ho : (hd.heap_1 w.params).lookup f = some ⟨oc, od, .func (fnOf name qual params body scope dV kV doc pm an cdv ct), osl⟩) (hcd : codeIn (hd.heap_1 w.params) cdv qual = true) (hroom : A.depth < recursionLimit)
    (hbind : BindsTo s (fnOf name qual params body scope dV kV doc pm an cdv ct) args binds) (hkind : (binds.all fun y => scope.names.lookup y.1 == some .local || scope.names.lookup y.1 == some .cell) = true)
    (hnd : ((cellsFrom 0 scope.names []).map (·.1)).Nodup)
    (h : ∀ g' L' h₁ tk cells, Fr g' L' h₁ (bindL (envOfC qual scope L' f cdv).kindOf binds fun _ => none) → News g' L' h₁ (cells ++ l) →
      CellsAre (bindC (envOfC qual scope L' f cdv).kindOf binds fun _ => none) (cellsFrom (L' + 1) scope.names []) cells → (hd.heap_1 w.params).In g' → TopRead p loose mg mb g' →
      (∀ b o, s.heap.get? b = some o → b ∉ l.map (·.1) → g'.get? b = some o) → (∀ b o, g.get? b = some o → g'.get? b = some o) → (∀ p ∈ l, p.1 < L') →
      wpAny (model P0 w) (A.deeper (envOfC qual scope L' f cdv)) (execs body (envOfC qual scope L' f cdv))
        (fun fl s' => R (.ok (.ret (match fl with | .ret v => v | _ => .none))) s')
        (fun e s' => wpAny (model P0 w) (A.deeper (envOfC qual scope L' f cdv)) (leaving (envOfC qual scope L' f cdv) e) (fun _ s'' => R (.error e) s'') (fun e' s'' => R (.error e') s'') s')
        { s with heap := h₁, toks := tk })
    (hco : scope.isCoroutine = false) (hgen : scope.isGenerator = false) (hk : scope.kind = .function) : codeAny (model P0 w) A (.call (.ref f) args) R s := by
  have hX := C.X.keeps C.S
  have hsub := hidden_sub C.S O
  refine codeAny_call_function (fd := fnOf name qual params body scope dV kV doc pm an cdv ct) hroom (hX _ _ ho) rfl hco hgen rfl (codeRec_of hX hcd) (hbind _ _ _ _ ?_)
  refine wpAny_newFunctionEnv_cells hk (kindsX hkind _) fun env' he s' x => ?_
  subst he
  refine ⟨(C.T.nolimit.keeps C.S).keeps x.toInCall.keep, codeAny_func ?_⟩
  obtain ⟨h₁, tk, rfl, _⟩ := x.done
  have hk₁ := x.toInCall.keep
  obtain ⟨cells, NC, Y⟩ := Cl.news (h₀ := s.heap) (Nat.le_refl _) fun n c hm => ⟨x.cell n c (lookup_of_mem_nodup (cellsFrom_names scope.names 0 (s.heap.objs.size + 1) [] [] rfl ▸ hnd) hm), x.above n c hm⟩
  refine h (hideAll s.heap (l.map (·.1))) s.heap.objs.size h₁ tk cells ⟨x.toInCall.ns, fun b o e => hk₁ b o (of_hideAll _ e), Nat.le_of_eq (hideAll_size _ _)⟩ (fun p hp => ?_) Y (C.X.keeps hsub) (C.T.keeps hsub) (fun b o e n => hideAll_get _ e n) hsub
    (fun p hp => Heap.lt_size (O p hp).1)
  rcases List.mem_append.mp hp with hp | hp
  · refine ⟨(NC p hp).1, (NC p hp).2.1, ?_⟩
    cases q : (hideAll s.heap (l.map (·.1))).get? p.1 with
    | none => rfl
    | some o => have := of_hideAll _ q; rw [(NC p hp).2.2] at this; cases this
  · exact ⟨hk₁ _ _ (O p hp).1, Nat.ne_of_lt (Heap.lt_size (O p hp).1), hideAll_none _ (List.mem_map_of_mem hp)⟩

/-- a function that was made on the way, over cells of its maker -/
theorem enterM {w : World} {A : Around} {s : Shared} {g : Heap} {R : Result → Shared → Prop} {p : Program} {loose : List Str} {mg mb : Str → Option Value}
    {name qual : Str} {params : Arguments} {body : List Stmt} {scope : Scope} {cl : List (Str × Addr)} {doc pm ctv : Value} {c' : Addr} {f : Addr} {args : Args} {binds : List (Str × Value)} (l : List (Addr × Obj))
    (C : Cx w p loose mg mb g s.heap) (O : Own g s.heap l)
    (ho : (f, fnMade name qual params body scope cl doc pm c' ctv) ∈ l) (hcd : s.heap.CodeRec (.ref c') qual) (hroom : A.depth < recursionLimit)
    (hbind : BindsTo s (fnX name qual params body scope cl .none .none doc pm none (.ref c') ctv) args binds) (hloc : ∀ y ∈ binds, scope.names.lookup y.1 = some .local)
    (h : ∀ g' L' h₁, Fr g' L' h₁ (fun y => binds.reverse.lookup y) → News g' L' h₁ l → (hd.heap_1 w.params).In g' → TopRead p loose mg mb g' → (∀ b o, s.heap.get? b = some o → b ∉ l.map (·.1) → g'.get? b = some o) → (∀ b o, g.get? b = some o → g'.get? b = some o) →
      wpAny (model P0 w) (A.deeper (envX qual scope L' f (.ref c') cl)) (execs body (envX qual scope L' f (.ref c') cl))
        (fun fl s' => R (.ok (.ret (match fl with | .ret v => v | _ => .none))) s')
        (fun e s' => wpAny (model P0 w) (A.deeper (envX qual scope L' f (.ref c') cl)) (leaving (envX qual scope L' f (.ref c') cl) e) (fun _ s'' => R (.error e) s'') (fun e' s'' => R (.error e') s'') s')
        { s with heap := h₁, toks := s.toks + binds.length })
    (hco : scope.isCoroutine = false) (hgen : scope.isGenerator = false) (hk : scope.kind = .function)
    (hcell : ∀ x ∈ scope.names, x.2 ≠ .cell) : codeAny (model P0 w) A (.call (.ref f) args) R s := by
  have hsub := hidden_sub C.S O
  refine codeAny_call_def (fd := fnX name qual params body scope cl .none .none doc pm none (.ref c') ctv) (body := body) (binds := binds) hroom (O _ ho).1 rfl (C.T.nolimit.keeps C.S) hcd rfl hbind hcell hloc (fun h₁ hns hk₁ => ?_) hco hgen hk
  exact h (hideAll s.heap (l.map (·.1))) s.heap.objs.size h₁ ⟨hns, fun b o e => hk₁ b o (of_hideAll _ e), Nat.le_of_eq (hideAll_size _ _)⟩
    (fun q hq => ⟨hk₁ _ _ (O q hq).1, Nat.ne_of_lt (Heap.lt_size (O q hq).1), hideAll_none _ (List.mem_map_of_mem hq)⟩) (C.X.keeps hsub) (C.T.keeps hsub) (fun b o e n => hideAll_get _ e n) hsub
/-- the def that stands at place i of a function's body -/
def defAt : Option Obj → Nat → Option (Str × Arguments × List Stmt × Scope × Pos)
  | some ⟨_, _, .func fd, _⟩, i => match fd.body with
    | .stmts b => match b[i]? with
      | some (.FunctionDef n ps bd _ _ _ sc _ _ pos) => some (n, ps, bd, sc, pos)
      | _ => none
    | _ => none
  | _, _ => none
end
-- Mk
section
/-- the module's way to the built-ins -/
def Bm (mg : Str → Option Value) (g : Heap) : Prop := ∃ bm ob, mg "__builtins__" = some (.ref bm) ∧ bm ≠ builtinsNs ∧ g.get? bm = some ob ∧ ob.cls = .type "module" ∧ ob.dict = some builtinsNs ∧ ob.data = .plain
theorem Bm.keeps {mg : Str → Option Value} {g g' : Heap} (b : Bm mg g) (k : ∀ b o, g.get? b = some o → g'.get? b = some o) : Bm mg g' := by
  obtain ⟨bm, ob, b1, b2, b3, b4⟩ := b
  exact ⟨bm, ob, b1, b2, k _ _ b3, b4⟩
section
variable {M : Model} {A : Around} {E : Value → Shared → Prop} {s : Shared} {h₀ : Heap} {L a c P : Addr} {m mg mb : Str → Option Value} {cn : Str} {cs : Scope} {ccd : Value} {cl : List (Str × Addr)} {news news' : List (Addr × Obj)}
  {p : Program} {loose : List Str} {name qual : Str} {params : Arguments} {body : List Stmt} {scope : Scope} {ps : Array Value} {pos : Pos} {firstLine : Nat} {clos : List (Str × Addr)} {Q : Value → Shared → Prop}
theorem mk_at (F : Fr h₀ L s.heap m) (T : TopRead p loose mg mb h₀) (B : Bm mg h₀) (hP : s.heap.get? P = some (tabObj ps)) : s.heap.Ns mainGlobals mg ∧ mainGlobals ≠ P ∧ s.heap.BuiltinsAt mg P := by
  have hgs := T.g.keeps F.keep
  obtain ⟨bm, ob, b1, b2, b3, b4, b5, b6⟩ := B
  have b3' := F.keep _ _ b3
  have hgP : mainGlobals ≠ P := fun q => by
    obtain ⟨o, es, ep, e, hd, _⟩ := hgs
    rw [q, hP] at e; cases e; cases hd
  have hbP : bm ≠ P := fun q => by rw [q, hP] at b3'; cases b3'; cases b4
  have hbG : bm ≠ mainGlobals := fun q => by
    obtain ⟨o, es, ep, e, hd, _⟩ := T.g
    rw [q, e] at b3; cases b3; rw [hd] at b6; cases b6
  exact ⟨hgs, hgP, bm, ob, b1, b2, hbG, hbP, b3', b4, b5, b6⟩
/-- a def within a def, the first time -/
theorem mk_new {U : Obj → List (Addr × Obj)} (F : Fr h₀ L s.heap m) (N : News h₀ L s.heap news) (T : TopRead p loose mg mb h₀) (B : Bm mg h₀) (C : CodeHd h₀ c P) (hcd : ccd = .ref c) (hu : UpdF P (tabObj ps) news U) (ht : TriplesOk ps.toList) (hnf : codeAmong pos ps.toList = none)
    (hcl : closureFor scope (envX cn cs L a ccd cl) = pure clos)
    (h : ∀ f c' oc vs t ctv doc h' tk, Fr h₀ L h' m → News h₀ L h' ((f, fnMade name qual params body scope clos doc ((mg "__name__").getD .none) c' ctv) :: (c', oc) :: U (tabObj (ps ++ #[rawInt pos.line, rawInt pos.col, .ref c']))) →
      oc.data = .fields vs → vs[1]? = some (.str qual t) → (∀ q ∈ news, q.1 < c') → c' < f → Q (.ref f) { s with heap := h', toks := tk }) :
    wpAny M A (makeFunction name qual params (.stmts body) scope (envX cn cs L a ccd cl) [] [] [] pos firstLine) Q E s := by
  obtain ⟨pre, post, rfl, hU, u1, u2⟩ := hu.split
  have hm := N (P, tabObj ps) (List.mem_append_right _ (.head _))
  obtain ⟨hgs, hgP, hB⟩ := mk_at F T B hm.1
  refine makeFunction_K (mg := mg) hcl rfl hgs hcd (C.keeps F.keep) hm.1 ht hnf hgP hB fun c' ctv doc h' tk hx hge hlt hrec htb => ?_
  obtain ⟨cc, oc, vs, t, e2, hoc, hd, hv⟩ := hrec
  cases e2
  have hLc : L < c' := Nat.lt_of_lt_of_le F.ns.lt hge
  have fresh : ∀ b, L < b → h₀.get? b = none := fun b hb => Heap.get?_none_of_le (Nat.le_trans F.above (Nat.le_of_lt hb))
  have up : ∀ {b o}, h'.get? b = some o → (h'.push (fnMade name qual params body scope clos doc ((mg "__name__").getD .none) c' ctv)).get? b = some o := fun e => Heap.get?_push_of_some _ e
  refine h h'.objs.size c' oc vs t ctv doc _ tk ⟨(F.ns.extBut hx hm.2.1.symm).push _, fun b o e => up (hx b o (fun q => by rw [q, hm.2.2] at e; cases e) (F.keep b o e)), F.above⟩ (fun q hq => ?_) hd hv
    (fun q hq => Nat.lt_of_lt_of_le (Heap.lt_size (N q hq).1) hge) hlt
  rw [hU] at hq
  simp only [List.mem_cons, List.mem_append] at hq
  rcases hq with rfl | rfl | hq | rfl | hq
  · exact ⟨Heap.get?_push_size _ rfl, Nat.ne_of_gt (Nat.lt_trans hLc hlt), fresh _ (Nat.lt_trans hLc hlt)⟩
  · exact ⟨up hoc, Nat.ne_of_gt hLc, fresh _ hLc⟩
  · have n := N q (List.mem_append_left _ hq)
    exact ⟨up (hx _ _ (u1 q hq) n.1), n.2⟩
  · exact ⟨up htb, hm.2⟩
  · have n := N q (List.mem_append_right _ (.tail _ hq))
    exact ⟨up (hx _ _ (u2 q hq) n.1), n.2⟩
/-- a def within a def, once more -/
theorem mk_hit {c' : Addr} (F : Fr h₀ L s.heap m) (N : News h₀ L s.heap news) (T : TopRead p loose mg mb h₀) (B : Bm mg h₀) (C : CodeHd h₀ c P) (hcd : ccd = .ref c) (hm : (P, tabObj ps) ∈ news) (ht : TriplesOk ps.toList) (hf : codeAmong pos ps.toList = some (.ref c'))
    (hcl : closureFor scope (envX cn cs L a ccd cl) = pure clos)
    (h : ∀ f ctv doc h' tk, Fr h₀ L h' m → News h₀ L h' ((f, fnMade name qual params body scope clos doc ((mg "__name__").getD .none) c' ctv) :: news) → (∀ q ∈ news, q.1 < f) → Q (.ref f) { s with heap := h', toks := tk }) :
    wpAny M A (makeFunction name qual params (.stmts body) scope (envX cn cs L a ccd cl) [] [] [] pos firstLine) Q E s := by
  have hm' := N _ hm
  obtain ⟨hgs, hgP, hB⟩ := mk_at F T B hm'.1
  refine makeFunction_hit (mg := mg) hcl rfl hgs hcd (C.keeps F.keep) hm'.1 ht hf hB fun ctv doc h' tk hk hsz => ?_
  have hLs : L < h'.objs.size := Nat.lt_of_lt_of_le F.ns.lt hsz
  refine h h'.objs.size ctv doc _ tk ⟨(F.ns.keeps hk).push _, fun b o e => Heap.get?_push_of_some _ (hk b o (F.keep b o e)), F.above⟩ (fun q hq => ?_) (fun q hq => Nat.lt_of_lt_of_le (Heap.lt_size (N q hq).1) hsz)
  rcases List.mem_cons.mp hq with rfl | hq
  · exact ⟨Heap.get?_push_size _ rfl, Nat.ne_of_gt hLs, Heap.get?_none_of_le (Nat.le_trans F.above (Nat.le_of_lt hLs))⟩
  · exact ⟨Heap.get?_push_of_some _ (hk _ _ (N q hq).1), (N q hq).2⟩
end
end
-- C9
section
theorem reg_C9 : True := by
  k_with_none
  k_with "size_fits" => (first | assumption | ((try simp only [tx_length]); rw [sizeLine_eq]; omega))
  k_with "k_ne" => (first | assumption | (refine Ne.symm ?_; assumption))
  k_with "tb_rel" => (first
    | exact List.forall_mem_nil _
    | (refine List.forall_mem_cons.mpr ⟨?ta9z, ?tb9z⟩; (case ta9z => first | exact fun _ => News.get (by assumption) (by k_mem) | exact fun h9 => absurd (by simp) h9); (case tb9z => tb_rel)))
  k_with "tb_start" => (
    refine wpAny_call ?_
    refine' enter _ (Cx.X (by assumption)) (Cx.T (by assumption)) (Cx.S (by assumption)) (by assumption) ?k19z ?k29z ?k39z ?k49z ?k59z ?_ ?k69z ?k79z ?k89z ?k99z
    (case k19z => k_is)
    (case k29z => k_is)
    (case k39z => ((try simp only [depth_deeper, depth_under_make, depth_in1, recursionLimit]); omega))
    (case k49z => first | exact BindsTo.of_eq rfl | exact binds_K (Frag.In.keeps (Cx.X (by assumption)) (Cx.S (by assumption))) rfl (by k_is) rfl rfl rfl)
    (case k59z => exact locs rfl)
    (case k69z => exact rfl)
    (case k79z => exact rfl)
    (case k89z => exact rfl)
    (case k99z => decide)
    skip)
  k_with "exec If" => (refine wpAny_If ?_)
  k_with "execs nil" => (refine wpAny_execs_nil ?_)
  k_with "execs cons" => ((with_reducible refine wpAny_execs_cons ?_); (try dsimp only); (try k_fold); (try (with_reducible refine wp_tok ?_; intro tk9)))
  trivial
/-- a token reader's attributes -/
structure NlA (es : List DictEntry) (v : Value) (pb : Addr) (ln : Nat) : Prop where
  lineno : ∃ t, getL "lineno" es = some (some (.int (ln : Int) t))
  instream : getL "instream" es = some (some v)
  whitespace : ∃ t, getL "whitespace" es = some (some (.str "\n\t\r " t))
  pushback : getL "pushback" es = some (some (.ref pb))
  m1 : getL "_read_char" es = some none
  m2 : getL "get_token" es = some none
  m3 : getL "push_token" es = some none
  m4 : getL "read" es = some none
  len : es.length ≤ 50
theorem nl_fin {g h : Heap} {x d pb : Addr} {ox od ol : Obj} (O : Own g h [(pb, ol), (x, ox), (d, od)]) : Own g h [(x, ox), (d, od), (pb, ol)] := O.sub (by simp)
theorem nl_new {w : World} {p : Program} {loose : List Str} {mg mb : Str → Option Value} {g : Heap} {A : Around} {s : Shared} {Q E : Value → Shared → Prop} {v : Value}
  (C : Cx w p loose mg mb g s.heap) (hd : A.depth ≤ 500)
  (hret : ∀ (x d pb : Addr) es n ep h' tk', Keeps [] s.heap h' → (∀ a ∈ [x, d, pb], s.heap.get? a = none) → Own g h' [(x, instObj 82 d), (d, dictOf es n), (pb, W.listOf #[] ep)] → NlA es v pb 1 → Q (.ref x) { s with heap := h', toks := tk' }) :
  wpAny (model P0 w) A (call (.ref 82) [v]) Q E s := by
  have hX := C.X.keeps C.S
  refine wpAny_call ?_
  obtain ⟨hp, gg, dd, tt, oo⟩ := s
  refine make_core (makes_of hX (by k_is)) (looks_findIn hX (r := some (.ref 58)) (by k_is)) (fun self => bind_fn hX self (by k_is)) (.inl rfl) ?_
  have k : Keeps [] hp ((hp.push emptyDict).push (instObj 82 hp.objs.size)) := fun b o e _ => Heap.get?_push_of_some _ (Heap.get?_push_of_some _ e)
  have C' : Cx w p loose mg mb g ((hp.push emptyDict).push (instObj 82 hp.objs.size)) := ⟨C.X, C.T, k.sub C.S (fun _ q => nomatch q)⟩
  have e1 : ((hp.push emptyDict).push (instObj 82 hp.objs.size)).get? (hp.objs.size + 1) = some (instObj 82 hp.objs.size) := by
    have := Heap.get?_push_size (h := hp.push emptyDict) (o := instObj 82 hp.objs.size) rfl
    rwa [Heap.size_push] at this
  have e3 : ((hp.push emptyDict).push (instObj 82 hp.objs.size)).get? hp.objs.size = some (dictOf [] 0) := Heap.get?_push_of_some _ (Heap.get?_push_size _ rfl)
  have e2 : hp.get? (hp.objs.size + 1) = none := Heap.get?_none_of_le (Nat.le_succ _)
  have e4 : hp.get? hp.objs.size = none := Heap.get?_none_of_le (Nat.le_refl _)
  have O : Own g ((hp.push emptyDict).push (instObj 82 hp.objs.size)) [(hp.objs.size + 1, instObj 82 hp.objs.size), (hp.objs.size, dictOf [] 0)] := fun p hp' => by
    rcases List.mem_cons.mp hp' with rfl | hp'
    · exact ⟨e1, none_of C.S e2⟩
    · rw [List.mem_singleton.mp hp']; exact ⟨e3, none_of C.S e4⟩
  generalize hp.objs.size + 1 = x at *
  generalize hp.objs.size = d at *
  generalize (hp.push emptyDict).push (instObj 82 d) = h₀ at *
  have hxd := inst_ne_dict O
  refine' enter _ C'.X C'.T C'.S O ?k1 ?k2 ?k3 ?k4 ?k5 ?_ ?k6 ?k7 ?k8 ?k9
  case k1 => k_is
  case k2 => k_is
  case k3 => show A.depth + 1 < recursionLimit; exact Nat.lt_of_le_of_lt (Nat.succ_le_succ hd) (by decide)
  case k4 => first | exact BindsTo.of_eq rfl | exact binds_K (C'.X.keeps C'.S) rfl (by k_is) rfl rfl rfl
  case k5 => exact locs rfl
  case k6 => exact rfl
  case k7 => exact rfl
  case k8 => exact rfl
  case k9 => decide
  intro g' L' h' F' N' X' T' hG9 hg9
  dsimp only
  k_fold
  k_steps
  all_goals (repeat' (first | (dsimp only) | (k_unfold; dsimp only)))
  rename Fr _ _ _ _ => F9
  rename News _ _ _ _ => N9
  dsimp only at N9
  have O9 := Own.back N9 hg9
  refine ⟨rfl, ?_⟩
  refine hret x d _ _ _ _ _ _ (k.fresh (keeps_out (chg := [d]) hG9 F9 (fun p hp => (O p hp).1) (by tb_rel)) (by simpa using e4)) ?_ (nl_fin O9) ?_
  · simp only [List.forall_mem_cons]
    exact ⟨e2, e4, fresh_of hG9 k e2 e4 (N9 _ (.head _)).2.2, List.forall_mem_nil _⟩
  · refine' ⟨?a1, ?a2, ?a3, ?a4, ?a5, ?a6, ?a7, ?a8, ?a9⟩
    all_goals (first | k_get | (refine' getL_ex ?th ?te; (case th => k_get); (case te => exact ⟨_, rfl⟩)) | exact Nat.le_of_ble_eq_true rfl | skip)
end
theorem reg_C9_end : True := by
  k_with_none
  trivial
-- Stm
section
def giveQual : Str := Str.ofString "_law_stream" ++ ".<locals>." ++ "_law_give"
/-- the inner def of _law_stream -/
def GiveIs (w : World) (nm : Str) (pa : Arguments) (bd : List Stmt) (sc : Scope) (pos : Pos) : Prop := defAt ((hd.heap_1 w.params).lookup 808) 2 = some (nm, pa, bd, sc, pos)
theorem defAt_is {K : Frag} {f : Addr} {i : Nat} {oc : Value} {od : Option Addr} {name qual : Str} {params : Arguments} {body : List Stmt} {scope : Scope} {dV kV doc pm cdv ct : Value} {an : Option Addr} {osl : Array (Option Value)} {n : Str} {pa : Arguments} {bd : List Stmt} {sc : Scope} {pos : Pos} {dl : List Expr} {rt : Option Expr} {tp : List TypeParam} {ts : Option Scope} {b : Str}
  (ho : K.lookup f = some ⟨oc, od, .func (fnOf name qual params body scope dV kV doc pm an cdv ct), osl⟩) (hb : body[i]? = some (.FunctionDef n pa bd dl rt tp sc ts b pos)) : defAt (K.lookup f) i = some (n, pa, bd, sc, pos) := by
  rw [ho]
  show (match body[i]? with | some (.FunctionDef n ps bd _ _ _ sc _ _ pos) => some (n, ps, bd, sc, pos) | _ => none) = _
  rw [hb]
theorem GiveIs.eq {w : World} {nm nm' : Str} {pa pa' : Arguments} {bd bd' : List Stmt} {sc sc' : Scope} {pos pos' : Pos} (h : GiveIs w nm pa bd sc pos) (h' : GiveIs w nm' pa' bd' sc' pos') : nm = nm' ∧ pa = pa' ∧ bd = bd' ∧ sc = sc' ∧ pos = pos' := by
  have := Option.some.inj (h.symm.trans h')
  simpa only [Prod.mk.injEq] using this
/-- the table of inner codes: empty, or it holds the inner def's code -/
def TabS (w : World) (g h : Heap) (ps : Array Value) : Prop :=
  Own g h [(803, tabObj ps)] ∧ (ps = #[] ∨ ∃ nm pa bd sc pos c', GiveIs w nm pa bd sc pos ∧ ps = #[rawInt pos.line, rawInt pos.col, .ref c'] ∧ h.CodeRec (.ref c') giveQual)
/-- a stream over text, read up to a -/
def Stm (w : World) (g h : Heap) (st dst f ct cp pl : Addr) (text : Str) (a : Nat) : Prop :=
  ∃ es n nm pa bd sc pos doc pm c' ctv o1 o2 tt ta ep, GiveIs w nm pa bd sc pos ∧
    Own g h [(st, instObj 82 dst), (dst, dictOf es n), (f, fnMade nm giveQual pa bd sc [("text", ct), ("place", cp)] doc pm c' ctv), (ct, o1), (cp, o2), (pl, W.listOf #[.int (a : Int) ta] ep)] ∧
    getL "read" es = some (some (.ref f)) ∧ o1.data = .cell (some (.str text tt)) ∧ o2.data = .cell (some (.ref pl)) ∧ h.CodeRec (.ref c') giveQual
theorem codeRec_keep {h h' : Heap} {c : List Addr} {c' : Addr} {q : Str} (x : h.CodeRec (.ref c') q) (k : Keeps c h h') (hn : c' ∉ c) : h'.CodeRec (.ref c') q := by
  obtain ⟨a, oc, vs, t, e, ho, hd, hv⟩ := x
  cases e
  exact ⟨_, oc, vs, t, rfl, k _ _ ho hn, hd, hv⟩
end
-- C10
section
theorem News.newerL {g h h' : Heap} {L : Addr} {m : Str → Option Value} {l l' : List (Addr × Obj)} (F : Fr g L h m) (N : News g L h l) (k : Keeps [] h h') (O : Own g h' l') (en : ∀ a ∈ l'.map (·.1), h.get? a = none) : News g L h' (l' ++ l) := fun p hp => by
  rcases List.mem_append.mp hp with hp | hp
  · refine ⟨(O p hp).1, fun q => ?_, (O p hp).2⟩
    obtain ⟨oL, _, _, hL, _⟩ := F.ns
    have := en _ (List.mem_map_of_mem hp)
    rw [q, hL] at this; cases this
  · exact ⟨k _ _ (N p hp).1 (fun q => nomatch q), (N p hp).2⟩
theorem reg_C10 : True := by
  k_with_none
  k_with "k_get" => (first | assumption | exact getL_put_eq | (refine Eq.trans (getL_put_ne (by decide +kernel)) ?_; k_get) | (refine' isSome_of ?h9z; case h9z => k_get) | (refine' isSome_of' ?h9z; case h9z => k_get) | exact rfl)
  k_with "k_put" => (exact rfl)
  k_with "setAttr ref" => (k_here; k_dflt (
    (refine' set_dict ?k19z ?k29z ?k39z ?k49z ?k59z ?k69z ?k79z ?k89z ?k99z ?k109z ?k119z ?k129z ?k139z ?_; (case k19z => k_asm); (case k29z => k_asm); (case k39z => k_asm); (case k49z => k_inst); (case k59z => exact rfl); (case k69z => k_is); (case k79z => k_is); (case k89z => k_is); (case k99z => k_is); (case k109z => k_get); (case k119z => exact rfl); (case k129z => k_upd); (case k139z => ((repeat (refine length_put_le ?_)); omega)); k_whole; intro h' F' N'; (try k_sweep))))
  k_with "size_fits" => (first | assumption | ((try simp only [tx_length]); rw [sizeLine_eq]; omega))
  k_with "k_ne" => (first | assumption | (refine Ne.symm ?_; assumption))
  k_with "tb_rel" => (first
    | exact List.forall_mem_nil _
    | (refine List.forall_mem_cons.mpr ⟨?ta9z, ?tb9z⟩; (case ta9z => first | exact fun _ => News.get (by assumption) (by k_mem) | exact fun h9 => absurd (by simp) h9); (case tb9z => tb_rel)))
  k_with "tb_start" => (
    refine wpAny_call ?_
    refine' enter _ (Cx.X (by assumption)) (Cx.T (by assumption)) (Cx.S (by assumption)) (by assumption) ?k19z ?k29z ?k39z ?k49z ?k59z ?_ ?k69z ?k79z ?k89z ?k99z
    (case k19z => k_is)
    (case k29z => k_is)
    (case k39z => ((try simp only [depth_deeper, depth_under_make, depth_in1, recursionLimit]); omega))
    (case k49z => first | exact BindsTo.of_eq rfl | exact binds_K (Frag.In.keeps (Cx.X (by assumption)) (Cx.S (by assumption))) rfl (by k_is) rfl rfl rfl)
    (case k59z => exact locs rfl)
    (case k69z => exact rfl)
    (case k79z => exact rfl)
    (case k89z => exact rfl)
    (case k99z => decide)
    skip)
  k_with "exec If" => (refine wpAny_If ?_)
  k_with "execs nil" => (refine wpAny_execs_nil ?_)
  k_with "execs cons" => ((with_reducible refine wpAny_execs_cons ?_); (try dsimp only); (try k_fold); (try (with_reducible refine wp_tok ?_; intro tk9)))
  trivial
theorem reg_C10_1 : True := by
  k_with "k_ne" => (first | assumption | (refine Ne.symm ?_; assumption) | (refine neN ?_; (try dsimp only); omega))
  trivial
theorem reg_C10_2 : True := by
  k_with "call ref" => (
    (with_reducible show wpAny _ _ (call (Value.ref 82) _ _) _ _ _)
    refine' nl_new ⟨by assumption, by assumption, Fr.keep (by assumption)⟩ ?hd9z ?_
    (case hd9z => (simp only [depth_deeper, depth_under_make]; omega))
    intro x9 d9 pb9 es9 n9 ep9 h' tk' hk9 hn9 O9 a9
    (have q1 := allNe_of (by assumption) (hn9 _ (.head _)))
    (have q2 := allNe_of (by assumption) (hn9 _ (.tail _ (.head _))))
    (have q3 := allNe_of (by assumption) (hn9 _ (.tail _ (.tail _ (.head _)))))
    (simp only [AllNe, and_true] at q1 q2 q3)
    (repeat (obtain ⟨_, q1⟩ := q1))
    (repeat (obtain ⟨_, q2⟩ := q2))
    (repeat (obtain ⟨_, q3⟩ := q3))
    (have e1 := ne_of_objs O9 (.head _) (.tail _ (.head _)) (fun e => nomatch congrArg Obj.dict e))
    (have e2 := ne_of_objs O9 (.tail _ (.head _)) (.tail _ (.tail _ (.head _))) (fun e => nomatch congrArg Obj.data e))
    (have e3 := ne_of_objs O9 (.head _) (.tail _ (.tail _ (.head _))) (fun e => nomatch congrArg Obj.data e))
    (have N9 := News.newerL (by assumption) (by assumption) hk9 O9 ?hq9z)
    (case hq9z => (simp only [List.map_cons, List.map_nil]; exact hn9))
    (simp only [List.cons_append, List.nil_append] at N9)
    (have F9 := Fr.after (by assumption) hk9 (fun q => nomatch q) (fun _ q => nomatch q))
    (obtain ⟨⟨ta1, a1⟩, a2, ⟨ta3, a3⟩, a4, a5, a6, a7, a8, a9⟩ := a9)
    clear hk9 hn9 O9
    (try k_sweep))
  trivial
theorem reg_C10_3 : True := by
  k_with "exec FunctionDef" => (refine' nestDef_K ?d09z ?k09z ?a09z ?_; (case d09z => exact rfl); (case k09z => exact rfl); (case a09z => exact rfl); (first
    | (refine' mk_new ?F9z ?N9z ?T9z ?B9z ?C9z ?cd9z ?U9z ?t9z ?n9z ?cl9z ?_; (case F9z => k_asm); (case N9z => k_asm); (case T9z => k_asm); (case B9z => assumption); (case C9z => assumption); (case cd9z => exact rfl); (case U9z => k_updF); (case t9z => exact True.intro); (case n9z => exact rfl); (case cl9z => exact rfl); intro f' c' oc' vs' t' ct' dc' h' tk' F' N' d1' d2' l1 l2; (try dsimp only at N'); (try k_lt l1); (try k_lt2 l2); (try k_sweep))
    | (refine' mk_hit ?F9z ?N9z ?T9z ?B9z ?C9z ?cd9z ?mem9z ?t9z ?n9z ?cl9z ?_; (case F9z => k_asm); (case N9z => k_asm); (case T9z => k_asm); (case B9z => assumption); (case C9z => assumption); (case cd9z => exact rfl); (case mem9z => k_mem); (case t9z => exact True.intro); (case n9z => exact rfl); (case cl9z => exact rfl); intro f' ct' dc' h' tk' F' N' l1; (try dsimp only at N'); (try k_lt l1); (try k_sweep))))
  trivial
theorem fresh1 {h g' : Heap} {l : List (Addr × Obj)} {a : Addr} (hG : ∀ b o, h.get? b = some o → b ∉ l.map (·.1) → g'.get? b = some o) (e : g'.get? a = none) (n : a ∉ l.map (·.1)) : h.get? a = none := by
  cases q : h.get? a with
  | none => rfl
  | some o => have := hG a o q n; rw [e] at this; cases this
theorem stm_fin {w : World} {g g' h : Heap} {L st dst f ct cp pl c' : Addr} {es : List DictEntry} {n : Nat} {nm : Str} {pa : Arguments} {bd : List Stmt} {sc : Scope} {pos : Pos} {doc pm ctv : Value} {o1 o2 : Obj} {text : Str} {tt ta : Tok} {ep : Nat} {a : Nat} {l : List (Addr × Obj)}
  (hg : ∀ b o, g.get? b = some o → g'.get? b = some o) (N : News g' L h l) (G : GiveIs w nm pa bd sc pos)
  (h1 : (st, instObj 82 dst) ∈ l) (h2 : (dst, dictOf es n) ∈ l) (h3 : (f, fnMade nm giveQual pa bd sc [("text", ct), ("place", cp)] doc pm c' ctv) ∈ l) (h4 : (ct, o1) ∈ l) (h5 : (cp, o2) ∈ l) (h6 : (pl, W.listOf #[.int (a : Int) ta] ep) ∈ l)
  (r : getL "read" es = some (some (.ref f))) (d1 : o1.data = .cell (some (.str text tt))) (d2 : o2.data = .cell (some (.ref pl))) (cr : h.CodeRec (.ref c') giveQual) : Stm w g h st dst f ct cp pl text a :=
  ⟨es, n, nm, pa, bd, sc, pos, doc, pm, c', ctv, o1, o2, tt, ta, ep, G, fun p hp => by
    simp only [List.mem_cons, List.not_mem_nil, or_false] at hp
    have O := Own.back N hg
    rcases hp with rfl | rfl | rfl | rfl | rfl | rfl
    all_goals first | exact O _ h1 | exact O _ h2 | exact O _ h3 | exact O _ h4 | exact O _ h5 | exact O _ h6, r, d1, d2, cr⟩
theorem codeRec_hide {h g' : Heap} {l : List (Addr × Obj)} {c : Addr} {q : Str} (x : h.CodeRec (.ref c) q) (hG : ∀ b o, h.get? b = some o → b ∉ l.map (·.1) → g'.get? b = some o) (n : c ∉ l.map (·.1)) : g'.CodeRec (.ref c) q := by
  obtain ⟨a, oc, vs, t, e, ho, hd, hv⟩ := x
  cases e
  exact ⟨_, oc, vs, t, rfl, hG _ _ ho n, hd, hv⟩
theorem code_ne_tab {h : Heap} {c P : Addr} {q : Str} {i j : Int} {v : Value} (x : h.CodeRec (.ref c) q) (e : h.get? P = some (tabObj #[rawInt i, rawInt j, v])) : @Ne Nat c P := by
  intro z
  obtain ⟨a, oc, vs, t, ea, ho, hd, hv⟩ := x
  cases ea
  rw [z, e] at ho; cases ho
  have : vs = #[rawInt i, rawInt j, v] := by simpa using hd.symm
  rw [this] at hv
  cases hv
theorem News.none9 {g h : Heap} {L a : Addr} {o : Obj} {l : List (Addr × Obj)} (N : News g L h l) (hm : (a, o) ∈ l) : g.get? a = none := (N _ hm).2.2
theorem not1 {a b : Addr} {o : Obj} (n : @Ne Nat a b) : a ∉ [(b, o)].map (·.1) := by simpa using n
theorem stream_new {w : World} {p : Program} {loose : List Str} {mg mb : Str → Option Value} {g : Heap} {A : Around} {s : Shared} {Q E : Value → Shared → Prop} {text : Str} {t : Tok} {ps : Array Value}
  (C : Cx w p loose mg mb g s.heap) (hd : A.depth ≤ 490) (B : Bm mg g) (hT : TabS w g s.heap ps)
  (hret : ∀ (st dst f ct cp pl : Addr) ps' h' tk', Keeps [803] s.heap h' → (∀ a ∈ [st, dst, f, ct, cp, pl], s.heap.get? a = none) → TabS w g h' ps' → Stm w g h' st dst f ct cp pl text 0 → Q (.ref st) { s with heap := h', toks := tk' }) :
  wpAny (model P0 w) A (call (.ref 808) [.str text t]) Q E s := by
  obtain ⟨O, hps⟩ := hT
  refine wpAny_call ?_
  refine' enterC _ C O ?k1 ?k2 ?k3 ?k4 ?k5 ?k5b ?_ ?k6 ?k7 ?k8
  case k1 => k_is
  case k2 => k_is
  case k3 => exact Nat.lt_of_le_of_lt hd (by decide)
  case k4 => first | exact BindsTo.of_eq rfl | exact binds_K (C.X.keeps C.S) rfl (by k_is) rfl rfl rfl
  case k5 => exact rfl
  case k5b => decide +kernel
  case k6 => exact rfl
  case k7 => exact rfl
  case k8 => exact rfl
  intro g' L' h' tk' cells' F' N' Y' X' T' hG9 hg9 l1
  (k_lt l1)
  have hC9 : CodeHd g' 807 803 := codeHd_of_K X' (by kernel_rfl)
  have hB9 := B.keeps hg9
  k_cells Y'
  simp only [List.cons_append, List.nil_append] at N'
  have cfr := fun b e => fresh1 (a := b) hG9 e
  rcases hps with rfl | ⟨nm, pa, bd, sc, pos, c', G, rfl, cr⟩
  · dsimp only
    show wpAny _ _ _ _ _ _
    k_fold
    k_steps
    all_goals (repeat' (first | (dsimp only) | (k_unfold; dsimp only)))
    rename Fr _ _ _ _ => F9
    rename News _ _ _ _ => N9
    refine' hret _ _ _ _ _ _ _ _ _ (keeps_out hG9 F9 (fun p hp => (O p hp).1) ?e1) ?e2 ?e3 (stm_fin hg9 N9 ?g1 ?g2 ?g3 ?g4 ?g5 ?g6 ?g7 ?g8 ?g9 ?g10 ?g11)
    case g1 => exact defAt_is (by k_is) rfl
    case g2 => k_mem
    case g3 => k_mem
    case g4 => k_mem
    case g5 => k_mem
    case g6 => k_mem
    case g7 => k_mem
    case g8 => k_get
    case g9 => assumption
    case g10 => assumption
    case g11 => exact codeRec_news N9 (by k_mem) (by assumption) (by assumption)
    case e1 => tb_rel
    case e2 => (simp only [List.forall_mem_cons]; refine ⟨?_, ?_, ?_, ?_, ?_, ?_, List.forall_mem_nil _⟩ <;> exact cfr _ (News.none9 N9 (by k_mem)) (not1 (by k_ne)))
    case e3 => exact ⟨List.forall_mem_cons.mpr ⟨Own.back N9 hg9 _ (by k_mem), List.forall_mem_nil _⟩, .inr ⟨_, _, _, _, _, _, defAt_is (by k_is) rfl, rfl, codeRec_news N9 (by k_mem) (by assumption) (by assumption)⟩⟩
  · obtain ⟨rfl, rfl, rfl, rfl, rfl⟩ := GiveIs.eq G (defAt_is (by k_is) rfl)
    have cr0 := codeRec_hide (l := [(803, tabObj #[rawInt _, rawInt _, .ref c'])]) cr hG9 (not1 (code_ne_tab cr (O _ (.head _)).1))
    dsimp only
    show wpAny _ _ _ _ _ _
    k_fold
    k_steps
    all_goals (repeat' (first | (dsimp only) | (k_unfold; dsimp only)))
    rename Fr _ _ _ _ => F9
    rename News _ _ _ _ => N9
    have cr' := cr0.keeps F9.keep
    refine' hret _ _ _ _ _ _ _ _ _ (keeps_out hG9 F9 (fun p hp => (O p hp).1) ?e1) ?e2 ?e3 (stm_fin hg9 N9 ?g1 ?g2 ?g3 ?g4 ?g5 ?g6 ?g7 ?g8 ?g9 ?g10 ?g11)
    case g1 => exact defAt_is (by k_is) rfl
    case g2 => k_mem
    case g3 => k_mem
    case g4 => k_mem
    case g5 => k_mem
    case g6 => k_mem
    case g7 => k_mem
    case g8 => k_get
    case g9 => assumption
    case g10 => assumption
    case g11 => exact cr'
    case e1 => tb_rel
    case e2 => (simp only [List.forall_mem_cons]; refine ⟨?_, ?_, ?_, ?_, ?_, ?_, List.forall_mem_nil _⟩ <;> exact cfr _ (News.none9 N9 (by k_mem)) (not1 (by k_ne)))
    case e3 => exact ⟨List.forall_mem_cons.mpr ⟨Own.back N9 hg9 _ (by k_mem), List.forall_mem_nil _⟩, .inr ⟨_, _, _, _, _, _, defAt_is (by k_is) rfl, rfl, cr'⟩⟩
end
theorem reg_C10_end : True := by
  k_with_none
  trivial
-- C11
section
theorem code_apart {g h : Heap} {c st dst f ct cp pl C : Addr} {q : Str} {es : List DictEntry} {n ep : Nat} {fd : FuncData} {o1 o2 : Obj} {u v : Option Value} {its : Array Value} (x : h.CodeRec (.ref c) q)
  (O : Own g h [(st, instObj C dst), (dst, dictOf es n), (f, ⟨.type "function", none, .func fd, #[]⟩), (ct, o1), (cp, o2), (pl, W.listOf its ep)]) (d1 : o1.data = .cell u) (d2 : o2.data = .cell v) :
  c ∉ [(st, instObj C dst), (dst, dictOf es n), (f, (⟨.type "function", none, .func fd, #[]⟩ : Obj)), (ct, o1), (cp, o2), (pl, W.listOf its ep)].map (·.1) := by
  obtain ⟨a, oc, vs, t, ea, ho, hd, hv⟩ := x
  cases ea
  intro hm
  obtain ⟨p, hp, e⟩ := List.mem_map.mp hm
  have h1 := (O p hp).1
  rw [e, ho] at h1
  cases h1
  simp only [List.mem_cons, List.not_mem_nil, or_false] at hp
  rcases hp with rfl | rfl | rfl | rfl | rfl | rfl
  · cases hd
  · cases hd
  · cases hd
  · dsimp only at hd; rw [d1] at hd; cases hd
  · dsimp only at hd; rw [d2] at hd; cases hd
  · cases hd
theorem len_tx {prog : Program} {w : World} {A : Around} {E : Value → Shared → Prop} {s : Shared} {l : List Nat} {t : Tok} {Q : Value → Shared → Prop} (hl : l.length ≤ 1000000) (h : Q (.int l.length (s.toks + 1)) { s with toks := s.toks + 1 + 1 }) : wpAny (model prog w) A (call (.builtin "len") [.str (tx l) t]) Q E s :=
  PyProof.Rows.len_str (by rw [tx_length]; omega) (by rw [tx_length]; exact h)
theorem reg_C11 : True := by
  k_with_none
  k_with "k_get" => (first | assumption | exact getL_put_eq | (refine Eq.trans (getL_put_ne (by decide +kernel)) ?_; k_get) | (refine' isSome_of ?h9z; case h9z => k_get) | (refine' isSome_of' ?h9z; case h9z => k_get) | exact rfl)
  k_with "k_put" => (exact rfl)
  k_with "setAttr ref" => (k_here; k_dflt (
    (refine' set_dict ?k19z ?k29z ?k39z ?k49z ?k59z ?k69z ?k79z ?k89z ?k99z ?k109z ?k119z ?k129z ?k139z ?_; (case k19z => k_asm); (case k29z => k_asm); (case k39z => k_asm); (case k49z => k_inst); (case k59z => exact rfl); (case k69z => k_is); (case k79z => k_is); (case k89z => k_is); (case k99z => k_is); (case k109z => k_get); (case k119z => exact rfl); (case k129z => k_upd); (case k139z => ((repeat (refine length_put_le ?_)); omega)); k_whole; intro h' F' N'; (try k_sweep))))
  k_with "size_fits" => (first | assumption | ((try simp only [tx_length]); rw [sizeLine_eq]; omega))
  k_with "k_ne" => (first | assumption | (refine Ne.symm ?_; assumption))
  k_with "tb_rel" => (first
    | exact List.forall_mem_nil _
    | (refine List.forall_mem_cons.mpr ⟨?ta9z, ?tb9z⟩; (case ta9z => first | exact fun _ => News.get (by assumption) (by k_mem) | exact fun h9 => absurd (by simp) h9); (case tb9z => tb_rel)))
  k_with "tb_start" => (
    refine wpAny_call ?_
    refine' enter _ (Cx.X (by assumption)) (Cx.T (by assumption)) (Cx.S (by assumption)) (by assumption) ?k19z ?k29z ?k39z ?k49z ?k59z ?_ ?k69z ?k79z ?k89z ?k99z
    (case k19z => k_is)
    (case k29z => k_is)
    (case k39z => ((try simp only [depth_deeper, depth_under_make, depth_in1, recursionLimit]); omega))
    (case k49z => first | exact BindsTo.of_eq rfl | exact binds_K (Frag.In.keeps (Cx.X (by assumption)) (Cx.S (by assumption))) rfl (by k_is) rfl rfl rfl)
    (case k59z => exact locs rfl)
    (case k69z => exact rfl)
    (case k79z => exact rfl)
    (case k89z => exact rfl)
    (case k99z => decide)
    skip)
  k_with "exec If" => (refine wpAny_If ?_)
  k_with "execs nil" => (refine wpAny_execs_nil ?_)
  k_with "execs cons" => ((with_reducible refine wpAny_execs_cons ?_); (try dsimp only); (try k_fold); (try (with_reducible refine wp_tok ?_; intro tk9)))
  k_with "eval Name" => (k_dflt (refine' nameX_F ?N9z ?c9z ?m9z ?d9z ?_ ?a9z ?b9z; (case a9z => rfl); (case b9z => rfl); (case N9z => assumption); (case c9z => rfl); (case m9z => k_mem); (case d9z => assumption); k_whole))
  k_with "kse_has" => (first | with_reducible assumption | with_reducible exact List.mem_cons_self | (with_reducible refine List.mem_cons_of_mem _ ?_; kse_has) | (with_reducible refine List.mem_append_left _ ?_; kse_has) | (with_reducible refine List.mem_append_right _ ?_; kse_has))
  trivial
theorem reg_C11_1 : True := by
  k_with "call builtin:len" => (with_reducible refine len_tx (by first | omega | (simp only [List.length_cons, List.length_nil]; omega)) ?_)
  trivial
theorem reg_C11_2 : True := by
  k_with "storeName" => ((with_reducible show wpAny _ _ (storeName _ _ (Value.str (Txt.slice _ _ _) _)) _ _ _); first | rw [slice_one (by assumption)] | rw [slice_past (by assumption)])
  trivial
theorem reg_C11_3 : True := by
  k_with "k_ne" => (first | assumption | (refine Ne.symm ?_; assumption) | (refine neN ?_; (try dsimp only); omega))
  trivial
theorem give_at {w : World} {p : Program} {loose : List Str} {mg mb : Str → Option Value} {g : Heap} {A : Around} {s : Shared} {Q E : Value → Shared → Prop}
  {st dst f ct cp pl : Addr} {l : List Nat} {a c : Nat} {t1 : Tok}
  (C : Cx w p loose mg mb g s.heap) (hdp : A.depth ≤ 580)
  (I : Stm w g s.heap st dst f ct cp pl (tx l) a) (hc : l[a]? = some c) (hlen : l.length ≤ 1000)
  (hret : ∀ h' tk' t', Keeps [pl] s.heap h' → Stm w g h' st dst f ct cp pl (tx l) (a + 1) → Q (.str (tx [c]) t') { s with heap := h', toks := tk' }) :
  wpAny (model P0 w) A (call (.ref f) [.int 1 t1]) Q E s := by
  obtain ⟨es, n, nm, pa, bd, sc, pos, doc, pm, c', ctv, o1, o2, tt, ta, ep, G, O, r, d1, d2, cr⟩ := I
  obtain ⟨rfl, rfl, rfl, rfl, rfl⟩ := GiveIs.eq G (defAt_is (by k_is) rfl)
  have hal := (List.getElem?_eq_some_iff.mp hc).1
  have q1 := ne_of_objs O (a := st) (b := pl) (o := instObj 82 dst) (o' := W.listOf #[.int (a : Int) ta] ep) (by first | kse_has | simp) (by first | kse_has | simp) (fun e => nomatch congrArg Obj.data e)
  have q2 := ne_of_objs O (a := dst) (b := pl) (o := dictOf es n) (o' := W.listOf #[.int (a : Int) ta] ep) (by first | kse_has | simp) (by first | kse_has | simp) (fun e => nomatch congrArg Obj.data e)
  have q3 := ne_of_objs O (a := f) (b := pl) (o := fnMade _ giveQual _ _ _ [("text", ct), ("place", cp)] doc pm c' ctv) (o' := W.listOf #[.int (a : Int) ta] ep) (.tail _ (.tail _ (.head _))) (by first | kse_has | simp) (fun e => nomatch congrArg Obj.data e)
  have q4 := ne_of_objs O (a := ct) (b := pl) (o := o1) (o' := W.listOf #[.int (a : Int) ta] ep) (by first | kse_has | simp) (by first | kse_has | simp) (fun e => by rw [e] at d1; cases d1)
  have q5 := ne_of_objs O (a := cp) (b := pl) (o := o2) (o' := W.listOf #[.int (a : Int) ta] ep) (by first | kse_has | simp) (by first | kse_has | simp) (fun e => by rw [e] at d2; cases d2)
  refine wpAny_call ?_
  refine' enterM _ C O ?ho cr ?k3 ?k4 ?k5 ?_ ?k6 ?k7 ?k8 ?k9
  case ho => k_mem
  case k3 => exact Nat.lt_of_le_of_lt hdp (by decide)
  case k4 => exact BindsTo.of_eq rfl
  case k5 => exact locs rfl
  case k6 => exact rfl
  case k7 => exact rfl
  case k8 => exact rfl
  case k9 => decide
  intro g' L' h' F' N' X' T' hG9 hg9
  dsimp only
  show wpAny _ _ _ _ _ _
  k_fold
  k_steps
  all_goals (repeat' (first | (dsimp only) | (k_unfold; dsimp only)))
  rename Fr _ _ _ _ => F9
  rename News _ _ _ _ => N9
  have cr' := (codeRec_hide (l := [(st, instObj 82 dst), (dst, dictOf es n), (f, fnMade _ giveQual _ _ _ [("text", ct), ("place", cp)] doc pm c' ctv), (ct, o1), (cp, o2), (pl, W.listOf #[.int (a : Int) ta] ep)]) cr hG9 (code_apart cr O d1 d2)).keeps F9.keep
  refine' hret _ _ _ (keeps_out hG9 F9 (fun p hp => (O p hp).1) ?e1) (stm_fin hg9 N9 ?g1 ?g2 ?g3 ?g4 ?g5 ?g6 ?g7 ?g8 ?g9 ?g10 ?g11)
  case g1 => exact defAt_is (by k_is) rfl
  case g2 => k_mem
  case g3 => k_mem
  case g4 => k_mem
  case g5 => k_mem
  case g6 => k_mem
  case g7 => k_mem
  case g8 => assumption
  case g9 => assumption
  case g10 => assumption
  case g11 => exact cr'
  case e1 => tb_rel
theorem give_end {w : World} {p : Program} {loose : List Str} {mg mb : Str → Option Value} {g : Heap} {A : Around} {s : Shared} {Q E : Value → Shared → Prop}
  {st dst f ct cp pl : Addr} {l : List Nat} {a : Nat} {t1 : Tok}
  (C : Cx w p loose mg mb g s.heap) (hdp : A.depth ≤ 580)
  (I : Stm w g s.heap st dst f ct cp pl (tx l) a) (hc : a = l.length) (hlen : l.length ≤ 1000)
  (hret : ∀ h' tk' t', Keeps [pl] s.heap h' → Stm w g h' st dst f ct cp pl (tx l) a → Q (.str (tx []) t') { s with heap := h', toks := tk' }) :
  wpAny (model P0 w) A (call (.ref f) [.int 1 t1]) Q E s := by
  obtain ⟨es, n, nm, pa, bd, sc, pos, doc, pm, c', ctv, o1, o2, tt, ta, ep, G, O, r, d1, d2, cr⟩ := I
  obtain ⟨rfl, rfl, rfl, rfl, rfl⟩ := GiveIs.eq G (defAt_is (by k_is) rfl)
  have hal : a ≤ l.length := Nat.le_of_eq hc
  have q1 := ne_of_objs O (a := st) (b := pl) (o := instObj 82 dst) (o' := W.listOf #[.int (a : Int) ta] ep) (by first | kse_has | simp) (by first | kse_has | simp) (fun e => nomatch congrArg Obj.data e)
  have q2 := ne_of_objs O (a := dst) (b := pl) (o := dictOf es n) (o' := W.listOf #[.int (a : Int) ta] ep) (by first | kse_has | simp) (by first | kse_has | simp) (fun e => nomatch congrArg Obj.data e)
  have q3 := ne_of_objs O (a := f) (b := pl) (o := fnMade _ giveQual _ _ _ [("text", ct), ("place", cp)] doc pm c' ctv) (o' := W.listOf #[.int (a : Int) ta] ep) (.tail _ (.tail _ (.head _))) (by first | kse_has | simp) (fun e => nomatch congrArg Obj.data e)
  have q4 := ne_of_objs O (a := ct) (b := pl) (o := o1) (o' := W.listOf #[.int (a : Int) ta] ep) (by first | kse_has | simp) (by first | kse_has | simp) (fun e => by rw [e] at d1; cases d1)
  have q5 := ne_of_objs O (a := cp) (b := pl) (o := o2) (o' := W.listOf #[.int (a : Int) ta] ep) (by first | kse_has | simp) (by first | kse_has | simp) (fun e => by rw [e] at d2; cases d2)
  refine wpAny_call ?_
  refine' enterM _ C O ?ho cr ?k3 ?k4 ?k5 ?_ ?k6 ?k7 ?k8 ?k9
  case ho => k_mem
  case k3 => exact Nat.lt_of_le_of_lt hdp (by decide)
  case k4 => exact BindsTo.of_eq rfl
  case k5 => exact locs rfl
  case k6 => exact rfl
  case k7 => exact rfl
  case k8 => exact rfl
  case k9 => decide
  intro g' L' h' F' N' X' T' hG9 hg9
  dsimp only
  show wpAny _ _ _ _ _ _
  k_fold
  k_steps
  all_goals (repeat' (first | (dsimp only) | (k_unfold; dsimp only)))
  rename Fr _ _ _ _ => F9
  rename News _ _ _ _ => N9
  have cr' := (codeRec_hide (l := [(st, instObj 82 dst), (dst, dictOf es n), (f, fnMade _ giveQual _ _ _ [("text", ct), ("place", cp)] doc pm c' ctv), (ct, o1), (cp, o2), (pl, W.listOf #[.int (a : Int) ta] ep)]) cr hG9 (code_apart cr O d1 d2)).keeps F9.keep
  refine' hret _ _ _ (keeps_out hG9 F9 (fun p hp => (O p hp).1) ?e1) (stm_fin hg9 N9 ?g1 ?g2 ?g3 ?g4 ?g5 ?g6 ?g7 ?g8 ?g9 ?g10 ?g11)
  case g1 => exact defAt_is (by k_is) rfl
  case g2 => k_mem
  case g3 => k_mem
  case g4 => k_mem
  case g5 => k_mem
  case g6 => k_mem
  case g7 => k_mem
  case g8 => assumption
  case g9 => assumption
  case g10 => assumption
  case g11 => exact cr'
  case e1 => tb_rel
end
theorem reg_C11_end : True := by
  k_with_none
  trivial
-- C12
section
theorem reg_C12 : True := by
  k_with_none
  k_with "k_get" => (first | assumption | exact getL_put_eq | (refine Eq.trans (getL_put_ne (by decide +kernel)) ?_; k_get) | (refine' isSome_of ?h9z; case h9z => k_get) | (refine' isSome_of' ?h9z; case h9z => k_get) | exact rfl)
  k_with "k_put" => (exact rfl)
  k_with "setAttr ref" => (k_here; k_dflt (
    (refine' set_dict ?k19z ?k29z ?k39z ?k49z ?k59z ?k69z ?k79z ?k89z ?k99z ?k109z ?k119z ?k129z ?k139z ?_; (case k19z => k_asm); (case k29z => k_asm); (case k39z => k_asm); (case k49z => k_inst); (case k59z => exact rfl); (case k69z => k_is); (case k79z => k_is); (case k89z => k_is); (case k99z => k_is); (case k109z => k_get); (case k119z => exact rfl); (case k129z => k_upd); (case k139z => ((repeat (refine length_put_le ?_)); omega)); k_whole; intro h' F' N'; (try k_sweep))))
  k_with "size_fits" => (first | assumption | ((try simp only [tx_length]); rw [sizeLine_eq]; omega))
  k_with "k_ne" => (first | assumption | (refine Ne.symm ?_; assumption))
  k_with "tb_rel" => (first
    | exact List.forall_mem_nil _
    | (refine List.forall_mem_cons.mpr ⟨?ta9z, ?tb9z⟩; (case ta9z => first | exact fun _ => News.get (by assumption) (by k_mem) | exact fun h9 => absurd (by simp) h9); (case tb9z => tb_rel)))
  k_with "tb_start" => (
    refine wpAny_call ?_
    refine' enter _ (Cx.X (by assumption)) (Cx.T (by assumption)) (Cx.S (by assumption)) (by assumption) ?k19z ?k29z ?k39z ?k49z ?k59z ?_ ?k69z ?k79z ?k89z ?k99z
    (case k19z => k_is)
    (case k29z => k_is)
    (case k39z => ((try simp only [depth_deeper, depth_under_make, depth_in1, recursionLimit]); omega))
    (case k49z => first | exact BindsTo.of_eq rfl | exact binds_K (Frag.In.keeps (Cx.X (by assumption)) (Cx.S (by assumption))) rfl (by k_is) rfl rfl rfl)
    (case k59z => exact locs rfl)
    (case k69z => exact rfl)
    (case k79z => exact rfl)
    (case k89z => exact rfl)
    (case k99z => decide)
    skip)
  k_with "exec If" => (refine wpAny_If ?_)
  k_with "execs nil" => (refine wpAny_execs_nil ?_)
  k_with "execs cons" => ((with_reducible refine wpAny_execs_cons ?_); (try dsimp only); (try k_fold); (try (with_reducible refine wp_tok ?_; intro tk9)))
  k_with "kse_has" => (first | with_reducible assumption | with_reducible exact List.mem_cons_self | (with_reducible refine List.mem_cons_of_mem _ ?_; kse_has) | (with_reducible refine List.mem_append_left _ ?_; kse_has) | (with_reducible refine List.mem_append_right _ ?_; kse_has))
  trivial
/-- a queue of tokens over a stream -/
def Que (w : World) (g h : Heap) (q dq pb st dst f ct cp pl : Addr) (l : List Nat) (a ln : Nat) (its : Array Value) : Prop :=
  ∃ es n ep, Own g h [(q, instObj 82 dq), (dq, dictOf es n), (pb, W.listOf its ep)] ∧ NlA es (.ref st) pb ln ∧ Stm w g h st dst f ct cp pl (tx l) a
/-- the inner def as an object, and its code -/
def Fo (w : World) (fo : Obj) (ct cp c' : Addr) : Prop := ∃ nm pa bd sc pos doc pm ctv, GiveIs w nm pa bd sc pos ∧ fo = fnMade nm giveQual pa bd sc [("text", ct), ("place", cp)] doc pm c' ctv
/-- the objects of a queue, told out -/
structure QueX (w : World) (g h : Heap) (q dq pb st dst f ct cp pl c' : Addr) (l : List Nat) (a ln : Nat) (its : Array Value) (es : List DictEntry) (n ep : Nat) (es2 : List DictEntry) (n2 : Nat) (fo o1 o2 : Obj) (ta : Tok) (ep2 : Nat) : Prop where
  O : Own g h [(q, instObj 82 dq), (dq, dictOf es n), (pb, W.listOf its ep), (st, instObj 82 dst), (dst, dictOf es2 n2), (f, fo), (ct, o1), (cp, o2), (pl, W.listOf #[.int (a : Int) ta] ep2)]
  A : NlA es (.ref st) pb ln
  r : getL "read" es2 = some (some (.ref f))
  d1 : ∃ tt, o1.data = .cell (some (.str (tx l) tt))
  d2 : o2.data = .cell (some (.ref pl))
  fo : Fo w fo ct cp c'
  cr : h.CodeRec (.ref c') giveQual
theorem Que.out {w : World} {g h : Heap} {q dq pb st dst f ct cp pl : Addr} {l : List Nat} {a ln : Nat} {its : Array Value} (Q : Que w g h q dq pb st dst f ct cp pl l a ln its) : ∃ c' es n ep es2 n2 fo o1 o2 ta ep2, QueX w g h q dq pb st dst f ct cp pl c' l a ln its es n ep es2 n2 fo o1 o2 ta ep2 := by
  obtain ⟨es, n, ep, O1, A, es2, n2, nm, pa, bd, sc, pos, doc, pm, c', ctv, o1, o2, tt, ta, ep2, G, O2, r, d1, d2, cr⟩ := Q
  refine ⟨c', es, n, ep, es2, n2, _, o1, o2, ta, ep2, ⟨fun p hp => ?_, A, r, ⟨tt, d1⟩, d2, ⟨nm, pa, bd, sc, pos, doc, pm, ctv, G, rfl⟩, cr⟩⟩
  simp only [List.mem_cons, List.not_mem_nil, or_false] at hp
  rcases hp with rfl | rfl | rfl | rfl | rfl | rfl | rfl | rfl | rfl
  · exact O1 _ (by first | kse_has | simp)
  · exact O1 _ (by first | kse_has | simp)
  · exact O1 _ (by first | kse_has | simp)
  · exact O2 _ (.head _)
  · exact O2 _ (.tail _ (.head _))
  · exact O2 _ (.tail _ (.tail _ (.head _)))
  · exact O2 _ (.tail _ (.tail _ (.tail _ (.head _))))
  · exact O2 _ (.tail _ (.tail _ (.tail _ (.tail _ (.head _)))))
  · exact O2 _ (.tail _ (.tail _ (.tail _ (.tail _ (.tail _ (.head _))))))
theorem stm_own {w : World} {g h : Heap} {st dst f ct cp pl c' : Addr} {l : List Nat} {a : Nat} {es2 : List DictEntry} {n2 : Nat} {fo o1 o2 : Obj} {tt ta : Tok} {ep2 : Nat} {m : List (Addr × Obj)} (O : Own g h m)
  (h1 : (st, instObj 82 dst) ∈ m) (h2 : (dst, dictOf es2 n2) ∈ m) (h3 : (f, fo) ∈ m) (h4 : (ct, o1) ∈ m) (h5 : (cp, o2) ∈ m) (h6 : (pl, W.listOf #[.int (a : Int) ta] ep2) ∈ m)
  (F : Fo w fo ct cp c') (r : getL "read" es2 = some (some (.ref f))) (d1 : o1.data = .cell (some (.str (tx l) tt))) (d2 : o2.data = .cell (some (.ref pl))) (cr : h.CodeRec (.ref c') giveQual) : Stm w g h st dst f ct cp pl (tx l) a := by
  obtain ⟨nm, pa, bd, sc, pos, doc, pm, ctv, G, rfl⟩ := F
  refine ⟨es2, n2, nm, pa, bd, sc, pos, doc, pm, c', ctv, o1, o2, tt, ta, ep2, G, fun p hp => ?_, r, d1, d2, cr⟩
  simp only [List.mem_cons, List.not_mem_nil, or_false] at hp
  rcases hp with rfl | rfl | rfl | rfl | rfl | rfl
  · exact O _ h1
  · exact O _ h2
  · exact O _ h3
  · exact O _ h4
  · exact O _ h5
  · exact O _ h6
theorem que_own {w : World} {g h : Heap} {q dq pb st dst f ct cp pl c' : Addr} {l : List Nat} {a ln : Nat} {its : Array Value} {es : List DictEntry} {n ep : Nat} {es2 : List DictEntry} {n2 : Nat} {fo o1 o2 : Obj} {tt ta : Tok} {ep2 : Nat} {m : List (Addr × Obj)} (O : Own g h m)
  (h7 : (q, instObj 82 dq) ∈ m) (h8 : (dq, dictOf es n) ∈ m) (h9 : (pb, W.listOf its ep) ∈ m) (A : NlA es (.ref st) pb ln)
  (h1 : (st, instObj 82 dst) ∈ m) (h2 : (dst, dictOf es2 n2) ∈ m) (h3 : (f, fo) ∈ m) (h4 : (ct, o1) ∈ m) (h5 : (cp, o2) ∈ m) (h6 : (pl, W.listOf #[.int (a : Int) ta] ep2) ∈ m)
  (F : Fo w fo ct cp c') (r : getL "read" es2 = some (some (.ref f))) (d1 : o1.data = .cell (some (.str (tx l) tt))) (d2 : o2.data = .cell (some (.ref pl))) (cr : h.CodeRec (.ref c') giveQual) : Que w g h q dq pb st dst f ct cp pl l a ln its :=
  ⟨es, n, ep, fun p hp => by
    simp only [List.mem_cons, List.not_mem_nil, or_false] at hp
    rcases hp with rfl | rfl | rfl
    · exact O _ h7
    · exact O _ h8
    · exact O _ h9, A, stm_own O h1 h2 h3 h4 h5 h6 F r d1 d2 cr⟩
/-- what parts a queue's objects -/
theorem QueX.parts {w : World} {g h : Heap} {q dq pb st dst f ct cp pl c' : Addr} {l : List Nat} {a ln : Nat} {its : Array Value} {es : List DictEntry} {n ep : Nat} {es2 : List DictEntry} {n2 : Nat} {fo o1 o2 : Obj} {ta : Tok} {ep2 : Nat}
  (X : QueX w g h q dq pb st dst f ct cp pl c' l a ln its es n ep es2 n2 fo o1 o2 ta ep2) (hi : ∀ i t, its ≠ #[.int i t]) :
  ((@Ne Nat q dq) ∧ (@Ne Nat pb dq) ∧ (@Ne Nat st dq) ∧ (@Ne Nat dst dq) ∧ (@Ne Nat f dq) ∧ (@Ne Nat ct dq) ∧ (@Ne Nat cp dq) ∧ (@Ne Nat pl dq)) ∧
  ((@Ne Nat q pl) ∧ (@Ne Nat pb pl) ∧ (@Ne Nat st pl) ∧ (@Ne Nat dst pl) ∧ (@Ne Nat f pl) ∧ (@Ne Nat ct pl) ∧ (@Ne Nat cp pl)) ∧
  c' ∉ [(q, instObj 82 dq), (dq, dictOf es n), (pb, W.listOf its ep), (st, instObj 82 dst), (dst, dictOf es2 n2), (f, fo), (ct, o1), (cp, o2), (pl, W.listOf #[.int (a : Int) ta] ep2)].map (·.1) := by
  obtain ⟨O, A, r, ⟨tt, d1⟩, d2, ⟨nm, pa, bd, sc, pos, doc, pm, ctv, G, rfl⟩, cr⟩ := X
  have dd : dictOf es2 n2 ≠ dictOf es n := fun e => by
    have e' := congrArg Obj.data e
    simp only [PySem.Data.dict.injEq] at e'
    have e2 : es2 = es := by simpa using e'.1
    have := A.m4; rw [← e2, r] at this; cases this
  have mq : (q, instObj 82 dq) ∈ [(q, instObj 82 dq), (dq, dictOf es n), (pb, W.listOf its ep), (st, instObj 82 dst), (dst, dictOf es2 n2), (f, fnMade nm giveQual pa bd sc [("text", ct), ("place", cp)] doc pm c' ctv), (ct, o1), (cp, o2), (pl, W.listOf #[.int (a : Int) ta] ep2)] := .head _
  have md := List.Mem.tail (q, instObj 82 dq) (List.Mem.head (a := (dq, dictOf es n)) [(pb, W.listOf its ep), (st, instObj 82 dst), (dst, dictOf es2 n2), (f, fnMade nm giveQual pa bd sc [("text", ct), ("place", cp)] doc pm c' ctv), (ct, o1), (cp, o2), (pl, W.listOf #[.int (a : Int) ta] ep2)])
  refine ⟨⟨?_, ?_, ?_, ?_, ?_, ?_, ?_, ?_⟩, ⟨?_, ?_, ?_, ?_, ?_, ?_, ?_⟩, ?_⟩
  · exact ne_of_objs O mq md (fun e => nomatch congrArg Obj.data e)
  · exact ne_of_objs O (o := W.listOf its ep) (by k_mem) md (fun e => nomatch congrArg Obj.data e)
  · exact ne_of_objs O (o := instObj 82 dst) (by k_mem) md (fun e => nomatch congrArg Obj.data e)
  · exact ne_of_objs O (o := dictOf es2 n2) (by k_mem) md dd
  · exact ne_of_objs O (o := fnMade nm giveQual pa bd sc [("text", ct), ("place", cp)] doc pm c' ctv) (by k_mem) md (fun e => nomatch congrArg Obj.data e)
  · exact ne_of_objs O (o := o1) (by k_mem) md (fun e => by rw [e] at d1; cases d1)
  · exact ne_of_objs O (o := o2) (by k_mem) md (fun e => by rw [e] at d2; cases d2)
  · exact ne_of_objs O (o := W.listOf #[.int (a : Int) ta] ep2) (by k_mem) md (fun e => nomatch congrArg Obj.data e)
  · exact ne_of_objs O (o := instObj 82 dq) (o' := W.listOf #[.int (a : Int) ta] ep2) (by k_mem) (by k_mem) (fun e => nomatch congrArg Obj.data e)
  · refine ne_of_objs O (o := W.listOf its ep) (o' := W.listOf #[.int (a : Int) ta] ep2) (by k_mem) (by k_mem) (fun e => ?_)
    have e' := congrArg Obj.data e
    simp only [PySem.Data.seq.injEq] at e'
    exact hi _ _ e'.1
  · exact ne_of_objs O (o := instObj 82 dst) (o' := W.listOf #[.int (a : Int) ta] ep2) (by k_mem) (by k_mem) (fun e => nomatch congrArg Obj.data e)
  · exact ne_of_objs O (o := dictOf es2 n2) (o' := W.listOf #[.int (a : Int) ta] ep2) (by k_mem) (by k_mem) (fun e => nomatch congrArg Obj.data e)
  · exact ne_of_objs O (o := fnMade nm giveQual pa bd sc [("text", ct), ("place", cp)] doc pm c' ctv) (o' := W.listOf #[.int (a : Int) ta] ep2) (by k_mem) (by k_mem) (fun e => nomatch congrArg Obj.data e)
  · exact ne_of_objs O (o := o1) (o' := W.listOf #[.int (a : Int) ta] ep2) (by k_mem) (by k_mem) (fun e => by rw [e] at d1; cases d1)
  · exact ne_of_objs O (o := o2) (o' := W.listOf #[.int (a : Int) ta] ep2) (by k_mem) (by k_mem) (fun e => by rw [e] at d2; cases d2)
  · obtain ⟨aa, oc, vs, t, ea, ho, hd, hv⟩ := cr
    cases ea
    intro hm
    obtain ⟨p, hp, e⟩ := List.mem_map.mp hm
    have h1 := (O p hp).1
    rw [e, ho] at h1
    cases h1
    simp only [List.mem_cons, List.not_mem_nil, or_false] at hp
    rcases hp with rfl | rfl | rfl | rfl | rfl | rfl | rfl | rfl | rfl
    · cases hd
    · cases hd
    · cases hd
    · cases hd
    · cases hd
    · cases hd
    · dsimp only at hd; rw [d1] at hd; cases hd
    · dsimp only at hd; rw [d2] at hd; cases hd
    · cases hd
end
theorem reg_C12_end : True := by
  k_with_none
  trivial
-- C13
section
theorem fnAt_of {w : World} {fo : Obj} {ct cp c' f : Addr} {h : Heap} (F : Fo w fo ct cp c') (e : h.get? f = some fo) : FnAt f h := by
  obtain ⟨nm, pa, bd, sc, pos, doc, pm, ctv, G, rfl⟩ := F
  exact ⟨_, _, _, _, e⟩
theorem reg_C13 : True := by
  k_with_none
  k_with "k_get" => (first | assumption | exact getL_put_eq | (refine Eq.trans (getL_put_ne (by decide +kernel)) ?_; k_get) | (refine' isSome_of ?h9z; case h9z => k_get) | (refine' isSome_of' ?h9z; case h9z => k_get) | exact rfl)
  k_with "k_put" => (exact rfl)
  k_with "setAttr ref" => (k_here; k_dflt (
    (refine' set_dict ?k19z ?k29z ?k39z ?k49z ?k59z ?k69z ?k79z ?k89z ?k99z ?k109z ?k119z ?k129z ?k139z ?_; (case k19z => k_asm); (case k29z => k_asm); (case k39z => k_asm); (case k49z => k_inst); (case k59z => exact rfl); (case k69z => k_is); (case k79z => k_is); (case k89z => k_is); (case k99z => k_is); (case k109z => k_get); (case k119z => exact rfl); (case k129z => k_upd); (case k139z => ((repeat (refine length_put_le ?_)); omega)); k_whole; intro h' F' N'; (try k_sweep))))
  k_with "size_fits" => (first | assumption | ((try simp only [tx_length]); rw [sizeLine_eq]; omega))
  k_with "k_ne" => (first | assumption | (refine Ne.symm ?_; assumption))
  k_with "tb_rel" => (first
    | exact List.forall_mem_nil _
    | (refine List.forall_mem_cons.mpr ⟨?ta9z, ?tb9z⟩; (case ta9z => first | exact fun _ => News.get (by assumption) (by k_mem) | exact fun h9 => absurd (by simp) h9); (case tb9z => tb_rel)))
  k_with "tb_start" => (
    refine wpAny_call ?_
    refine' enter _ (Cx.X (by assumption)) (Cx.T (by assumption)) (Cx.S (by assumption)) (by assumption) ?k19z ?k29z ?k39z ?k49z ?k59z ?_ ?k69z ?k79z ?k89z ?k99z
    (case k19z => k_is)
    (case k29z => k_is)
    (case k39z => ((try simp only [depth_deeper, depth_under_make, depth_in1, recursionLimit]); omega))
    (case k49z => first | exact BindsTo.of_eq rfl | exact binds_K (Frag.In.keeps (Cx.X (by assumption)) (Cx.S (by assumption))) rfl (by k_is) rfl rfl rfl)
    (case k59z => exact locs rfl)
    (case k69z => exact rfl)
    (case k79z => exact rfl)
    (case k89z => exact rfl)
    (case k99z => decide)
    skip)
  k_with "exec If" => (refine wpAny_If ?_)
  k_with "execs nil" => (refine wpAny_execs_nil ?_)
  k_with "execs cons" => ((with_reducible refine wpAny_execs_cons ?_); (try dsimp only); (try k_fold); (try (with_reducible refine wp_tok ?_; intro tk9)))
  k_with "compareOp In str str" => (first | refine in_is (v := true) (by decide +kernel) ?_ | refine in_is (v := false) (by decide +kernel) ?_ | refine in_is (by assumption) ?_)
  k_with "compareOp Eq str str" => (first | refine eq_is (v := true) (by decide +kernel) ?_ | refine eq_is (v := false) (by decide +kernel) ?_ | refine eq_is (by assumption) ?_)
  k_with "truthy str" => (first | with_reducible refine truth_one ?_ | (with_reducible (refine truth_lit (v := false) (by decide +kernel) ?_)) | (with_reducible (refine truth_lit (v := true) (by decide +kernel) ?_)) | (with_reducible (refine truth_tx (by omega) ?_ ?_) <;> intro hw9))
  k_with "inplaceOp Add str str" => (refine iadd_tx (by ((try simp only [List.length_cons, List.length_nil]); omega)) ?_; intro t9 tk9)
  trivial
theorem reg_C13_1 : True := by
  k_with "k_ne" => (first | assumption | (refine Ne.symm ?_; assumption) | (refine neN ?_; (try dsimp only); omega))
  trivial
theorem reg_C13_2 : True := by
  k_with "FnAt" => (exact fnAt_of (by assumption) (News.get (by assumption) (by k_mem)))
  trivial
theorem reg_C13_3 : True := by
  k_with "callWith ref" => (k_dflt (refine' callWith_F ?k19z ?_; (case k19z => exact fnAt_of (by assumption) (News.get (by assumption) (by k_mem))); k_whole))
  trivial
theorem reg_C13_4 : True := by
  k_with "call ref" => (
    (with_reducible show wpAny _ _ (call (Value.ref _) [Value.int _ _] _) _ _ _)
    first
    | refine' give_at ⟨by assumption, by assumption, Fr.keep (by assumption)⟩ ?hd9z (stm_own (Own.of_news (by assumption)) ?h19z ?h29z ?h39z ?h49z ?h59z ?h69z (by assumption) (by assumption) (by assumption) (by assumption) ?cr9z) (by assumption) (by assumption) ?_
    | refine' give_end ⟨by assumption, by assumption, Fr.keep (by assumption)⟩ ?hd9z (stm_own (Own.of_news (by assumption)) ?h19z ?h29z ?h39z ?h49z ?h59z ?h69z (by assumption) (by assumption) (by assumption) (by assumption) ?cr9z) (by assumption) (by assumption) ?_
    (case hd9z => (simp only [depth_deeper, depth_under_make]; omega))
    (case h29z => k_mem)
    (case h19z => k_mem)
    (case h39z => k_mem)
    (case h49z => k_mem)
    (case h59z => k_mem)
    (case h69z => k_mem)
    (case cr9z => exact Heap.CodeRec.keeps (by assumption) (Fr.keep (by assumption)))
    intro h' tk' t' hk9 hs9
    (obtain ⟨es9, n9, nm9, pa9, bd9, sc9, pos9, doc9, pm9, c9, ctv9, o19, o29, tt9, ta9, ep9, G9, O9, r9⟩ := hs9)
    (have F9 := Fr.swap (by assumption) (by assumption) (by k_mem) hk9)
    (have N9 := News.swap (by assumption) hk9 (by k_upd) (O9 _ (.tail _ (.tail _ (.tail _ (.tail _ (.tail _ (.head _))))))).1)
    clear hk9 O9 r9 G9
    (try k_sweep))
  trivial
theorem NlA.setLine {es : List DictEntry} {v : Value} {pb : Addr} {ln : Nat} (a : NlA es v pb ln) (ln' : Nat) {hsh : Int} {t u : Tok} {x : Value} (hx : x = .int (ln' : Int) u) : NlA (putL "lineno" hsh (.str "lineno" t) x es) v pb ln' := by
  subst hx
  have ne : ∀ {nm : Str} {r}, nm ≠ "lineno" → getL nm es = r → getL nm (putL "lineno" hsh (.str "lineno" t) (.int (ln' : Int) u) es) = r := fun h e => (getL_put_ne h).trans e
  obtain ⟨ts, hs⟩ := a.lineno
  obtain ⟨tw, hw⟩ := a.whitespace
  exact ⟨⟨u, getL_put_eq⟩, ne (by decide +kernel) a.instream, ⟨tw, ne (by decide +kernel) hw⟩, ne (by decide +kernel) a.pushback, ne (by decide +kernel) a.m1, ne (by decide +kernel) a.m2, ne (by decide +kernel) a.m3, ne (by decide +kernel) a.m4, by rw [length_put_of hs]; exact a.len⟩
theorem rc_code {w : World} {p : Program} {loose : List Str} {mg mb : Str → Option Value} {g : Heap} {A : Around} {s : Shared} {Q E : Value → Shared → Prop}
  {q dq pb st dst f ct cp pl : Addr} {l : List Nat} {a c ln : Nat} {its : Array Value}
  (C : Cx w p loose mg mb g s.heap) (hdp : A.depth ≤ 570)
  (I : Que w g s.heap q dq pb st dst f ct cp pl l a ln its) (hi : ∀ i t, its ≠ #[.int i t]) (hc : l[a]? = some c) (hlen : l.length ≤ 1000) (hln : ln ≤ 1000)
  (hret : ∀ h' tk' t', Keeps [pl, dq] s.heap h' → Que w g h' q dq pb st dst f ct cp pl l (a + 1) (if c = 10 then ln + 1 else ln) its → Q (.str (tx [c]) t') { s with heap := h', toks := tk' }) :
  codeAny (model P0 w) A (.call (.ref 65) ⟨[.ref q], []⟩) (fun r s' => match r with | .ok (.ret v) => Q v s' | .ok _ => False | .error e => E e s') s := by
  obtain ⟨c', es, n, ep, es2, n2, fo, o1, o2, ta, ep2, X⟩ := I.out
  obtain ⟨⟨e1, e2, e3, e4, e5, e6, e7, e8⟩, ⟨b1, b2, b3, b4, b5, b6, b7⟩, hcn⟩ := X.parts hi
  obtain ⟨O, A0, r, ⟨tt, d1⟩, d2, hfo, cr⟩ := X
  have a0 := A0
  obtain ⟨⟨ta1, a1⟩, a2, ⟨ta3, a3⟩, a4, a5, a6, a7, a8, a9⟩ := A0
  refine' enter _ C.X C.T C.S O ?k1 ?k2 ?k3 ?k4 ?k5 ?_ ?k6 ?k7 ?k8 ?k9
  case k1 => k_is
  case k2 => k_is
  case k3 => exact Nat.lt_of_le_of_lt hdp (by decide)
  case k4 => exact BindsTo.of_eq rfl
  case k5 => exact locs rfl
  case k6 => exact rfl
  case k7 => exact rfl
  case k8 => exact rfl
  case k9 => decide
  intro g' L' h' F' N' X' T' hG9 hg9
  have cr' := codeRec_hide cr hG9 hcn
  dsimp only
  show wpAny _ _ _ _ _ _
  k_fold
  by_cases h10 : c = 10
  · subst h10
    rw [if_pos rfl] at hret
    k_steps
    all_goals (repeat' (first | (dsimp only) | (k_unfold; dsimp only)))
    rename Fr _ _ _ _ => F9
    rename News _ _ _ _ => N9
    refine' hret _ _ _ (keeps_out hG9 F9 (fun p hp => (O p hp).1) ?e1) (que_own (Own.back N9 hg9) ?h7 ?h8 ?h9 ?hA ?h1 ?h2 ?h3 ?h4 ?h5 ?h6 hfo r d1 d2 (cr'.keeps F9.keep))
    case e1 => tb_rel
    case h7 => k_mem
    case h8 => k_mem
    case h9 => k_mem
    case hA => exact a0.setLine (ln + 1) (u := _) rfl
    case h1 => exact .tail _ (.tail _ (.tail _ (.head _)))
    case h2 => exact .tail _ (.tail _ (.tail _ (.tail _ (.head _))))
    case h3 => k_mem
    case h4 => k_mem
    case h5 => k_mem
    case h6 => k_mem
  · rw [if_neg h10] at hret
    have f1 : (tx [c] == Str.ofString "\n") = false := by rw [show Str.ofString "\n" = tx [10] from rfl, tx_beq]; simpa using h10
    k_steps
    all_goals (repeat' (first | (dsimp only) | (k_unfold; dsimp only)))
    rename Fr _ _ _ _ => F9
    rename News _ _ _ _ => N9
    refine' hret _ _ _ (keeps_out hG9 F9 (fun p hp => (O p hp).1) ?e1) (que_own (Own.back N9 hg9) ?h7 ?h8 ?h9 ?hA ?h1 ?h2 ?h3 ?h4 ?h5 ?h6 hfo r d1 d2 (cr'.keeps F9.keep))
    case e1 => tb_rel
    case h7 => k_mem
    case h8 => k_mem
    case h9 => k_mem
    case hA => exact a0
    case h1 => exact .tail _ (.tail _ (.tail _ (.head _)))
    case h2 => exact .tail _ (.tail _ (.tail _ (.tail _ (.head _))))
    case h3 => k_mem
    case h4 => k_mem
    case h5 => k_mem
    case h6 => k_mem
theorem rc_at {w : World} {p : Program} {loose : List Str} {mg mb : Str → Option Value} {g : Heap} {A : Around} {s : Shared} {Q E : Value → Shared → Prop}
  {q dq pb st dst f ct cp pl : Addr} {l : List Nat} {a c ln : Nat} {its : Array Value}
  (C : Cx w p loose mg mb g s.heap) (hdp : A.depth ≤ 570)
  (I : Que w g s.heap q dq pb st dst f ct cp pl l a ln its) (hi : ∀ i t, its ≠ #[.int i t]) (hc : l[a]? = some c) (hlen : l.length ≤ 1000) (hln : ln ≤ 1000)
  (hret : ∀ h' tk' t', Keeps [pl, dq] s.heap h' → Que w g h' q dq pb st dst f ct cp pl l (a + 1) (if c = 10 then ln + 1 else ln) its → Q (.str (tx [c]) t') { s with heap := h', toks := tk' }) :
  wpAny (model P0 w) A (call (.ref 65) [.ref q]) Q E s :=
  wpAny_call (rc_code C hdp I hi hc hlen hln hret)
theorem rc_end {w : World} {p : Program} {loose : List Str} {mg mb : Str → Option Value} {g : Heap} {A : Around} {s : Shared} {Q E : Value → Shared → Prop}
  {q dq pb st dst f ct cp pl : Addr} {l : List Nat} {a ln : Nat} {its : Array Value}
  (C : Cx w p loose mg mb g s.heap) (hdp : A.depth ≤ 570)
  (I : Que w g s.heap q dq pb st dst f ct cp pl l a ln its) (hi : ∀ i t, its ≠ #[.int i t]) (hc : a = l.length) (hlen : l.length ≤ 1000) (hln : ln ≤ 1000)
  (hret : ∀ h' tk' t', Keeps [pl, dq] s.heap h' → Que w g h' q dq pb st dst f ct cp pl l a ln its → Q (.str (tx []) t') { s with heap := h', toks := tk' }) :
  wpAny (model P0 w) A (call (.ref 65) [.ref q]) Q E s := by
  obtain ⟨c', es, n, ep, es2, n2, fo, o1, o2, ta, ep2, X⟩ := I.out
  obtain ⟨⟨e1, e2, e3, e4, e5, e6, e7, e8⟩, ⟨b1, b2, b3, b4, b5, b6, b7⟩, hcn⟩ := X.parts hi
  obtain ⟨O, A0, r, ⟨tt, d1⟩, d2, hfo, cr⟩ := X
  have a0 := A0
  obtain ⟨⟨ta1, a1⟩, a2, ⟨ta3, a3⟩, a4, a5, a6, a7, a8, a9⟩ := A0
  tb_start
  intro g' L' h' F' N' X' T' hG9 hg9
  have cr' := codeRec_hide cr hG9 hcn
  dsimp only
  show wpAny _ _ _ _ _ _
  k_fold
  k_steps
  all_goals (repeat' (first | (dsimp only) | (k_unfold; dsimp only)))
  rename Fr _ _ _ _ => F9
  rename News _ _ _ _ => N9
  refine' hret _ _ _ (keeps_out hG9 F9 (fun p hp => (O p hp).1) ?e1) (que_own (Own.back N9 hg9) ?h7 ?h8 ?h9 ?hA ?h1 ?h2 ?h3 ?h4 ?h5 ?h6 hfo r d1 d2 (cr'.keeps F9.keep))
  case e1 => tb_rel
  case h7 => k_mem
  case h8 => k_mem
  case h9 => k_mem
  case hA => exact a0
  case h1 => exact .tail _ (.tail _ (.tail _ (.head _)))
  case h2 => exact .tail _ (.tail _ (.tail _ (.tail _ (.head _))))
  case h3 => k_mem
  case h4 => k_mem
  case h5 => k_mem
  case h6 => k_mem
end
theorem reg_C13_end : True := by
  k_with_none
  trivial
-- CIt
section
open PySem.Builtin
theorem wpAny_callBorrowed {M : Model} {A : Around} {E : Value → Shared → Prop} {s : Shared} {f : Value} {pos : List Value} {Q : Value → Shared → Prop}
    (hc : codeAny M A (.call f ⟨pos, []⟩) (fun r s' => match r with | .ok (.ret v) => Q v s' | .ok _ => False | .error e => E e s') s) : wpAny M A (callBorrowed f pos) Q E s := fun Γ p hΓ =>
  wpCode_mono (fun r s' h => by
    cases r with
    | error e => exact h
    | ok f => cases f <;> exact h) (hc _ p rfl (hΓ.enter _ none p (by intro x; cases x)))
theorem slot_cit_next : Slot "callable_iterator" "__next__" "callable_iterator.__next__" :=
  .of (owner := "callable_iterator") (n := "__next__") (by rw [typeLookup_type, builtinLookup_eq_fast]; kernel_rfl) (by decide +kernel) (by decide +kernel) (by decide +kernel)
    (by first | exact .inl (by decide +kernel) | exact .inr (by decide +kernel)) (by rw [isSubtype_type]; kernel_rfl)
theorem slot_cit_iter : Slot "callable_iterator" "__iter__" "callable_iterator.__iter__" :=
  .of (owner := "callable_iterator") (n := "__iter__") (by rw [typeLookup_type, builtinLookup_eq_fast]; kernel_rfl) (by decide +kernel) (by decide +kernel) (by decide +kernel)
    (by first | exact .inl (by decide +kernel) | exact .inr (by decide +kernel)) (by rw [isSubtype_type]; kernel_rfl)
theorem entry_cit_next : entryFor table "callable_iterator.__next__" = some Builtin.«callable_iterator.__next__» := entryFor_of_tree (by kernel_rfl)
theorem args_cit_next (a : Value) : argsOk "callable_iterator.__next__" ⟨[a], []⟩ := by unfold argsOk; kernel_rfl
abbrev citObj (f v : Value) : Obj := { cls := .type "callable_iterator", data := .fields #[f, v, .bool false] }
theorem cit_next {w : World} {p : Program} {loose : List Str} {mg mb : Str → Option Value} {g : Heap} {A : Around} {s : Shared} {Q : Option Value → Shared → Prop} {E : Value → Shared → Prop}
  {fi bm q dq pb st dst f ct cp pl : Addr} {l : List Nat} {a c ln : Nat} {its : Array Value} {t0 : Tok}
  (C : Cx w p loose mg mb g s.heap) (hdp : A.depth ≤ 560) (hfi : s.heap.get? fi = some (citObj (.ref bm) (.str "" t0))) (hbm : s.heap.get? bm = some (methodObj (.ref 65) (.ref q))) (nfi : fi ≠ pl) (nfi' : fi ≠ dq)
  (I : Que w g s.heap q dq pb st dst f ct cp pl l a ln its) (hi : ∀ i t, its ≠ #[.int i t]) (hc : l[a]? = some c) (hlen : l.length ≤ 1000) (hln : ln ≤ 1000)
  (hret : ∀ h' tk' t', Keeps [pl, dq] s.heap h' → Que w g h' q dq pb st dst f ct cp pl l (a + 1) (if c = 10 then ln + 1 else ln) its → Q (some (.str (tx [c]) t')) { s with heap := h', toks := tk' }) :
  wpAny (model P0 w) A (pyNext (.ref fi)) Q E s := by
  have hT : s.TypeIs (.ref fi) "callable_iterator" := ⟨_, hfi, rfl⟩
  unfold pyNext
  refine wpAny_bind (wpAny_attempt (wpAny_callSpecial?_slot (name := Str.ofString "__next__") hT slot_cit_next
    (wpAny_call_entry slot_cit_next hT entry_cit_next ?_ (args_cit_next _))))
  show wpAny _ _ (field (.ref fi) 2 >>= _) _ _ s
  refine wpAny_bind (wpAny_field hfi rfl (x := .bool false) rfl ?_)
  show wpAny _ _ (field (.ref fi) 0 >>= _) _ _ s
  refine wpAny_bind (wpAny_field hfi rfl (x := .ref bm) rfl ?_)
  have hX := C.X.keeps C.S
  have h65 := hX 65 ⟨_, _, .func _, _⟩ (by k_is)
  refine wpAny_bind (wpAny_attempt ?_)
  unfold callOutOfASlot borrowsExactly
  refine wpAny_bind (wpAny_bind (wpAny_load hbm ?_))
  dsimp only
  refine wpAny_bind (wpAny_load h65 ?_)
  dsimp only
  refine wpAny_pure ?_
  show wpAny _ _ (callBorrowed _ _) _ _ _
  refine wpAny_callBorrowed (method_call hbm ?_)
  refine rc_code C ?_ I hi hc hlen hln fun h' tk' t' k I' => ?_
  · show A.in1.depth ≤ 570; rw [depth_in1]; omega
  have hfi' := k _ _ hfi (by simp [nfi, nfi'])
  have e9 : decide ((Str.ofString "") = tx [c]) = false := by
    refine decide_eq_false fun e => ?_
    have := congrArg Str.length e
    rw [tx_length] at this
    have h01 : (0 : Nat) = 1 := this
    exact absurd h01 (by decide)
  show wpAny _ _ (field (.ref fi) 2 >>= _) _ _ _
  refine wpAny_bind (wpAny_field hfi' rfl (x := .bool false) rfl ?_)
  show wpAny _ _ (field (.ref fi) 1 >>= _) _ _ _
  refine wpAny_bind (wpAny_field hfi' rfl (x := .str "" t0) rfl ?_)
  refine wpAny_bind (wpAny_holding (wpAny_eqBool_str ?_))
  rw [e9]
  exact wpAny_pure ⟨_, rfl, wpAny_pure (hret _ _ _ k I')⟩
end
-- ForB
section
section
variable {prog : Program} {w : World} {A : Around} {E : Value → Shared → Prop} {s : Shared} {env : Env}
/-- a for over an iterator, by what holds between its turns -/
theorem for_by {x : Str} {px pos : Pos} {iter : Expr} {body : List Stmt} {Q : Flow → Shared → Prop} (it : Value) (I : Nat → Shared → Prop) (n : Nat)
    (h : wpAny (model prog w) A (eval iter env) (fun xv s₁ => wpAny (model prog w) A (pyIter xv) (fun i s₂ => i = it ∧ I n s₂) E s₁) E s)
    (turn : ∀ (E' : Value → Shared → Prop) n s, I n s → wpAny (model prog w) A (pyNext it) (fun r s₁ => match r with
        | none => Q .next s₁
        | some v => wpAny (model prog w) A (storeName env x v) (fun _ s₂ => wpAny (model prog w) A (execs body env) (fun f s₃ => match f with
            | .next | .cont => Turned I n s₃
            | .brk => Q .next s₃
            | .ret v => Q (.ret v) s₃) E' s₂) E' s₁) E' s)
    (hs : ∀ x, foldedSetIterable iter env x = pure x := by intro _; rfl) :
    wpAny (model prog w) A (exec (.For (.Name x px) iter body [] pos) env) Q E s := by
  refine wpAny_For (wpAny_mono h (fun xv s₁ h₁ => wpAny_mono h₁ (fun i s₂ h₂ => ?_) fun _ _ e => e) fun _ _ e => e) hs
  obtain ⟨rfl, hI⟩ := h₂
  refine codeAny_forLoop I (fun n s hI => ?_) n hI
  refine wpAny_mono (turn _ n s hI) (fun r s₁ hr => ?_) fun _ _ e => e
  cases r with
  | none => exact wpAny_execs_nil hr
  | some v =>
    refine wpAny_assign_Name (wpAny_mono hr (fun _ s₂ h₂ => wpAny_mono h₂ (fun f s₃ hf => ?_) fun _ _ e => e) fun _ _ e => e)
    cases f <;> first | exact hf.ex | exact hf
end
end
-- CIu
section
open PySem.Builtin
theorem entry_cit_iter : entryFor table "callable_iterator.__iter__" = some Builtin.«dict_keyiterator.__iter__» :=
  entryFor_alias (id' := "dict_keyiterator.__iter__") (by kernel_rfl) rfl (by decide +kernel) (by kernel_rfl)
theorem args_cit_iter (a : Value) : argsOk "callable_iterator.__iter__" ⟨[a], []⟩ := by unfold argsOk; kernel_rfl
section
variable {prog : Program} {w : World} {A : Around} {E : Value → Shared → Prop} {s : Shared}
theorem cit_iter {fi : Addr} {f v : Value} {Q : Value → Shared → Prop} (hfi : s.heap.get? fi = some (citObj f v)) (h : Q (.ref fi) s) : wpAny (model prog w) A (pyIter (.ref fi)) Q E s := by
  have hT : s.TypeIs (.ref fi) "callable_iterator" := ⟨_, hfi, rfl⟩
  refine wpAny_pyIter_slot hT slot_cit_iter (wpAny_call_entry slot_cit_iter hT entry_cit_iter ?_ (args_cit_iter _))
  exact wpAny_pure ⟨_, rfl, "callable_iterator", _, hT, slot_cit_next.lookup, h⟩
theorem kind_iter : builtinKind "iter" = none := by decide +kernel
theorem plain_iter : plainId "iter" = true := by decide +kernel
theorem entry_iter : entryFor table "iter" = some Builtin.«iter» := entryFor_of_tree (by kernel_rfl)
theorem args_iter2 (a b : Value) : argsOk "iter" ⟨[a, b], []⟩ := by unfold argsOk; kernel_rfl
theorem call_meth_look : ∃ r, typeLookup (.type "method") "__call__" = pure (some r) := ⟨.builtin "method.__call__", by rw [typeLookup_type, builtinLookup_eq_fast]; kernel_rfl⟩
theorem iter_two {bm : Addr} {f self v : Value} {Q : Value → Shared → Prop} (hbm : s.heap.get? bm = some (methodObj f self))
    (h : Q (.ref s.heap.objs.size) { s with heap := s.heap.push (citObj (.ref bm) v) }) : wpAny (model prog w) A (call (.builtin "iter") [.ref bm, v]) Q E s := by
  have hT : s.TypeIs (.ref bm) "method" := ⟨_, hbm, rfl⟩
  obtain ⟨r, hr⟩ := call_meth_look
  refine Calls.call_function_entry kind_iter plain_iter entry_iter (args_iter2 _ _) ?_
  unfold Builtin.«iter»
  refine wpAny_bind (m := someArgs "iter" 1 2 _) (wpAny_pure ?_)
  show wpAny _ _ (specialOf (.ref bm) "__call__" >>= _) _ _ _
  refine wpAny_bind (wpAny_specialOf (name := Str.ofString "__call__") hT hr ?_)
  show wpAny _ _ (newFields "callable_iterator" [.ref bm, v, .bool false] >>= _) _ _ _
  exact wpAny_bind (wpAny_newObj_type (wpAny_pure ⟨_, rfl, h⟩))
end
end
-- C14
section
/-- how repr writes a line's signs between double quotes -/
def enc : List Nat → List Nat
  | [] => []
  | c :: r => if c = 92 then 92 :: 92 :: enc r else c :: enc r
theorem enc_append (a b : List Nat) : enc (a ++ b) = enc a ++ enc b := by
  induction a with
  | nil => rfl
  | cons c r ih =>
    simp only [List.cons_append, enc, ih]
    split <;> rfl
abbrev quL (q dq pb st dst f ct cp pl : Addr) (a : Nat) (its : Array Value) (es : List DictEntry) (n ep : Nat) (es2 : List DictEntry) (n2 : Nat) (fo o1 o2 : Obj) (ta : Tok) (ep2 : Nat) : List (Addr × Obj) :=
  [(q, instObj 82 dq), (dq, dictOf es n), (pb, W.listOf its ep), (st, instObj 82 dst), (dst, dictOf es2 n2), (f, fo), (ct, o1), (cp, o2), (pl, W.listOf #[.int (a : Int) ta] ep2)]
theorem que_news {w : World} {g h : Heap} {L : Addr} {q dq pb st dst f ct cp pl c' : Addr} {l : List Nat} {a ln : Nat} {its : Array Value} {es : List DictEntry} {n ep : Nat} {es2 : List DictEntry} {n2 : Nat} {fo o1 o2 : Obj} {tt ta : Tok} {ep2 : Nat} {own : List (Addr × Obj)}
  (N : News g L h (own ++ quL q dq pb st dst f ct cp pl a its es n ep es2 n2 fo o1 o2 ta ep2)) (A : NlA es (.ref st) pb ln)
  (F : Fo w fo ct cp c') (r : getL "read" es2 = some (some (.ref f))) (d1 : o1.data = .cell (some (.str (tx l) tt))) (d2 : o2.data = .cell (some (.ref pl))) (cr : h.CodeRec (.ref c') giveQual) : Que w g h q dq pb st dst f ct cp pl l a ln its :=
  que_own (m := quL q dq pb st dst f ct cp pl a its es n ep es2 n2 fo o1 o2 ta ep2) (fun p hp => Own.of_news N p (List.mem_append_right _ hp)) (by k_mem) (by k_mem) (by k_mem) A (.tail _ (.tail _ (.tail _ (.head _)))) (.tail _ (.tail _ (.tail _ (.tail _ (.head _))))) (by k_mem) (by k_mem) (by k_mem) (by k_mem) F r d1 d2 cr
/-- behind a call that changed the queue's dict and the stream's place -/
theorem que_swap {w : World} {g h h' : Heap} {L : Addr} {m : Str → Option Value} {q dq pb st dst f ct cp pl : Addr} {l : List Nat} {a a' ln : Nat} {its : Array Value} {es : List DictEntry} {n ep : Nat} {es2 : List DictEntry} {n2 : Nat} {fo o1 o2 : Obj} {ta : Tok} {ep2 : Nat} {own : List (Addr × Obj)}
  (F : Fr g L h m) (N : News g L h (own ++ quL q dq pb st dst f ct cp pl a its es n ep es2 n2 fo o1 o2 ta ep2)) (ho : ∀ p ∈ own, p.1 ≠ pl ∧ p.1 ≠ dq)
  (hne : ((@Ne Nat q dq) ∧ (@Ne Nat pb dq) ∧ (@Ne Nat st dq) ∧ (@Ne Nat dst dq) ∧ (@Ne Nat f dq) ∧ (@Ne Nat ct dq) ∧ (@Ne Nat cp dq) ∧ (@Ne Nat pl dq)) ∧
  ((@Ne Nat q pl) ∧ (@Ne Nat pb pl) ∧ (@Ne Nat st pl) ∧ (@Ne Nat dst pl) ∧ (@Ne Nat f pl) ∧ (@Ne Nat ct pl) ∧ (@Ne Nat cp pl)))
  (k : Keeps [pl, dq] h h') (I : Que w g h' q dq pb st dst f ct cp pl l a' ln its) :
  Fr g L h' m ∧ ∃ es' n' ta' ep2', News g L h' (own ++ quL q dq pb st dst f ct cp pl a' its es' n' ep es2 n2 fo o1 o2 ta' ep2') ∧ NlA es' (.ref st) pb ln := by
  obtain ⟨⟨e1, e2, e3, e4, e5, e6, e7, e8⟩, b1, b2, b3, b4, b5, b6, b7⟩ := hne
  have ip : (pl, W.listOf #[.int (a : Int) ta] ep2) ∈ own ++ quL q dq pb st dst f ct cp pl a its es n ep es2 n2 fo o1 o2 ta ep2 := List.mem_append_right _ (by k_mem)
  have id : (dq, dictOf es n) ∈ own ++ quL q dq pb st dst f ct cp pl a its es n ep es2 n2 fo o1 o2 ta ep2 := List.mem_append_right _ (.tail _ (.head _))
  refine ⟨Mine.Fr.after F k ?_ ?_, ?_⟩
  · intro z
    simp only [List.mem_cons, List.not_mem_nil, or_false] at z
    rcases z with z | z
    · exact (N _ ip).2.1 z.symm
    · exact (N _ id).2.1 z.symm
  · intro x z
    simp only [List.mem_cons, List.not_mem_nil, or_false] at z
    rcases z with rfl | rfl
    · exact (N _ ip).2.2
    · exact (N _ id).2.2
  obtain ⟨es', n', ep', O1, A, es2', n2', nm, pa, bd, sc, pos, doc, pm, c', ctv, o1', o2', tt, ta', ep2', G, O2, r, d1, d2, cr⟩ := I
  refine ⟨es', n', ta', ep2', fun p hp => ?_, A⟩
  have keep : ∀ p, p ∈ own ++ quL q dq pb st dst f ct cp pl a its es n ep es2 n2 fo o1 o2 ta ep2 → p.1 ≠ pl → p.1 ≠ dq → h'.get? p.1 = some p.2 ∧ p.1 ≠ L ∧ g.get? p.1 = none := fun p hp x y => ⟨k _ _ (N p hp).1 (by simp [x, y]), (N p hp).2⟩
  rcases List.mem_append.mp hp with hp | hp
  · exact keep p (List.mem_append_left _ hp) (ho p hp).1 (ho p hp).2
  simp only [quL, List.mem_cons, List.not_mem_nil, or_false] at hp
  rcases hp with rfl | rfl | rfl | rfl | rfl | rfl | rfl | rfl | rfl
  · exact keep _ (List.mem_append_right _ (.head _)) b1 e1
  · exact ⟨(O1 (dq, dictOf es' n') (by simp)).1, (N _ id).2⟩
  · exact keep _ (List.mem_append_right _ (.tail _ (.tail _ (.head _)))) b2 e2
  · exact keep _ (List.mem_append_right _ (.tail _ (.tail _ (.tail _ (.head _))))) b3 e3
  · exact keep _ (List.mem_append_right _ (.tail _ (.tail _ (.tail _ (.tail _ (.head _)))))) b4 e4
  · exact keep _ (List.mem_append_right _ (.tail _ (.tail _ (.tail _ (.tail _ (.tail _ (.head _))))))) b5 e5
  · exact keep _ (List.mem_append_right _ (.tail _ (.tail _ (.tail _ (.tail _ (.tail _ (.tail _ (.head _)))))))) b6 e6
  · exact keep _ (List.mem_append_right _ (.tail _ (.tail _ (.tail _ (.tail _ (.tail _ (.tail _ (.tail _ (.head _))))))))) b7 e7
  · exact ⟨(O2 (pl, W.listOf #[.int (a' : Int) ta'] ep2') (.tail _ (.tail _ (.tail _ (.tail _ (.tail _ (.head _))))))).1, (N _ ip).2⟩
/-- what stands between two signs of get_token -/
def QI (g' : Heap) (L' fi bm q dq pb st dst f ct cp pl : Addr) (its : Array Value) (ep : Nat) (es2 : List DictEntry) (n2 : Nat) (fo o1 o2 : Obj) (tf : Tok) (s₀ : Shared) (pos ln : Nat) (tok : List Nat) (s : Shared) : Prop :=
  ∃ h tk m es n ta ep2 tt, s = { s₀ with heap := h, toks := tk } ∧ Fr g' L' h m ∧ m "self" = some (.ref q) ∧ m "fiter" = some (.ref fi) ∧ m "token" = some (.str (tx tok) tt) ∧
    News g' L' h ([(fi, citObj (.ref bm) (.str "" tf)), (bm, methodObj (.ref 65) (.ref q))] ++ quL q dq pb st dst f ct cp pl pos its es n ep es2 n2 fo o1 o2 ta ep2) ∧ NlA es (.ref st) pb ln
end
-- C15
section
theorem iter_new {prog : Program} {w : World} {A : Around} {E : Value → Shared → Prop} {s : Shared} {bm : Addr} {f self v : Value} {Q : Value → Shared → Prop} (hbm : s.heap.get? bm = some (methodObj f self))
    (h : ∀ (fi : Addr) h', Keeps [] s.heap h' → h'.get? fi = some (citObj (.ref bm) v) → s.heap.get? fi = none → Q (.ref fi) { s with heap := h' }) : wpAny (model prog w) A (call (.builtin "iter") [.ref bm, v]) Q E s :=
  iter_two hbm (h _ _ (fun _ _ e _ => Heap.get?_push_of_some _ e) (Heap.get?_push_size _ rfl) (Heap.get?_none_of_le (Nat.le_refl _)))
theorem reg_C15 : True := by
  k_with_none
  k_with "k_get" => (first | assumption | exact getL_put_eq | (refine Eq.trans (getL_put_ne (by decide +kernel)) ?_; k_get) | (refine' isSome_of ?h9z; case h9z => k_get) | (refine' isSome_of' ?h9z; case h9z => k_get) | exact rfl)
  k_with "k_put" => (exact rfl)
  k_with "setAttr ref" => (k_here; k_dflt (
    (refine' set_dict ?k19z ?k29z ?k39z ?k49z ?k59z ?k69z ?k79z ?k89z ?k99z ?k109z ?k119z ?k129z ?k139z ?_; (case k19z => k_asm); (case k29z => k_asm); (case k39z => k_asm); (case k49z => k_inst); (case k59z => exact rfl); (case k69z => k_is); (case k79z => k_is); (case k89z => k_is); (case k99z => k_is); (case k109z => k_get); (case k119z => exact rfl); (case k129z => k_upd); (case k139z => ((repeat (refine length_put_le ?_)); omega)); k_whole; intro h' F' N'; (try k_sweep))))
  k_with "size_fits" => (first | assumption | ((try simp only [tx_length]); rw [sizeLine_eq]; omega))
  k_with "k_ne" => (first | assumption | (refine Ne.symm ?_; assumption))
  k_with "tb_rel" => (first
    | exact List.forall_mem_nil _
    | (refine List.forall_mem_cons.mpr ⟨?ta9z, ?tb9z⟩; (case ta9z => first | exact fun _ => News.get (by assumption) (by k_mem) | exact fun h9 => absurd (by simp) h9); (case tb9z => tb_rel)))
  k_with "tb_start" => (
    refine wpAny_call ?_
    refine' enter _ (Cx.X (by assumption)) (Cx.T (by assumption)) (Cx.S (by assumption)) (by assumption) ?k19z ?k29z ?k39z ?k49z ?k59z ?_ ?k69z ?k79z ?k89z ?k99z
    (case k19z => k_is)
    (case k29z => k_is)
    (case k39z => ((try simp only [depth_deeper, depth_under_make, depth_in1, recursionLimit]); omega))
    (case k49z => first | exact BindsTo.of_eq rfl | exact binds_K (Frag.In.keeps (Cx.X (by assumption)) (Cx.S (by assumption))) rfl (by k_is) rfl rfl rfl)
    (case k59z => exact locs rfl)
    (case k69z => exact rfl)
    (case k79z => exact rfl)
    (case k89z => exact rfl)
    (case k99z => decide)
    skip)
  k_with "exec If" => (refine wpAny_If ?_)
  k_with "execs nil" => (refine wpAny_execs_nil ?_)
  k_with "execs cons" => ((with_reducible refine wpAny_execs_cons ?_); (try dsimp only); (try k_fold); (try (with_reducible refine wp_tok ?_; intro tk9)))
  k_with "compareOp In str str" => (first | refine in_is (v := true) (by decide +kernel) ?_ | refine in_is (v := false) (by decide +kernel) ?_ | refine in_is (by assumption) ?_)
  k_with "compareOp Eq str str" => (first | refine eq_is (v := true) (by decide +kernel) ?_ | refine eq_is (v := false) (by decide +kernel) ?_ | refine eq_is (by assumption) ?_)
  k_with "truthy str" => (first | with_reducible refine truth_one ?_ | (with_reducible (refine truth_lit (v := false) (by decide +kernel) ?_)) | (with_reducible (refine truth_lit (v := true) (by decide +kernel) ?_)) | (with_reducible (refine truth_tx (by omega) ?_ ?_) <;> intro hw9))
  k_with "inplaceOp Add str str" => (refine iadd_tx (by ((try simp only [List.length_cons, List.length_nil]); omega)) ?_; intro t9 tk9)
  k_with "eval Name" => (k_here; k_dflt (refine' ld ?k19z ?k29z ?_; (case k19z => k_asm); (case k29z => (first | assumption | (refine if_keep (by decide +kernel) ?_; first | assumption | (refine if_keep (by decide +kernel) ?_; first | assumption | (refine if_keep (by decide +kernel) ?_; assumption))))); k_whole))
  trivial
theorem reg_C15_1 : True := by
  k_with "k_ne" => (first | assumption | (refine Ne.symm ?_; assumption) | (refine neN ?_; (try dsimp only); omega))
  trivial
theorem reg_C15_2 : True := by
  k_with "ktr_rel" => (first | assumption | exact if_pos rfl | (refine if_keep (by decide +kernel) ?_; ktr_rel))
  trivial
theorem reg_C15_3 : True := by
  k_with "loadName" => (k_dflt (refine' wpAny_loadName_local ?k19z ?k29z (Fr.ns (by assumption)) ?k39z ?_; (case k19z => exact rfl); (case k29z => exact rfl); (case k39z => first | assumption | (refine if_keep (by decide +kernel) ?_; first | assumption | (refine if_keep (by decide +kernel) ?_; assumption))); k_whole))
  trivial
theorem reg_C15_4 : True := by
  k_with "call builtin:iter" => (
    refine iter_new (News.get (by assumption) (by k_mem)) ?_
    intro fi9 h' hk9 he9 hn9
    (have q9 := allNe_of (by assumption) hn9)
    (simp only [AllNe, and_true] at q9)
    (have N9 := News.newer (by assumption) (by assumption) hk9 he9 hn9)
    (have F9 := Fr.after (by assumption) hk9 (fun q => nomatch q) (fun _ q => nomatch q))
    clear hk9 he9 hn9
    (try k_sweep))
  trivial
theorem fst_of {g h : Heap} {L a : Addr} {o : Obj} {l : List (Addr × Obj)} (_N : News g L h ((a, o) :: l)) : ∃ x : Addr, x = a := ⟨a, rfl⟩
theorem snd_of {g h : Heap} {L a : Addr} {o : Obj} {p : Addr × Obj} {l : List (Addr × Obj)} (_N : News g L h (p :: (a, o) :: l)) : ∃ x : Addr, x = a := ⟨a, rfl⟩
theorem QI.intro {g' : Heap} {L' fi bm q dq pb st dst f ct cp pl : Addr} {its : Array Value} {ep : Nat} {es2 : List DictEntry} {n2 : Nat} {fo o1 o2 : Obj} {tf : Tok} {s₀ : Shared} {pos ln : Nat} {tok : List Nat} {h : Heap} {tk : Nat} {m : Str → Option Value} {es : List DictEntry} {n : Nat} {ta : Tok} {ep2 : Nat} {tt : Tok}
  (F : Fr g' L' h m) (m1 : m "self" = some (.ref q)) (m2 : m "fiter" = some (.ref fi)) (m3 : m "token" = some (.str (tx tok) tt))
  (N : News g' L' h ([(fi, citObj (.ref bm) (.str "" tf)), (bm, methodObj (.ref 65) (.ref q))] ++ quL q dq pb st dst f ct cp pl pos its es n ep es2 n2 fo o1 o2 ta ep2)) (A : NlA es (.ref st) pb ln) : QI g' L' fi bm q dq pb st dst f ct cp pl its ep es2 n2 fo o1 o2 tf s₀ pos ln tok { s₀ with heap := h, toks := tk } :=
  ⟨h, tk, m, es, n, ta, ep2, tt, rfl, F, m1, m2, m3, N, A⟩
theorem QI.next {w : World} {p : Program} {loose : List Str} {mg mb : Str → Option Value} {A : Around} {Q : Option Value → Shared → Prop} {E : Value → Shared → Prop}
  {g' : Heap} {L' fi bm q dq pb st dst f ct cp pl c' : Addr} {ep : Nat} {es2 : List DictEntry} {n2 : Nat} {fo o1 o2 : Obj} {tf tt : Tok} {s₀ : Shared} {pos ln : Nat} {tok l : List Nat} {s : Shared} {c : Nat}
  (I : QI g' L' fi bm q dq pb st dst f ct cp pl #[] ep es2 n2 fo o1 o2 tf s₀ pos ln tok s) (X : (hd.heap_1 w.params).In g') (T : TopRead p loose mg mb g') (hdp : A.depth ≤ 560)
  (ho : ∀ p ∈ [(fi, citObj (.ref bm) (.str "" tf)), (bm, methodObj (.ref 65) (.ref q))], p.1 ≠ pl ∧ p.1 ≠ dq)
  (hne : ((@Ne Nat q dq) ∧ (@Ne Nat pb dq) ∧ (@Ne Nat st dq) ∧ (@Ne Nat dst dq) ∧ (@Ne Nat f dq) ∧ (@Ne Nat ct dq) ∧ (@Ne Nat cp dq) ∧ (@Ne Nat pl dq)) ∧
  ((@Ne Nat q pl) ∧ (@Ne Nat pb pl) ∧ (@Ne Nat st pl) ∧ (@Ne Nat dst pl) ∧ (@Ne Nat f pl) ∧ (@Ne Nat ct pl) ∧ (@Ne Nat cp pl)))
  (hfo : Fo w fo ct cp c') (r : getL "read" es2 = some (some (.ref f))) (d1 : o1.data = .cell (some (.str (tx l) tt))) (d2 : o2.data = .cell (some (.ref pl))) (cr : g'.CodeRec (.ref c') giveQual)
  (hc : l[pos]? = some c) (hlen : l.length ≤ 1000) (hln : ln ≤ 1000)
  (h : ∀ s' t', QI g' L' fi bm q dq pb st dst f ct cp pl #[] ep es2 n2 fo o1 o2 tf s₀ (pos + 1) (if c = 10 then ln + 1 else ln) tok s' → Q (some (.str (tx [c]) t')) s') :
  wpAny (model P0 w) A (pyNext (.ref fi)) Q E s := by
  obtain ⟨h₁, tk, m, es, n, ta, ep2, tt', rfl, F, m1, m2, m3, N, A0⟩ := I
  refine cit_next ⟨X, T, F.keep⟩ hdp (News.get N (.head _)) (News.get N (.tail _ (.head _))) (ho _ (.head _)).1 (ho _ (.head _)).2 (que_news N A0 hfo r d1 d2 (cr.keeps F.keep)) (fun _ _ e => nomatch congrArg Array.size e) hc hlen hln fun h' tk' t' k I' => ?_
  obtain ⟨F', es', n', ta', ep2', N', A'⟩ := que_swap F N ho hne k I'
  exact h _ _ ⟨h', tk', m, es', n', ta', ep2', tt', rfl, F', m1, m2, m3, N', A'⟩
theorem reg_C15_5 : True := by
  k_with "call ref" => (
    (with_reducible show wpAny _ _ (call (Value.ref 65) _ _) _ _ _)
    refine' rc_at ⟨by assumption, by assumption, Fr.keep (by assumption)⟩ ?hd9z (que_news (own := [(_, citObj _ _), (_, methodObj _ _)]) (by assumption) (by assumption) (by assumption) (by assumption) (by assumption) (by assumption) ?cr9z) (by intro _ _ e; exact nomatch congrArg Array.size e) (by assumption) (by assumption) ?hln9z ?_
    (case hd9z => (simp only [depth_deeper, depth_under_make]; omega))
    (case cr9z => exact Heap.CodeRec.keeps (by assumption) (Fr.keep (by assumption)))
    (case hln9z => omega)
    intro h' tk' t' hk9 hs9
    (obtain ⟨F9, es9, n9, ta9, ep9, N9, a9⟩ := que_swap (own := [(_, citObj _ _), (_, methodObj _ _)]) (by assumption) (by assumption) (by assumption) (by assumption) hk9 hs9)
    clear hk9 hs9
    (try k_sweep))
  trivial
theorem que_sub {w : World} {g g' h : Heap} {q dq pb st dst f ct cp pl : Addr} {l : List Nat} {a ln : Nat} {its : Array Value} (hg : ∀ b o, g.get? b = some o → g'.get? b = some o) (I : Que w g' h q dq pb st dst f ct cp pl l a ln its) : Que w g h q dq pb st dst f ct cp pl l a ln its := by
  have none : ∀ b, g'.get? b = none → g.get? b = none := fun b e => by
    cases z : g.get? b with
    | none => rfl
    | some o => rw [hg b o z] at e; cases e
  obtain ⟨es, n, ep, O1, A, es2, n2, nm, pa, bd, sc, pos, doc, pm, c', ctv, o1, o2, tt, ta, ep2, G, O2, r⟩ := I
  exact ⟨es, n, ep, fun p hp => ⟨(O1 p hp).1, none _ (O1 p hp).2⟩, A, es2, n2, nm, pa, bd, sc, pos, doc, pm, c', ctv, o1, o2, tt, ta, ep2, G, fun p hp => ⟨(O2 p hp).1, none _ (O2 p hp).2⟩, r⟩
theorem enc_len : ∀ a : List Nat, a.length ≤ (enc a).length
  | [] => Nat.le_refl _
  | c :: r => by
    have := enc_len r
    unfold enc
    split <;> simp <;> omega
theorem qg_line {w : World} {p : Program} {loose : List Str} {mg mb : Str → Option Value} {g : Heap} {A : Around} {s : Shared} {Q E : Value → Shared → Prop}
  {q dq pb st dst f ct cp pl : Addr} {l pre nl line rest : List Nat} {ln : Nat}
  (C : Cx w p loose mg mb g s.heap) (hdp : A.depth ≤ 550) (hh : A.handled = none)
  (I : Que w g s.heap q dq pb st dst f ct cp pl l pre.length ln #[]) (hl : l = pre ++ (nl ++ 34 :: (enc line ++ 34 :: rest))) (hnl : nl = [] ∨ nl = [10]) (hw : ∀ c ∈ line, c ≠ 10 ∧ c ≠ 34) (hlen : l.length ≤ 1000) (hln : ln ≤ 900)
  (hret : ∀ h' tk' t', Keeps [pl, dq] s.heap h' → Que w g h' q dq pb st dst f ct cp pl l (pre.length + nl.length + 2 + (enc line).length) (ln + nl.length) #[] → Q (.str (tx line) t') { s with heap := h', toks := tk' }) :
  wpAny (model P0 w) A (call (.ref 72) [.ref q]) Q E s := by
  obtain ⟨c', es, n, ep, es2, n2, fo, o1, o2, ta, ep2, X⟩ := I.out
  obtain ⟨hne0, hne1, hcn⟩ := X.parts (fun _ _ e => nomatch congrArg Array.size e)
  have hne := And.intro hne0 hne1
  obtain ⟨e1, e2, e3, e4, e5, e6, e7, e8⟩ := hne0
  obtain ⟨b1, b2, b3, b4, b5, b6, b7⟩ := hne1
  obtain ⟨O, A0, r, ⟨tt, d1⟩, d2, hfo, cr⟩ := X
  have a0 := A0
  obtain ⟨⟨ta1, a1⟩, a2, ⟨ta3, a3⟩, a4, a5, a6, a7, a8, a9⟩ := A0
  tb_start
  intro g' L' h' F' N' X' T' hG9 hg9
  have cr' := codeRec_hide cr hG9 hcn
  dsimp only
  show wpAny _ _ _ _ _ _
  k_fold
  repeat' (first | (k_unfold; (try dsimp only)) | ((fail_if_success (with_reducible show wpAny _ _ (exec (PySem.Stmt.For _ _ _ _ _) _) _ _ _)); walk1))
  rename Fr _ _ _ _ => F9
  rename News _ _ _ _ => N9
  obtain ⟨fi, rfl⟩ := fst_of N9
  obtain ⟨bm, rfl⟩ := snd_of N9
  obtain ⟨tf, N8⟩ : ∃ tf : Tok, News g' L' _ ([(fi, citObj (.ref bm) (.str "" tf)), (bm, methodObj (.ref 65) (.ref q))] ++ quL q dq pb st dst f ct cp pl pre.length #[] es n ep es2 n2 fo o1 o2 ta ep2) := ⟨_, N9⟩
  clear N9
  have ho : ∀ p ∈ [(fi, citObj (.ref bm) (.str "" tf)), (bm, methodObj (.ref 65) (.ref q))], p.1 ≠ pl ∧ p.1 ≠ dq := by
    simp only [List.forall_mem_cons]
    exact ⟨⟨by k_ne, by k_ne⟩, ⟨by k_ne, by k_ne⟩, List.forall_mem_nil _⟩
  refine for_by (.ref fi) (fun n s9 => (n = 2 ∧ nl = [10] ∧ QI g' L' fi bm q dq pb st dst f ct cp pl #[] ep es2 n2 fo o1 o2 tf s pre.length ln [] s9) ∨ (n = 1 ∧ QI g' L' fi bm q dq pb st dst f ct cp pl #[] ep es2 n2 fo o1 o2 tf s (pre.length + nl.length) (ln + nl.length) [] s9)) (nl.length + 1) ?_ ?_
  · walk1
    refine cit_iter (News.get N8 (.head _)) ⟨rfl, ?_⟩
    rcases hnl with rfl | rfl
    · exact .inr ⟨rfl, QI.intro F9 (by ktr_rel) (by ktr_rel) (by ktr_rel) N8 a0⟩
    · exact .inl ⟨rfl, rfl, QI.intro F9 (by ktr_rel) (by ktr_rel) (by ktr_rel) N8 a0⟩
  clear F9 N8 a0 a1 a2 a3 a4 a5 a6 a7 a8 a9
  rintro E1 n9 s9 (⟨rfl, rfl, hQ⟩ | ⟨rfl, hQ⟩)
  · have hc : l[pre.length]? = some 10 := by rw [hl]; simp
    refine QI.next hQ X' T' (by simp only [depth_deeper]; omega) ho hne hfo r d1 d2 cr' hc hlen (by omega) fun s' t' hQ' => ?_
    rw [if_pos rfl] at hQ'
    obtain ⟨h₁, tk, m, es, n, ta, ep2, tt', rfl, F9, m1, m2, m3, N9, A0⟩ := hQ'
    have a0 := A0
    obtain ⟨⟨ta1, a1⟩, a2, ⟨ta3, a3⟩, a4, a5, a6, a7, a8, a9⟩ := A0
    dsimp only
    show wpAny _ _ _ _ _ _
    k_fold
    k_steps
    all_goals (repeat' (first | (dsimp only) | (k_unfold; dsimp only)))
    rename Fr _ _ _ _ => F9
    rename News _ _ _ _ => N9
    exact ⟨1, by omega, .inr ⟨rfl, QI.intro F9 (by ktr_rel) (by ktr_rel) (by ktr_rel) N9 a0⟩⟩
  · have hc : l[pre.length + nl.length]? = some 34 := by
      rw [hl, List.getElem?_append_right (by omega)]
      simp
    refine QI.next hQ X' T' (by simp only [depth_deeper]; omega) ho hne hfo r d1 d2 cr' hc hlen (by rcases hnl with rfl | rfl <;> simp <;> omega) fun s' t' hQ' => ?_
    rw [if_neg (by decide)] at hQ'
    obtain ⟨h₁, tk, m, es, n, ta, ep2, tt', rfl, F9, m1, m2, m3, N9, A0⟩ := hQ'
    have a0 := A0
    obtain ⟨⟨ta1, a1⟩, a2, ⟨ta3, a3⟩, a4, a5, a6, a7, a8, a9⟩ := A0
    dsimp only
    show wpAny _ _ _ _ _ _
    k_fold
    repeat' (first | (k_unfold; (try dsimp only)) | ((fail_if_success (with_reducible show wpAny _ _ (exec (PySem.Stmt.For _ _ _ _ _) _) _ _ _)); walk1))
    rename Fr _ _ _ _ => F9
    rename News _ _ _ _ => N9
    have hlen2 : (enc line).length ≤ 1000 := by rw [hl] at hlen; simp at hlen; omega
    refine for_by (.ref fi) (fun n s9 => ∃ j, j ≤ line.length ∧ n = line.length - j + 1 ∧ QI g' L' fi bm q dq pb st dst f ct cp pl #[] ep es2 n2 fo o1 o2 tf s (pre.length + nl.length + 1 + (enc (line.take j)).length) (ln + nl.length) (line.take j) s9) (line.length + 1) ?_ ?_
    · walk1
      refine cit_iter (News.get N9 (.head _)) ⟨rfl, 0, Nat.zero_le _, rfl, QI.intro F9 (by ktr_rel) (by ktr_rel) (by ktr_rel) N9 a0⟩
    clear F9 N9 a0 a1 a2 a3 a4 a5 a6 a7 a8 a9
    rintro E2 n9 s9 ⟨j, hj, rfl, hQ⟩
    have hln' : ln + nl.length ≤ 1000 := by rcases hnl with rfl | rfl <;> simp <;> omega
    by_cases hjl : j < line.length
    · have hcw := hw line[j] (List.getElem_mem hjl)
      have htk : line.take (j + 1) = line.take j ++ [line[j]] := by rw [List.take_add_one]; simp [hjl]
      have hsp : enc line = enc (line.take j) ++ (enc [line[j]] ++ enc (line.drop (j + 1))) := by
        rw [← enc_append, ← enc_append]
        congr 1
        rw [List.singleton_append, ← List.drop_eq_getElem_cons hjl, List.take_append_drop]
      have hlt : (line.take j).length ≤ 1000 := by rw [List.length_take]; have := enc_len line; omega
      generalize hcc : line[j] = c at hcw htk hsp
      have hll : l = (pre ++ nl ++ 34 :: enc (line.take j)) ++ (enc [c] ++ (enc (line.drop (j + 1)) ++ 34 :: rest)) := by rw [hl, hsp]; simp
      have hpp : (pre ++ nl ++ 34 :: enc (line.take j)).length = pre.length + nl.length + 1 + (enc (line.take j)).length := by simp; omega
      by_cases h92 : c = 92
      · subst h92
        have hc : l[pre.length + nl.length + 1 + (enc (line.take j)).length]? = some 92 := by
          rw [hll, ← hpp, List.getElem?_append_right (Nat.le_refl _)]; simp [enc]
        have hc2 : l[pre.length + nl.length + 1 + (enc (line.take j)).length + 1]? = some 92 := by
          rw [hll, ← hpp, List.getElem?_append_right (Nat.le_succ _)]; simp [enc]
        refine QI.next hQ X' T' (by simp only [depth_deeper]; omega) ho hne hfo r d1 d2 cr' hc hlen hln' fun s' t' hQ' => ?_
        rw [if_neg (by decide)] at hQ'
        obtain ⟨h₁, tk, m, es, n, ta, ep2, tt', rfl, F9, m1, m2, m3, N9, A0⟩ := hQ'
        have a0 := A0
        obtain ⟨⟨ta1, a1⟩, a2, ⟨ta3, a3⟩, a4, a5, a6, a7, a8, a9⟩ := A0
        dsimp only
        show wpAny _ _ _ _ _ _
        k_fold
        k_steps
        all_goals (repeat' (first | (dsimp only) | (k_unfold; dsimp only)))
        rename Fr _ _ _ _ => F9
        rename News _ _ _ _ => N9
        refine ⟨line.length - (j + 1) + 1, by omega, j + 1, by omega, rfl, ?_⟩
        rw [htk, enc_append]
        have hp9 : pre.length + nl.length + 1 + (enc (line.take j)).length + 1 + 1 = pre.length + nl.length + 1 + (enc (line.take j) ++ enc [92]).length := by simp [enc]; omega
        rw [← hp9]
        rename NlA _ _ _ _ => A9
        rw [if_neg (by decide)] at A9
        exact QI.intro F9 (by ktr_rel) (by ktr_rel) (by ktr_rel) N9 A9
      · have hc : l[pre.length + nl.length + 1 + (enc (line.take j)).length]? = some c := by
          rw [hll, ← hpp, List.getElem?_append_right (Nat.le_refl _)]; simp [enc, h92]
        have f1 : (tx [c] == Str.ofString "\"") = false := by rw [show Str.ofString "\"" = tx [34] from rfl, tx_beq]; simpa using hcw.2
        have f2 : (tx [c] == Str.ofString "\\") = false := by rw [show Str.ofString "\\" = tx [92] from rfl, tx_beq]; simpa using h92
        refine QI.next hQ X' T' (by simp only [depth_deeper]; omega) ho hne hfo r d1 d2 cr' hc hlen hln' fun s' t' hQ' => ?_
        rw [if_neg hcw.1] at hQ'
        obtain ⟨h₁, tk, m, es, n, ta, ep2, tt', rfl, F9, m1, m2, m3, N9, A0⟩ := hQ'
        have a0 := A0
        obtain ⟨⟨ta1, a1⟩, a2, ⟨ta3, a3⟩, a4, a5, a6, a7, a8, a9⟩ := A0
        dsimp only
        show wpAny _ _ _ _ _ _
        k_fold
        k_steps
        all_goals (repeat' (first | (dsimp only) | (k_unfold; dsimp only)))
        rename Fr _ _ _ _ => F9
        rename News _ _ _ _ => N9
        refine ⟨line.length - (j + 1) + 1, by omega, j + 1, by omega, rfl, ?_⟩
        rw [htk, enc_append]
        have hp9 : pre.length + nl.length + 1 + (enc (line.take j)).length + 1 = pre.length + nl.length + 1 + (enc (line.take j) ++ enc [c]).length := by simp [enc, h92]; omega
        rw [← hp9]
        exact QI.intro F9 (by ktr_rel) (by ktr_rel) (by ktr_rel) N9 a0
    · have hj' : j = line.length := by omega
      subst hj'
      rw [List.take_length] at hQ
      have hc : l[pre.length + nl.length + 1 + (enc line).length]? = some 34 := by
        rw [hl, show pre ++ (nl ++ 34 :: (enc line ++ 34 :: rest)) = (pre ++ nl ++ 34 :: enc line) ++ 34 :: rest by simp, List.getElem?_append_right (by simp; omega)]
        simp [show pre.length + nl.length + 1 + (enc line).length - (pre.length + (nl.length + ((enc line).length + 1))) = 0 by omega]
      refine QI.next hQ X' T' (by simp only [depth_deeper]; omega) ho hne hfo r d1 d2 cr' hc hlen hln' fun s' t' hQ' => ?_
      rw [if_neg (by decide)] at hQ'
      obtain ⟨h₁, tk, m, es, n, ta, ep2, tt', rfl, F9, m1, m2, m3, N9, A0⟩ := hQ'
      have a0 := A0
      obtain ⟨⟨ta1, a1⟩, a2, ⟨ta3, a3⟩, a4, a5, a6, a7, a8, a9⟩ := A0
      dsimp only
      show wpAny _ _ _ _ _ _
      k_fold
      k_steps
      all_goals (repeat' (first | (dsimp only) | (k_unfold; dsimp only)))
      rename Fr _ _ _ _ => F9
      rename News _ _ _ _ => N9
      have hend : pre.length + nl.length + 1 + (enc line).length + 1 = pre.length + nl.length + 2 + (enc line).length := by omega
      rw [hend] at N9
      refine hret _ _ _ (keeps_out hG9 F9 (fun p hp => (O p hp).1) ?_) (que_sub hg9 (que_news N9 a0 hfo r d1 d2 (cr'.keeps F9.keep)))
      tb_rel
end
theorem reg_C15_end : True := by
  k_with_none
  trivial
-- C16
section
theorem pop0 {prog : Program} {w : World} {A : Around} {E : Value → Shared → Prop} {s : Shared} {h₀ : Heap} {L D : Addr} {m : Str → Option Value} {news news' : List (Addr × Obj)} {n : Nat} {v : Value} {its : List Value} {u : Tok} {Q : Value → Shared → Prop}
  (F : Fr h₀ L s.heap m) (N : News h₀ L s.heap news) (U : Upd D (W.listOf (v :: its).toArray n) (W.listOf its.toArray (n + 1)) news news') (hz : its.length ≤ 1000) (h : ∀ h', Fr h₀ L h' m → News h₀ L h' news' → Q v { s with heap := h' }) :
  wpAny (model prog w) A (call (.builtin "list.pop") [.ref D, .int 0 u]) Q E s :=
  kl_popAt (k := 0) (p := []) (q := its) F N rfl (by simp [seqIndex?]) rfl U (by show its.length + 1 ≤ _; rw [sizeLine_eq]; omega) h
theorem qu_own {g h : Heap} {q dq pb : Addr} {es : List DictEntry} {n ep : Nat} {arr : Array Value} {its : List Value} {iv : Value} {ln : Nat} (O : Own g h [(q, instObj 82 dq), (dq, dictOf es n), (pb, W.listOf arr ep)]) (A : NlA es iv pb ln) (e : arr = its.toArray) :
  ∃ es n ep, Own g h [(q, instObj 82 dq), (dq, dictOf es n), (pb, W.listOf its.toArray ep)] ∧ NlA es iv pb ln := by
  subst e; exact ⟨es, n, ep, O, A⟩
theorem truthy_ls {prog : Program} {w : World} {A : Around} {E : Value → Shared → Prop} {s : Shared} {l : Addr} {v : Value} {its : List Value} {ep : Nat} {Q : Bool → Shared → Prop} (ho : s.heap.get? l = some (W.listOf (v :: its).toArray ep)) (hs : its.length ≤ 1000)
    (h : Q true { s with toks := s.toks + 1 + 1 }) : wpAny (model prog w) A (truthy (.ref l)) Q E s :=
  wpAny_truthy_list (items := (v :: its).toArray) ⟨_, ho, rfl, _, rfl⟩ (by simp; omega) (by
    rw [show (!(v :: its).toArray.isEmpty) = true by simp]; exact h)
theorem reg_C16 : True := by
  k_with_none
  k_with "k_get" => (first | assumption | exact getL_put_eq | (refine Eq.trans (getL_put_ne (by decide +kernel)) ?_; k_get) | (refine' isSome_of ?h9z; case h9z => k_get) | (refine' isSome_of' ?h9z; case h9z => k_get) | exact rfl)
  k_with "k_put" => (exact rfl)
  k_with "setAttr ref" => (k_here; k_dflt (
    (refine' set_dict ?k19z ?k29z ?k39z ?k49z ?k59z ?k69z ?k79z ?k89z ?k99z ?k109z ?k119z ?k129z ?k139z ?_; (case k19z => k_asm); (case k29z => k_asm); (case k39z => k_asm); (case k49z => k_inst); (case k59z => exact rfl); (case k69z => k_is); (case k79z => k_is); (case k89z => k_is); (case k99z => k_is); (case k109z => k_get); (case k119z => exact rfl); (case k129z => k_upd); (case k139z => ((repeat (refine length_put_le ?_)); omega)); k_whole; intro h' F' N'; (try k_sweep))))
  k_with "size_fits" => (first | assumption | ((try simp only [tx_length]); rw [sizeLine_eq]; omega))
  k_with "k_ne" => (first | assumption | (refine Ne.symm ?_; assumption))
  k_with "tb_rel" => (first
    | exact List.forall_mem_nil _
    | (refine List.forall_mem_cons.mpr ⟨?ta9z, ?tb9z⟩; (case ta9z => first | exact fun _ => News.get (by assumption) (by k_mem) | exact fun h9 => absurd (by simp) h9); (case tb9z => tb_rel)))
  k_with "tb_start" => (
    refine wpAny_call ?_
    refine' enter _ (Cx.X (by assumption)) (Cx.T (by assumption)) (Cx.S (by assumption)) (by assumption) ?k19z ?k29z ?k39z ?k49z ?k59z ?_ ?k69z ?k79z ?k89z ?k99z
    (case k19z => k_is)
    (case k29z => k_is)
    (case k39z => ((try simp only [depth_deeper, depth_under_make, depth_in1, recursionLimit]); omega))
    (case k49z => first | exact BindsTo.of_eq rfl | exact binds_K (Frag.In.keeps (Cx.X (by assumption)) (Cx.S (by assumption))) rfl (by k_is) rfl rfl rfl)
    (case k59z => exact locs rfl)
    (case k69z => exact rfl)
    (case k79z => exact rfl)
    (case k89z => exact rfl)
    (case k99z => decide)
    skip)
  k_with "exec If" => (refine wpAny_If ?_)
  k_with "execs nil" => (refine wpAny_execs_nil ?_)
  k_with "execs cons" => ((with_reducible refine wpAny_execs_cons ?_); (try dsimp only); (try k_fold); (try (with_reducible refine wp_tok ?_; intro tk9)))
  k_with "kse_has" => (first | with_reducible assumption | with_reducible exact List.mem_cons_self | (with_reducible refine List.mem_cons_of_mem _ ?_; kse_has) | (with_reducible refine List.mem_append_left _ ?_; kse_has) | (with_reducible refine List.mem_append_right _ ?_; kse_has))
  trivial
theorem reg_C16_1 : True := by
  k_with "k_ne" => (first | assumption | (refine Ne.symm ?_; assumption) | (refine neN ?_; (try dsimp only); omega))
  trivial
theorem reg_C16_2 : True := by
  k_with "truthy ref" => (refine truthy_ls (News.get (by assumption) (by k_mem)) (by assumption) ?_)
  trivial
theorem reg_C16_3 : True := by
  k_with "call builtin:list.pop" => (k_dflt (refine' pop0 ?F9z ?N9z ?U9z ?z9z ?_; (case F9z => assumption); (case N9z => assumption); (case U9z => k_upd); (case z9z => assumption)); intro h' F' N'; (try k_sweep))
  trivial
/-- a queue, of its stream nothing -/
def Qu (g h : Heap) (q dq pb : Addr) (its : List Value) (iv : Value) (ln : Nat) : Prop :=
  ∃ es n ep, Own g h [(q, instObj 82 dq), (dq, dictOf es n), (pb, W.listOf its.toArray ep)] ∧ NlA es iv pb ln
theorem q_push {w : World} {p : Program} {loose : List Str} {mg mb : Str → Option Value} {g : Heap} {A : Around} {s : Shared} {Q E : Value → Shared → Prop}
  {q dq pb : Addr} {its : List Value} {iv v : Value} {ln : Nat}
  (C : Cx w p loose mg mb g s.heap) (hdp : A.depth ≤ 580) (I : Qu g s.heap q dq pb its iv ln) (hsz : its.length ≤ 1000)
  (hret : ∀ h' tk', Keeps [pb] s.heap h' → Qu g h' q dq pb (its ++ [v]) iv ln → Q .none { s with heap := h', toks := tk' }) :
  wpAny (model P0 w) A (call (.ref 79) [.ref q, v]) Q E s := by
  obtain ⟨es, n, ep, O, A0⟩ := I
  have a0 := A0
  obtain ⟨⟨ta1, a1⟩, a2, ⟨ta3, a3⟩, a4, a5, a6, a7, a8, a9⟩ := A0
  have e1 := ne_of_objs O (a := q) (b := pb) (o := instObj 82 dq) (o' := W.listOf its.toArray ep) (by first | kse_has | simp) (by first | kse_has | simp) (fun e => nomatch congrArg Obj.data e)
  have e2 := ne_of_objs O (a := dq) (b := pb) (o := dictOf es n) (o' := W.listOf its.toArray ep) (by first | kse_has | simp) (by first | kse_has | simp) (fun e => nomatch congrArg Obj.data e)
  have hs9 : its.toArray.size ≤ 1000 := by simpa using hsz
  tb_start
  intro g' L' h' F' N' X' T' hG9 hg9
  dsimp only
  show wpAny _ _ _ _ _ _
  k_fold
  k_steps
  all_goals (repeat' (first | (dsimp only) | (k_unfold; dsimp only)))
  rename Fr _ _ _ _ => F9
  rename News _ _ _ _ => N9
  exact hret _ _ (keeps_out hG9 F9 (fun p hp => (O p hp).1) (by tb_rel)) (qu_own (Own.back N9 hg9) a0 (by first | kse_has | simp))
theorem q_pop {w : World} {p : Program} {loose : List Str} {mg mb : Str → Option Value} {g : Heap} {A : Around} {s : Shared} {Q E : Value → Shared → Prop}
  {q dq pb : Addr} {its : List Value} {iv v : Value} {ln : Nat}
  (C : Cx w p loose mg mb g s.heap) (hdp : A.depth ≤ 580) (I : Qu g s.heap q dq pb (v :: its) iv ln) (hsz : its.length ≤ 1000)
  (hret : ∀ h' tk', Keeps [pb] s.heap h' → Qu g h' q dq pb its iv ln → Q v { s with heap := h', toks := tk' }) :
  wpAny (model P0 w) A (call (.ref 72) [.ref q]) Q E s := by
  obtain ⟨es, n, ep, O, A0⟩ := I
  have a0 := A0
  obtain ⟨⟨ta1, a1⟩, a2, ⟨ta3, a3⟩, a4, a5, a6, a7, a8, a9⟩ := A0
  have e1 := ne_of_objs O (a := q) (b := pb) (o := instObj 82 dq) (o' := W.listOf (v :: its).toArray ep) (by first | kse_has | simp) (by first | kse_has | simp) (fun e => nomatch congrArg Obj.data e)
  have e2 := ne_of_objs O (a := dq) (b := pb) (o := dictOf es n) (o' := W.listOf (v :: its).toArray ep) (by first | kse_has | simp) (by first | kse_has | simp) (fun e => nomatch congrArg Obj.data e)
  have hs9 : (v :: its).toArray.size ≤ 1001 := by simp; omega
  tb_start
  intro g' L' h' F' N' X' T' hG9 hg9
  dsimp only
  show wpAny _ _ _ _ _ _
  k_fold
  k_steps
  all_goals (repeat' (first | (dsimp only) | (k_unfold; dsimp only)))
  rename Fr _ _ _ _ => F9
  rename News _ _ _ _ => N9
  exact hret _ _ (keeps_out hG9 F9 (fun p hp => (O p hp).1) (by tb_rel)) (qu_own (Own.back N9 hg9) a0 rfl)
end
theorem reg_C16_end : True := by
  k_with_none
  trivial
-- Word
section
open PySem.Builtin PySem.Builtin.Str
def lawSigns : List Nat := [32, 33, 35, 36, 38, 40, 41, 42, 59, 60, 62, 63, 91, 92, 93, 94, 96, 123, 124, 125, 126]
/-- a word of the law: at most two of its signs -/
def IsWord (l : List Nat) : Prop := l.length ≤ 2 ∧ ∀ c ∈ l, c ∈ lawSigns
def allWords : List (List Nat) := [] :: ((lawSigns.map fun a => [a]) ++ lawSigns.flatMap fun a => lawSigns.map fun b => [a, b])
theorem IsWord.mem {l : List Nat} (h : IsWord l) : l ∈ allWords := by
  obtain ⟨h1, h2⟩ := h
  match l, h1, h2 with
  | [], _, _ => exact .head _
  | [a], _, h2 => exact .tail _ (List.mem_append_left _ (List.mem_map.mpr ⟨a, h2 a (by simp), rfl⟩))
  | [a, b], _, h2 => exact .tail _ (List.mem_append_right _ (List.mem_flatMap.mpr ⟨a, h2 a (by simp), List.mem_map.mpr ⟨b, h2 b (by simp), rfl⟩⟩))
  | _ :: _ :: _ :: _, h1, _ => simp at h1
theorem replace_all : (allWords.all fun l => Txt.replace (tx l) (Str.ofString "'") (Str.ofString "'\"'\"'") == tx l) = true := by decide +kernel
theorem replace_word {l : List Nat} (h : IsWord l) : Txt.replace (tx l) (Str.ofString "'") (Str.ofString "'\"'\"'") = tx l := by
  have := List.all_eq_true.mp replace_all l h.mem
  exact eq_of_beq this
end
-- Sre1
section
open PySem.Builtin PySem.Builtin.Str
def drive : Nat → Sre.M → Option Sre.M
  | 0, _ => none
  | n + 1, m => if (m.runFor Re.reTurnSteps).outcome.isSome then some (m.runFor Re.reTurnSteps) else drive n (m.runFor Re.reTurnSteps)
theorem reDrive_of {M : Model} {A : Around} {E : Value → Shared → Prop} {s : Shared} {Q : Sre.M → Shared → Prop} {m' : Sre.M} (k : Nat) : ∀ (n : Nat) (m : Sre.M), drive n m = some m' → Q m' s → wpAny M A (Re.reDrive (k + n) m) Q E s
  | 0, _, h, _ => nomatch h
  | n + 1, m, h, hQ => by
    show wpAny M A (if (m.runFor Re.reTurnSteps).outcome.isSome then pure (m.runFor Re.reTurnSteps) else (rule "sre.turn" >>= fun _ => Re.reDrive (k + n) (m.runFor Re.reTurnSteps))) Q E s
    unfold drive at h
    split at h
    · rename_i h1
      rw [if_pos h1]
      cases h
      exact wpAny_pure hQ
    · rename_i h1
      rw [if_neg h1]
      exact wpAny_bind (wpAny_rule (reDrive_of k n _ h hQ))
def patCode : Array Nat := #[14, 17, 4, 1, 1, 21, 9, 0, 604043296, 1, 0, 0, 0, 0, 0, 8, 4, 0, 13, 14, 21, 9, 0, 604043296, 1, 0, 0, 0, 0, 0, 8, 4, 0, 1]
def mach (l : List Nat) : Sre.M := Sre.forSearch patCode (tx l).cps 0 (min 0 (tx l).cps.size) (min (2 ^ 63 - 1) (tx l).cps.size) false
def found (l : List Nat) : Bool := match drive 30 (mach l) with
  | some m => match m.outcome with
    | some .matched => true
    | _ => false
  | none => false
theorem found_all : (allWords.all fun l => l.isEmpty || found l) = true := by decide +kernel
end
-- Srch
section
open PySem.Builtin PySem.Builtin.Str
theorem owner_pat : Manifest.owners.lookup (String.ofList ['n','r','e','t','t','a','P','.','e','r'].reverse) = some Manifest.sig_re_Pattern := by kernel_rfl
theorem pat_sig : (Manifest.sig_re_Pattern.lookup "search").isSome = true := by kernel_rfl
theorem pat_look : Manifest.signature? "re.Pattern.search" = some ((Manifest.sig_re_Pattern.lookup "search").get pat_sig) := by
  rw [signature?_of (id := "re.Pattern.search") (n := ['h','c','r','a','e','s']) (o := ['n','r','e','t','t','a','P','.','e','r']) (by kernel_rfl) owner_pat]; kernel_rfl
theorem pat_kind : builtinKind "re.Pattern.search" = some .method := by decide +kernel
theorem pat_var : Manifest.varargsMethods.contains "re.Pattern.search" = false := by decide +kernel
theorem pat_args (x : Str) (t : Tok) : Bind.checkArgs "re.Pattern.search" { ((Manifest.sig_re_Pattern.lookup "search").get pat_sig) with full := s!"{Bind.lastOf "re.Pattern"}.{Bind.lastOf "re.Pattern.search"}" } ⟨[.ref 91, .str x t], []⟩ = pure () := by kernel_rfl
theorem entry_search : entryFor table "re.Pattern.search" = some Builtin.«re.Pattern.search» := entryFor_of_tree (by kernel_rfl)
theorem plain_search : plainId "re.Pattern.search" = true := by decide +kernel
theorem re_named (v : Value) : Re.reNamed "re.Pattern.search" "search" ["string", "pos", "endpos"] 1 [v] [] = pure [some v, none, none] := by kernel_rfl
theorem re_text (x : Str) (t : Tok) : Re.reTextOf (.str x t) = pure (x.cps, 0) := by first | rfl | kernel_rfl
theorem wp_rules {M : Model} {A : Around} {E : Value → Shared → Prop} {s : Shared} {Q : PUnit → Shared → Prop} (c : Nat → Bool) (nm : Nat → String) (h : Q PUnit.unit s) : ∀ is : List Nat,
    wpAny M A (forIn is PUnit.unit (fun i _ => if c i = true then (rule (nm i) >>= fun _ => pure (ForInStep.yield PUnit.unit)) else pure (ForInStep.yield PUnit.unit))) Q E s
  | [] => wpAny_pure h
  | i :: r => by
    rw [List.forIn_cons]
    by_cases hc : c i = true
    · rw [if_pos hc]
      exact wpAny_bind (wpAny_bind (wpAny_rule (wpAny_pure (wp_rules c nm h r))))
    · rw [if_neg hc]
      exact wpAny_bind (wpAny_pure (wp_rules c nm h r))
theorem search_t {w : World} {p : Program} {loose : List Str} {mg mb : Str → Option Value} {g : Heap} {A : Around} {s : Shared} {Q E : Value → Shared → Prop} {l : List Nat} {t : Tok}
  (C : Cx w p loose mg mb g s.heap) (hw : IsWord l) (hn : l ≠ [])
  (hret : ∀ a h' tk', Keeps [] s.heap h' → Q (.ref a) { s with heap := h', toks := tk' }) :
  wpAny (model P0 w) A (call (.ref 786) [.str (tx l) t]) Q E s := by
  obtain ⟨hp, gg, dd, tt, oo⟩ := s
  have hX := C.X.keeps C.S
  have e := hX 786 ⟨_, _, .fields _, _⟩ (by k_is)
  refine wpAny_call (codeAny_of_tree ?_)
  show wpAny _ _ (callAny (.ref 786) _) _ _ _
  refine nd_load e ?_
  show wpAny _ _ (checkBoundCall "re.Pattern.search" ⟨[.ref 91, .str (tx l) t], []⟩ >>= fun _ => again (Code.builtin "re.Pattern.search" ⟨[.ref 91, .str (tx l) t], []⟩)) _ _ _
  have h91 := hX 91 ⟨_, _, .fields _, _⟩ (by k_is)
  have i1 := looks_instIn (M := model P0 w) hX (v := .ref 91) (base := .type "module") (r := false) (by k_is)
  have i2 := looks_instIn (M := model P0 w) hX (v := .ref 91) (base := .type "type") (r := false) (by k_is)
  have t1 : Looks (model P0 w) hp (typeOf (.ref 91)) (.type "re.Pattern") := (Looks.ld h91).andThen .now
  unfold checkBoundCall
  rw [pat_look, pat_kind]
  dsimp only
  rw [if_neg (by decide)]
  refine wpAny_bind (wpAny_bind (i1.at ?_))
  rw [pat_var]
  dsimp only [Bool.false_or]
  rw [if_neg (by decide)]
  have ty : Looks (model P0 w) hp (isType (.ref 91)) false := by
    unfold isType
    first | exact (Looks.ld (part := none) h91).andThen .now | exact i2
  refine wpAny_bind (ty.at ?_)
  rw [if_neg (by decide)]
  refine wpAny_bind (t1.at ?_)
  refine wpAny_of_eq (pat_args _ _) (wpAny_pure ?_)
  refine And.intro (Code.quiet_builtin _ (by decide +kernel)) (codeAny_builtin entry_search ?_)
  rw [Around.under_plainId plain_search _]
  have h90 := hX 90 ⟨_, _, .seq _ _, _⟩ (by k_is)
  unfold Builtin.«re.Pattern.search» Re.reTarget
  dsimp only
  refine wpAny_bind (wpAny_bind (wpAny_of_eq (re_named _) ?_))
  dsimp only
  refine wpAny_bind (wpAny_pure ?_)
  refine wpAny_bind (wpAny_pure ?_)
  unfold fieldsOf
  dsimp only
  refine wpAny_bind (wpAny_bind (wpAny_load h91 ?_))
  dsimp only
  refine wpAny_pure ?_
  refine wpAny_bind (wpAny_of_eq (re_text _ _) ?_)
  dsimp only
  rw [if_neg (by decide)]
  rw [if_neg (by decide)]
  refine wpAny_bind (wpAny_of_eq (show Re.reNoCollectionInside (.str (tx l) t) 0 = pure () from rfl) ?_)
  unfold Re.reRawItems
  refine wpAny_bind (wpAny_bind (wpAny_seqItems h90 rfl ?_))
  refine wpAny_pure (wpAny_pure ?_)
  unfold Re.reAnswer
  refine wpAny_bind ?_
  unfold Re.reRunToEnd
  refine wpAny_bind ?_
  dsimp only
  generalize hcd : Array.map (fun (x : Int) => x.toNat) (Array.map Re.reRawOf _) = cd
  have hcd2 : cd = patCode := by rw [← hcd]; decide +kernel
  clear hcd
  subst hcd2
  have hf : found l = true := by
    have := List.all_eq_true.mp found_all l hw.mem
    cases l with
    | nil => exact absurd rfl hn
    | cons a r => simpa using this
  unfold found at hf
  split at hf
  · rename_i m hdr
    split at hf
    · rename_i hout
      show wpAny _ _ (Re.reDrive ((2 ^ 64 - 30) + 30) (mach l)) _ _ _
      refine reDrive_of _ 30 _ hdr ?_
      refine wpAny_bind (wp_rules (fun i => m.seen.has i) (fun i => Sre.names.getD i "") ?_ _)
      rw [hout]
      refine wpAny_pure ?_
      dsimp only
      unfold Re.reNewMatch
      dsimp only
      rw [if_neg (show ¬ _ from fun z => Bool.noConfusion z)]
      refine wpAny_bind (wpAny_bind (wpAny_newObj_type ?_ (by show _ ≤ _; exact Nat.le_of_ble_eq_true rfl)))
      refine wpAny_newObj_type ?_ (by show _ ≤ _; exact Nat.le_of_ble_eq_true rfl)
      refine wpAny_pure ?_
      exact hret _ _ _ (fun _ _ e9 _ => Heap.get?_push_of_some _ (Heap.get?_push_of_some _ e9))
    · cases hf
  · cases hf
end
-- C17
section
open PySem.Builtin PySem.Builtin.Str
theorem add_tx {prog : Program} {w : World} {A : Around} {E : Value → Shared → Prop} {s : Shared} {x y : Str} {t u : Tok} {Q : Value → Shared → Prop} (la lb : List Nat) (hx : x = tx la) (hy : y = tx lb) (hs : la.length + lb.length ≤ 1000000)
    (hq : ∀ t' tk, Q (.str (tx (la ++ lb)) t') { s with toks := tk }) : wpAny (model prog w) A (binaryOp .Add (.str x t) (.str y u)) Q E s := by
  subst hx hy
  exact PyProof.Rows.add_str (fun t' tk => by rw [tx_append]; exact hq t' tk) (by rw [tx_length, tx_length, sizeLine_eq]; omega)
theorem keeps_S {w : World} (h : Heap) (X : (hd.heap_1 w.params).In h) : ∃ k, (k = Keeper.frame ∨ k = Keeper.machine ∨ k = Keeper.boundFrame) ∧ Looks (model P0 w) h (keeperOf (.ref 786)) k := by
  have e := X 786 ⟨_, _, .fields _, _⟩ (by k_is)
  exact ⟨.machine, .inr (.inl rfl), (Looks.ld (part := none) e).andThen .now⟩
theorem callWith_S {w : World} {A : Around} {E : Value → Shared → Prop} {s : Shared} {env : Env} {pos : Pos} {first : List Value} {Q : Value → Shared → Prop} {e : Expr} {rest : List Expr}
  (h : wpAny (model P0 w) A (spliced (backTo pos (starEach (e :: rest) env))) (fun vs s₁ => (hd.heap_1 w.params).In s₁.heap ∧ wpAny (model P0 w) A (call (.ref 786) (first ++ vs)) Q E s₁) E s)
  (he : starEach (e :: rest) env = (false, eval e env) :: starEach rest env := by rfl) (hplain : (backTo pos (starEach rest env)).any (·.1) = false := by rfl) :
  wpAny (model P0 w) A (callWith pos (.ref 786) first (backTo pos (starEach (e :: rest) env)) []) Q E s := by
  rw [he] at h ⊢
  exact callWith_of (by show ((false || (backTo pos (starEach rest env)).any (·.1)) || false) = false; rw [hplain]; rfl) keeps_S (evalArgs_plain h)
theorem reg_C17 : True := by
  k_with_none
  k_with "k_get" => (first | assumption | exact getL_put_eq | (refine Eq.trans (getL_put_ne (by decide +kernel)) ?_; k_get) | (refine' isSome_of ?h9z; case h9z => k_get) | (refine' isSome_of' ?h9z; case h9z => k_get) | exact rfl)
  k_with "k_put" => (exact rfl)
  k_with "setAttr ref" => (k_here; k_dflt (
    (refine' set_dict ?k19z ?k29z ?k39z ?k49z ?k59z ?k69z ?k79z ?k89z ?k99z ?k109z ?k119z ?k129z ?k139z ?_; (case k19z => k_asm); (case k29z => k_asm); (case k39z => k_asm); (case k49z => k_inst); (case k59z => exact rfl); (case k69z => k_is); (case k79z => k_is); (case k89z => k_is); (case k99z => k_is); (case k109z => k_get); (case k119z => exact rfl); (case k129z => k_upd); (case k139z => ((repeat (refine length_put_le ?_)); omega)); k_whole; intro h' F' N'; (try k_sweep))))
  k_with "size_fits" => (first | assumption | ((try simp only [tx_length]); rw [sizeLine_eq]; omega))
  k_with "k_ne" => (first | assumption | (refine Ne.symm ?_; assumption))
  k_with "tb_rel" => (first
    | exact List.forall_mem_nil _
    | (refine List.forall_mem_cons.mpr ⟨?ta9z, ?tb9z⟩; (case ta9z => first | exact fun _ => News.get (by assumption) (by k_mem) | exact fun h9 => absurd (by simp) h9); (case tb9z => tb_rel)))
  k_with "tb_start" => (
    refine wpAny_call ?_
    refine' enter _ (Cx.X (by assumption)) (Cx.T (by assumption)) (Cx.S (by assumption)) (by assumption) ?k19z ?k29z ?k39z ?k49z ?k59z ?_ ?k69z ?k79z ?k89z ?k99z
    (case k19z => k_is)
    (case k29z => k_is)
    (case k39z => ((try simp only [depth_deeper, depth_under_make, depth_in1, recursionLimit]); omega))
    (case k49z => first | exact BindsTo.of_eq rfl | exact binds_K (Frag.In.keeps (Cx.X (by assumption)) (Cx.S (by assumption))) rfl (by k_is) rfl rfl rfl)
    (case k59z => exact locs rfl)
    (case k69z => exact rfl)
    (case k79z => exact rfl)
    (case k89z => exact rfl)
    (case k99z => decide)
    skip)
  k_with "exec If" => (refine wpAny_If ?_)
  k_with "execs nil" => (refine wpAny_execs_nil ?_)
  k_with "execs cons" => ((with_reducible refine wpAny_execs_cons ?_); (try dsimp only); (try k_fold); (try (with_reducible refine wp_tok ?_; intro tk9)))
  k_with "compareOp In str str" => (first | refine in_is (v := true) (by decide +kernel) ?_ | refine in_is (v := false) (by decide +kernel) ?_ | refine in_is (by assumption) ?_)
  k_with "compareOp Eq str str" => (first | refine eq_is (v := true) (by decide +kernel) ?_ | refine eq_is (v := false) (by decide +kernel) ?_ | refine eq_is (by assumption) ?_)
  k_with "truthy str" => (first | with_reducible refine truth_one ?_ | (with_reducible (refine truth_lit (v := false) (by decide +kernel) ?_)) | (with_reducible (refine truth_lit (v := true) (by decide +kernel) ?_)) | (with_reducible (refine truth_tx (by omega) ?_ ?_) <;> intro hw9))
  k_with "inplaceOp Add str str" => (refine iadd_tx (by ((try simp only [List.length_cons, List.length_nil]); omega)) ?_; intro t9 tk9)
  trivial
theorem reg_C17_1 : True := by
  k_with "callWith ref" => ((with_reducible show wpAny _ _ (callWith _ (Value.ref 786) _ _ _) _ _ _); k_dflt (refine callWith_S ?_))
  trivial
theorem reg_C17_2 : True := by
  k_with "call builtin:str.replace" => (refine SC.replaceW (Nat.succ_ne_zero _) (Nat.succ_ne_zero _) (Nat.ne_of_lt (Nat.lt_succ_self _)) (by decide +kernel) (by rw [tx_length]; omega) (by decide +kernel) ?_; intro t9 k9; rw [replace_word (by assumption)])
  trivial
theorem reg_C17_3 : True := by
  k_with "binaryOp Add str str" => (first | (refine add_tx [39] _ rfl rfl (by (try simp only [List.length_cons, List.length_nil, List.length_append]); omega) ?_; intro t9 tk9) | (refine add_tx _ [39] rfl rfl (by (try simp only [List.length_cons, List.length_nil, List.length_append]); omega) ?_; intro t9 tk9))
  trivial
theorem reg_C17_4 : True := by
  k_with "And" => (refine And.intro (Frag.In.keeps (by assumption) (Fr.keep (by assumption))) ?_)
  trivial
theorem reg_C17_5 : True := by
  k_with "call ref" => (
    (with_reducible show wpAny _ _ (call (Value.ref 786) _ _) _ _ _)
    refine' search_t ⟨by assumption, by assumption, Fr.keep (by assumption)⟩ (by assumption) (by assumption) ?_
    intro a9 h' tk' hk9
    (have F9 := Fr.after (by assumption) hk9 (fun q => nomatch q) (fun _ q => nomatch q))
    (have N9 := News.after (by assumption) hk9 (fun _ _ q => nomatch q))
    clear hk9
    (try k_sweep))
  trivial
theorem quote_ok {w : World} {p : Program} {loose : List Str} {mg mb : Str → Option Value} {g : Heap} {A : Around} {s : Shared} {Q E : Value → Shared → Prop} {l : List Nat} {t : Tok}
  (C : Cx w p loose mg mb g s.heap) (hdp : A.depth ≤ 580) (hw : IsWord l)
  (hret : ∀ h' tk' t', Keeps [] s.heap h' → Q (.str (tx (39 :: (l ++ [39]))) t') { s with heap := h', toks := tk' }) :
  wpAny (model P0 w) A (call (.ref 793) [.str (tx l) t]) Q E s := by
  have hlen : l.length ≤ 2 := hw.1
  have O : Own g s.heap [] := fun _ q => nomatch q
  tb_start
  intro g' L' h' F' N' X' T' hG9 hg9
  dsimp only
  show wpAny _ _ _ _ _ _
  k_fold
  k_steps
  all_goals (repeat' (first | (dsimp only) | (k_unfold; dsimp only)))
  · rename Fr _ _ _ _ => F9
    rename l = [] => hl0
    subst hl0
    exact hret _ _ _ (keeps_out hG9 F9 (fun p hp => (O p hp).1) (by tb_rel))

  · rename Fr _ _ _ _ => F9
    exact hret _ _ _ (keeps_out hG9 F9 (fun p hp => (O p hp).1) (by tb_rel))
end
theorem reg_C17_end : True := by
  k_with_none
  trivial
-- Nm
section
section
variable {M : Model} {A : Around} {E : Value → Shared → Prop} {s : Shared} {env : Env} {g : Heap} {L C : Addr} {m m₂ mg mb : Str → Option Value} {p : Program} {loose : List Str} {K : Frag} {x : Str} {v : Value} {pos : Pos} {Q : Value → Shared → Prop}
/-- a global name, whatever the frame -/
theorem nm_global (F : Fr g L s.heap m) (X : K.In g) (T : TopRead p loose mg mb g) (e : nsIn K mainGlobals x = some (some v)) (hg : env.globals = mainGlobals) (hk : env.scope.kind = .function) (hx : env.kindOf x = some .globalImplicit) (hd : (x == ("__debug__" : Str)) = false) (h : Q v s) :
    wpAny M A (eval (.Name x pos) env) Q E s :=
  Name_function_global hk hx (loadGlobal_global (hg ▸ (T.keeps F.keep).g) (mg_of X T.g e) h) hd
/-- a built-in name, whatever the frame -/
theorem nm_built (F : Fr g L s.heap m) (X : K.In g) (T : TopRead p loose mg mb g) (e : nsIn K mainGlobals x = some none) (hv : bootBuiltins x = some v) (hn : x ≠ "__name__") (hg : env.globals = mainGlobals) (hb : env.builtins = builtinsNs) (hk : env.scope.kind = .function) (hx : env.kindOf x = some .globalImplicit) (hd : (x == ("__debug__" : Str)) = false) (h : Q v s) :
    wpAny M A (eval (.Name x pos) env) Q E s :=
  Name_function_global hk hx (loadGlobal_builtin (hg ▸ (T.keeps F.keep).g) (mg_none_of X T.g e) (hb ▸ (T.keeps F.keep).b) ((T.builtins x hn).trans hv) h) hd
/-- a local name of a frame at C -/
theorem nm_local (hn : s.heap.Ns C m₂) (hC : env.locals = C) (hv : m₂ x = some v) (hk : env.scope.kind = .function) (hl : env.kindOf x = some .local) (hd : (x == ("__debug__" : Str)) = false) (h : Q v s) : wpAny M A (eval (.Name x pos) env) Q E s := by
  subst hC
  refine wpAny_Name ?_ hd
  exact wpAny_loadName_local hk hl hn hv h
end
section
variable {prog : Program} {w : World} {A : Around} {E : Value → Shared → Prop} {s : Shared} {env : Env} {g : Heap} {L C q : Addr} {m m₂ mg mb : Str → Option Value} {p : Program} {loose : List Str} {K : Frag} {f x : Str} {v : Value} {fp xp pos : Pos} {Q : Value → Shared → Prop}
/-- f(x): a def of the top, a local name -/
theorem call_top1 (F : Fr g L s.heap m) (X : K.In g) (T : TopRead p loose mg mb g) (e : nsIn K mainGlobals f = some (some (.ref q))) (fn : FnAt q s.heap) (hg : env.globals = mainGlobals) (hk : env.scope.kind = .function) (hx : env.kindOf f = some .globalImplicit) (hd : (f == ("__debug__" : Str)) = false)
    (hn : s.heap.Ns C m₂) (hC : env.locals = C) (hv : m₂ x = some v) (hl : env.kindOf x = some .local) (hd' : (x == ("__debug__" : Str)) = false) (h : wpAny (model prog w) A (call (.ref q) [v]) Q E s) :
    wpAny (model prog w) A (eval (.Call (.Name f fp) [.Name x xp] [] pos) env) Q E s := by
  refine wpAny_Call_Name_kw (nm_global F X T e hg hk hx hd ?_)
  exact callWith_F fn (Calls.spliced_cons (nm_local hn hC hv hk hl hd' (Calls.spliced_nil ⟨fn, h⟩)))
end
theorem FnAt.up {q : Addr} {h h' : Heap} (x : FnAt q h) (k : ∀ b o, h.get? b = some o → h'.get? b = some o) : FnAt q h' := let ⟨a, b, c, d, e⟩ := x; ⟨a, b, c, d, k _ _ e⟩
/-- a cell's name -/
theorem nm_cell {M : Model} {A : Around} {E : Value → Shared → Prop} {s : Shared} {env : Env} {g : Heap} {L c : Addr} {o : Obj} {news : List (Addr × Obj)} {y : Str} {pos : Pos} {v : Value} {Q : Value → Shared → Prop} (N : News g L s.heap news) (hc : env.cells.lookup y = some c) (hm : (c, o) ∈ news) (hd : o.data = .cell (some v)) (hk : env.scope.kind = .function) (hx : env.kindOf y = some .cell) (hb : (y == ("__debug__" : Str)) = false) (h : Q v s) :
    wpAny M A (eval (.Name y pos) env) Q E s := wpAny_Name (wpAny_loadName_cell hk hx hc ⟨o, N.get hm, hd⟩ h) hb
section
variable {prog : Program} {w : World} {A : Around} {E : Value → Shared → Prop} {s : Shared} {env : Env} {g : Heap} {L : Addr} {m : Str → Option Value} {news : List (Addr × Obj)}
/-- a local name is bound -/
theorem nm_store {x : Str} {v : Value} {Q : Unit → Shared → Prop} (hx : env.kindOf x = some .local) (hL : env.locals = L) (hp : (env.scope.kind == .class || (env.scope.kind == .module && env.locals != env.globals)) = false) (F : Fr g L s.heap m) (N : News g L s.heap news)
    (h : ∀ h' tk, Fr g L h' (fun z => if z = x then some v else m z) → News g L h' news → Q () { s with heap := h', toks := tk }) : wpAny (model prog w) A (storeName env x v) Q E s := by
  subst hL
  refine wpAny_storeName_local hx F.ns (fun h₂ hn₂ hs₂ => ?_) hp
  have hL₀ : g.get? env.locals = none := Heap.get?_none_of_le F.above
  exact h h₂ _ ⟨hn₂, fun b o e => hs₂.extBut b o (fun q => by rw [q, hL₀] at e; cases e) (F.keep b o e), F.above⟩ (fun p hp => ⟨hs₂.extBut _ _ (N p hp).2.1 (N p hp).1, (N p hp).2⟩)
theorem len_base {l : Addr} {its : Array Value} {Q : Value → Shared → Prop} (F : Fr g L s.heap m) (hl : g.IsList l its) (hb : its.size ≤ 1000) (h : ∀ t k, Q (.int its.size t) { s with toks := k }) : wpAny (model prog w) A (call (.builtin "len") [.ref l]) Q E s :=
  call_len_list (hl.at fun o e => F.keep _ o e) (by omega) (h _ _)
theorem len_led {l : Addr} {its : Array Value} {n : Nat} {Q : Value → Shared → Prop} (N : News g L s.heap news) (hm : (l, W.listOf its n) ∈ news) (hb : its.size ≤ 1000) (h : ∀ t k, Q (.int its.size t) { s with toks := k }) : wpAny (model prog w) A (call (.builtin "len") [.ref l]) Q E s :=
  call_len_list ⟨_, (N _ hm).1, rfl, _, rfl⟩ (by omega) (h _ _)
end
/-- what a frame's map holds at a name -/
def Look (m : Str → Option Value) (x : Str) (v : Value) : Prop := m x = some v
theorem Look.here {m : Str → Option Value} {x : Str} {v : Value} : Look (fun z => if z = x then some v else m z) x v := if_pos rfl
theorem Look.next {m : Str → Option Value} {x b : Str} {u : Option Value} {v : Value} (hn : x ≠ b) (h : Look m x v) : Look (fun z => if z = b then u else m z) x v := (if_neg hn).trans h
theorem Look.of {m : Str → Option Value} {x : Str} {v : Value} (h : m x = some v) : Look m x v := h
theorem Look.is {m : Str → Option Value} {x : Str} {v : Value} (h : Look m x v) : m x = some v := h
theorem nm_look {M : Model} {A : Around} {E : Value → Shared → Prop} {s : Shared} {env : Env} {g : Heap} {L : Addr} {m : Str → Option Value} {x : Str} {v : Value} {pos : Pos} {Q : Value → Shared → Prop} (hl : env.kindOf x = some .local) (F : Fr g L s.heap m) (hC : env.locals = L) (hk : env.scope.kind = .function) (hd : (x == ("__debug__" : Str)) = false) (hv : Look m x v) (h : Q v s) : wpAny M A (eval (.Name x pos) env) Q E s :=
  nm_local F.ns hC hv hk hl hd h
end
-- Gx
section
section
variable {M : Model} {A : Around} {E : Value → Shared → Prop} {s : Shared}
/-- a generator's code, made or found -/
theorem genCode_any {env : Env} {c P : Addr} {ps : Array Value} {pos : Pos} {qn : Str} {scope : Scope} {Q : Value → Shared → Prop} (hc : env.code = .ref c) (C : CodeHd s.heap c P) (hP : s.heap.get? P = some (tabObj ps))
    (hps : ps = #[] ∨ ∃ c', ps = #[rawInt pos.line, rawInt pos.col, .ref c'] ∧ s.heap.CodeRec (.ref c') qn)
    (h : ∀ c' h' tk, Heap.ExtBut P s.heap h' → s.heap.objs.size ≤ h'.objs.size → h'.get? P = some (tabObj #[rawInt pos.line, rawInt pos.col, .ref c']) → h'.CodeRec (.ref c') qn → c' < h'.objs.size → (s.heap.get? c' = none ∨ h' = s.heap) → Q (.ref c') { s with heap := h', toks := tk }) :
    wpAny M A (genexprCode env pos qn scope) Q E s := by
  rcases hps with rfl | ⟨c', rfl, cr⟩
  · refine wpAny_genexprCodeX hc (C.code hP True.intro) (C.tab hP) rfl fun c' h' tk hx h1 h2 _ hr ht _ => ?_
    exact h c' h' tk hx (Nat.le_of_lt (Nat.lt_of_le_of_lt h1 h2)) ht.2 hr h2 (.inl (Heap.get?_none_of_le h1))
  · refine wpAny_genexprCode_hit hc (C.code hP (TriplesOk_snoc _ _ _ [] True.intro)) (codeAmong_snoc [] True.intro rfl) ?_
    obtain ⟨c₂, o₂, vs₂, t₂, e₂, g₂, r₂⟩ := id cr
    cases e₂
    exact h c' s.heap s.toks (fun _ _ _ e => e) (Nat.le_refl _) hP cr (Heap.lt_size g₂) (.inr rfl)
end
theorem passing_all (n : Nat) : passing (fun _ => true) n 0 = List.range n := by
  unfold passing
  rw [List.drop_zero]
  exact List.filter_eq_self.mpr fun _ _ => rfl
/-- a generator that has told nothing yet -/
def GenX (prog : Program) (w : World) (A : Around) (wr : List Addr) (a : Addr) (n : Nat) (F : Nat → Value → Prop) (s : Shared) : Prop :=
  ∃ fp g St, WalksS prog w A.in4 a fp wr (GenOnlyQ g) n F St ∧ St 0 s ∧ (∀ i s', St i s' → s'.TypeIs (.ref a) "generator") ∧ a ∈ fp ∧ ∀ b ∈ fp, b < s.heap.objs.size
section
variable {prog : Program} {w : World} {A : Around} {E : Value → Shared → Prop} {s : Shared}
theorem gen_make {env : Env} {elt iter : Expr} {x : Str} {px : Pos} {scope : Scope} {cl : List (Str × Addr)} {pos : Pos} {Q : Value → Shared → Prop} {h₀ : Heap} {L l c P : Addr} {m mg mb : Str → Option Value} {p : Program} {loose : List Str} {ps items : Array Value} {Fy : Nat → Value → Prop}
    (hh : A.handled = none) (hco : scope.isCoroutine = false) (hclos : closureFor scope env = pure cl) (hcell : ∀ y ∈ scope.names, y.2 ≠ .cell) (h0 : scope.names.lookup (".0" : Str) = some NameKind.local)
    (hx : scope.names.lookup x = some .local) (hkind : scope.kind = .function) (hroom : A.depth < recursionLimit) (hs : ∀ x, genFold iter env x = pure x)
    (hc : env.code = .ref c) (hge : env.globals = mainGlobals) (F : Fr h₀ L s.heap m) (T : TopRead p loose mg mb h₀) (B : Bm mg h₀) (C : CodeHd h₀ c P) (hP : s.heap.get? P = some (tabObj ps)) (hPL : P ≠ L) (hP0 : h₀.get? P = none)
    (hps : ps = #[] ∨ ∃ c', ps = #[rawInt pos.line, rawInt pos.col, .ref c'] ∧ s.heap.CodeRec (.ref c') (env.qual ++ "<genexpr>"))
    (G : AllBare s.gens) (hl : h₀.IsList l items)
    (hit : ∀ Q' : Value → Shared → Prop, Q' (.ref l) s → wpAny (model prog w) A (eval iter env) Q' E s)
    (helt : ∀ (C' : Addr) code bi (A' : Around) E' i v (t : Shared) m₂, A'.handled = none → A'.depth ≤ A.depth + 1 → A'.units ≤ A.units + 8 → items[i]? = some v → Fr h₀ C' t.heap m₂ → m₂ x = some v →
      wpAny (model prog w) A' (eval elt (genEnv scope cl C' code bi env)) (fun y s₃ => Fy i y ∧ PySem.Keeps t s₃) E' t)
    (h : ∀ a wr c' s', GenX prog w A wr a items.size (fun j y => j < items.size ∧ Fy j y) s' → Fr h₀ L s'.heap m → s'.heap.get? P = some (tabObj #[rawInt pos.line, rawInt pos.col, .ref c']) → s'.heap.CodeRec (.ref c') (env.qual ++ "<genexpr>") → AllBare s'.gens → s'.os = s.os →
      (∀ b ∈ wr, s.heap.get? b = none) → c' ∉ wr → (s.heap.get? c' = none ∨ ps = #[rawInt pos.line, rawInt pos.col, .ref c']) → (∀ b o, b ≠ P → s.heap.get? b = some o → s'.heap.get? b = some o) → Q (.ref a) s') :
    wpAny (model prog w) A (eval (.GeneratorExp elt [⟨.Name x px, iter, [], 0⟩] scope pos) env) Q E s := by
  have hls : s.heap.IsList l items := hl.at fun o e => F.keep _ o e
  have hlt : l < s.heap.objs.size := by obtain ⟨_, e, _⟩ := hls; exact Heap.lt_size e
  obtain ⟨hgs, hgP, bm, ob, b1, b2, b3, b4, b5, b6, b7, b8⟩ := mk_at F T B hP
  have up : ∀ b o, s.heap.get? b = some o → (s.heap.push { cls := .type "list_iterator", data := .fields #[.ref l, .int 0 0] }).get? b = some o := fun b o e => Heap.get?_push_of_some _ e
  have hI0 : h₀.get? s.heap.objs.size = none := Heap.get?_none_of_le (Nat.le_of_lt (Nat.lt_of_le_of_lt F.above F.ns.lt))
  have hIP : P < s.heap.objs.size := Heap.lt_size hP
  have hlP : l ≠ P := fun e => by
    obtain ⟨o, ho, _⟩ := hl
    rw [e, hP0] at ho; cases ho
  refine wpAny_GeneratorExp_walksQD hh hco hclos hcell h0 hx hkind hroom (hit _ ?_) hs
  refine wpAny_pyIter_list hls ⟨(T.nolimit.keeps F.keep).push _, ?_⟩
  refine genCode_any hc ((C.keeps F.keep).keeps up) (up _ _ hP) (hps.imp id fun ⟨c', e, cr⟩ => ⟨c', e, cr.push _⟩) fun c' h₃ tk₃ hx₃ hsz₃ hP₃ cr₃ hc₃ fresh₃ => ?_
  dsimp only at hx₃ hsz₃ hP₃ fresh₃
  have up₃ : ∀ b o, b ≠ P → s.heap.get? b = some o → h₃.get? b = some o := fun b o hb e => hx₃ b o hb (up b o e)
  have nsg : h₃.Ns env.globals mg := by
    rw [hge]; exact hgs.at' fun o e => up₃ _ o hgP e
  refine wpAny_builtinsFor nsg b1 b2 (up₃ _ _ b4 b5) b6 b7 b8 ?_
  have hk₃ : ∀ b o, h₀.get? b = some o → h₃.get? b = some o := fun b o e => up₃ b o (fun q => by rw [q, hP0] at e; cases e) (F.keep b o e)
  have hIlt : s.heap.objs.size < h₃.objs.size := Nat.lt_of_lt_of_le (by rw [Heap.size_push]; exact Nat.lt_succ_self _) hsz₃
  have hLlt : L < h₃.objs.size := Nat.lt_trans F.ns.lt hIlt
  refine ⟨s.heap.objs.size, [s.heap.objs.size, l], [s.heap.objs.size], items.size, _, _, fun _ => true, Fy, rfl, fun A' hA => Walks.list hA _ _ (Nat.ne_of_lt hlt) items,
    ⟨⟨_, hx₃ _ _ (Nat.ne_of_gt hIP) (Heap.get?_push_size _ rfl), rfl, rfl⟩, hl.at fun o e => hk₃ _ o e⟩, ?_, T.nolimit.keeps hk₃, ?_, fun href hhref => ⟨?_, ?_⟩, fun a h₅ tk gs hgb hag hsz₅ hk₅ W hat => ?_⟩
  · intro b hb
    simp only [List.mem_cons, List.not_mem_nil, or_false] at hb
    rcases hb with rfl | rfl
    · exact hIlt
    · exact Nat.lt_trans hlt hIlt
  · intro hm
    have hm := List.mem_singleton.mp hm
    obtain ⟨_, hns, _⟩ := T.nolimit
    obtain ⟨o, es, ep, ho, hd, _⟩ := hns
    rw [hm, hI0] at ho; cases ho
  · intro A' E' i v t m₂ _ _ _ _ _ _ _
    exact wpAny_tests_nil ⟨rfl, _, _, rfl, fun _ _ e => e⟩
  · intro A' E' i v t m₂ hA hD hU hPi _ hn hm hkp
    refine helt _ _ _ A' E' i v t m₂ hA hD hU hPi ⟨hn, fun b o e => ?_, Nat.le_trans F.above (Nat.le_of_lt hLlt)⟩ hm
    exact hkp b (List.mem_range.mpr (Heap.lt_size (hk₃ b o e))) (fun q => by rw [List.mem_singleton.mp q, hI0] at e; cases e) o (hhref b o (hk₃ b o e))
  · have hw : ∀ b ∈ [h₃.objs.size, s.heap.objs.size], s.heap.get? b = none := fun b hb => by
      simp only [List.mem_cons, List.not_mem_nil, or_false] at hb
      rcases hb with rfl | rfl
      · exact Heap.get?_none_of_le (Nat.le_of_lt hIlt)
      · exact Heap.get?_none_of_le (Nat.le_refl _)
    have up₅ : ∀ b o, b ≠ P → s.heap.get? b = some o → h₅.get? b = some o := fun b o hb e => hk₅ b o (up₃ b o hb e)
    rw [passing_all, List.length_range] at W
    refine h a _ c' _ ⟨_, _, _, { W with item := fun i s' Q' E' hi st hQ => W.item i s' Q' E' hi st fun v s'' hv => ?_ }, hat, fun i s' st => st.1.typeIs, List.mem_cons_self, ?_⟩ ⟨F.ns.at' fun o e => up₅ _ o (Ne.symm hPL) e, fun b o e => hk₅ b o (hk₃ b o e), F.above⟩
      (hk₅ _ _ hP₃) (cr₃.keeps hk₅) (G.push hgb) rfl hw ?_ (fresh₃.imp (fun e => none_of up e) fun e => ?_) up₅
    · obtain ⟨k, hk, hy⟩ := hv
      have e : k = i := by
        rw [List.getElem?_eq_getElem (by simpa using hi)] at hk
        simpa using hk.symm
      subst e
      exact hQ v s'' ⟨hi, hy⟩
    · intro b hb
      show b < h₅.objs.size
      rw [hsz₅]
      rcases List.mem_cons.mp hb with rfl | hb
      · exact Nat.lt_succ_self _
      · rcases List.mem_cons.mp hb with rfl | hb
        · exact Nat.lt_succ_of_lt hag
        · exact Nat.lt_succ_of_lt (Nat.lt_trans (List.mem_range.mp hb) hag)
    · intro hm
      simp only [List.mem_cons, List.not_mem_nil, or_false] at hm
      obtain ⟨c₂, o₂, vs₂, t₂, e₂, g₂, d₂, r₂⟩ := cr₃
      cases e₂
      rcases hm with rfl | rfl
      · exact absurd hc₃ (Nat.lt_irrefl _)
      · have e := hx₃ _ _ (Nat.ne_of_gt hIP) (Heap.get?_push_size s.heap (o := { cls := .type "list_iterator", data := .fields #[.ref l, .int 0 0] }) rfl)
        rw [g₂] at e; cases e
        cases d₂
        cases r₂
    · rw [e, up _ _ hP] at hP₃
      injection hP₃ with e1
      injection e1 with _ _ e2 _
      injection e2
theorem join_gen {sep : Str} {t : Tok} {a : Addr} {n : Nat} {wr : List Addr} {F : Nat → Value → Prop} {Q : Value → Shared → Prop} (X : GenX prog w A wr a n F s) (G : AllBare s.gens) (f : Nat → Str) (hf : ∀ j v, F j v → ∃ u, v = .str (f j) u)
    (hok : JoinOk sep ((List.range n).map f) = true) (hn : n ≤ 1000)
    (hQ : ∀ s' t', AllBare s'.gens → s'.os = s.os → (∀ b o, b ∉ wr → s.heap.get? b = some o → s'.heap.get? b = some o) → Q (.str (Txt.join sep ((List.range n).map f)) t') s') :
    wpAny (model prog w) A (call (.builtin "str.join") [.str sep t, .ref a]) Q E s := by
  obtain ⟨fp, g, St, W, hst, hT, ha, hfp⟩ := X
  refine SC.joinGen W.in4_2 hT hst hfp ha (fun j v hv => (hf j v hv).elim fun u e => ⟨_, u, e⟩) (fun s' l hm hacc => ?_) (by rw [sizeLine_eq]; omega)
  have e : l.map (·.1) = (List.range n).map f := by
    have hsz : l.length = n := by simpa [strValues] using hacc.1
    refine List.ext_getElem (by simp [hsz]) fun j h1 h2 => ?_
    have hj : j < l.length := by simpa using h1
    obtain ⟨u, hu⟩ := hf j _ (hacc.2 j (.str (l[j]).1 (l[j]).2) (by simp [strValues, List.getElem?_eq_getElem hj]))
    injection hu with h1 _
    simp [h1]
  rw [e]
  exact ⟨hok, fun t' k => hQ { s' with toks := k } t' (G.moved hm.gens) hm.os hm.heap⟩
end
end
-- TxJ
section
open PySem PySem.W PyProof.Rows PySem.Calls PySem.Builtin PySem.Builtin.Str
/-- texts told with a sign between -/
def joinW (c : Nat) : List (List Nat) → List Nat
  | [] => []
  | [x] => x
  | x :: r => x ++ c :: joinW c r
theorem joinW_cons (c : Nat) (x : List Nat) {r : List (List Nat)} (h : r ≠ []) : joinW c (x :: r) = x ++ c :: joinW c r := by
  cases r with
  | nil => exact absurd rfl h
  | cons => rfl
theorem glue_tx (c : Nat) : ∀ (r : List (List Nat)) (acc : List Nat), ((r.map tx).foldl (fun a p => a ++ (tx [c]).cps ++ p.cps) acc.toArray) = (acc ++ r.flatMap fun x => c :: x).toArray
  | [], acc => by simp
  | x :: r, acc => by
    rw [List.map_cons, List.foldl_cons, show acc.toArray ++ (tx [c]).cps ++ (tx x).cps = (acc ++ c :: x).toArray by simp [tx], glue_tx c r, List.flatMap_cons]
    simp
theorem joinW_flat (c : Nat) : ∀ (x : List Nat) (r : List (List Nat)), joinW c (x :: r) = x ++ r.flatMap fun y => c :: y
  | x, [] => by simp [joinW]
  | x, y :: r => by
    rw [joinW_cons c x (by simp), joinW_flat c y r, List.flatMap_cons]
    simp
theorem join_tx (c : Nat) (ls : List (List Nat)) : Txt.join (tx [c]) (ls.map tx) = tx (joinW c ls) := by
  show glued _ _ = _
  unfold glued
  cases ls with
  | nil => rfl
  | cons x r =>
    rw [List.map_cons, List.drop_one, List.tail_cons, List.headD_cons, joinW_flat]
    rw [show (tx x).cps = x.toArray from rfl, glue_tx]
    rfl
theorem joinW_length (c : Nat) : ∀ ls : List (List Nat), (joinW c ls).length ≤ (ls.map fun x => x.length + 1).sum
  | [] => by simp [joinW]
  | [x] => by simp [joinW]
  | x :: y :: r => by
    have ih := joinW_length c (y :: r)
    rw [joinW_cons c x (by simp), List.map_cons, List.sum_cons, List.length_append, List.length_cons]
    omega
theorem joinOk_tx (c : Nat) (ls : List (List Nat)) (h : (ls.map fun x => x.length + 1).sum ≤ 1000000) : JoinOk (tx [c]) (ls.map tx) = true := by
  unfold JoinOk
  have e : ∀ (l : List (List Nat)) (n : Nat), (l.map tx).foldl (fun a p => a + p.length + (tx [c]).length) n = n + (l.map fun x => x.length + 1).sum := by
    intro l
    induction l with
    | nil => simp
    | cons x r ih =>
      intro n
      rw [List.map_cons, List.foldl_cons, ih, List.map_cons, List.sum_cons, tx_length, tx_length]
      simp only [List.length_cons, List.length_nil]
      omega
  rw [List.foldl_toArray, e]
  unfold tooLong
  rw [Bool.not_eq_true', decide_eq_false_iff_not]
  have := sizeLine_eq
  omega
end
-- Cb
section
open PyProof.Rows.LCg
/-- behind a turn of a comprehension: its own three objects as before, and what the turn leaves -/
def TurnEnd (g : Heap) (L : Addr) (m : Str → Option Value) (I : Addr) (oI : Obj) (C : Addr) (oC : Obj) (D : Addr) (oD : Obj) (os : OsState) (K : List (Addr × Obj) → Array GenState → Prop) (s : Shared) : Prop :=
  ∃ news, Fr g L s.heap m ∧ News g L s.heap ((I, oI) :: (C, oC) :: (D, oD) :: news) ∧ Off3 I C D news ∧ s.os = os ∧ K news s.gens
/-- a turn of a comprehension -/
def CompTurn (prog : Program) (w : World) (A : Around) (env : Env) (g : Heap) (L : Addr) (m : Str → Option Value) (elt : Expr) (ifs : List Expr) (x : Str) (scope : Scope) (cl : List (Str × Addr)) (os : OsState) (n : Nat) (P : Nat → Value → Prop) (J : Nat → List Value → List (Addr × Obj) → Array GenState → Prop) : Prop :=
  ∀ i ys news v I oI C oC D m₂ (s : Shared) (E : Value → Shared → Prop), i < n → P i v → J i ys news s.gens → s.os = os → NsObj oC m₂ → m₂ x = some v → Fr g L s.heap m → News g L s.heap ((I, oI) :: (C, oC) :: (D, lst ys) :: news) → Off3 I C D news →
    (@Ne Nat I C) → (@Ne Nat I D) → (@Ne Nat C D) →
    wpAny (model prog w) A (forIn ifs true fun c r => if r = true then do let ok ← isTrue c (compEnvC scope cl C env) (eval c (compEnvC scope cl C env)); pure (ForInStep.yield ok) else pure (ForInStep.yield r))
      (fun ok s₂ => if ok = true then wpAny (model prog w) A (eval elt (compEnvC scope cl C env)) (fun y s₃ => TurnEnd g L m I oI C oC D (lst ys) os (J (i + 1) (ys ++ [y])) s₃) E s₂ else TurnEnd g L m I oI C oC D (lst ys) os (J (i + 1) ys) s₂) E s
section
variable {prog : Program} {w : World} {A : Around} {E : Value → Shared → Prop} {s : Shared} {env : Env} {g : Heap} {L : Addr} {m : Str → Option Value}
theorem comp_block {elt iter : Expr} {x : Str} {px : Pos} {ifs : List Expr} {scope : Scope} {cl : List (Str × Addr)} {pos : Pos} {I : Addr} {fp : List Addr} {n : Nat} {P : Nat → Value → Prop} {St : Nat → Heap → Prop} {S : List (Addr × Obj) → Prop} {news : List (Addr × Obj)}
    {J : Nat → List Value → List (Addr × Obj) → Array GenState → Prop} {RR : Value → Addr → Result → Shared → Prop}
    (W : Walks prog w A I fp [I] n P St) (hsz : n ≤ 1000) (hIo : ∀ i h, St i h → ∃ o, h.get? I = some o)
    (hSt : ∀ i h h' o nw, St i h → h.get? I = some o → h'.get? I = some o → (∀ b o, g.get? b = some o → h'.get? b = some o) → News g L h' nw → S nw → St i h') (hS : ∀ i ys news gs, J i ys news gs → S news)
    (hcell : ∀ y ∈ scope.names, y.2 ≠ .cell) (hkind : scope.kind = .function) (hx : scope.names.lookup x = some .local) (hst : St 0 s.heap) (hfp : ∀ b ∈ fp, b < s.heap.objs.size)
    (F : Fr g L s.heap m) (N : News g L s.heap news) (hIL : L ≠ I) (hI₀ : g.get? I = none) (off : ∀ p ∈ news, p.1 ≠ I) (hJ : J 0 [] news s.gens)
    (turn : CompTurn prog w A env g L m elt ifs x scope cl s.os n P J)
    (hRR : ∀ D C s' m' ys news', Fr g L s'.heap m → News g L s'.heap ((D, lst ys) :: news') → Off1 D news' → s'.heap.Ns C m' → g.get? C = none → g.get? D = none → C ≠ L → D ≠ L → C ≠ D → (∀ p ∈ news', p.1 ≠ C) → s'.os = s.os → J n ys news' s'.gens → RR (.ref D) C (.ok .next) s') :
    wpAny (model prog w) A (newList []) (fun acc s₃ => wpAny (model prog w) A (newFunctionEnv scope env.globals cl [] env.qual none .none (some env)) (fun cenv s₄ =>
      codeAny (model prog w) A (.compStart (.ListComp elt [⟨.Name x px, iter, ifs, 0⟩] scope pos) 0 (.ref I) acc { cenv with scope := relabel scope env }) (RR acc cenv.locals) s₄) E s₃) E s := by
  refine wpAny_newObj_type (wpAny_newFunctionEnv hcell (by intro y hy; simp at hy) (fun h₁ hns₁ hsb₁ => ?_) hkind)
  dsimp only at hns₁ hsb₁ ⊢
  generalize hH2 : s.heap.push { cls := .type "list", dict := none, data := .seq ([] : List Value).toArray } = H2 at hns₁ hsb₁ ⊢
  have hC : H2.objs.size = s.heap.objs.size + 1 := by rw [← hH2, Heap.size_push]
  have hDC : s.heap.objs.size ≠ H2.objs.size := by rw [hC]; exact Nat.ne_of_lt (Nat.lt_succ_self _)
  have below : ∀ b, b < s.heap.objs.size → b ≠ H2.objs.size ∧ b ≠ s.heap.objs.size := fun b hb => ⟨by rw [hC]; exact Nat.ne_of_lt (Nat.lt_succ_of_lt hb), Nat.ne_of_lt hb⟩
  have hDf : s.heap.objs.size ∉ fp := fun hm => Nat.lt_irrefl _ (hfp _ hm)
  have hCf : H2.objs.size ∉ fp := fun hm => by have := hfp _ hm; rw [hC] at this; exact Nat.lt_irrefl _ (Nat.lt_of_succ_lt this)
  have hIlt : I < s.heap.objs.size := hfp I (W.sub I (List.mem_singleton.mpr rfl))
  have old : ∀ b o, s.heap.get? b = some o → h₁.get? b = some o := fun b o e => hsb₁.extBut b o (below b (Heap.lt_size e)).1 (Heap.get?_push_of_some _ (hH2 ▸ Heap.get?_push_of_some _ e))
  have hacc : h₁.get? s.heap.objs.size = some (lst []) := hsb₁.extBut _ _ hDC (Heap.get?_push_of_some _ (hH2 ▸ Heap.get?_push_size _ rfl))
  have fresh₀ : ∀ a, s.heap.objs.size ≤ a → g.get? a = none := fun a ha => by
    cases e : g.get? a with
    | none => rfl
    | some o' => exact absurd (Heap.lt_size (F.keep a o' e)) (Nat.not_lt.mpr ha)
  have hD₀ : g.get? s.heap.objs.size = none := fresh₀ _ (Nat.le_refl _)
  have hC₀ : g.get? H2.objs.size = none := fresh₀ _ (by rw [hC]; exact Nat.le_succ _)
  have hDL : s.heap.objs.size ≠ L := Ne.symm (below L F.ns.lt).2
  have hCL : H2.objs.size ≠ L := Ne.symm (below L F.ns.lt).1
  have hCI : I ≠ H2.objs.size := (below I hIlt).1
  have hDI : I ≠ s.heap.objs.size := (below I hIlt).2
  have off₀ : Off3 I H2.objs.size s.heap.objs.size news := Off3.of fun p hp => ⟨off p hp, (below _ (Heap.lt_size (N p hp).1)).1, (below _ (Heap.lt_size (N p hp).1)).2⟩
  have loop : ∀ s₃ : Shared, s₃ = { s with heap := h₁, toks := s.toks + ([] : List (Str × Value)).length } →
      codeAny (model prog w) A (.compLoop (.ListComp elt [⟨.Name x px, iter, ifs, 0⟩] scope pos) 0 (.ref I) (.ref s.heap.objs.size) (compEnvC scope cl H2.objs.size env)) (RR (.ref s.heap.objs.size) H2.objs.size) s₃ := by
    rintro s₃ rfl
    refine codeAny_compLoop_tests (fun k s' => ∃ i ys m' news', s'.os = s.os ∧ i ≤ n ∧ k = n + 1 - i ∧ ys.length ≤ i ∧ St i s'.heap ∧ Fr g L s'.heap m ∧ s'.heap.Ns H2.objs.size m' ∧ News g L s'.heap ((s.heap.objs.size, lst ys) :: news') ∧
      Off3 I H2.objs.size s.heap.objs.size news' ∧ J i ys news' s'.gens) ?_ (n + 1)
      ⟨0, [], _, news, rfl, Nat.zero_le _, rfl, Nat.le_refl _, W.frame _ _ _ hst fun b _ o e => old b o e, F.keeps old, hns₁, fun p hp => ?_, off₀, hJ⟩
    · rintro k s' ⟨i, ys, m', news', hos, hi, rfl, hyl, hst', F', hn', N', off', hJ'⟩
      have off3 := off'.mem
      by_cases hlt : i < n
      · refine W.item i _ _ _ hlt hst' fun v h₂ tk₂ hPv hst₂ hk₂ => ?_
        refine wpAny_assign_Name (wpAny_storeName_local (lookup_relabel_local hx) (hn'.at' fun o e => hk₂ _ o (by simpa using Ne.symm hCI) e) (fun h₃ hn₃ hs₃ => ?_) (by simp [compEnvC, relabel, hkind]))
        have hst₃ : St (i + 1) h₃ := W.frame _ _ _ hst₂ fun b hb o e => hs₃.extBut b o (fun q => hCf (by have q' : b = H2.objs.size := q; rw [← q']; exact hb)) e
        obtain ⟨oI, heI⟩ := hIo _ _ hst₃
        obtain ⟨oC, heC, hoC⟩ := ns_obj hn₃
        have F₃ : Fr g L h₃ m := (fr_but F' hk₂ hIL hI₀).change hs₃ hCL hC₀
        have N₂ : News g L h₂ ((s.heap.objs.size, lst ys) :: news') := news_but N' hk₂ fun p hp => by
          rcases List.mem_cons.mp hp with rfl | hp
          · exact Ne.symm hDI
          · exact (off3 p hp).1
        have N₃ : News g L h₃ ((I, oI) :: (H2.objs.size, oC) :: (s.heap.objs.size, lst ys) :: news') := fun p hp => by
          rcases List.mem_cons.mp hp with rfl | hp
          · exact ⟨heI, Ne.symm hIL, hI₀⟩
          · rcases List.mem_cons.mp hp with rfl | hp
            · exact ⟨heC, hCL, hC₀⟩
            · have z := N₂ p hp
              refine ⟨hs₃.extBut _ _ ?_ z.1, z.2⟩
              rcases List.mem_cons.mp hp with rfl | hp
              · exact hDC
              · exact (off3 p hp).2.1
        -- what a turn leaves, before its list grows
        have after : ∀ ys' s₄, TurnEnd g L m I oI H2.objs.size oC s.heap.objs.size (lst ys) s.os (J (i + 1) ys') s₄ → ∃ news₄, s₄.os = s.os ∧ Fr g L s₄.heap m ∧ News g L s₄.heap ((s.heap.objs.size, lst ys) :: news₄) ∧ Off3 I H2.objs.size s.heap.objs.size news₄ ∧ J (i + 1) ys' news₄ s₄.gens ∧
            St (i + 1) s₄.heap ∧ s₄.heap.get? H2.objs.size = some oC := by
          rintro ys' s₄ ⟨news₄, F₄, N₄, off₄, hos₄, hJ₄⟩
          have zI := (N₄ (I, oI) List.mem_cons_self).1
          have zC := (N₄ (H2.objs.size, oC) (List.mem_cons_of_mem _ List.mem_cons_self)).1
          have Nd : News g L s₄.heap ((s.heap.objs.size, lst ys) :: news₄) := fun p hp => N₄ p (List.mem_cons_of_mem _ (List.mem_cons_of_mem _ hp))
          exact ⟨news₄, hos₄, F₄, Nd, off₄, hJ₄, hSt _ _ _ _ _ hst₃ heI zI F₄.keep (fun p hp => Nd p (List.mem_cons_of_mem _ hp)) (hS _ _ _ _ hJ₄), zC⟩
        refine wpAny_mono (turn i ys news' v I oI H2.objs.size oC s.heap.objs.size _ _ _ hlt hPv hJ' hos hoC (by simp) F₃ N₃ off' hCI hDI (Ne.symm hDC)) (fun ok s₄ h₄ => ?_) fun _ _ e => e
        cases ok with
        | false =>
          simp only [Bool.false_eq_true, if_false] at h₄ ⊢
          obtain ⟨news₄, hos₄, F₄, N₄, off₄, hJ₄, hst₄, zC⟩ := after _ _ h₄
          exact ⟨n + 1 - (i + 1), by omega, i + 1, ys, _, news₄, hos₄, hlt, rfl, by omega, hst₄, F₄, hoC.ns zC, N₄, off₄, hJ₄⟩
        | true =>
          simp only [if_true] at h₄ ⊢
          refine wpAny_mono h₄ (fun y s₅ h₅ => ?_) fun _ _ e => e
          obtain ⟨news₄, hos₄, F₄, N₄, off₄, hJ₄, hst₄, zC⟩ := after _ _ h₅
          have off4 := off₄.mem
          refine append_at (hsz := by show ys.toArray.size ≤ sizeLine; rw [List.size_toArray, sizeLine_eq]; omega) (N₄ _ List.mem_cons_self).1 fun h₆ hs₆ hD₆ => ?_
          refine ⟨n + 1 - (i + 1), by omega, i + 1, ys ++ [y], _, news₄, hos₄, hlt, rfl, by rw [List.length_append, List.length_singleton]; omega, W.frame _ _ _ hst₄ fun b hb o e => hs₆.extBut b o (fun q => hDf (q ▸ hb)) e, F₄.change hs₆ hDL hD₀,
            (hoC.ns zC).sameBut hs₆ (Ne.symm hDC), fun p hp => ?_, off₄, hJ₄⟩
          rcases List.mem_cons.mp hp with rfl | hp
          · exact ⟨hD₆.trans (congrArg some (lst_snoc ys y)), hDL, hD₀⟩
          · exact ⟨hs₆.extBut _ _ (off4 p hp).2.2 (N₄ p (List.mem_cons_of_mem _ hp)).1, (N₄ p (List.mem_cons_of_mem _ hp)).2⟩
      · obtain rfl : i = n := Nat.le_antisymm hi (Nat.not_lt.mp hlt)
        refine W.done _ _ _ hst' fun h₂ tk₂ hk₂ => ?_
        exact hRR _ _ _ _ ys news' (fr_but F' hk₂ hIL hI₀) (news_but N' hk₂ fun p hp => by
          rcases List.mem_cons.mp hp with rfl | hp
          · exact Ne.symm hDI
          · exact (off3 p hp).1) off'.one (hn'.at' fun o e => hk₂ _ o (by simpa using Ne.symm hCI) e) hC₀ hD₀ hCL hDL (Ne.symm hDC) (fun p hp => (off3 p hp).2.1) hos hJ'
    · rcases List.mem_cons.mp hp with rfl | hp
      · exact ⟨hacc, hDL, hD₀⟩
      · exact ⟨old _ _ (N p hp).1, (N p hp).2⟩
  exact codeAny_compStart_list (loop _ rfl) (W.self 0 _ _ _ (W.frame _ _ _ hst fun b _ o e => old b o e) (loop _ rfl))
/-- what a comprehension goes over: a list, or a range -/
def Over (g : Heap) (L : Addr) (s : Shared) (news : List (Addr × Obj)) (xv : Value) (n : Nat) (P : Nat → Value → Prop) (S : List (Addr × Obj) → Prop) : Prop :=
  (∃ ax its, xv = .ref ax ∧ SrcAt g ax its news ∧ n = its.size ∧ (∀ i v, its[i]? = some v → P i v) ∧ ∀ nw, S nw → SrcAt g ax its nw) ∨
  (∃ r a t u v, xv = .ref r ∧ IsRange s.heap r 0 a 1 t u v ∧ Builtin.Range.small 0 a 1 = true ∧ Builtin.Range.rangeSize 0 a 1 = ((n : Nat) : Int) ∧ ∀ i t, P i (.int (i : Int) t))
theorem comp_over {elt iter : Expr} {x : Str} {px : Pos} {ifs : List Expr} {scope : Scope} {cl : List (Str × Addr)} {pos : Pos} {xv : Value} {n : Nat} {P : Nat → Value → Prop} {S : List (Addr × Obj) → Prop} {news : List (Addr × Obj)}
    {J : Nat → List Value → List (Addr × Obj) → Array GenState → Prop} {RR : Value → Addr → Result → Shared → Prop}
    (hh : A.handled = none) (O : Over g L s news xv n P S) (hsz : n ≤ 1000) (hS0 : S news) (hS : ∀ i ys news gs, J i ys news gs → S news)
    (hcell : ∀ y ∈ scope.names, y.2 ≠ .cell) (hkind : scope.kind = .function) (hx : scope.names.lookup x = some .local)
    (F : Fr g L s.heap m) (N : News g L s.heap news) (hJ : J 0 [] news s.gens) (turn : CompTurn prog w A env g L m elt ifs x scope cl s.os n P J)
    (hRR : ∀ D C s' m' ys news', Fr g L s'.heap m → News g L s'.heap ((D, lst ys) :: news') → Off1 D news' → s'.heap.Ns C m' → g.get? C = none → g.get? D = none → C ≠ L → D ≠ L → C ≠ D → (∀ p ∈ news', p.1 ≠ C) → s'.os = s.os → J n ys news' s'.gens → RR (.ref D) C (.ok .next) s') :
    wpAny (model prog w) A (pyIter xv) (fun it s₂ => wpAny (model prog w) A (newList []) (fun acc s₃ => wpAny (model prog w) A (newFunctionEnv scope env.globals cl [] env.qual none .none (some env)) (fun cenv s₄ =>
      codeAny (model prog w) A (.compStart (.ListComp elt [⟨.Name x px, iter, ifs, 0⟩] scope pos) 0 it acc { cenv with scope := relabel scope env }) (RR acc cenv.locals) s₄) E s₃) E s₂) E s := by
  rcases O with ⟨ax, its, rfl, hs, rfl, hP, hS'⟩ | ⟨r, a, t, u, v, rfl, hr, hsm, hn, hP⟩
  · have hl := hs.list F.keep N
    have hlt : ax < s.heap.objs.size := by obtain ⟨_, e, _⟩ := hl; exact Heap.lt_size e
    refine wpAny_pyIter_list hl ?_
    have up : ∀ b o, s.heap.get? b = some o → (s.heap.push { cls := .type "list_iterator", data := .fields #[.ref ax, .int 0 0] }).get? b = some o := fun b o e => Heap.get?_push_of_some _ e
    let W := Walks.list (prog := prog) (w := w) hh s.heap.objs.size ax (Nat.ne_of_lt hlt) its
    refine comp_block (S := SrcAt g ax its) (P := P) { sub := W.sub, frame := W.frame, done := W.done, self := W.self, item := fun i s Q E hi st hQ => W.item i s Q E hi st fun v h' tk hv => hQ v h' tk (hP i v hv) } hsz (fun i h st => by obtain ⟨o, e, _⟩ := st.1; exact ⟨o, e⟩)
      list_st (fun i ys nw gs hj => hS' _ (hS i ys nw gs hj)) hcell hkind hx ⟨⟨_, Heap.get?_push_size _ rfl, rfl, rfl⟩, hl.push _⟩ (fun b hb => ?_) (F.keeps up) (N.grown up) (Nat.ne_of_lt F.ns.lt) (next_is_new F) (fun p hp => Nat.ne_of_lt (Heap.lt_size (N p hp).1)) hJ turn hRR
    show b < (s.heap.push _).objs.size
    rw [Heap.size_push]
    rcases List.mem_cons.mp hb with rfl | hb
    · exact Nat.lt_succ_self _
    · rw [List.mem_singleton.mp hb]; exact Nat.lt_succ_of_lt hlt
  · refine wpAny_pyIter_range hr hsm ?_
    let W := range_walks (prog := prog) (w := w) (A := A) (I := s.heap.objs.size) hh 0 n
    refine comp_block (S := fun _ => True) (P := P) { sub := W.sub, frame := W.frame, done := W.done, self := W.self, item := fun i s Q E hi st hQ => W.item i s Q E hi st fun v h' tk hv => hQ v h' tk (by obtain ⟨t, rfl⟩ := hv; rw [Int.zero_add]; exact hP i t) } hsz (fun i h st => ⟨_, st⟩)
      range_st (fun _ _ _ _ _ => trivial) hcell hkind hx (by show IsRangeIter _ _ _ _ _; rw [hn]; simpa using Heap.get?_push_size _ rfl) (fun b hb => ?_) (F.keeps fun _ _ e => Heap.get?_push_of_some _ e) (N.grown fun _ _ e => Heap.get?_push_of_some _ e) (Nat.ne_of_lt F.ns.lt) (next_is_new F)
      (fun p hp => Nat.ne_of_lt (Heap.lt_size (N p hp).1)) hJ turn hRR
    rw [List.mem_singleton.mp hb]
    show s.heap.objs.size < (s.heap.push _).objs.size
    rw [Heap.size_push]; exact Nat.lt_succ_self _
/-- a comprehension's value -/
theorem comp_E {elt iter : Expr} {x : Str} {px : Pos} {ifs : List Expr} {scope : Scope} {cl : List (Str × Addr)} {pos : Pos} {Q : Value → Shared → Prop} (n : Nat) (P : Nat → Value → Prop) (S : List (Addr × Obj) → Prop) (J : OsState → Nat → List Value → List (Addr × Obj) → Array GenState → Prop)
    (hh : A.handled = none) (hclos : closureFor scope env = pure cl) (hcell : ∀ y ∈ scope.names, y.2 ≠ .cell) (hkind : scope.kind = .function) (hnames : ∀ y ∈ scope.names, y.2 = .local → scope.names.lookup y.1 = some .local) (hx : scope.names.lookup x = some .local) (hsz : n ≤ 1000)
    (h : wpAny (model prog w) A (eval iter env) (fun xv s₁ => ∃ news, Fr g L s₁.heap m ∧ News g L s₁.heap news ∧ Over g L s₁ news xv n P S ∧ S news ∧ J s₁.os 0 [] news s₁.gens) E s)
    (hS : ∀ os i ys news gs, J os i ys news gs → S news) (turn : ∀ os, CompTurn prog w A env g L m elt ifs x scope cl os n P (J os))
    (hQ : ∀ D s' ys news', Fr g L s'.heap m → News g L s'.heap ((D, lst ys) :: news') → Off1 D news' → J s'.os n ys news' s'.gens → Q (.ref D) s')
    (hs : ∀ x, foldedSetIterable iter env x = pure x := by intro _; rfl) :
    wpAny (model prog w) A (eval (.ListComp elt [⟨.Name x px, iter, ifs, 0⟩] scope pos) env) Q E s := by
  rw [eval_ListComp]
  refine wpAny_comprehension_free (use := none) rfl hs hclos hkind hnames (wpAny_mono h (fun xv s₁ h₁ => ?_) fun _ _ e => e)
  obtain ⟨news, F, N, O, hS0, hJ⟩ := h₁
  refine comp_over hh O hsz hS0 (hS s₁.os) hcell hkind hx F N hJ (turn _) ?_
  intro D C s' m' ys news' F' N' o1 hn hC₀ hD₀ hCL hDL hCD offC hos hj
  refine ⟨m', hn, fun h'' hs'' => hQ D _ ys news' (F'.change hs'' hCL hC₀) (fun p hp => ?_) o1 (by rw [← hos] at hj; exact hj)⟩
  refine ⟨hs''.extBut _ _ ?_ (N' p hp).1, (N' p hp).2⟩
  rcases List.mem_cons.mp hp with rfl | hp
  · exact Ne.symm hCD
  · exact offC p hp
/-- a comprehension bound to a local name -/
theorem comp_A {elt iter : Expr} {x y : Str} {px py : Pos} {ifs : List Expr} {scope : Scope} {cl : List (Str × Addr)} {pos spos : Pos} {Q : Flow → Shared → Prop} (n : Nat) (P : Nat → Value → Prop) (S : List (Addr × Obj) → Prop) (J : OsState → Nat → List Value → List (Addr × Obj) → Array GenState → Prop)
    (hL : env.locals = L) (hsw : swapsWith (.ListComp elt [⟨.Name x px, iter, ifs, 0⟩] scope pos) (some (.Name y py)) spos.line env = pure true)
    (hh : A.handled = none) (hclos : closureFor scope env = pure cl) (hcell : ∀ y ∈ scope.names, y.2 ≠ .cell) (hkind : scope.kind = .function) (hnames : ∀ y ∈ scope.names, y.2 = .local → scope.names.lookup y.1 = some .local) (hx : scope.names.lookup x = some .local) (hsz : n ≤ 1000)
    (hy : env.kindOf y = some .local) (hp : (env.scope.kind == .class || (env.scope.kind == .module && env.locals != env.globals)) = false)
    (h : wpAny (model prog w) A (eval iter env) (fun xv s₁ => ∃ news, Fr g L s₁.heap m ∧ News g L s₁.heap news ∧ Over g L s₁ news xv n P S ∧ S news ∧ J s₁.os 0 [] news s₁.gens) E s)
    (hS : ∀ os i ys news gs, J os i ys news gs → S news) (turn : ∀ os, CompTurn prog w A env g L m elt ifs x scope cl os n P (J os))
    (hQ : ∀ D s' ys news', Fr g L s'.heap (fun z => if z = y then some (.ref D) else m z) → News g L s'.heap ((D, lst ys) :: news') → Off1 D news' → J s'.os n ys news' s'.gens → Q .next s')
    (hs : ∀ x, foldedSetIterable iter env x = pure x := by intro _; rfl) :
    wpAny (model prog w) A (exec (.Assign [.Name y py] (.ListComp elt [⟨.Name x px, iter, ifs, 0⟩] scope pos) spos) env) Q E s := by
  subst hL
  rw [exec_Assign_Name_used _ _ _ _ hsw]
  refine wpAny_bind (wpAny_standAt (wpAny_bind ?_))
  show wpAny _ A (do let _ ← comprehension (.ListComp elt [⟨.Name x px, iter, ifs, 0⟩] scope pos) scope env _ (newList []) false (eval iter env) (some (assign (.Name y py) env))) _ _ s
  refine wpAny_bind (wpAny_mono (wpAny_comprehension_free (use := some (assign (.Name y py) env)) (Q := fun _ s' => Q .next s') rfl hs hclos hkind hnames
    (wpAny_mono h (fun xv s₁ h₁ => ?_) fun _ _ e => e)) (fun _ s' hq => wpAny_pure (wpAny_pure hq)) fun _ _ e => e)
  obtain ⟨news, F, N, O, hS0, hJ⟩ := h₁
  refine comp_over hh O hsz hS0 (hS s₁.os) hcell hkind hx F N hJ (turn _) ?_
  intro D C s' m' ys news' F' N' o1 hn hC₀ hD₀ hCL hDL hCD offC hos hj
  show wpAny _ A (assign (.Name y py) env (.ref D)) _ _ _
  refine wpAny_assign_Name (wpAny_storeName_local hy F'.ns (fun h₂ hn₂ hs₂ => ?_) hp)
  have hL₀ : g.get? env.locals = none := Heap.get?_none_of_le F'.above
  have F₂ : Fr g env.locals h₂ (fun z => if z = y then some (.ref D) else m z) := ⟨hn₂, fun b o e => hs₂.extBut b o (fun q => by rw [q, hL₀] at e; cases e) (F'.keep b o e), F'.above⟩
  refine ⟨m', hn.sameBut hs₂ hCL, fun h'' hs'' => hQ D _ ys news' (F₂.change hs'' hCL hC₀) (fun p hp => ?_) o1 (by rw [← hos] at hj; exact hj)⟩
  have z : h₂.get? p.1 = some p.2 := hs₂.extBut _ _ (N' p hp).2.1 (N' p hp).1
  refine ⟨hs''.extBut _ _ ?_ z, (N' p hp).2⟩
  rcases List.mem_cons.mp hp with rfl | hp
  · exact Ne.symm hCD
  · exact offC p hp
end
end
-- ForO
section
open PyProof.Rows.LCg
/-- behind a turn of a for -/
def ForEnd (g : Heap) (L : Addr) (I : Addr) (oI : Obj) (os : OsState) (K : List (Addr × Obj) → (Str → Option Value) → Array GenState → Prop) (s : Shared) : Prop :=
  ∃ news m, Fr g L s.heap m ∧ News g L s.heap ((I, oI) :: news) ∧ (∀ p ∈ news, p.1 ≠ I) ∧ s.os = os ∧ K news m s.gens
/-- a turn of a for -/
def ForTurn (prog : Program) (w : World) (A : Around) (env : Env) (g : Heap) (L : Addr) (x : Str) (body : List Stmt) (os : OsState) (n : Nat) (P : Nat → Value → Prop) (J : Nat → List (Addr × Obj) → (Str → Option Value) → Array GenState → Prop) : Prop :=
  ∀ i news v I oI m (s : Shared) (E : Value → Shared → Prop), i < n → P i v → J i news m s.gens → s.os = os → Fr g L s.heap (fun z => if z = x then some v else m z) → News g L s.heap ((I, oI) :: news) → (∀ p ∈ news, p.1 ≠ I) →
    wpAny (model prog w) A (execs body env) (fun f s₃ => (f = .next ∨ f = .cont) ∧ ForEnd g L I oI os (J (i + 1)) s₃) E s
section
variable {prog : Program} {w : World} {A : Around} {E : Value → Shared → Prop} {s : Shared} {env : Env} {g : Heap} {L : Addr} {m : Str → Option Value}
theorem for_walk {x : Str} {body : List Stmt} {I : Addr} {fp : List Addr} {n : Nat} {P : Nat → Value → Prop} {St : Nat → Heap → Prop} {S : List (Addr × Obj) → Prop} {J : Nat → List (Addr × Obj) → (Str → Option Value) → Array GenState → Prop} {Q : Flow → Shared → Prop} {os : OsState}
    (hL : env.locals = L) (hy : env.kindOf x = some .local) (hp : (env.scope.kind == .class || (env.scope.kind == .module && env.locals != env.globals)) = false)
    (W : Walks prog w A I fp [I] n P St) (hIo : ∀ i h, St i h → ∃ o, h.get? I = some o)
    (hSt : ∀ i h h' o nw, St i h → h.get? I = some o → h'.get? I = some o → (∀ b o, g.get? b = some o → h'.get? b = some o) → News g L h' nw → S nw → St i h') (hS : ∀ i news m gs, J i news m gs → S news)
    (hIL : L ≠ I) (hI₀ : g.get? I = none) (hLf : L ∉ fp) (turn : ForTurn prog w A env g L x body os n P J)
    (hQ : ∀ s' m' news', Fr g L s'.heap m' → News g L s'.heap news' → s'.os = os → J n news' m' s'.gens → Q .next s') :
    ∀ (E' : Value → Shared → Prop) k s, (∃ i news m, s.os = os ∧ i ≤ n ∧ k = n + 1 - i ∧ St i s.heap ∧ Fr g L s.heap m ∧ News g L s.heap news ∧ (∀ p ∈ news, p.1 ≠ I) ∧ J i news m s.gens) →
      wpAny (model prog w) A (pyNext (.ref I)) (fun r s₁ => match r with
        | none => Q .next s₁
        | some v => wpAny (model prog w) A (storeName env x v) (fun _ s₂ => wpAny (model prog w) A (execs body env) (fun f s₃ => match f with
            | .next | .cont => Turned (fun k s => ∃ i news m, s.os = os ∧ i ≤ n ∧ k = n + 1 - i ∧ St i s.heap ∧ Fr g L s.heap m ∧ News g L s.heap news ∧ (∀ p ∈ news, p.1 ≠ I) ∧ J i news m s.gens) k s₃
            | .brk => Q .next s₃
            | .ret v => Q (.ret v) s₃) E' s₂) E' s₁) E' s := by
  subst hL
  rintro E' k s ⟨i, news, m, hos, hi, rfl, hst, F, N, off, hJ⟩
  by_cases hlt : i < n
  · refine W.item i s _ _ hlt hst fun v h₂ tk₂ hPv hst₂ hk₂ => ?_
    have F₂ := fr_but F hk₂ hIL hI₀
    have N₂ := news_but N hk₂ off
    refine wpAny_storeName_local hy F₂.ns (fun h₃ hn₃ hs₃ => ?_) hp
    have hL₀ : g.get? env.locals = none := Heap.get?_none_of_le F₂.above
    have hst₃ : St (i + 1) h₃ := W.frame _ _ _ hst₂ fun b hb o e => hs₃.extBut b o (fun q => hLf (by rw [← q]; exact hb)) e
    obtain ⟨oI, heI⟩ := hIo _ _ hst₃
    have F₃ : Fr g env.locals h₃ (fun z => if z = x then some v else m z) := ⟨hn₃, fun b o e => hs₃.extBut b o (fun q => by rw [q, hL₀] at e; cases e) (F₂.keep b o e), F₂.above⟩
    have N₃ : News g env.locals h₃ ((I, oI) :: news) := fun p hp => by
      rcases List.mem_cons.mp hp with rfl | hp
      · exact ⟨heI, Ne.symm hIL, hI₀⟩
      · exact ⟨hs₃.extBut _ _ (N₂ p hp).2.1 (N₂ p hp).1, (N₂ p hp).2⟩
    refine wpAny_mono (turn i news v I oI m _ _ hlt hPv hJ hos F₃ N₃ off) (fun f s₄ h₄ => ?_) fun _ _ e => e
    obtain ⟨hf, news₄, m₄, F₄, N₄, off₄, hos₄, hJ₄⟩ := h₄
    have Nd : News g env.locals s₄.heap news₄ := fun p hp => N₄ p (List.mem_cons_of_mem _ hp)
    have t : Turned (fun k s => ∃ i news m, s.os = os ∧ i ≤ n ∧ k = n + 1 - i ∧ St i s.heap ∧ Fr g env.locals s.heap m ∧ News g env.locals s.heap news ∧ (∀ p ∈ news, p.1 ≠ I) ∧ J i news m s.gens) (n + 1 - i) s₄ :=
      ⟨n + 1 - (i + 1), by omega, i + 1, news₄, m₄, hos₄, hlt, rfl, hSt _ _ _ _ _ hst₃ heI (N₄ _ List.mem_cons_self).1 F₄.keep Nd (hS _ _ _ _ hJ₄), F₄, Nd, off₄, hJ₄⟩
    rcases hf with rfl | rfl <;> exact t
  · obtain rfl : i = n := Nat.le_antisymm hi (Nat.not_lt.mp hlt)
    refine W.done s _ _ hst fun h₂ tk₂ hk₂ => ?_
    exact hQ _ m news (fr_but F hk₂ hIL hI₀) (news_but N hk₂ off) hos hJ
/-- a for over a list or a range -/
theorem for_over {x : Str} {px pos : Pos} {iter : Expr} {body : List Stmt} {Q : Flow → Shared → Prop} (n : Nat) (P : Nat → Value → Prop) (S : List (Addr × Obj) → Prop) (os : OsState) (J : Nat → List (Addr × Obj) → (Str → Option Value) → Array GenState → Prop)
    (hL : env.locals = L) (hh : A.handled = none) (hy : env.kindOf x = some .local) (hp : (env.scope.kind == .class || (env.scope.kind == .module && env.locals != env.globals)) = false)
    (h : wpAny (model prog w) A (eval iter env) (fun xv s₁ => ∃ news m, Fr g L s₁.heap m ∧ News g L s₁.heap news ∧ Over g L s₁ news xv n P S ∧ S news ∧ s₁.os = os ∧ J 0 news m s₁.gens) E s)
    (hS : ∀ i news m gs, J i news m gs → S news) (turn : ForTurn prog w A env g L x body os n P J)
    (hQ : ∀ s' m' news', Fr g L s'.heap m' → News g L s'.heap news' → s'.os = os → J n news' m' s'.gens → Q .next s')
    (hs : ∀ x, foldedSetIterable iter env x = pure x := by intro _; rfl) :
    wpAny (model prog w) A (exec (.For (.Name x px) iter body [] pos) env) Q E s := by
  refine wpAny_For (wpAny_mono h (fun xv s₁ h₁ => ?_) fun _ _ e => e) hs
  obtain ⟨news, m₁, F, N, O, hS0, hos, hJ⟩ := h₁
  have fin : ∀ {I : Addr} {fp : List Addr} {St : Nat → Heap → Prop} {S : List (Addr × Obj) → Prop} (s₂ : Shared), Walks prog w A I fp [I] n P St → (∀ i h, St i h → ∃ o, h.get? I = some o) →
      (∀ i h h' o nw, St i h → h.get? I = some o → h'.get? I = some o → (∀ b o, g.get? b = some o → h'.get? b = some o) → News g L h' nw → S nw → St i h') → (∀ i news m gs, J i news m gs → S news) → L ≠ I → g.get? I = none → L ∉ fp →
      s₂.os = os → St 0 s₂.heap → Fr g L s₂.heap m₁ → News g L s₂.heap news → (∀ p ∈ news, p.1 ≠ I) → J 0 news m₁ s₂.gens →
      codeAny (model prog w) A (.forLoop (.Name x px) (.ref I) body [] env) (fun r s' => match r with | .ok f => Q f s' | .error e => cameBackBy (model prog w) A env E e s') s₂ := by
    intro I fp St S s₂ W hIo hSt hS hIL hI₀ hLf hos₂ hst F₂ N₂ off hJ₂
    refine codeAny_forLoop (fun k s => ∃ i news m, s.os = os ∧ i ≤ n ∧ k = n + 1 - i ∧ St i s.heap ∧ Fr g L s.heap m ∧ News g L s.heap news ∧ (∀ p ∈ news, p.1 ≠ I) ∧ J i news m s.gens) (fun k s hI => ?_) (n + 1) ⟨0, news, m₁, hos₂, Nat.zero_le _, rfl, hst, F₂, N₂, off, hJ₂⟩
    refine wpAny_mono (for_walk hL hy hp W hIo hSt hS hIL hI₀ hLf turn hQ _ k s hI) (fun r s₁ hr => ?_) fun _ _ e => e
    cases r with
    | none => exact wpAny_execs_nil hr
    | some v =>
      refine wpAny_assign_Name (wpAny_mono hr (fun _ s₂ h₂ => wpAny_mono h₂ (fun f s₃ hf => ?_) fun _ _ e => e) fun _ _ e => e)
      cases f <;> first | exact hf.ex | exact hf
  rcases O with ⟨ax, its, rfl, hsrc, rfl, hP, hS'⟩ | ⟨r, a, t, u, v, rfl, hr, hsm, hn, hP⟩
  · have hl := hsrc.list F.keep N
    have hlt : ax < s₁.heap.objs.size := by obtain ⟨_, e, _⟩ := hl; exact Heap.lt_size e
    have haxL : ax ≠ L := fun e => by
      obtain ⟨o, ho, _, k, hd⟩ := hl
      obtain ⟨o', es, ep, ho', hd', _⟩ := F.ns
      rw [e, ho'] at ho; cases ho; rw [hd'] at hd; cases hd
    refine wpAny_pyIter_list hl ?_
    have up : ∀ b o, s₁.heap.get? b = some o → (s₁.heap.push { cls := .type "list_iterator", data := .fields #[.ref ax, .int 0 0] }).get? b = some o := fun b o e => Heap.get?_push_of_some _ e
    let W := Walks.list (prog := prog) (w := w) hh s₁.heap.objs.size ax (Nat.ne_of_lt hlt) its
    exact fin (S := SrcAt g ax its) { s₁ with heap := s₁.heap.push { cls := .type "list_iterator", data := .fields #[.ref ax, .int 0 0] } } { sub := W.sub, frame := W.frame, done := W.done, self := W.self, item := fun i s Q E hi st hQ => W.item i s Q E hi st fun v h' tk hv => hQ v h' tk (hP i v hv) } (fun i h st => by obtain ⟨o, e, _⟩ := st.1; exact ⟨o, e⟩)
      list_st (fun i nw m gs hj => hS' _ (hS i nw m gs hj)) (Nat.ne_of_lt F.ns.lt) (next_is_new F) (fun hm => by
        rcases List.mem_cons.mp hm with e | hm
        · exact absurd (e ▸ F.ns.lt) (Nat.lt_irrefl _)
        · exact haxL (List.mem_singleton.mp hm).symm) hos ⟨⟨_, Heap.get?_push_size _ rfl, rfl, rfl⟩, hl.push _⟩ (F.keeps up) (N.grown up) (fun p hp => Nat.ne_of_lt (Heap.lt_size (N p hp).1)) hJ
  · refine wpAny_pyIter_range hr hsm ?_
    let W := range_walks (prog := prog) (w := w) (A := A) (I := s₁.heap.objs.size) hh 0 n
    exact fin (S := fun _ => True) { s₁ with heap := s₁.heap.push { cls := .type "range_iterator", data := .fields #[rawInt 0, rawInt (Builtin.Range.rangeSize 0 a 1), rawInt 1] } } { sub := W.sub, frame := W.frame, done := W.done, self := W.self, item := fun i s Q E hi st hQ => W.item i s Q E hi st fun v h' tk hv => hQ v h' tk (by obtain ⟨t, rfl⟩ := hv; rw [Int.zero_add]; exact hP i t) } (fun i h st => ⟨_, st⟩)
      range_st (fun _ _ _ _ _ => trivial) (Nat.ne_of_lt F.ns.lt) (next_is_new F) (fun hm => absurd ((List.mem_singleton.mp hm) ▸ F.ns.lt) (Nat.lt_irrefl _)) hos (by show IsRangeIter _ _ _ _ _; rw [hn]; simpa using Heap.get?_push_size _ rfl)
      (F.keeps fun _ _ e => Heap.get?_push_of_some _ e) (N.grown fun _ _ e => Heap.get?_push_of_some _ e) (fun p hp => Nat.ne_of_lt (Heap.lt_size (N p hp).1)) hJ
end
end
-- Jn
section
/-- the place of the generator in join -/
def genAt : Option Obj → Option Pos
  | some ⟨_, _, .func fd, _⟩ => match fd.body with
    | .stmts (.Return (some (.Call _ [.GeneratorExp _ _ _ pos] _ _)) _ :: _) => some pos
    | _ => none
  | _ => none
def GenIs (w : World) (pos : Pos) : Prop := genAt ((hd.heap_1 w.params).lookup 785) = some pos
def joinQ : Str := Str.ofString "join" ++ ".<locals>." ++ "<genexpr>"
/-- join's table of inner codes -/
def TabJ (w : World) (g h : Heap) (tl : List (Addr × Obj)) : Prop :=
  Own g h tl ∧ (tl = [(780, tabObj #[])] ∨ ∃ (pos : Pos) (c' : Addr) (oc : Obj) (vs : Array Value) (t : Tok), GenIs w pos ∧ tl = [(780, tabObj #[rawInt pos.line, rawInt pos.col, .ref c']), (c', oc)] ∧ oc.data = .fields vs ∧ vs[1]? = some (.str joinQ t))
/-- words as values -/
def Words (its : Array Value) (ws : List (List Nat)) : Prop := its.size = ws.length ∧ ∀ (i : Nat) (v : Value), its[i]? = some v → ∃ (l : List Nat) (t : Tok), ws[i]? = some l ∧ v = Value.str (tx l) t
def lineOf (ws : List (List Nat)) : List Nat := joinW 32 (ws.map fun l => 39 :: (l ++ [39]))
theorem genAt_is {K : Frag} {f : Addr} {oc : Value} {od : Option Addr} {name qual : Str} {params : Arguments} {r : List Stmt} {scope : Scope} {dV kV doc pm cdv ct : Value} {an : Option Addr} {osl : Array (Option Value)} {f0 e : Expr} {gs : List Comprehension} {sc : Scope} {pos p1 p2 : Pos} {kw : List Keyword}
  (ho : K.lookup f = some ⟨oc, od, .func (fnOf name qual params (.Return (some (.Call f0 [.GeneratorExp e gs sc pos] kw p1)) p2 :: r) scope dV kV doc pm an cdv ct), osl⟩) : genAt (K.lookup f) = some pos := by
  rw [ho]; rfl
theorem tabJ_of {w : World} {g h : Heap} {c' : Addr} {pos : Pos} (G : GenIs w pos) (hP : h.get? 780 = some (tabObj #[rawInt pos.line, rawInt pos.col, .ref c'])) (cr : h.CodeRec (.ref c') joinQ) (h1 : g.get? 780 = none) (h2 : g.get? c' = none) : ∃ tl, TabJ w g h tl ∧ tl.map (·.1) = [780, c'] := by
  obtain ⟨a, oc, vs, t, e, ho, hd, hv⟩ := cr
  cases e
  refine ⟨_, ⟨fun p hp => ?_, .inr ⟨pos, c', oc, vs, t, G, rfl, hd, hv⟩⟩, rfl⟩
  simp only [List.mem_cons, List.not_mem_nil, or_false] at hp
  rcases hp with rfl | rfl
  · exact ⟨hP, h1⟩
  · exact ⟨ho, h2⟩
theorem quoted_text {its : Array Value} {ws : List (List Nat)} (hw : Words its ws) : (List.range its.size).map (fun j => tx (39 :: (ws.getD j [] ++ [39]))) = (ws.map fun l => 39 :: (l ++ [39])).map tx := by
  rw [hw.1]
  refine List.ext_getElem (by simp) fun j h1 h2 => ?_
  have hj : j < ws.length := by simpa using h1
  simp [List.getD_eq_getElem?_getD, List.getElem?_eq_getElem hj]
theorem quoted_sum : ∀ {ws : List (List Nat)}, (∀ x ∈ ws, IsWord x) → ((ws.map fun l => 39 :: (l ++ [39])).map fun x => x.length + 1).sum ≤ ws.length * 5
  | [], _ => Nat.le_refl _
  | x :: r, h => by
    have ih := quoted_sum (ws := r) fun y hy => h y (List.mem_cons_of_mem _ hy)
    have hx := (h x (List.mem_cons_self ..)).1
    simp only [List.map_cons, List.sum_cons, List.length_cons, List.length_append, List.length_nil] at ih ⊢
    omega
theorem reg_Jn : True := by
  k_with_none
  k_with "k_get" => (first | assumption | exact getL_put_eq | (refine Eq.trans (getL_put_ne (by decide +kernel)) ?_; k_get) | (refine' isSome_of ?h9z; case h9z => k_get) | (refine' isSome_of' ?h9z; case h9z => k_get) | exact rfl)
  k_with "k_put" => (exact rfl)
  k_with "setAttr ref" => (k_here; k_dflt (
    (refine' set_dict ?k19z ?k29z ?k39z ?k49z ?k59z ?k69z ?k79z ?k89z ?k99z ?k109z ?k119z ?k129z ?k139z ?_; (case k19z => k_asm); (case k29z => k_asm); (case k39z => k_asm); (case k49z => k_inst); (case k59z => exact rfl); (case k69z => k_is); (case k79z => k_is); (case k89z => k_is); (case k99z => k_is); (case k109z => k_get); (case k119z => exact rfl); (case k129z => k_upd); (case k139z => ((repeat (refine length_put_le ?_)); omega)); k_whole; intro h' F' N'; (try k_sweep))))
  k_with "size_fits" => (first | assumption | ((try simp only [tx_length]); rw [sizeLine_eq]; omega))
  k_with "k_ne" => (first | assumption | (refine Ne.symm ?_; assumption))
  k_with "tb_rel" => (first
    | exact List.forall_mem_nil _
    | (refine List.forall_mem_cons.mpr ⟨?ta9z, ?tb9z⟩; (case ta9z => first | exact fun _ => News.get (by assumption) (by k_mem) | exact fun h9 => absurd (by simp) h9); (case tb9z => tb_rel)))
  k_with "tb_start" => (
    refine wpAny_call ?_
    refine' enter _ (Cx.X (by assumption)) (Cx.T (by assumption)) (Cx.S (by assumption)) (by assumption) ?k19z ?k29z ?k39z ?k49z ?k59z ?_ ?k69z ?k79z ?k89z ?k99z
    (case k19z => k_is)
    (case k29z => k_is)
    (case k39z => ((try simp only [depth_deeper, depth_under_make, depth_in1, recursionLimit]); omega))
    (case k49z => first | exact BindsTo.of_eq rfl | exact binds_K (Frag.In.keeps (Cx.X (by assumption)) (Cx.S (by assumption))) rfl (by k_is) rfl rfl rfl)
    (case k59z => exact locs rfl)
    (case k69z => exact rfl)
    (case k79z => exact rfl)
    (case k89z => exact rfl)
    (case k99z => decide)
    skip)
  k_with "exec If" => (refine wpAny_If ?_)
  k_with "execs nil" => (refine wpAny_execs_nil ?_)
  k_with "execs cons" => ((with_reducible refine wpAny_execs_cons ?_); (try dsimp only); (try k_fold); (try (with_reducible refine wp_tok ?_; intro tk9)))
  trivial
theorem join_ok {w : World} {p : Program} {loose : List Str} {mg mb : Str → Option Value} {g : Heap} {A : Around} {s : Shared} {Q E : Value → Shared → Prop} {l : Addr} {its : Array Value} {ws : List (List Nat)} {tl : List (Addr × Obj)}
  (C : Cx w p loose mg mb g s.heap) (hdp : A.depth ≤ 500) (hh : A.handled = none) (B : Bm mg g) (hT : TabJ w g s.heap tl) (G : AllBare s.gens) (hl : s.heap.IsList l its) (hw : Words its ws) (hall : ∀ x ∈ ws, IsWord x) (hn : ws.length ≤ 10)
  (hret : ∀ s' t' tl', Keeps [780] s.heap s'.heap → TabJ w g s'.heap tl' → (∀ p ∈ tl', p.1 ∈ tl.map (·.1) ∨ s.heap.get? p.1 = none) → AllBare s'.gens → s'.os = s.os → Q (.str (tx (lineOf ws)) t') s') :
  wpAny (model P0 w) A (call (.ref 785) [.ref l]) Q E s := by
  obtain ⟨O, hT⟩ := hT
  have hlne : ∀ p ∈ tl, l ≠ p.1 := by
    intro p hp q
    obtain ⟨o, e, _, n, hdl⟩ := hl
    rw [q, (O p hp).1] at e
    cases e
    rcases hT with rfl | ⟨pos, c', oc, vs, tq, hG, rfl, hd, hv⟩
    · rw [List.mem_singleton.mp hp] at hdl
      cases hdl
    · simp only [List.mem_cons, List.not_mem_nil, or_false] at hp
      rcases hp with rfl | rfl
      · cases hdl
      · rw [hd] at hdl; cases hdl
  rcases hT with rfl | ⟨pos, c', oc, vs, tq, hG, rfl, hdv, hv⟩
  · refine wpAny_call ?_
    refine' enter _ C.X C.T C.S O ?k1 ?k2 ?k3 ?k4 ?k5 ?_ ?k6 ?k7 ?k8 ?k9
    case k1 => k_is
    case k2 => k_is
    case k3 => exact Nat.lt_of_le_of_lt hdp (by decide)
    case k4 => exact BindsTo.of_eq rfl
    case k5 => exact locs rfl
    case k6 => exact rfl
    case k7 => exact rfl
    case k8 => exact rfl
    case k9 => decide
    intro g' L' h' F' N' X' T' hG9 hg9
    dsimp only
    have hl' : g'.IsList l its := by
      obtain ⟨o, e, r⟩ := hl
      exact ⟨o, hG9 _ _ e (fun q => by obtain ⟨p, hp, e⟩ := List.mem_map.mp q; exact hlne p hp e.symm), r⟩
    have hC9 : CodeHd g' 784 780 := codeHd_of_K X' (by kernel_rfl)
    have hG0 : GenIs w _ := genAt_is (K := hd.heap_1 w.params) (f := 785) (by k_is)
    show wpAny _ _ _ _ _ _
    k_fold
    k_steps
    refine' gen_make (c := 784) (P := 780) (mg := mg) (mb := mb) (items := its) (Fy := fun i y => ∃ t, y = .str (tx (39 :: (ws.getD i [] ++ [39]))) t) ?hh rfl rfl ?hcell rfl rfl rfl ?room (fun _ => rfl) rfl rfl F' T' (B.keeps hg9) hC9 (N' _ (.head _)).1 (N' _ (.head _)).2.1 (N' _ (.head _)).2.2 ?hps G hl' ?hit ?helt ?hfin
    case hh => exact hh
    case hcell => decide
    case room => exact Nat.lt_of_le_of_lt (show _ ≤ 510 by simp only [depth_deeper]; omega) (by decide)
    case hps => exact .inl rfl
    case hit =>
      intro Q' hQ'
      k_steps
      exact hQ'
    case helt =>
      intro C' code bi A' E' i v t m₂ hA hD hU hv Fc hm
      simp only [depth_deeper] at hD
      obtain ⟨lw, tw, hlw, rfl⟩ := hw.2 i v hv
      have hlw' : ws.getD i [] = lw := by rw [List.getD_eq_getElem?_getD, hlw]; rfl
      have hlm : IsWord lw := hall _ (List.mem_of_getElem? hlw)
      rw [hlw']
      refine call_top1 (K := hd.heap_1 w.params) (q := 793) Fc X' T' (by k_is) ⟨_, _, _, _, Fc.keep _ _ (X' 793 _ (by k_is))⟩ rfl rfl rfl (by decide) Fc.ns rfl hm rfl (by decide) ?_
      refine quote_ok ⟨X', T', Fc.keep⟩ (by omega) hlm fun h9 tk9 t9 k9 => ⟨⟨t9, rfl⟩, h9, tk9, rfl, fun b o e => k9 b o e (fun q => nomatch q)⟩
    case hfin =>
      intro a wr c' s' X F'' hP cr Gs os hwr hcw hfr hk
      have h780 : g.get? 780 = none := (O _ (.head _)).2
      have hnP : 780 ∉ wr := fun q => by have := hwr _ q; rw [show _ = some _ from (N' _ (.head _)).1] at this; cases this
      k_steps
      refine join_gen X Gs (fun j => tx (39 :: (ws.getD j [] ++ [39]))) (fun j v hv => hv.2) ?_ ?_ ?_
      · rw [quoted_text hw]; exact joinOk_tx 32 _ (Nat.le_trans (quoted_sum hall) (by omega))
      · rw [hw.1]; omega
      · intro s'' t'' Gs'' os'' hk''
        rw [quoted_text hw]
        have ej : Txt.join (Str.ofString " ") ((ws.map fun l => 39 :: (l ++ [39])).map tx) = tx (lineOf ws) := join_tx 32 _
        rw [ej]
        all_goals (repeat' (first | (dsimp only) | (k_unfold; dsimp only)))
        have hkb : ∀ b o, s.heap.get? b = some o → b ≠ 780 → s''.heap.get? b = some o := fun b o e n => hk'' b o (fun q => by
          have e1 := (F'.keep b o (hG9 b o e (by simpa using n)))
          have e2 := hwr b q
          dsimp only at e2
          rw [e1] at e2; cases e2) (hk b o n (F'.keep b o (hG9 b o e (by simpa using n))))
        have hcg : g.get? c' = none := by
          rcases hfr with e | e
          · exact none_of (fun b o e => F'.keep b o (hg9 b o e)) e
          · cases congrArg Array.size e
        obtain ⟨tl', ht', hadr⟩ := tabJ_of (g := g) hG0 (hk'' _ _ hnP hP) (by obtain ⟨a, oc, vs, t, ea, ho, hd, hv⟩ := cr; cases ea; exact ⟨_, oc, vs, t, rfl, hk'' _ _ hcw ho, hd, hv⟩) h780 hcg
        exact hret s'' t'' tl' (fun b o e n => hkb b o e (fun q => n (by rw [q]; exact .head _))) ht' (fun p hp => by
          have hp' := List.mem_map_of_mem (f := (·.1)) hp
          rw [hadr] at hp'
          simp only [List.mem_cons, List.not_mem_nil, or_false] at hp'
          rcases hp' with e | e
          · exact .inl (by rw [e]; exact .head _)
          · rcases hfr with q | q
            · refine .inr ?_
              rw [e]
              cases z : s.heap.get? c' with
              | none => rfl
              | some o =>
                have := F'.keep c' o (hG9 c' o z (by simp only [List.map_cons, List.map_nil, List.mem_cons, List.not_mem_nil, or_false]; rintro rfl; rw [show _ = some _ from (N' _ (.head _)).1] at q; cases q))
                dsimp only at q
                rw [q] at this; cases this
            · cases congrArg Array.size q) Gs'' (os''.trans os)
  · refine wpAny_call ?_
    refine' enter _ C.X C.T C.S O ?k1 ?k2 ?k3 ?k4 ?k5 ?_ ?k6 ?k7 ?k8 ?k9
    case k1 => k_is
    case k2 => k_is
    case k3 => exact Nat.lt_of_le_of_lt hdp (by decide)
    case k4 => exact BindsTo.of_eq rfl
    case k5 => exact locs rfl
    case k6 => exact rfl
    case k7 => exact rfl
    case k8 => exact rfl
    case k9 => decide
    intro g' L' h' F' N' X' T' hG9 hg9
    dsimp only
    have hl' : g'.IsList l its := by
      obtain ⟨o, e, r⟩ := hl
      exact ⟨o, hG9 _ _ e (fun q => by obtain ⟨p, hp, e⟩ := List.mem_map.mp q; exact hlne p hp e.symm), r⟩
    have hC9 : CodeHd g' 784 780 := codeHd_of_K X' (by kernel_rfl)
    have hG0 : GenIs w _ := genAt_is (K := hd.heap_1 w.params) (f := 785) (by k_is)
    obtain rfl : pos = _ := Option.some.inj (hG.symm.trans hG0)
    have hkeep : ∀ b o, s.heap.get? b = some o → b ≠ 780 → h'.get? b = some o := fun b o e n => by
      by_cases q : b = c'
      · subst q
        have e' := (O _ (.tail _ (.head _))).1
        dsimp only at e'
        rw [e'] at e
        cases e
        exact (N' _ (.tail _ (.head _))).1
      · exact F'.keep b o (hG9 b o e (by simp only [List.map_cons, List.map_nil, List.mem_cons, List.not_mem_nil, or_false, not_or]; exact ⟨n, q⟩))
    show wpAny _ _ _ _ _ _
    k_fold
    k_steps
    refine' gen_make (c := 784) (P := 780) (mg := mg) (mb := mb) (items := its) (Fy := fun i y => ∃ t, y = .str (tx (39 :: (ws.getD i [] ++ [39]))) t) ?hh rfl rfl ?hcell rfl rfl rfl ?room (fun _ => rfl) rfl rfl F' T' (B.keeps hg9) hC9 (N' _ (.head _)).1 (N' _ (.head _)).2.1 (N' _ (.head _)).2.2 ?hps G hl' ?hit ?helt ?hfin
    case hh => exact hh
    case hcell => decide
    case room => exact Nat.lt_of_le_of_lt (show _ ≤ 510 by simp only [depth_deeper]; omega) (by decide)
    case hps => exact .inr ⟨c', rfl, codeRec_news N' (.tail _ (.head _)) hdv hv⟩
    case hit =>
      intro Q' hQ'
      k_steps
      exact hQ'
    case helt =>
      intro C' code bi A' E' i v t m₂ hA hD hU hv Fc hm
      simp only [depth_deeper] at hD
      obtain ⟨lw, tw, hlw, rfl⟩ := hw.2 i v hv
      have hlw' : ws.getD i [] = lw := by rw [List.getD_eq_getElem?_getD, hlw]; rfl
      have hlm : IsWord lw := hall _ (List.mem_of_getElem? hlw)
      rw [hlw']
      refine call_top1 (K := hd.heap_1 w.params) (q := 793) Fc X' T' (by k_is) ⟨_, _, _, _, Fc.keep _ _ (X' 793 _ (by k_is))⟩ rfl rfl rfl (by decide) Fc.ns rfl hm rfl (by decide) ?_
      refine quote_ok ⟨X', T', Fc.keep⟩ (by omega) hlm fun h9 tk9 t9 k9 => ⟨⟨t9, rfl⟩, h9, tk9, rfl, fun b o e => k9 b o e (fun q => nomatch q)⟩
    case hfin =>
      intro a wr c2 s' X F'' hP cr Gs os hwr hcw hfr hk
      have h780 : g.get? 780 = none := (O _ (.head _)).2
      have hnP : 780 ∉ wr := fun q => by have := hwr _ q; rw [show _ = some _ from (N' _ (.head _)).1] at this; cases this
      k_steps
      refine join_gen X Gs (fun j => tx (39 :: (ws.getD j [] ++ [39]))) (fun j v hv => hv.2) ?_ ?_ ?_
      · rw [quoted_text hw]; exact joinOk_tx 32 _ (Nat.le_trans (quoted_sum hall) (by omega))
      · rw [hw.1]; omega
      · intro s'' t'' Gs'' os'' hk''
        rw [quoted_text hw]
        have ej : Txt.join (Str.ofString " ") ((ws.map fun l => 39 :: (l ++ [39])).map tx) = tx (lineOf ws) := join_tx 32 _
        rw [ej]
        all_goals (repeat' (first | (dsimp only) | (k_unfold; dsimp only)))
        have hkb : ∀ b o, s.heap.get? b = some o → b ≠ 780 → s''.heap.get? b = some o := fun b o e n => hk'' b o (fun q => by
          have e1 := (hkeep b o e n)
          have e2 := hwr b q
          dsimp only at e2
          rw [e1] at e2; cases e2) (hk b o n (hkeep b o e n))
        have hcg : g.get? c2 = none := by
          rcases hfr with e | e
          · exact none_of (fun b o e => F'.keep b o (hg9 b o e)) e
          · injection e with e1
            simp only [List.cons.injEq, Value.ref.injEq, and_true, true_and] at e1
            rw [← e1]
            exact (O _ (.tail _ (.head _))).2
        obtain ⟨tl', ht', hadr⟩ := tabJ_of (g := g) hG0 (hk'' _ _ hnP hP) (by obtain ⟨a, oc, vs, t, ea, ho, hd, hv⟩ := cr; cases ea; exact ⟨_, oc, vs, t, rfl, hk'' _ _ hcw ho, hd, hv⟩) h780 hcg
        exact hret s'' t'' tl' (fun b o e n => hkb b o e (fun q => n (by rw [q]; exact .head _))) ht' (fun p hp => by
          have hp' := List.mem_map_of_mem (f := (·.1)) hp
          rw [hadr] at hp'
          simp only [List.mem_cons, List.not_mem_nil, or_false] at hp'
          rcases hp' with e | e
          · exact .inl (by rw [e]; exact .head _)
          · rcases hfr with q | q
            · refine .inr ?_
              rw [e]
              cases z : s.heap.get? c2 with
              | none => rfl
              | some o =>
                have := hkeep c2 o z (by rintro rfl; rw [show _ = some _ from (N' _ (.head _)).1] at q; cases q)
                dsimp only at q
                rw [q] at this; cases this
            · injection q with e1
              simp only [List.cons.injEq, Value.ref.injEq, and_true, true_and] at e1
              exact .inl (by rw [e, ← e1]; exact .tail _ (.head _))) Gs'' (os''.trans os)
end
theorem reg_Jn_end : True := by
  k_with_none
  trivial
-- Sr
section
open PySem.Builtin PySem.Builtin.Str
theorem enc_length : ∀ l : List Nat, (enc l).length ≤ 2 * l.length
  | [] => Nat.le_refl _
  | c :: r => by
    have ih := enc_length r
    unfold enc
    split <;> simp only [List.length_cons] <;> omega
theorem enc_cons (c : Nat) (r : List Nat) : enc (c :: r) = (if c = 92 then [92, 92] else [c]) ++ enc r := by
  by_cases h : c = 92
  · simp [enc, h]
  · simp [enc, h]
theorem repr_signs : ((39 :: lawSigns).all fun c => reprChar 34 c == if c = 92 then [92, 92] else [c]) = true := by decide +kernel
theorem repr_fold (l : List Nat) (h : ∀ c ∈ l, c ∈ 39 :: lawSigns) : ∀ acc : Array Nat, l.foldl (fun out c => out ++ (reprChar 34 c).toArray) acc = acc ++ (enc l).toArray := by
  induction l with
  | nil => intro acc; simp [enc]
  | cons c r ih =>
    intro acc
    have e := eq_of_beq (List.all_eq_true.mp repr_signs c (h c (List.mem_cons_self ..)))
    rw [List.foldl_cons, ih (fun x hx => h x (List.mem_cons_of_mem _ hx)), e, enc_cons]
    simp
theorem repr_line {l : List Nat} (h : ∀ c ∈ l, c ∈ 39 :: lawSigns) (h39 : 39 ∈ l) : reprText (tx l) = tx (34 :: (enc l ++ [34])) := by
  have q : reprQuote (tx l) = 34 := by
    unfold reprQuote
    have h1 : (tx l).cps.contains 39 = true := by simpa [tx] using h39
    have h2 : (tx l).cps.contains 34 = false := by
      rw [Bool.eq_false_iff]
      intro hc
      have : 34 ∈ l := by simpa [tx] using hc
      exact absurd (h 34 this) (by decide)
    rw [h1, h2]; rfl
  unfold reprText
  rw [q]
  rw [show (tx l).cps = l.toArray from rfl, List.foldl_toArray, repr_fold l h]
  simp [tx]
theorem reg_Sr : True := by
  k_with_none
  k_with "k_get" => (first | assumption | exact getL_put_eq | (refine Eq.trans (getL_put_ne (by decide +kernel)) ?_; k_get) | (refine' isSome_of ?h9z; case h9z => k_get) | (refine' isSome_of' ?h9z; case h9z => k_get) | exact rfl)
  k_with "k_put" => (exact rfl)
  k_with "setAttr ref" => (k_here; k_dflt (
    (refine' set_dict ?k19z ?k29z ?k39z ?k49z ?k59z ?k69z ?k79z ?k89z ?k99z ?k109z ?k119z ?k129z ?k139z ?_; (case k19z => k_asm); (case k29z => k_asm); (case k39z => k_asm); (case k49z => k_inst); (case k59z => exact rfl); (case k69z => k_is); (case k79z => k_is); (case k89z => k_is); (case k99z => k_is); (case k109z => k_get); (case k119z => exact rfl); (case k129z => k_upd); (case k139z => ((repeat (refine length_put_le ?_)); omega)); k_whole; intro h' F' N'; (try k_sweep))))
  k_with "size_fits" => (first | assumption | ((try simp only [tx_length]); rw [sizeLine_eq]; omega))
  k_with "k_ne" => (first | assumption | (refine Ne.symm ?_; assumption))
  k_with "tb_rel" => (first
    | exact List.forall_mem_nil _
    | (refine List.forall_mem_cons.mpr ⟨?ta9z, ?tb9z⟩; (case ta9z => first | exact fun _ => News.get (by assumption) (by k_mem) | exact fun h9 => absurd (by simp) h9); (case tb9z => tb_rel)))
  k_with "tb_start" => (
    refine wpAny_call ?_
    refine' enter _ (Cx.X (by assumption)) (Cx.T (by assumption)) (Cx.S (by assumption)) (by assumption) ?k19z ?k29z ?k39z ?k49z ?k59z ?_ ?k69z ?k79z ?k89z ?k99z
    (case k19z => k_is)
    (case k29z => k_is)
    (case k39z => ((try simp only [depth_deeper, depth_under_make, depth_in1, recursionLimit]); omega))
    (case k49z => first | exact BindsTo.of_eq rfl | exact binds_K (Frag.In.keeps (Cx.X (by assumption)) (Cx.S (by assumption))) rfl (by k_is) rfl rfl rfl)
    (case k59z => exact locs rfl)
    (case k69z => exact rfl)
    (case k79z => exact rfl)
    (case k89z => exact rfl)
    (case k99z => decide)
    skip)
  k_with "exec If" => (refine wpAny_If ?_)
  k_with "execs nil" => (refine wpAny_execs_nil ?_)
  k_with "execs cons" => ((with_reducible refine wpAny_execs_cons ?_); (try dsimp only); (try k_fold); (try (with_reducible refine wp_tok ?_; intro tk9)))
  k_with "compareOp In str str" => (first | refine in_is (v := true) (by decide +kernel) ?_ | refine in_is (v := false) (by decide +kernel) ?_ | refine in_is (by assumption) ?_)
  k_with "compareOp Eq str str" => (first | refine eq_is (v := true) (by decide +kernel) ?_ | refine eq_is (v := false) (by decide +kernel) ?_ | refine eq_is (by assumption) ?_)
  k_with "truthy str" => (first | with_reducible refine truth_one ?_ | (with_reducible (refine truth_lit (v := false) (by decide +kernel) ?_)) | (with_reducible (refine truth_lit (v := true) (by decide +kernel) ?_)) | (with_reducible (refine truth_tx (by omega) ?_ ?_) <;> intro hw9))
  k_with "inplaceOp Add str str" => (refine iadd_tx (by ((try simp only [List.length_cons, List.length_nil]); omega)) ?_; intro t9 tk9)
  trivial
theorem srepr_ok {w : World} {p : Program} {loose : List Str} {mg mb : Str → Option Value} {g : Heap} {A : Around} {s : Shared} {Q E : Value → Shared → Prop} {l : List Nat} {t : Tok}
  (C : Cx w p loose mg mb g s.heap) (hdp : A.depth ≤ 500) (hl : l.length ≤ 1000) (hsg : ∀ c ∈ l, c ∈ 39 :: lawSigns) (h39 : 39 ∈ l)
  (hret : ∀ h' tk' t', Keeps [] s.heap h' → Q (.str (tx (34 :: (enc l ++ [34]))) t') { s with heap := h', toks := tk' }) :
  wpAny (model P0 w) A (call (.ref 801) [.str (tx l) t]) Q E s := by
  have O : Own g s.heap [] := fun _ q => nomatch q
  have hr := repr_line hsg h39
  have hrl : (reprText (tx l)).length ≤ sizeLine := by
    rw [hr, tx_length]
    have := enc_length l
    simp only [List.length_cons, List.length_append, List.length_nil]
    rw [sizeLine_eq]; omega
  tb_start
  intro g' L' h' F' N' X' T' hG9 hg9
  dsimp only
  show wpAny _ _ _ _ _ _
  k_fold
  k_steps
  all_goals (repeat' (first | (dsimp only) | (k_unfold; dsimp only)))
  all_goals (rename Fr _ _ _ _ => F9)
  rw [hr]
  exact hret _ _ _ (keeps_out hG9 F9 (fun p hp => (O p hp).1) (by tb_rel))
end
theorem reg_Sr_end : True := by
  k_with_none
  trivial
-- Tb
section
/-- all addresses of a ledger differ -/
def Nd (l : List (Addr × Obj)) : Prop := (l.map (·.1)).Nodup
theorem Nd.cons {a : Addr} {o : Obj} {l : List (Addr × Obj)} : Nd ((a, o) :: l) ↔ (∀ p ∈ l, p.1 ≠ a) ∧ Nd l := by
  show List.Nodup (a :: l.map (·.1)) ↔ _
  rw [List.nodup_cons]
  refine ⟨fun ⟨h1, h2⟩ => ⟨fun p hp e => h1 (e ▸ List.mem_map_of_mem hp), h2⟩, fun ⟨h1, h2⟩ => ⟨fun hm => ?_, h2⟩⟩
  obtain ⟨p, hp, e⟩ := List.mem_map.mp hm
  exact h1 p hp e
theorem Nd.append {l l' : List (Addr × Obj)} : Nd (l ++ l') ↔ Nd l ∧ Nd l' ∧ ∀ p ∈ l, ∀ q ∈ l', p.1 ≠ q.1 := by
  show List.Nodup ((l ++ l').map (·.1)) ↔ _
  rw [List.map_append, List.nodup_append]
  refine and_congr Iff.rfl (and_congr Iff.rfl ⟨fun h p hp q hq => h _ (List.mem_map_of_mem hp) _ (List.mem_map_of_mem hq), fun h a ha b hb => ?_⟩)
  obtain ⟨p, hp, rfl⟩ := List.mem_map.mp ha
  obtain ⟨q, hq, rfl⟩ := List.mem_map.mp hb
  exact h p hp q hq
theorem Nd.perm {l l' : List (Addr × Obj)} (h : Nd l) (e : l.Perm l') : Nd l' := (e.map _).nodup_iff.mp h
theorem Nd.adr {l l' : List (Addr × Obj)} (h : Nd l) (e : l.map (·.1) = l'.map (·.1)) : Nd l' := by unfold Nd at h ⊢; rw [← e]; exact h
/-- _law_stream's table, as a ledger -/
def TabT (w : World) (g h : Heap) (tl : List (Addr × Obj)) : Prop :=
  Own g h tl ∧ (tl = [(803, tabObj #[])] ∨ ∃ (nm : Str) (pa : Arguments) (bd : List Stmt) (sc : Scope) (pos : Pos) (c' : Addr), GiveIs w nm pa bd sc pos ∧ ((tl = [(803, tabObj #[rawInt pos.line, rawInt pos.col, .ref c'])] ∧ g.CodeRec (.ref c') giveQual) ∨
    ∃ (oc : Obj) (vs : Array Value) (t : Tok), tl = [(803, tabObj #[rawInt pos.line, rawInt pos.col, .ref c']), (c', oc)] ∧ oc.data = .fields vs ∧ vs[1]? = some (.str giveQual t)))
theorem TabT.s {w : World} {g h : Heap} {tl : List (Addr × Obj)} (T : TabT w g h tl) (S : ∀ b o, g.get? b = some o → h.get? b = some o) : ∃ ps, TabS w g h ps := by
  obtain ⟨O, rfl | ⟨nm, pa, bd, sc, pos, c', G, ⟨rfl, cr⟩ | ⟨oc, vs, t, rfl, hd, hv⟩⟩⟩ := T
  · exact ⟨_, O, .inl rfl⟩
  · exact ⟨_, O, .inr ⟨nm, pa, bd, sc, pos, c', G, rfl, cr.keeps S⟩⟩
  · exact ⟨_, O.sub (by simp), .inr ⟨nm, pa, bd, sc, pos, c', G, rfl, _, oc, vs, t, rfl, (O (c', oc) (by simp)).1, hd, hv⟩⟩
theorem TabS.t {w : World} {g h : Heap} {ps : Array Value} (T : TabS w g h ps) (S : ∀ b o, g.get? b = some o → h.get? b = some o) : ∃ tl, TabT w g h tl := by
  obtain ⟨O, rfl | ⟨nm, pa, bd, sc, pos, c', G, rfl, cr⟩⟩ := T
  · exact ⟨_, O, .inl rfl⟩
  · obtain ⟨c2, oc, vs, t, e, ho, hd, hv⟩ := cr
    cases e
    cases q : g.get? c' with
    | some o =>
      have e1 := S _ _ q
      rw [ho] at e1; cases e1
      exact ⟨_, O, .inr ⟨nm, pa, bd, sc, pos, c', G, .inl ⟨rfl, _, _, vs, t, rfl, q, hd, hv⟩⟩⟩
    | none =>
      refine ⟨_, fun p hp => ?_, .inr ⟨nm, pa, bd, sc, pos, c', G, .inr ⟨oc, vs, t, rfl, hd, hv⟩⟩⟩
      simp only [List.mem_cons, List.not_mem_nil, or_false] at hp
      rcases hp with rfl | rfl
      · exact O _ (.head _)
      · exact ⟨ho, q⟩
/-- the objects of the two tables lie apart -/
theorem tab_code_ne {g h : Heap} {l : List (Addr × Obj)} {a c : Addr} {oc : Obj} {vs ps : Array Value} {q : Str} {t : Tok} (O : Own g h l) (h1 : (a, tabObj ps) ∈ l) (h2 : (c, oc) ∈ l) (hd : oc.data = .fields vs) (hv : vs[1]? = some (.str q t)) (hp : ps[1]? = none ∨ ∃ i : Int, ps[1]? = some (rawInt i)) : @Ne Nat a c :=
  ne_of_objs O h1 h2 fun e => by
    have e' := congrArg Obj.data e
    rw [hd] at e'
    injection e' with e1
    rw [← e1] at hv
    rcases hp with hp | ⟨i, hp⟩
    · rw [hp] at hv; cases hv
    · rw [hp] at hv; cases hv
theorem code_code_ne {g h : Heap} {l : List (Addr × Obj)} {a c : Addr} {oc oc' : Obj} {vs vs' : Array Value} {q q' : Str} {t t' : Tok} (O : Own g h l) (h1 : (a, oc') ∈ l) (h2 : (c, oc) ∈ l) (hd : oc.data = .fields vs) (hv : vs[1]? = some (.str q t)) (hd' : oc'.data = .fields vs') (hv' : vs'[1]? = some (.str q' t')) (n : q' ≠ q) : @Ne Nat a c :=
  ne_of_objs O h1 h2 fun e => by
    have e' := congrArg Obj.data e
    rw [hd, hd'] at e'
    injection e' with e1
    rw [e1, hv] at hv'
    cases hv'
    exact n rfl
theorem nd_tabs {w : World} {g h : Heap} {tj ts : List (Addr × Obj)} (J : TabJ w g h tj) (T : TabT w g h ts) : Nd (tj ++ ts) := by
  obtain ⟨OJ, J⟩ := J
  obtain ⟨OT, T⟩ := T
  have O : Own g h (tj ++ ts) := fun p hp => (List.mem_append.mp hp).elim (OJ p) (OT p)
  rcases J with rfl | ⟨pos, c, oc, vs, t, G, rfl, hd, hv⟩ <;> rcases T with rfl | ⟨nm, pa, bd, sc, pos', c', G', ⟨rfl, cr⟩ | ⟨oc', vs', t', rfl, hd', hv'⟩⟩
  · exact Nd.cons.mpr ⟨by simp, Nd.cons.mpr ⟨by simp, List.nodup_nil⟩⟩
  · exact Nd.cons.mpr ⟨by simp, Nd.cons.mpr ⟨by simp, List.nodup_nil⟩⟩
  · have e1 := tab_code_ne O (a := 780) (c := c') (.head _) (by k_mem) hd' hv' (.inl rfl)
    have e2 := tab_code_ne O (a := 803) (c := c') (by k_mem) (by k_mem) hd' hv' (.inr ⟨_, rfl⟩)
    exact Nd.cons.mpr ⟨by simp [Ne.symm e1], Nd.cons.mpr ⟨by simp [Ne.symm e2], Nd.cons.mpr ⟨by simp, List.nodup_nil⟩⟩⟩
  · have e1 := tab_code_ne O (a := 780) (c := c) (.head _) (by k_mem) hd hv (.inr ⟨_, rfl⟩)
    have e2 := tab_code_ne O (a := 803) (c := c) (by k_mem) (by k_mem) hd hv (.inl rfl)
    exact Nd.cons.mpr ⟨by simp [Ne.symm e1], Nd.cons.mpr ⟨by simp [e2], Nd.cons.mpr ⟨by simp, List.nodup_nil⟩⟩⟩
  · have e1 := tab_code_ne O (a := 780) (c := c) (.head _) (by k_mem) hd hv (.inr ⟨_, rfl⟩)
    have e2 := tab_code_ne O (a := 803) (c := c) (by k_mem) (by k_mem) hd hv (.inr ⟨_, rfl⟩)
    exact Nd.cons.mpr ⟨by simp [Ne.symm e1], Nd.cons.mpr ⟨by simp [e2], Nd.cons.mpr ⟨by simp, List.nodup_nil⟩⟩⟩
  · have e1 := tab_code_ne O (a := 780) (c := c) (.head _) (by k_mem) hd hv (.inr ⟨_, rfl⟩)
    have e2 := tab_code_ne O (a := 803) (c := c) (by k_mem) (by k_mem) hd hv (.inr ⟨_, rfl⟩)
    have e3 := tab_code_ne O (a := 780) (c := c') (.head _) (by k_mem) hd' hv' (.inr ⟨_, rfl⟩)
    have e4 := tab_code_ne O (a := 803) (c := c') (by k_mem) (by k_mem) hd' hv' (.inr ⟨_, rfl⟩)
    have e5 := code_code_ne O (a := c) (c := c') (by k_mem) (by k_mem) hd' hv' hd hv (by decide +kernel)
    exact Nd.cons.mpr ⟨by simp [Ne.symm e1, Ne.symm e3], Nd.cons.mpr ⟨by simp [e2, Ne.symm e5], Nd.cons.mpr ⟨by simp [Ne.symm e4], Nd.cons.mpr ⟨by simp, List.nodup_nil⟩⟩⟩⟩
theorem TabJ.back {w : World} {g g' h : Heap} {tl : List (Addr × Obj)} (T : TabJ w g' h tl) (hg : ∀ b o, g.get? b = some o → g'.get? b = some o) : TabJ w g h tl :=
  ⟨fun p hp => ⟨(T.1 p hp).1, none_of hg (T.1 p hp).2⟩, T.2⟩
theorem TabS.back {w : World} {g g' h : Heap} {ps : Array Value} (T : TabS w g' h ps) (hg : ∀ b o, g.get? b = some o → g'.get? b = some o) : TabS w g h ps :=
  ⟨fun p hp => ⟨(T.1 p hp).1, none_of hg (T.1 p hp).2⟩, T.2⟩
end
-- Tc
section
open PyProof.Rows.LCg
def RowAt (h : Heap) (v : Value) (ws : List (List Nat)) : Prop := ∃ (a : Addr) (its : Array Value), v = .ref a ∧ h.IsList a its ∧ Words its ws
/-- a table: a list of lists of words -/
def RowsAt (h : Heap) (r : Addr) (tbl : List (List (List Nat))) : Prop := ∃ its : Array Value, h.IsList r its ∧ its.size = tbl.length ∧ ∀ (i : Nat) (v : Value) (ws : List (List Nat)), its[i]? = some v → tbl[i]? = some ws → RowAt h v ws
theorem list_ne_fields {h : Heap} {a b : Addr} {its : Array Value} {o : Obj} {vs : Array Value} (hl : h.IsList a its) (e : h.get? b = some o) (hd : o.data = .fields vs) : a ≠ b := fun q => by
  obtain ⟨o', e', _, n, hd'⟩ := hl
  rw [q, e] at e'; cases e'; rw [hd] at hd'; cases hd'
theorem RowsAt.hide {g h g' : Heap} {r : Addr} {tbl : List (List (List Nat))} {l : List (Addr × Obj)} (x : RowsAt h r tbl) (O : Own g h l) (hf : ∀ p ∈ l, ∃ vs, p.2.data = .fields vs) (hG : ∀ b o, h.get? b = some o → b ∉ l.map (·.1) → g'.get? b = some o) : RowsAt g' r tbl := by
  have key : ∀ {a : Addr} {its : Array Value}, h.IsList a its → g'.IsList a its := fun hl => by
    obtain ⟨o, e, r⟩ := id hl
    refine ⟨o, hG _ _ e fun q => ?_, r⟩
    obtain ⟨p, hp, e'⟩ := List.mem_map.mp q
    obtain ⟨vs, hd⟩ := hf p hp
    exact list_ne_fields hl (O p hp).1 hd e'.symm
  obtain ⟨its, hl, hn, hx⟩ := x
  exact ⟨its, key hl, hn, fun i v ws h1 h2 => by obtain ⟨a, its', e, hl', hw⟩ := hx i v ws h1 h2; exact ⟨a, its', e, key hl', hw⟩⟩
def OkT (tbl : List (List (List Nat))) : Prop := tbl ≠ [] ∧ tbl.length ≤ 9 ∧ ∀ ws ∈ tbl, ws ≠ [] ∧ ws.length ≤ 9 ∧ ∀ x ∈ ws, IsWord x
def heads (q : List (List (List Nat))) : List (List Nat) := q.filterMap List.head?
def tails (q : List (List (List Nat))) : List (List (List Nat)) := (q.filter fun x => !x.isEmpty).map List.tail
def rounds : Nat → List (List (List Nat)) → List (List (List Nat))
  | 0, _ => []
  | n + 1, q => if q = [] then [] else heads q :: rounds n (tails q)
def turnedOf (tbl : List (List (List Nat))) : List (List (List Nat)) := (rounds 12 tbl).dropLast
def JP (w : World) (tl : List (Addr × Obj)) : Prop := tl = [(780, tabObj #[])] ∨ ∃ (pos : Pos) (c' : Addr) (oc : Obj) (vs : Array Value) (t : Tok), GenIs w pos ∧ tl = [(780, tabObj #[rawInt pos.line, rawInt pos.col, .ref c']), (c', oc)] ∧ oc.data = .fields vs ∧ vs[1]? = some (.str joinQ t)
theorem tabJ_iff {w : World} {g h : Heap} {tl : List (Addr × Obj)} : TabJ w g h tl ↔ Own g h tl ∧ JP w tl := Iff.rfl
/-- the repr of a row's line -/
def told (ws : List (List Nat)) : List Nat := 34 :: (enc (lineOf ws) ++ [34])
theorem JP.mem {w : World} {tl : List (Addr × Obj)} (J : JP w tl) : ∃ o, (780, o) ∈ tl := by
  rcases J with rfl | ⟨pos, c', oc, vs, t, _, rfl, _⟩ <;> exact ⟨_, .head _⟩
theorem JP.fields {w : World} {tl : List (Addr × Obj)} (J : JP w tl) : ∀ p ∈ tl, ∃ vs, p.2.data = .fields vs := by
  rcases J with rfl | ⟨pos, c', oc, vs, t, _, rfl, hd, _⟩ <;> intro p hp <;> simp only [List.mem_cons, List.not_mem_nil, or_false] at hp
  · subst hp; exact ⟨_, rfl⟩
  · rcases hp with rfl | rfl
    · exact ⟨_, rfl⟩
    · exact ⟨_, hd⟩
theorem TabT.fields {w : World} {g h : Heap} {tl : List (Addr × Obj)} (T : TabT w g h tl) : ∀ p ∈ tl, ∃ vs, p.2.data = .fields vs := by
  obtain ⟨_, rfl | ⟨nm, pa, bd, sc, pos, c', _, ⟨rfl, _⟩ | ⟨oc, vs, t, rfl, hd, _⟩⟩⟩ := T <;> intro p hp <;> simp only [List.mem_cons, List.not_mem_nil, or_false] at hp
  · subst hp; exact ⟨_, rfl⟩
  · subst hp; exact ⟨_, rfl⟩
  · rcases hp with rfl | rfl
    · exact ⟨_, rfl⟩
    · exact ⟨_, hd⟩
theorem TabT.up {w : World} {g g' h h' : Heap} {tl : List (Addr × Obj)} (T : TabT w g h tl) (O : Own g' h' tl) (hg : ∀ b o, g.get? b = some o → g'.get? b = some o) : TabT w g' h' tl := by
  obtain ⟨_, e | ⟨nm, pa, bd, sc, pos, c', G, ⟨e, cr⟩ | r⟩⟩ := T
  · exact ⟨O, .inl e⟩
  · exact ⟨O, .inr ⟨nm, pa, bd, sc, pos, c', G, .inl ⟨e, cr.keeps hg⟩⟩⟩
  · exact ⟨O, .inr ⟨nm, pa, bd, sc, pos, c', G, .inr r⟩⟩
theorem TabT.mem {w : World} {g h : Heap} {tl : List (Addr × Obj)} (T : TabT w g h tl) : ∃ o, (803, o) ∈ tl := by
  obtain ⟨_, rfl | ⟨nm, pa, bd, sc, pos, c', _, ⟨rfl, _⟩ | ⟨oc, vs, t, rfl, _⟩⟩⟩ := T <;> exact ⟨_, .head _⟩
theorem Own.after {g h h' : Heap} {a : Addr} {l : List (Addr × Obj)} (O : Own g h l) (k : Keeps [a] h h') (hn : ∀ p ∈ l, p.1 ≠ a) : Own g h' l := O.keep k fun p hp => by simpa using hn p hp
theorem Own.up {g h h' : Heap} {l : List (Addr × Obj)} (O : Own g h l) (k : ∀ b o, h.get? b = some o → h'.get? b = some o) : Own g h' l := fun p hp => ⟨k _ _ (O p hp).1, (O p hp).2⟩
theorem Stm.up {w : World} {g h h' : Heap} {st dst f ct cp pl : Addr} {text : Str} {a : Nat} (x : Stm w g h st dst f ct cp pl text a) (k : ∀ b o, h.get? b = some o → h'.get? b = some o) : Stm w g h' st dst f ct cp pl text a := by
  obtain ⟨es, n, nm, pa, bd, sc, pos, doc, pm, c', ctv, o1, o2, tt, ta, ep, G, O, r, d1, d2, cr⟩ := x
  exact ⟨es, n, nm, pa, bd, sc, pos, doc, pm, c', ctv, o1, o2, tt, ta, ep, G, O.up k, r, d1, d2, cr.keeps k⟩
theorem TabS.up {w : World} {g h h' : Heap} {ps : Array Value} (x : TabS w g h ps) (k : ∀ b o, h.get? b = some o → h'.get? b = some o) : TabS w g h' ps := by
  obtain ⟨O, e | ⟨nm, pa, bd, sc, pos, c', G, e, cr⟩⟩ := x
  · exact ⟨O.up k, .inl e⟩
  · exact ⟨O.up k, .inr ⟨nm, pa, bd, sc, pos, c', G, e, cr.keeps k⟩⟩
theorem L_ne_fields {g h : Heap} {L a : Addr} {m : Str → Option Value} {o : Obj} (F : Fr g L h m) (e : h.get? a = some o) {vs : Array Value} (hd : o.data = .fields vs) : a ≠ L := fun q => by
  obtain ⟨oL, es, ep, hL, hdL, _⟩ := F.ns
  rw [q, hL] at e; cases e; rw [hd] at hdL; cases hdL
/-- behind a call that may grow join's table -/
theorem News.tabJ {w : World} {g h h' : Heap} {L : Addr} {m : Str → Option Value} {pre tj tj' post : List (Addr × Obj)} (F : Fr g L h' m) (N : News g L h (pre ++ (tj ++ post))) (k : Keeps [780] h h') (hn : ∀ p ∈ pre ++ post, p.1 ≠ 780) (J : TabJ w g h' tj') : News g L h' (pre ++ (tj' ++ post)) := fun p hp => by
  have old : ∀ p ∈ pre ++ post, h'.get? p.1 = some p.2 ∧ p.1 ≠ L ∧ g.get? p.1 = none := fun p hp => by
    have n := N p (by simp only [List.mem_append] at hp ⊢; rcases hp with hp | hp <;> simp [hp])
    exact ⟨k _ _ n.1 (by simpa using hn p hp), n.2⟩
  simp only [List.mem_append] at hp
  rcases hp with hp | hp | hp
  · exact old p (List.mem_append_left _ hp)
  · have o := J.1 p hp
    obtain ⟨vs, hd⟩ := JP.fields J.2 p hp
    exact ⟨o.1, L_ne_fields F o.1 hd, o.2⟩
  · exact old p (List.mem_append_right _ hp)
theorem fr_tabJ {w : World} {g h h' : Heap} {L : Addr} {m : Str → Option Value} {pre tj post : List (Addr × Obj)} (F : Fr g L h m) (N : News g L h (pre ++ (tj ++ post))) (hj : JP w tj) (k : Keeps [780] h h') : Fr g L h' m := by
  obtain ⟨o, ho⟩ := hj.mem
  have n := N (780, o) (by simp [ho])
  exact Mine.Fr.after F k (by simpa using n.2.1.symm) (fun a ha => by rw [List.mem_singleton.mp ha]; exact n.2.2)
theorem lineOf_signs {ws : List (List Nat)} (hall : ∀ x ∈ ws, IsWord x) : ∀ c ∈ lineOf ws, c ∈ 39 :: lawSigns := by
  unfold lineOf
  induction ws with
  | nil => intro c hc; cases hc
  | cons x r ih =>
    intro c hc
    have hx := (hall x (List.mem_cons_self ..)).2
    have one : ∀ c ∈ 39 :: (x ++ [39]), c ∈ 39 :: lawSigns := fun c hc => by
      simp only [List.mem_cons, List.mem_append, List.not_mem_nil, or_false] at hc
      rcases hc with rfl | hc | rfl
      · exact .head _
      · exact .tail _ (hx c hc)
      · exact .head _
    cases r with
    | nil => exact one c hc
    | cons y r =>
      rw [List.map_cons, joinW_cons 32 _ (by simp)] at hc
      rcases List.mem_append.mp hc with hc | hc
      · exact one c hc
      · rcases List.mem_cons.mp hc with rfl | hc
        · exact .tail _ (.head _)
        · exact ih (fun z hz => hall z (List.mem_cons_of_mem _ hz)) c hc
theorem lineOf_quote {ws : List (List Nat)} (h : ws ≠ []) : 39 ∈ lineOf ws := by
  unfold lineOf
  cases ws with
  | nil => exact absurd rfl h
  | cons x r => rw [List.map_cons, joinW_flat]; simp
theorem lineOf_length {ws : List (List Nat)} (hall : ∀ x ∈ ws, IsWord x) : (lineOf ws).length ≤ ws.length * 5 := Nat.le_trans (joinW_length 32 _) (quoted_sum hall)
/-- the values are the told rows -/
def Told (ys : List Value) (tbl : List (List (List Nat))) : Prop := ys.length = tbl.length ∧ ∀ (i : Nat) (v : Value), ys[i]? = some v → ∃ (ws : List (List Nat)) (t : Tok), tbl[i]? = some ws ∧ v = .str (tx (told ws)) t
theorem Told.values {ys : List Value} {tbl : List (List (List Nat))} (h : Told ys tbl) : ∃ l : List (Str × Tok), strValues l = ys ∧ l.map (·.1) = (tbl.map told).map tx := by
  obtain ⟨l, rfl⟩ := exists_strValues ys fun v hv => by
    obtain ⟨i, hi, rfl⟩ := List.mem_iff_getElem.mp hv
    obtain ⟨ws, t, _, e⟩ := h.2 i _ (List.getElem?_eq_getElem hi)
    exact ⟨_, t, e⟩
  refine ⟨l, rfl, ?_⟩
  have hn : l.length = tbl.length := by simpa [strValues] using h.1
  refine List.ext_getElem (by simp [hn]) fun j h1 h2 => ?_
  have hj : j < l.length := by simpa using h1
  obtain ⟨ws, t, e1, e2⟩ := h.2 j (.str l[j].1 l[j].2) (by simp [strValues, List.getElem?_eq_getElem hj])
  injection e2 with e3 _
  have e4 : tbl[j]'(hn ▸ hj) = ws := by
    rw [List.getElem?_eq_getElem (hn ▸ hj)] at e1
    exact Option.some.inj e1
  simp [e3, e4]
theorem told_length {ws : List (List Nat)} (hall : ∀ x ∈ ws, IsWord x) (hn : ws.length ≤ 9) : (told ws).length + 1 ≤ 93 := by
  have h1 := lineOf_length hall
  have h2 := enc_length (lineOf ws)
  simp only [told, List.length_cons, List.length_append, List.length_nil]
  omega
theorem told_sum : ∀ {tbl : List (List (List Nat))}, (∀ ws ∈ tbl, ws ≠ [] ∧ ws.length ≤ 9 ∧ ∀ x ∈ ws, IsWord x) → ((tbl.map told).map fun x => x.length + 1).sum ≤ tbl.length * 93
  | [], _ => Nat.le_refl _
  | x :: r, h => by
    have ih := told_sum (tbl := r) fun y hy => h y (List.mem_cons_of_mem _ hy)
    have hx := h x (List.mem_cons_self ..)
    have := told_length hx.2.2 hx.2.1
    simp only [List.map_cons, List.sum_cons, List.length_cons] at ih ⊢
    omega
theorem Told.nil : Told [] [] := ⟨rfl, fun i v h => by simp at h⟩
theorem snoc_get {α : Type} {l : List α} {x y : α} {i : Nat} (h : (l ++ [x])[i]? = some y) : l[i]? = some y ∨ (i = l.length ∧ y = x) := by
  rcases Nat.lt_trichotomy i l.length with hi | hi | hi
  · rw [List.getElem?_append_left hi] at h; exact .inl h
  · subst hi; rw [List.getElem?_append_right (Nat.le_refl _)] at h; simp at h; exact .inr ⟨rfl, h.symm⟩
  · rw [List.getElem?_eq_none (by simp; omega)] at h; cases h
theorem take_get {α : Type} {l : List α} {x : α} {i : Nat} (h : l[i]? = some x) : l.take (i + 1) = l.take i ++ [x] := by rw [List.take_add_one, h]; rfl
theorem Told.snoc {ys : List Value} {tbl : List (List (List Nat))} {i : Nat} {ws : List (List Nat)} {t : Tok} (h : Told ys (tbl.take i)) (hw : tbl[i]? = some ws) : Told (ys ++ [.str (tx (told ws)) t]) (tbl.take (i + 1)) := by
  rw [take_get hw]
  refine ⟨by simp [h.1], fun j v hv => ?_⟩
  rcases snoc_get hv with e | ⟨rfl, rfl⟩
  · obtain ⟨ws', t', e1, rfl⟩ := h.2 j v e
    refine ⟨ws', t', ?_, rfl⟩
    rw [List.getElem?_append_left]
    · exact e1
    · exact (List.getElem?_eq_some_iff.mp e1).1
  · exact ⟨ws, t, by rw [h.1, List.getElem?_append_right (Nat.le_refl _)]; simp, rfl⟩
end
-- Td
section
open PyProof.Rows.LCg
section
variable {w : World} {A : Around} {env : Env} {g : Heap} {L : Addr} {m mg mb : Str → Option Value} {p : Program} {loose : List Str} {scope : Scope} {cl : List (Str × Addr)} {os : OsState} {tbl : List (List (List Nat))} {n : Nat}
/-- what stands while the rows are written -/
def JRows (c : Prop) (w : World) (cq : Addr) (oq : Obj) (ts : List (Addr × Obj)) (tbl : List (List (List Nat))) (i : Nat) (ys : List Value) (news : List (Addr × Obj)) (gs : Array GenState) : Prop :=
  c ∧ AllBare gs ∧ ∃ tj, news = (cq, oq) :: (tj ++ ts) ∧ JP w tj ∧ Told ys (tbl.take i)
theorem rows_turn {c : Prop} {cq : Addr} {oq : Obj} {ts : List (Addr × Obj)} {p1 p2 p3 p4 p5 : Pos} (X : (hd.heap_1 w.params).In g) (T : TopRead p loose mg mb g) (B : Bm mg g) (hh : A.handled = none) (hdp : A.depth ≤ 500) (hcq : cq ≠ 780) (hts : ∀ q ∈ ts, q.1 ≠ 780) (hok : OkT tbl)
    (e1 : nsIn (hd.heap_1 w.params) mainGlobals (Str.ofString "safe_repr") = some (some (.ref 801))) (e2 : nsIn (hd.heap_1 w.params) mainGlobals (Str.ofString "join_shlex") = some (some (.ref 785))) (fn1 : FnAt 801 g) (fn2 : FnAt 785 g)
    (hg : env.globals = mainGlobals) (hk : ∀ C, (compEnvC scope cl C env).scope.kind = .function) (hx1 : ∀ C, (compEnvC scope cl C env).kindOf (Str.ofString "safe_repr") = some .globalImplicit) (hx2 : ∀ C, (compEnvC scope cl C env).kindOf (Str.ofString "join_shlex") = some .globalImplicit)
    (hx3 : ∀ C, (compEnvC scope cl C env).kindOf (Str.ofString "row") = some .local) :
    CompTurn P0 w A env g L m (.Call (.Name (Str.ofString "safe_repr") p1) [.Call (.Name (Str.ofString "join_shlex") p2) [.Name (Str.ofString "row") p3] [] p4] [] p5) [] (Str.ofString "row") scope cl os n (fun i v => ∃ ws, tbl[i]? = some ws ∧ RowAt g v ws) (fun i ys news gs => JRows c w cq oq ts tbl i ys news gs) := by
  intro i ys news v I oI C oC D m₂ s E hi hP hJ hos hoC hm₂ F N off n1 n2 n3
  obtain ⟨ws, hws, a, its, rfl, hl, hw⟩ := hP
  obtain ⟨hc, G, tj, rfl, hj, hy⟩ := hJ
  have okw := hok.2.2 ws (List.mem_of_getElem? hws)
  refine wpAny_tests_nil ?_
  simp only [if_true]
  have nC : s.heap.Ns C m₂ := hoC.ns (N (C, oC) (by simp)).1
  have hOff := off.mem
  obtain ⟨o780, ho780⟩ := hj.mem
  have hnI : I ≠ 780 := fun e => (hOff _ (List.mem_cons_of_mem _ (List.mem_append_left _ ho780))).1 e.symm
  have hnC : C ≠ 780 := fun e => (hOff _ (List.mem_cons_of_mem _ (List.mem_append_left _ ho780))).2.1 e.symm
  have hnD : D ≠ 780 := fun e => (hOff _ (List.mem_cons_of_mem _ (List.mem_append_left _ ho780))).2.2 e.symm
  have N' : News g L s.heap ([(I, oI), (C, oC), (D, lst ys), (cq, oq)] ++ (tj ++ ts)) := N
  have hTJ : TabJ w g s.heap tj := ⟨fun q hq => Own.of_news N' q (by simp [hq]), hj⟩
  refine wpAny_Call_Name_kw (nm_global F X T e1 hg (hk C) (hx1 C) (by decide) ?_)
  refine callWith_F (FnAt.up fn1 F.keep) (Calls.spliced_cons ?_)
  refine call_top1 F X T e2 (FnAt.up fn2 F.keep) hg (hk C) (hx2 C) (by decide) nC rfl hm₂ (hx3 C) (by decide) ?_
  refine join_ok ⟨X, T, F.keep⟩ hdp hh B hTJ G (hl.at fun o e => F.keep _ o e) hw okw.2.2 (Nat.le_succ_of_le okw.2.1) ?_
  intro s₂ t₂ tj₂ k₂ hJ₂ adr G₂ os₂
  have F₂ : Fr g L s₂.heap m := fr_tabJ F N' hj k₂
  have N₂ : News g L s₂.heap ([(I, oI), (C, oC), (D, lst ys), (cq, oq)] ++ (tj₂ ++ ts)) := News.tabJ F₂ N' k₂ (fun q hq => by
    simp only [List.cons_append, List.nil_append, List.mem_cons] at hq
    rcases hq with rfl | rfl | rfl | rfl | hq
    · exact hnI
    · exact hnC
    · exact hnD
    · exact hcq
    · exact hts q hq) hJ₂
  refine Calls.spliced_nil ⟨FnAt.up fn1 F₂.keep, ?_⟩
  refine srepr_ok ⟨X, T, F₂.keep⟩ hdp (Nat.le_trans (lineOf_length okw.2.2) (by omega)) (lineOf_signs okw.2.2) (lineOf_quote okw.1) ?_
  intro h₃ tk₃ t₃ k₃
  have k₃' : ∀ b o, s₂.heap.get? b = some o → h₃.get? b = some o := fun b o e => k₃ b o e (fun q => nomatch q)
  refine ⟨(cq, oq) :: (tj₂ ++ ts), F₂.keeps k₃', N₂.grown k₃', ?_, os₂.trans hos, hc, G₂, tj₂, rfl, hJ₂.2, hy.snoc hws⟩
  refine Off3.of fun q hq => ?_
  rcases List.mem_cons.mp hq with rfl | hq
  · exact hOff _ (List.mem_cons_self ..)
  · rcases List.mem_append.mp hq with hq | hq
    · rcases adr q hq with e | e
      · obtain ⟨q', hq', e'⟩ := List.mem_map.mp e
        have := hOff q' (List.mem_cons_of_mem _ (List.mem_append_left _ hq'))
        rw [e'] at this
        exact this
      · refine ⟨fun z => ?_, fun z => ?_, fun z => ?_⟩
        · rw [z, (N' (I, oI) (by simp)).1] at e; cases e
        · rw [z, (N' (C, oC) (by simp)).1] at e; cases e
        · rw [z, (N' (D, lst ys) (by simp)).1] at e; cases e
    · exact hOff _ (List.mem_cons_of_mem _ (List.mem_append_right _ hq))
end
end
-- Te
section
theorem reg_Te : True := by
  k_with_none
  k_with "k_get" => (first | assumption | exact getL_put_eq | (refine Eq.trans (getL_put_ne (by decide +kernel)) ?_; k_get) | (refine' isSome_of ?h9z; case h9z => k_get) | (refine' isSome_of' ?h9z; case h9z => k_get) | exact rfl)
  k_with "k_put" => (exact rfl)
  k_with "setAttr ref" => (k_here; k_dflt (
    (refine' set_dict ?k19z ?k29z ?k39z ?k49z ?k59z ?k69z ?k79z ?k89z ?k99z ?k109z ?k119z ?k129z ?k139z ?_; (case k19z => k_asm); (case k29z => k_asm); (case k39z => k_asm); (case k49z => k_inst); (case k59z => exact rfl); (case k69z => k_is); (case k79z => k_is); (case k89z => k_is); (case k99z => k_is); (case k109z => k_get); (case k119z => exact rfl); (case k129z => k_upd); (case k139z => ((repeat (refine length_put_le ?_)); omega)); k_whole; intro h' F' N'; (try k_sweep))))
  k_with "size_fits" => (first | assumption | ((try simp only [tx_length]); rw [sizeLine_eq]; omega))
  k_with "k_ne" => (first | assumption | (refine Ne.symm ?_; assumption))
  k_with "tb_rel" => (first
    | exact List.forall_mem_nil _
    | (refine List.forall_mem_cons.mpr ⟨?ta9z, ?tb9z⟩; (case ta9z => first | exact fun _ => News.get (by assumption) (by k_mem) | exact fun h9 => absurd (by simp) h9); (case tb9z => tb_rel)))
  k_with "tb_start" => (
    refine wpAny_call ?_
    refine' enter _ (Cx.X (by assumption)) (Cx.T (by assumption)) (Cx.S (by assumption)) (by assumption) ?k19z ?k29z ?k39z ?k49z ?k59z ?_ ?k69z ?k79z ?k89z ?k99z
    (case k19z => k_is)
    (case k29z => k_is)
    (case k39z => ((try simp only [depth_deeper, depth_under_make, depth_in1, recursionLimit]); omega))
    (case k49z => first | exact BindsTo.of_eq rfl | exact binds_K (Frag.In.keeps (Cx.X (by assumption)) (Cx.S (by assumption))) rfl (by k_is) rfl rfl rfl)
    (case k59z => exact locs rfl)
    (case k69z => exact rfl)
    (case k79z => exact rfl)
    (case k89z => exact rfl)
    (case k99z => decide)
    skip)
  k_with "exec If" => (refine wpAny_If ?_)
  k_with "execs nil" => (refine wpAny_execs_nil ?_)
  k_with "execs cons" => ((with_reducible refine wpAny_execs_cons ?_); (try dsimp only); (try k_fold); (try (with_reducible refine wp_tok ?_; intro tk9)))
  k_with "kse_has" => (first | with_reducible assumption | with_reducible exact List.mem_cons_self | (with_reducible refine List.mem_cons_of_mem _ ?_; kse_has) | (with_reducible refine List.mem_append_left _ ?_; kse_has) | (with_reducible refine List.mem_append_right _ ?_; kse_has))
  trivial
/-- a cell's name in a comprehension -/
theorem LCgL_cell {M : Model} {A : Around} {E : Value → Shared → Prop} {s : Shared} {g : Heap} {L c C : Addr} {o : Obj} {news : List (Addr × Obj)} {env : Env} {scope : Scope} {cl : List (Str × Addr)} {y : Str} {pos : Pos} {v : Value} {Q : Value → Shared → Prop} (N : News g L s.heap news) (hc : cl.lookup y = some c) (hm : (c, o) ∈ news) (hd : o.data = .cell (some v)) (h : Q v s)
    (hk : (compEnvC scope cl C env).scope.kind = .function) (hx : (compEnvC scope cl C env).kindOf y = some .cell) (hb : (y == ("__debug__" : Str)) = false := by decide) :
    wpAny M A (eval (.Name y pos) (compEnvC scope cl C env)) Q E s := wpAny_Name (wpAny_loadName_cell hk hx hc ⟨o, N.get hm, hd⟩ h) hb
/-- x.get_token() of a queue -/
theorem qm_get {w : World} {p : Program} {loose : List Str} {mg mb : Str → Option Value} {g : Heap} {A : Around} {s : Shared} {Q E : Value → Shared → Prop} {L q dq : Addr} {m : Str → Option Value} {es : List DictEntry} {n : Nat} {news : List (Addr × Obj)} {env : Env} {nm : Str} {p1 p2 p3 : Pos} {pl : Sem Bool}
  (he : eval (.Call (.Attribute (.Name nm p1) (Str.ofString "get_token") p2) [] [] p3) env = (do
      let ov ← eval (.Name nm p1) env
      standAt p2.atName
      let (f, first) ← holding [ov] (getMethod ov (Str.ofString "get_token") pl)
      callWith p3 f first (backTo p3 (starEach [] env)) (backToKw p3 (keywordEach [] env))))
  (X : (hd.heap_1 w.params).In g) (T : TopRead p loose mg mb g) (F : Fr g L s.heap m) (N : News g L s.heap ((q, instObj 82 dq) :: (dq, dictOf es n) :: news)) (hm : getL "get_token" es = some none)
  (hn : ∀ Q' : Value → Shared → Prop, Q' (.ref q) s → wpAny (model P0 w) A (eval (.Name nm p1) env) Q' E s)
  (h : wpAny (model P0 w) A (call (.ref 72) [.ref q]) Q E s) : wpAny (model P0 w) A (eval (.Call (.Attribute (.Name nm p1) (Str.ofString "get_token") p2) [] [] p3) env) Q E s := by
  refine methodCall_KW (hn _ ?_) he
  show wpAny _ _ _ _ _ _
  k_fold
  k_steps
  all_goals exact h
open PyProof.Rows.LCg
/-- a code's text is there: in the base, or on the ledger -/
def CodeBy (g : Heap) (dy : List (Addr × Obj)) (c : Addr) (q : Str) : Prop := g.CodeRec (.ref c) q ∨ ∃ (oc : Obj) (vs : Array Value) (t : Tok), (c, oc) ∈ dy ∧ oc.data = .fields vs ∧ vs[1]? = some (.str q t)
theorem CodeBy.rec {g h : Heap} {L c : Addr} {m : Str → Option Value} {dy news : List (Addr × Obj)} {q : Str} (x : CodeBy g dy c q) (F : Fr g L h m) (N : News g L h news) (hs : ∀ p ∈ dy, p ∈ news) : h.CodeRec (.ref c) q := by
  rcases x with x | ⟨oc, vs, t, hm, hd, hv⟩
  · exact x.keeps F.keep
  · exact ⟨c, oc, vs, t, rfl, (N _ (hs _ hm)).1, hd, hv⟩
/-- where the i-th told line begins, a line feed ahead -/
def textAt (tbl : List (List (List Nat))) (i : Nat) : List Nat := joinW 10 ((tbl.take i).map told)
theorem joinW_snoc (c : Nat) (x : List Nat) : ∀ {l : List (List Nat)}, l ≠ [] → joinW c (l ++ [x]) = joinW c l ++ c :: x
  | [], h => absurd rfl h
  | [y], _ => rfl
  | y :: z :: r, _ => by
    rw [List.cons_append, joinW_cons c y (by first | kse_has | simp), joinW_snoc c x (l := z :: r) (by first | kse_has | simp), joinW_cons c y (by first | kse_has | simp)]
    simp
theorem joinW_split (c : Nat) (l r : List (List Nat)) (h : l ≠ []) (h' : r ≠ []) : joinW c (l ++ r) = joinW c l ++ c :: joinW c r := by
  induction l with
  | nil => exact absurd rfl h
  | cons x l ih =>
    cases l with
    | nil => exact joinW_cons c x h'
    | cons y l => rw [List.cons_append, joinW_cons c x (by first | kse_has | simp), ih (by first | kse_has | simp), joinW_cons c x (by first | kse_has | simp)]; simp
theorem text_split {tbl : List (List (List Nat))} {i : Nat} {ws : List (List Nat)} (hw : tbl[i]? = some ws) : ∃ rest, joinW 10 (tbl.map told) = textAt tbl i ++ ((if i = 0 then [] else [10]) ++ 34 :: (enc (lineOf ws) ++ 34 :: rest)) := by
  have hi : i < tbl.length := (List.getElem?_eq_some_iff.mp hw).1
  have e : tbl.map told = (tbl.take i).map told ++ (told ws :: (tbl.drop (i + 1)).map told) := by
    have : tbl = tbl.take i ++ ws :: tbl.drop (i + 1) := by
      have h1 := List.take_append_drop i tbl
      rw [List.drop_eq_getElem_cons hi, (List.getElem?_eq_some_iff.mp hw).2] at h1
      exact h1.symm
    rw [← List.map_cons, ← List.map_append, ← this]
  have tail : ∃ rest, joinW 10 (told ws :: (tbl.drop (i + 1)).map told) = 34 :: (enc (lineOf ws) ++ 34 :: rest) := by
    rw [joinW_flat]
    exact ⟨((tbl.drop (i + 1)).map told).flatMap (fun y => 10 :: y), by simp [told]⟩
  obtain ⟨rest, hrest⟩ := tail
  refine ⟨rest, ?_⟩
  rw [e]
  by_cases h0 : i = 0
  · subst h0
    simp only [textAt, List.take_zero, List.map_nil, joinW, List.nil_append, if_true]
    exact hrest
  · rw [joinW_split 10 _ _ (by simp; exact ⟨h0, fun q => by rw [q] at hi; simp at hi⟩) (by first | kse_has | simp), hrest, if_neg h0]
    simp [textAt]
theorem textAt_succ {tbl : List (List (List Nat))} {i : Nat} {ws : List (List Nat)} (hw : tbl[i]? = some ws) : (textAt tbl (i + 1)).length = (textAt tbl i).length + (if i = 0 then ([] : List Nat) else [10]).length + 2 + (enc (lineOf ws)).length := by
  have hi : i < tbl.length := (List.getElem?_eq_some_iff.mp hw).1
  unfold textAt
  rw [take_get hw, List.map_append]
  by_cases h0 : i = 0
  · subst h0
    simp [joinW, told]; omega
  · have : (tbl.take i).map told ≠ [] := by simp; exact ⟨h0, fun q => by rw [q] at hi; simp at hi⟩
    rw [List.map_cons, List.map_nil, joinW_snoc 10 _ this, if_neg h0]
    simp [told]; omega
/-- the values are the rows' lines -/
def Lines (ys : List Value) (tbl : List (List (List Nat))) : Prop := ys.length = tbl.length ∧ ∀ (i : Nat) (v : Value), ys[i]? = some v → ∃ (ws : List (List Nat)) (t : Tok), tbl[i]? = some ws ∧ v = .str (tx (lineOf ws)) t
theorem Lines.snoc {ys : List Value} {tbl : List (List (List Nat))} {i : Nat} {ws : List (List Nat)} {t : Tok} (h : Lines ys (tbl.take i)) (hw : tbl[i]? = some ws) : Lines (ys ++ [.str (tx (lineOf ws)) t]) (tbl.take (i + 1)) := by
  rw [take_get hw]
  refine ⟨by simp [h.1], fun j v hv => ?_⟩
  rcases snoc_get hv with e | ⟨rfl, rfl⟩
  · obtain ⟨ws', t', e1, rfl⟩ := h.2 j v e
    refine ⟨ws', t', ?_, rfl⟩
    rw [List.getElem?_append_left]
    · exact e1
    · exact (List.getElem?_eq_some_iff.mp e1).1
  · exact ⟨ws, t, by rw [h.1, List.getElem?_append_right (Nat.le_refl _)]; simp, rfl⟩
/-- what stands while the lines are told -/
def JLines (c : Prop) (cq : Addr) (oq : Obj) (q dq pb st dst f ct cp pl : Addr) (ep : Nat) (es2 : List DictEntry) (n2 : Nat) (fo o1 o2 : Obj) (dy : List (Addr × Obj)) (tbl : List (List (List Nat))) (i : Nat) (ys : List Value) (news : List (Addr × Obj)) (gs : Array GenState) : Prop :=
  c ∧ AllBare gs ∧ ∃ (es : List DictEntry) (n : Nat) (ta : Tok) (ep2 : Nat), news = (cq, oq) :: (quL q dq pb st dst f ct cp pl (textAt tbl i).length #[] es n ep es2 n2 fo o1 o2 ta ep2 ++ dy) ∧ NlA es (.ref st) pb (max i 1) ∧ Lines ys (tbl.take i)
section
variable {w : World} {A : Around} {env : Env} {g : Heap} {L : Addr} {m mg mb : Str → Option Value} {p : Program} {loose : List Str} {scope : Scope} {cl : List (Str × Addr)} {os : OsState} {tbl : List (List (List Nat))} {n : Nat}
theorem lines_turn {c : Prop} {cq q dq pb st dst f ct cp pl c' : Addr} {oq : Obj} {ep : Nat} {es2 : List DictEntry} {n2 : Nat} {fo o1 o2 : Obj} {tt : Tok} {dy : List (Addr × Obj)} {P : Nat → Value → Prop} {p1 p2 p3 : Pos} {pl9 : Addr → Sem Bool}
    (X : (hd.heap_1 w.params).In g) (T : TopRead p loose mg mb g) (hh : A.handled = none) (hdp : A.depth ≤ 500) (hok : OkT tbl) (hn : n = tbl.length)
    (hoq : oq.data = .cell (some (.ref q))) (hcl : cl.lookup (Str.ofString "queue") = some cq) (hd : ∀ x ∈ dy, x.1 ≠ pl ∧ x.1 ≠ dq) (hcq : cq ≠ pl ∧ cq ≠ dq)
    (hne : ((@Ne Nat q dq) ∧ (@Ne Nat pb dq) ∧ (@Ne Nat st dq) ∧ (@Ne Nat dst dq) ∧ (@Ne Nat f dq) ∧ (@Ne Nat ct dq) ∧ (@Ne Nat cp dq) ∧ (@Ne Nat pl dq)) ∧
      ((@Ne Nat q pl) ∧ (@Ne Nat pb pl) ∧ (@Ne Nat st pl) ∧ (@Ne Nat dst pl) ∧ (@Ne Nat f pl) ∧ (@Ne Nat ct pl) ∧ (@Ne Nat cp pl)))
    (hfo : Fo w fo ct cp c') (r : getL "read" es2 = some (some (.ref f))) (d1 : o1.data = .cell (some (.str (tx (joinW 10 (tbl.map told))) tt))) (d2 : o2.data = .cell (some (.ref pl))) (cr : CodeBy g dy c' giveQual) (hlen : (joinW 10 (tbl.map told)).length ≤ 1000)
    (he : ∀ C, eval (.Call (.Attribute (.Name (Str.ofString "queue") p1) (Str.ofString "get_token") p2) [] [] p3) (compEnvC scope cl C env) = (do
      let ov ← eval (.Name (Str.ofString "queue") p1) (compEnvC scope cl C env)
      standAt p2.atName
      let (f, first) ← holding [ov] (getMethod ov (Str.ofString "get_token") (pl9 C))
      callWith p3 f first (backTo p3 (starEach [] (compEnvC scope cl C env))) (backToKw p3 (keywordEach [] (compEnvC scope cl C env)))))
    (hk : ∀ C, (compEnvC scope cl C env).scope.kind = .function) (hx : ∀ C, (compEnvC scope cl C env).kindOf (Str.ofString "queue") = some .cell) :
    CompTurn P0 w A env g L m (.Call (.Attribute (.Name (Str.ofString "queue") p1) (Str.ofString "get_token") p2) [] [] p3) [] (Str.ofString "row") scope cl os n P (fun i ys news gs => JLines c cq oq q dq pb st dst f ct cp pl ep es2 n2 fo o1 o2 dy tbl i ys news gs) := by
  intro i ys news v I oI C oC D m₂ s E hi hP hJ hos hoC hm₂ F N off nn1 nn2 nn3
  subst hn
  obtain ⟨hc, G, es, n9, ta, ep2, rfl, A0, hy⟩ := hJ
  have hOff := off.mem
  have hws : tbl[i]? = some tbl[i] := List.getElem?_eq_getElem hi
  have okw := hok.2.2 _ (List.getElem_mem hi)
  generalize tbl[i] = ws at hws okw
  refine wpAny_tests_nil ?_
  simp only [if_true]
  have Nq : News g L s.heap ((q, instObj 82 dq) :: (dq, dictOf es n9) :: []) := fun x hx => N x (by
    simp only [List.mem_cons, List.not_mem_nil, or_false] at hx
    rcases hx with rfl | rfl <;> simp [quL])
  refine qm_get (he C) X T F Nq A0.m2 (fun Q' hQ' => LCgL_cell (o := oq) N hcl (by first | kse_has | simp) hoq hQ' (hk C) (hx C)) ?_
  have N' : News g L s.heap (((I, oI) :: (C, oC) :: (D, lst ys) :: (cq, oq) :: dy) ++ quL q dq pb st dst f ct cp pl (textAt tbl i).length #[] es n9 ep es2 n2 fo o1 o2 ta ep2) := fun x hx => N x (by
    simp only [List.mem_append, List.mem_cons] at hx ⊢
    rcases hx with (h | h | h | h | h) | h
    · exact .inl h
    · exact .inr (.inl h)
    · exact .inr (.inr (.inl h))
    · exact .inr (.inr (.inr (.inl h)))
    · exact .inr (.inr (.inr (.inr (.inr h))))
    · exact .inr (.inr (.inr (.inr (.inl h)))))
  have I0 : Que w g s.heap q dq pb st dst f ct cp pl (joinW 10 (tbl.map told)) (textAt tbl i).length (max i 1) #[] := que_news N' A0 hfo r d1 d2 (cr.rec F N' (fun x hx => List.mem_append_left _ (by simp [hx])))
  have inq : ∀ x ∈ quL q dq pb st dst f ct cp pl (textAt tbl i).length #[] es n9 ep es2 n2 fo o1 o2 ta ep2, x.1 ≠ I ∧ x.1 ≠ C ∧ x.1 ≠ D := fun x hx => hOff x (List.mem_cons_of_mem _ (List.mem_append_left _ hx))
  have ho : ∀ x ∈ ((I, oI) :: (C, oC) :: (D, lst ys) :: (cq, oq) :: dy), x.1 ≠ pl ∧ x.1 ≠ dq := fun x hx => by
    have a1 := inq (pl, W.listOf #[.int ((textAt tbl i).length : Int) ta] ep2) (by first | k_mem | simp [quL])
    have a2 := inq (dq, dictOf es n9) (by first | k_mem | simp [quL])
    simp only [List.mem_cons] at hx
    rcases hx with rfl | rfl | rfl | rfl | hx
    · exact ⟨a1.1.symm, a2.1.symm⟩
    · exact ⟨a1.2.1.symm, a2.2.1.symm⟩
    · exact ⟨a1.2.2.symm, a2.2.2.symm⟩
    · exact hcq
    · exact hd x hx
  obtain ⟨rest, hrest⟩ := text_split hws
  refine qg_line ⟨X, T, F.keep⟩ (by omega) hh I0 hrest (by by_cases h0 : i = 0 <;> simp [h0]) (fun c hc => ?_) hlen (by have := hok.2.1; omega) ?_
  · have := lineOf_signs okw.2.2 c hc
    constructor
    · rintro rfl; exact absurd this (by decide)
    · rintro rfl; exact absurd this (by decide)
  intro h' tk' t' k I'
  obtain ⟨F', es', n', ta', ep2', N2, A'⟩ := que_swap F N' ho hne k I'
  refine ⟨(cq, oq) :: (quL q dq pb st dst f ct cp pl (textAt tbl (i + 1)).length #[] es' n' ep es2 n2 fo o1 o2 ta' ep2' ++ dy), F', ?_, ?_, hos, hc, G, es', n', ta', ep2', rfl, ?_, hy.snoc hws⟩
  · intro x hx
    refine N2 x ?_
    rw [textAt_succ hws] at hx
    simp only [List.mem_append, List.mem_cons] at hx ⊢
    rcases hx with h | h | h | h | h | h
    · exact .inl (.inl h)
    · exact .inl (.inr (.inl h))
    · exact .inl (.inr (.inr (.inl h)))
    · exact .inl (.inr (.inr (.inr (.inl h))))
    · exact .inr h
    · exact .inl (.inr (.inr (.inr (.inr h))))
  · refine Off3.of fun x hx => ?_
    have adr : ∀ x ∈ quL q dq pb st dst f ct cp pl (textAt tbl (i + 1)).length #[] es' n' ep es2 n2 fo o1 o2 ta' ep2', ∃ y ∈ quL q dq pb st dst f ct cp pl (textAt tbl i).length #[] es n9 ep es2 n2 fo o1 o2 ta ep2, y.1 = x.1 := fun x hx => by
      simp only [quL, List.mem_cons, List.not_mem_nil, or_false] at hx
      rcases hx with rfl | rfl | rfl | rfl | rfl | rfl | rfl | rfl | rfl <;> simp [quL]
    rcases List.mem_cons.mp hx with rfl | hx
    · exact hOff _ (List.mem_cons_self ..)
    · rcases List.mem_append.mp hx with hx | hx
      · obtain ⟨y, hy, e⟩ := adr x hx
        have := inq y hy
        rw [e] at this
        exact this
      · exact hOff _ (List.mem_cons_of_mem _ (List.mem_append_right _ hx))
  · have e : max (i + 1) 1 = max i 1 + (if i = 0 then ([] : List Nat) else [10]).length := by
      by_cases h0 : i = 0
      · subst h0; rfl
      · rw [if_neg h0]; simp; omega
    rw [e]; exact A'
end
theorem quL_kind {q dq pb st dst f ct cp pl : Addr} {a : Nat} {its : Array Value} {es : List DictEntry} {n ep : Nat} {es2 : List DictEntry} {n2 : Nat} {fo o1 o2 : Obj} {ta : Tok} {ep2 : Nat} {w : World} {c' : Addr} {u v : Option Value} (hfo : Fo w fo ct cp c') (d1 : o1.data = .cell u) (d2 : o2.data = .cell v) :
    ∀ x ∈ quL q dq pb st dst f ct cp pl a its es n ep es2 n2 fo o1 o2 ta ep2, ∀ vs, x.2.data ≠ .fields vs := by
  obtain ⟨nm, pa, bd, sc, pos, doc, pm, ctv, _, rfl⟩ := hfo
  intro x hx vs e
  simp only [quL, List.mem_cons, List.not_mem_nil, or_false] at hx
  rcases hx with rfl | rfl | rfl | rfl | rfl | rfl | rfl | rfl | rfl
  all_goals first | (cases e; done) | (dsimp only at e; rw [d1] at e; cases e) | (dsimp only at e; rw [d2] at e; cases e)
theorem Que.block {w : World} {g h : Heap} {q dq pb st dst f ct cp pl : Addr} {l : List Nat} {a ln : Nat} (I : Que w g h q dq pb st dst f ct cp pl l a ln #[]) (S : ∀ b o, g.get? b = some o → h.get? b = some o) :
    ∃ (c' : Addr) (es : List DictEntry) (n ep : Nat) (es2 : List DictEntry) (n2 : Nat) (fo o1 o2 : Obj) (tt ta : Tok) (ep2 : Nat) (dx : List (Addr × Obj)), Own g h (quL q dq pb st dst f ct cp pl a #[] es n ep es2 n2 fo o1 o2 ta ep2) ∧ NlA es (.ref st) pb ln ∧ getL "read" es2 = some (some (.ref f)) ∧ o1.data = .cell (some (.str (tx l) tt)) ∧ o2.data = .cell (some (.ref pl)) ∧ Fo w fo ct cp c' ∧
      Own g h dx ∧ (∀ x ∈ dx, ∃ vs, x.2.data = .fields vs) ∧ CodeBy g dx c' giveQual ∧
      ((@Ne Nat q dq) ∧ (@Ne Nat pb dq) ∧ (@Ne Nat st dq) ∧ (@Ne Nat dst dq) ∧ (@Ne Nat f dq) ∧ (@Ne Nat ct dq) ∧ (@Ne Nat cp dq) ∧ (@Ne Nat pl dq)) ∧
      ((@Ne Nat q pl) ∧ (@Ne Nat pb pl) ∧ (@Ne Nat st pl) ∧ (@Ne Nat dst pl) ∧ (@Ne Nat f pl) ∧ (@Ne Nat ct pl) ∧ (@Ne Nat cp pl)) := by
  obtain ⟨c', es, n, ep, es2, n2, fo, o1, o2, ta, ep2, X⟩ := I.out
  obtain ⟨hne0, hne1, hcn⟩ := X.parts (fun _ _ e => nomatch congrArg Array.size e)
  obtain ⟨O, A, r, ⟨tt, d1⟩, d2, hfo, cr⟩ := X
  obtain ⟨c2, oc, vs, t, e, ho, hd, hv⟩ := cr
  cases e
  cases z : g.get? c' with
  | some o =>
    have e1 := S _ _ z
    rw [ho] at e1; cases e1
    exact ⟨c', es, n, ep, es2, n2, fo, o1, o2, tt, ta, ep2, [], O, A, r, d1, d2, hfo, (fun _ h => nomatch h), (fun _ h => nomatch h), .inl ⟨_, _, vs, t, rfl, z, hd, hv⟩, hne0, hne1⟩
  | none =>
    refine ⟨c', es, n, ep, es2, n2, fo, o1, o2, tt, ta, ep2, [(c', oc)], O, A, r, d1, d2, hfo, fun x hx => ?_, fun x hx => ?_, .inr ⟨oc, vs, t, .head _, hd, hv⟩, hne0, hne1⟩
    · rw [List.mem_singleton.mp hx]; exact ⟨ho, z⟩
    · rw [List.mem_singleton.mp hx]; exact ⟨vs, hd⟩
/-- objects that hold fields lie apart from those that don't -/
theorem kinds_apart {g h : Heap} {l l' : List (Addr × Obj)} (O : Own g h l) (O' : Own g h l') (hf : ∀ x ∈ l, ∃ vs, x.2.data = .fields vs) (hn : ∀ x ∈ l', ∀ vs, x.2.data ≠ .fields vs) : ∀ x ∈ l, ∀ y ∈ l', x.1 ≠ y.1 := fun x hx y hy e => by
  have h1 := (O x hx).1
  rw [e, (O' y hy).1] at h1
  obtain ⟨vs, hd⟩ := hf x hx
  exact hn y hy vs (by rw [Option.some.inj h1]; exact hd)
end
theorem reg_Te_end : True := by
  k_with_none
  trivial
-- Lq
section
theorem reg_Lq : True := by
  k_with_none
  k_with "kse_has" => (first | with_reducible assumption | with_reducible exact List.mem_cons_self | (with_reducible refine List.mem_cons_of_mem _ ?_; kse_has) | (with_reducible refine List.mem_append_left _ ?_; kse_has) | (with_reducible refine List.mem_append_right _ ?_; kse_has))
  trivial
/-- where a lexer stands: before the line's last words, or behind all -/
def Rest (ws : List (List Nat)) (line : List Nat) (pos : Nat) (st : Option Str) : Prop :=
  line.length ≤ 1000 ∧ (∀ x ∈ ws, IsWord x) ∧ ((ws = [] ∧ pos = line.length ∧ st = none) ∨ ∃ pre, ws ≠ [] ∧ line = pre ++ lineOf ws ∧ pos = pre.length ∧ st = some (tx [32]))
theorem lineOf_one (w : List Nat) : lineOf [w] = 39 :: (w ++ [39]) := rfl
theorem lineOf_cons (w : List Nat) {ws : List (List Nat)} (h : ws ≠ []) : lineOf (w :: ws) = 39 :: (w ++ 39 :: 32 :: lineOf ws) := by
  unfold lineOf
  rw [List.map_cons, joinW_cons 32 _ (by simpa using h)]
  simp
theorem Rest.start {ws : List (List Nat)} (h : ws ≠ []) (hall : ∀ x ∈ ws, IsWord x) (hn : ws.length ≤ 9) : Rest ws (lineOf ws) 0 (some (tx [32])) :=
  ⟨Nat.le_trans (lineOf_length hall) (by omega), hall, .inr ⟨[], h, rfl, rfl, rfl⟩⟩
theorem Rest.step {w : List Nat} {ws : List (List Nat)} {line : List Nat} {pos : Nat} {st : Option Str} (R : Rest (w :: ws) line pos st) :
    ∃ pre suf, st = some (tx [32]) ∧ pos = pre.length ∧ line = pre ++ 39 :: (w ++ 39 :: suf) ∧ (suf = [] ∨ ∃ r, suf = 32 :: r) ∧ Rest ws line (pre.length + 2 + w.length + suf.length.min 1) (if suf = [] then none else some (tx [32])) := by
  obtain ⟨hl, hall, ⟨h, _⟩ | ⟨pre, _, rfl, rfl, rfl⟩⟩ := R
  · cases h
  · by_cases h0 : ws = []
    · subst h0
      refine ⟨pre, [], rfl, rfl, by rw [lineOf_one], .inl rfl, hl, (fun x hx => nomatch hx), .inl ⟨rfl, ?_, rfl⟩⟩
      rw [lineOf_one]; simp; omega
    · refine ⟨pre, 32 :: lineOf ws, rfl, rfl, by rw [lineOf_cons w h0], .inr ⟨_, rfl⟩, hl, fun x hx => hall x (List.mem_cons_of_mem _ hx), .inr ⟨pre ++ 39 :: (w ++ [39, 32]), h0, ?_, ?_, by simp⟩⟩
      · rw [lineOf_cons w h0]; simp
      · simp [Nat.min]; omega
theorem Rest.done {line : List Nat} {pos : Nat} {st : Option Str} (R : Rest [] line pos st) : pos = line.length ∧ st = none := by
  obtain ⟨_, _, ⟨_, h1, h2⟩ | ⟨_, h, _⟩⟩ := R
  · exact ⟨h1, h2⟩
  · exact absurd rfl h
theorem word_signs {w : List Nat} (h : IsWord w) : ∀ c ∈ w, c ≠ 10 ∧ c ≠ 39 := fun c hc => by
  have := h.2 c hc
  constructor
  · rintro rfl; exact absurd this (by decide)
  · rintro rfl; exact absurd this (by decide)
abbrev lxL (x d sx dsx pb : Addr) (es : List DictEntry) (n : Nat) (es2 : List DictEntry) (n2 : Nat) (r4 : List (Addr × Obj)) : List (Addr × Obj) :=
  (x, instObj 774 d) :: (d, dictOf es n) :: (sx, instObj 639 dsx) :: (dsx, dictOf es2 n2) :: (pb, dequeObj) :: r4
def SioP (es2 : List DictEntry) (line : List Nat) (pos : Nat) : Prop := ∃ tb tp, getL "_StringIO__buf" es2 = some (some (.str (tx line) tb)) ∧ getL "_StringIO__pos" es2 = some (some (.int ((pos : Nat) : Int) tp)) ∧ getL "_StringIO__check" es2 = some none ∧ getL "read" es2 = some none ∧ es2.length ≤ 50
/-- a lexer's objects -/
def LxP (x : Addr) (ws : List (List Nat)) (b : List (Addr × Obj)) : Prop :=
  ∃ (d sx dsx pb fs : Addr) (es : List DictEntry) (n : Nat) (es2 : List DictEntry) (n2 : Nat) (r4 : List (Addr × Obj)) (line : List Nat) (pos : Nat) (st : Option Str),
    b = lxL x d sx dsx pb es n es2 n2 r4 ∧ ((fs = pb ∧ r4 = []) ∨ r4 = [(fs, dequeObj)]) ∧ LxA es sx pb fs st (tx []) ∧ SioP es2 line pos ∧ Rest ws line pos st ∧ Nd b
theorem lx_of {g h : Heap} {x d sx dsx pb fs : Addr} {es : List DictEntry} {n : Nat} {es2 : List DictEntry} {n2 : Nat} {r4 : List (Addr × Obj)} {line : List Nat} {pos : Nat} {st : Option Str}
    (O : Own g h (lxL x d sx dsx pb es n es2 n2 r4)) (hr : (fs = pb ∧ r4 = []) ∨ r4 = [(fs, dequeObj)]) (a : LxA es sx pb fs st (tx [])) (S : SioP es2 line pos) : Lx g h x d sx dsx pb fs line pos st (tx []) := by
  obtain ⟨tb, tp, f1, f2, f3, f4, f5⟩ := S
  refine ⟨es, n, fun p hp => ?_, ⟨es2, n2, tb, tp, O.sub (by first | k_mem | simp [lxL]), f1, f2, f3, f4, f5⟩, a⟩
  have hfs : (fs, dequeObj) ∈ lxL x d sx dsx pb es n es2 n2 r4 := by
    rcases hr with ⟨rfl, rfl⟩ | rfl <;> simp [lxL]
  simp only [List.mem_cons, List.not_mem_nil, or_false] at hp
  rcases hp with rfl | rfl | rfl | rfl
  · exact O _ (by first | k_mem | simp [lxL])
  · exact O _ (by first | k_mem | simp [lxL])
  · exact O _ (by first | k_mem | simp [lxL])
  · exact O _ hfs
theorem lx_block {g h : Heap} {x d sx dsx pb fs : Addr} {ws : List (List Nat)} {line : List Nat} {pos : Nat} {st : Option Str} (I : Lx g h x d sx dsx pb fs line pos st (tx [])) (R : Rest ws line pos st) :
    ∃ b, LxP x ws b ∧ Own g h b ∧ ∀ p ∈ b, p.1 ∈ [x, d, sx, dsx, pb, fs] := by
  obtain ⟨es, n, O1, ⟨es2, n2, tb, tp, O2, f1, f2, f3, f4, f5⟩, a⟩ := I
  obtain ⟨O, q1, q2, q3, q4, q5, q6, q7, q8, q9, q10⟩ := lx_open O1 O2 f1 a.m4
  have e1 := ne_of_objs O (a := x) (b := pb) (o := instObj 774 d) (o' := dequeObj) (by first | kse_has | simp) (by first | kse_has | simp) (fun e => nomatch congrArg Obj.cls e)
  have e2 := ne_of_objs O (a := sx) (b := pb) (o := instObj 639 dsx) (o' := dequeObj) (by first | kse_has | simp) (by first | kse_has | simp) (fun e => nomatch congrArg Obj.cls e)
  have e3 := ne_of_objs O (a := x) (b := fs) (o := instObj 774 d) (o' := dequeObj) (by first | kse_has | simp) (by first | kse_has | simp) (fun e => nomatch congrArg Obj.cls e)
  have e4 := ne_of_objs O (a := sx) (b := fs) (o := instObj 639 dsx) (o' := dequeObj) (by first | kse_has | simp) (by first | kse_has | simp) (fun e => nomatch congrArg Obj.cls e)
  by_cases hp : pb = fs
  · subst hp
    refine ⟨lxL x d sx dsx pb es n es2 n2 [], ⟨d, sx, dsx, pb, pb, es, n, es2, n2, [], line, pos, st, rfl, .inl ⟨rfl, rfl⟩, a, ⟨tb, tp, f1, f2, f3, f4, f5⟩, R, ?_⟩, O.sub (by first | k_mem | simp [lxL]), by simp [lxL]⟩
    simp [Nd, lxL, q1, q2, q3, q4, q5, q10, e1, e2, Ne.symm q6, Ne.symm q7]
  · refine ⟨lxL x d sx dsx pb es n es2 n2 [(fs, dequeObj)], ⟨d, sx, dsx, pb, fs, es, n, es2, n2, _, line, pos, st, rfl, .inr rfl, a, ⟨tb, tp, f1, f2, f3, f4, f5⟩, R, ?_⟩, O.sub (by first | k_mem | simp [lxL]), by simp [lxL]⟩
    simp [Nd, lxL, q1, q2, q3, q4, q5, q10, e1, e2, e3, e4, Ne.symm q6, Ne.symm q7, Ne.symm q8, Ne.symm q9, hp]
/-- lexers that wait: their values, their objects, what they have still to tell -/
def LexQ : List Value → List (List (Addr × Obj)) → List (List (List Nat)) → Prop
  | [], [], [] => True
  | v :: its, b :: bs, ws :: wss => (∃ x, v = .ref x ∧ LxP x ws b) ∧ LexQ its bs wss
  | _, _, _ => False
theorem LexQ.length : ∀ {its : List Value} {bs : List (List (Addr × Obj))} {wss : List (List (List Nat))}, LexQ its bs wss → its.length = wss.length ∧ bs.length = wss.length
  | [], [], [], _ => ⟨rfl, rfl⟩
  | _ :: _, _ :: _, _ :: _, h => ⟨congrArg (· + 1) (LexQ.length h.2).1, congrArg (· + 1) (LexQ.length h.2).2⟩
  | [], _ :: _, _, h => by cases h
  | [], [], _ :: _, h => by cases h
  | _ :: _, [], _, h => by cases h
  | _ :: _, _ :: _, [], h => by cases h
theorem LexQ.snoc {v : Value} {b : List (Addr × Obj)} {ws : List (List Nat)} (hb : ∃ x, v = .ref x ∧ LxP x ws b) : ∀ {its : List Value} {bs : List (List (Addr × Obj))} {wss : List (List (List Nat))}, LexQ its bs wss → LexQ (its ++ [v]) (bs ++ [b]) (wss ++ [ws])
  | [], [], [], _ => ⟨hb, trivial⟩
  | _ :: _, _ :: _, _ :: _, h => ⟨h.1, LexQ.snoc hb h.2⟩
  | [], _ :: _, _, h => by cases h
  | [], [], _ :: _, h => by cases h
  | _ :: _, [], _, h => by cases h
  | _ :: _, _ :: _, [], h => by cases h
/-- the blocks lie apart -/
def Apart (bs : List (List (Addr × Obj))) : Prop := bs.Pairwise fun b b' => ∀ p ∈ b, ∀ q ∈ b', p.1 ≠ q.1
/-- addresses beside the blocks -/
def Off (bs : List (List (Addr × Obj))) (as : List Addr) : Prop := ∀ b ∈ bs, ∀ p ∈ b, p.1 ∉ as
theorem Apart.snoc {bs : List (List (Addr × Obj))} {b : List (Addr × Obj)} (h : Apart bs) (hb : ∀ b' ∈ bs, ∀ p ∈ b', ∀ q ∈ b, p.1 ≠ q.1) : Apart (bs ++ [b]) :=
  List.pairwise_append.mpr ⟨h, List.pairwise_singleton _ _, fun b' hb' c hc => by rw [List.mem_singleton.mp hc]; exact hb b' hb'⟩
theorem Off.flat {bs : List (List (Addr × Obj))} {as : List Addr} (h : Off bs as) {p : Addr × Obj} (hp : p ∈ bs.flatten) : p.1 ∉ as := by
  obtain ⟨b, hb, hp⟩ := List.mem_flatten.mp hp
  exact h b hb p hp
theorem Off.snoc {bs : List (List (Addr × Obj))} {as : List Addr} {b : List (Addr × Obj)} (h : Off bs as) (hb : ∀ p ∈ b, p.1 ∉ as) : Off (bs ++ [b]) as := fun c hc => by
  rcases List.mem_append.mp hc with hc | hc
  · exact h c hc
  · rw [List.mem_singleton.mp hc]; exact hb
/-- behind a push: one object changed, a block more -/
theorem push_news {g h h' : Heap} {L pb : Addr} {o o' : Obj} {fx r b dz : List (Addr × Obj)} {bs : List (List (Addr × Obj))}
    (N : News g L h (fx ++ (pb, o) :: r ++ (bs.flatten ++ dz))) (Ob : Own g h b) (hbL : ∀ p ∈ b, p.1 ≠ L) (k : Keeps [pb] h h') (e : h'.get? pb = some o') (hn : ∀ p ∈ fx ++ r, p.1 ≠ pb) (hbs : ∀ p ∈ bs.flatten, p.1 ≠ pb) (hdz : ∀ p ∈ dz, p.1 ≠ pb) (hb : ∀ p ∈ b, p.1 ≠ pb) :
    News g L h' (fx ++ (pb, o') :: r ++ ((bs ++ [b]).flatten ++ dz)) := fun p hp => by
  have old : ∀ p ∈ fx ++ (pb, o) :: r ++ (bs.flatten ++ dz), p.1 ≠ pb → h'.get? p.1 = some p.2 ∧ p.1 ≠ L ∧ g.get? p.1 = none := fun p hp n => ⟨k _ _ (N p hp).1 (by simpa using n), (N p hp).2⟩
  simp only [List.mem_append, List.mem_cons, List.flatten_append, List.flatten_cons, List.flatten_nil, List.append_nil] at hp
  rcases hp with (hp | rfl | hp) | (hp | hp) | hp
  · exact old p (by first | kse_has | simp [hp]) (hn p (by first | kse_has | simp [hp]))
  · exact ⟨e, (N (pb, o) (by first | kse_has | simp)).2⟩
  · exact old p (by first | kse_has | simp [hp]) (hn p (by first | kse_has | simp [hp]))
  · exact old p (by simp only [List.mem_append]; exact .inr (.inl hp)) (hbs p hp)
  · exact ⟨k _ _ (Ob p hp).1 (by simpa using hb p hp), hbL p hp, (Ob p hp).2⟩
  · exact old p (by first | kse_has | simp [hp]) (hdz p hp)
open PyProof.Rows.LCg in
theorem Off1.mem {D : Addr} : ∀ {l : List (Addr × Obj)}, Off1 D l → ∀ p ∈ l, p.1 ≠ D
  | [], _, _, h => nomatch h
  | _ :: _, x, p, h => by
    rcases List.mem_cons.mp h with rfl | h
    · exact x.1
    · exact Off1.mem x.2 p h
/-- a ledger behind a call: each object as before, or new at an address that was on it -/
theorem News.upd {g h h' : Heap} {L : Addr} {as : List Addr} {l l' : List (Addr × Obj)} (N : News g L h l) (k : Keeps as h h') (hl : ∀ p ∈ l', (p ∈ l ∧ p.1 ∉ as) ∨ (h'.get? p.1 = some p.2 ∧ ∃ o, (p.1, o) ∈ l)) : News g L h' l' := fun p hp => by
  rcases hl p hp with ⟨h1, h2⟩ | ⟨e, o, ho⟩
  · exact ⟨k _ _ (N p h1).1 h2, (N p h1).2⟩
  · exact ⟨e, (N _ ho).2⟩
theorem fr_upd {g h h' : Heap} {L : Addr} {m : Str → Option Value} {as : List Addr} {l : List (Addr × Obj)} (F : Fr g L h m) (N : News g L h l) (k : Keeps as h h') (hs : ∀ a ∈ as, ∃ o, (a, o) ∈ l) : Fr g L h' m :=
  Mine.Fr.after F k (fun hm => by obtain ⟨o, ho⟩ := hs _ hm; exact (N _ ho).2.1 rfl) (fun a ha => by obtain ⟨o, ho⟩ := hs a ha; exact (N _ ho).2.2)
theorem app_led {prog : Program} {w : World} {A : Around} {E : Value → Shared → Prop} {s : Shared} {g : Heap} {L D : Addr} {its : Array Value} {n : Nat} {v : Value} {news : List (Addr × Obj)} {Q : Value → Shared → Prop} (N : News g L s.heap news) (hm : (D, W.listOf its n) ∈ news) (hb : its.size ≤ 1000)
    (h : ∀ h' tk, Keeps [D] s.heap h' → h'.get? D = some (W.listOf (its.push v) (n + 1)) → Q .none { s with heap := h', toks := tk }) : wpAny (model prog w) A (call (.builtin "list.append") [.ref D, v]) Q E s :=
  append_at (hsz := by rw [sizeLine_eq]; omega) (N _ hm).1 fun h' hs hD => h h' s.toks (fun b o e n => hs.extBut b o (by simpa using n) e) hD
/-- the told lists: their values, their objects, what they hold -/
def ToldQ : List Value → List (Addr × Obj) → List (List (List Nat)) → Prop
  | [], [], [] => True
  | v :: vs, p :: ps, ws :: wss => (v = .ref p.1 ∧ ∃ its n, p.2 = W.listOf its n ∧ Words its ws) ∧ ToldQ vs ps wss
  | _, _, _ => False
theorem ToldQ.snoc {v : Value} {p : Addr × Obj} {ws : List (List Nat)} (hb : v = .ref p.1 ∧ ∃ its n, p.2 = W.listOf its n ∧ Words its ws) : ∀ {its : List Value} {bs : List (Addr × Obj)} {wss : List (List (List Nat))}, ToldQ its bs wss → ToldQ (its ++ [v]) (bs ++ [p]) (wss ++ [ws])
  | [], [], [], _ => ⟨hb, trivial⟩
  | _ :: _, _ :: _, _ :: _, h => ⟨h.1, ToldQ.snoc hb h.2⟩
  | [], _ :: _, _, h => by cases h
  | [], [], _ :: _, h => by cases h
  | _ :: _, [], _, h => by cases h
  | _ :: _, _ :: _, [], h => by cases h
theorem ToldQ.length : ∀ {its : List Value} {bs : List (Addr × Obj)} {wss : List (List (List Nat))}, ToldQ its bs wss → its.length = wss.length
  | [], [], [], _ => rfl
  | _ :: _, _ :: _, _ :: _, h => congrArg (· + 1) (ToldQ.length h.2)
  | [], _ :: _, _, h => by cases h
  | [], [], _ :: _, h => by cases h
  | _ :: _, [], _, h => by cases h
  | _ :: _, _ :: _, [], h => by cases h
theorem ToldQ.at {h : Heap} : ∀ {its : List Value} {bs : List (Addr × Obj)} {wss : List (List (List Nat))}, ToldQ its bs wss → (∀ p ∈ bs, h.get? p.1 = some p.2) → ∀ (i : Nat) (v : Value) (ws : List (List Nat)), its[i]? = some v → wss[i]? = some ws → RowAt h v ws
  | [], [], [], _, _, i, v, ws, h1, _ => by simp at h1
  | _ :: _, p :: _, _ :: _, x, k, 0, v, ws, h1, h2 => by
    simp only [List.getElem?_cons_zero, Option.some.injEq] at h1 h2
    subst h1 h2
    obtain ⟨⟨rfl, its, n, e, hw⟩, _⟩ := x
    have := k p (List.mem_cons_self ..)
    rw [e] at this
    exact ⟨p.1, its, rfl, ⟨_, this, rfl, _, rfl⟩, hw⟩
  | _ :: _, _ :: _, _ :: _, x, k, i + 1, v, ws, h1, h2 => ToldQ.at x.2 (fun p hp => k p (List.mem_cons_of_mem _ hp)) i v ws (by simpa using h1) (by simpa using h2)
  | [], _ :: _, _, x, _, _, _, _, _, _ => by cases x
  | [], [], _ :: _, x, _, _, _, _, _, _ => by cases x
  | _ :: _, [], _, x, _, _, _, _, _, _ => by cases x
  | _ :: _, _ :: _, [], x, _, _, _, _, _, _ => by cases x
def hd1 : List (List Nat) → List (List Nat)
  | [] => []
  | w :: _ => [w]
def tl1 : List (List Nat) → List (List (List Nat))
  | [] => []
  | _ :: r => [r]
theorem heads_snoc (q : List (List (List Nat))) (ws : List (List Nat)) : heads (q ++ [ws]) = heads q ++ hd1 ws := by
  cases ws <;> simp [heads, hd1]
theorem tails_snoc (q : List (List (List Nat))) (ws : List (List Nat)) : tails (q ++ [ws]) = tails q ++ tl1 ws := by
  cases ws <;> simp [tails, tl1]
theorem Words.push {its : Array Value} {ws : List (List Nat)} {w : List Nat} {t : Tok} (h : Words its ws) : Words (its.push (.str (tx w) t)) (ws ++ [w]) := by
  refine ⟨by simp [h.1], fun i v hv => ?_⟩
  rw [Array.getElem?_push] at hv
  by_cases hi : i = its.size
  · rw [if_pos hi] at hv
    cases hv
    exact ⟨w, t, by rw [hi, h.1, List.getElem?_append_right (Nat.le_refl _)]; simp, rfl⟩
  · rw [if_neg hi] at hv
    obtain ⟨l, t', e, rfl⟩ := h.2 i v hv
    exact ⟨l, t', by rw [List.getElem?_append_left (List.getElem?_eq_some_iff.mp e).1]; exact e, rfl⟩
theorem AllNe.mem {d : Addr} : ∀ {l : List (Addr × Obj)}, AllNe d l → ∀ p ∈ l, p.1 ≠ d
  | [], _, _, h => nomatch h
  | _ :: _, x, p, h => by
    rcases List.mem_cons.mp h with rfl | h
    · exact x.1
    · exact AllNe.mem x.2 p h
theorem allNe_lt {d : Addr} : ∀ {l : List (Addr × Obj)}, AllLt d l → AllNe d l
  | [], _ => trivial
  | _ :: _, h => ⟨Nat.ne_of_lt h.1, allNe_lt h.2⟩
theorem slice_front (vs : List Value) : slicePick vs.toArray none (some (-1)) none = vs.dropLast.toArray := by
  have e : sliceBounds none (some (-1)) none vs.toArray.size = (((0 : Nat) : Int), ((vs.length - 1 : Nat) : Int), 1) := by
    simp only [sliceBounds, Option.getD_none, show (1 : Int) > 0 by decide, if_true, show (-1 : Int) < 0 by decide, List.size_toArray]
    congr 2
    omega
  have := kmk_pick_nat _ e
  rw [List.drop_zero, Nat.sub_zero, ← List.dropLast_eq_take] at this
  rw [← this, Array.toArray_toList]
theorem rounds_nil : ∀ k, rounds k [] = []
  | 0 => rfl
  | _ + 1 => rfl
theorem ToldQ.rows {h : Heap} {D : Addr} {n : Nat} {tls : List Value} {tb : List (Addr × Obj)} {done : List (List (List Nat))} (x : ToldQ tls tb done) (e : h.get? D = some ({ cls := .type "list", data := .seq tls.dropLast.toArray n } : Obj)) (k : ∀ p ∈ tb, h.get? p.1 = some p.2) : RowsAt h D done.dropLast := by
  refine ⟨tls.dropLast.toArray, ⟨_, e, rfl, _, rfl⟩, by simp [x.length], fun i v ws h1 h2 => ?_⟩
  refine x.at k i v ws ?_ ?_
  · have h1 : tls.dropLast[i]? = some v := by simpa using h1
    rw [List.getElem?_dropLast] at h1
    split at h1
    · exact h1
    · cases h1
  · rw [List.getElem?_dropLast] at h2
    split at h2
    · exact h2
    · cases h2
theorem range_small : ∀ n ≤ 20, Builtin.Range.small 0 ((n : Nat) : Int) 1 = true ∧ Builtin.Range.rangeSize 0 ((n : Nat) : Int) 1 = ((n : Nat) : Int) := by decide
theorem lx_adr {x d sx dsx pb fs : Addr} {es : List DictEntry} {n : Nat} {es2 : List DictEntry} {n2 : Nat} {r4 : List (Addr × Obj)} (hr : (fs = pb ∧ r4 = []) ∨ r4 = [(fs, dequeObj)]) : ∀ a ∈ [x, d, sx, dsx, pb, fs], ∃ o, (a, o) ∈ lxL x d sx dsx pb es n es2 n2 r4 := by
  intro a ha
  simp only [List.mem_cons, List.not_mem_nil, or_false] at ha
  rcases ha with rfl | rfl | rfl | rfl | rfl | rfl
  · exact ⟨_, .head _⟩
  · exact ⟨_, .tail _ (.head _)⟩
  · exact ⟨_, .tail _ (.tail _ (.head _))⟩
  · exact ⟨_, .tail _ (.tail _ (.tail _ (.head _)))⟩
  · exact ⟨_, .tail _ (.tail _ (.tail _ (.tail _ (.head _))))⟩
  · rcases hr with ⟨rfl, rfl⟩ | rfl
    · exact ⟨_, .tail _ (.tail _ (.tail _ (.tail _ (.head _))))⟩
    · exact ⟨_, .tail _ (.tail _ (.tail _ (.tail _ (.tail _ (.head _)))))⟩
/-- behind a lexer's call: its block anew -/
theorem lex_news {g h h' : Heap} {L : Addr} {m : Str → Option Value} {fx dy b : List (Addr × Obj)} {x d sx dsx pb fs : Addr} {es : List DictEntry} {n : Nat} {es2 : List DictEntry} {n2 : Nat} {r4 : List (Addr × Obj)} (F : Fr g L h m)
    (N : News g L h (fx ++ (lxL x d sx dsx pb es n es2 n2 r4 ++ dy))) (hr : (fs = pb ∧ r4 = []) ∨ r4 = [(fs, dequeObj)]) (k : Keeps [d, dsx] h h') (hfx : ∀ p ∈ lxL x d sx dsx pb es n es2 n2 r4, ∀ y ∈ fx ++ dy, p.1 ≠ y.1) (Ob : Own g h' b) (hb : ∀ p ∈ b, p.1 ∈ [x, d, sx, dsx, pb, fs]) :
    Fr g L h' m ∧ News g L h' (fx ++ (b ++ dy)) ∧ ∀ p ∈ b, ∀ y ∈ fx ++ dy, p.1 ≠ y.1 := by
  have adr := lx_adr (x := x) (d := d) (sx := sx) (dsx := dsx) (es := es) (n := n) (es2 := es2) (n2 := n2) hr
  have inN : ∀ {p}, p ∈ lxL x d sx dsx pb es n es2 n2 r4 → p ∈ fx ++ (lxL x d sx dsx pb es n es2 n2 r4 ++ dy) := fun hp => List.mem_append_right _ (List.mem_append_left _ hp)
  have old : ∀ p ∈ fx ++ dy, h'.get? p.1 = some p.2 ∧ p.1 ≠ L ∧ g.get? p.1 = none := fun p hp => by
    have hm : p ∈ fx ++ (lxL x d sx dsx pb es n es2 n2 r4 ++ dy) := by
      rcases List.mem_append.mp hp with h | h
      · exact List.mem_append_left _ h
      · exact List.mem_append_right _ (List.mem_append_right _ h)
    refine ⟨k _ _ (N p hm).1 ?_, (N p hm).2⟩
    have e1 := hfx (d, dictOf es n) (by first | k_mem | simp [lxL]) p hp
    have e2 := hfx (dsx, dictOf es2 n2) (by first | k_mem | simp [lxL]) p hp
    simp only [List.mem_cons, List.not_mem_nil, or_false, not_or]
    exact ⟨e1.symm, e2.symm⟩
  refine ⟨fr_upd F N k (fun a ha => ?_), fun p hp => ?_, fun p hp y hy => ?_⟩
  · simp only [List.mem_cons, List.not_mem_nil, or_false] at ha
    rcases ha with rfl | rfl
    · exact ⟨dictOf es n, inN (by first | k_mem | simp [lxL])⟩
    · exact ⟨dictOf es2 n2, inN (by first | k_mem | simp [lxL])⟩
  · simp only [List.mem_append] at hp
    rcases hp with hp | hp | hp
    · exact old p (List.mem_append_left _ hp)
    · obtain ⟨o, ho⟩ := adr _ (hb p hp)
      exact ⟨(Ob p hp).1, (N _ (inN ho)).2⟩
    · exact old p (List.mem_append_right _ hp)
  · obtain ⟨o, ho⟩ := adr _ (hb p hp)
    exact hfx _ ho y hy
/-- one object changed -/
theorem News.put {g h h' : Heap} {L a : Addr} {o o' : Obj} {pre post : List (Addr × Obj)} (N : News g L h (pre ++ (a, o) :: post)) (k : Keeps [a] h h') (e : h'.get? a = some o') (hn : ∀ p ∈ pre ++ post, p.1 ≠ a) : News g L h' (pre ++ (a, o') :: post) := by
  refine Mine.News.upd N k fun p hp => ?_
  simp only [List.mem_append, List.mem_cons] at hp
  rcases hp with hp | rfl | hp
  · exact .inl ⟨by simp [hp], by simpa using hn p (by first | kse_has | simp [hp])⟩
  · exact .inr ⟨e, o, by simp⟩
  · exact .inl ⟨by simp [hp], by simpa using hn p (by first | kse_has | simp [hp])⟩
theorem drop_get {α : Type} {l : List α} {x : α} {i : Nat} (h : l[i]? = some x) : l.drop i = x :: l.drop (i + 1) := by
  obtain ⟨hi, e⟩ := List.getElem?_eq_some_iff.mp h
  rw [List.drop_eq_getElem_cons hi, e]
theorem heads_take {wss : List (List (List Nat))} {i : Nat} {ws : List (List Nat)} (h : wss[i]? = some ws) : heads (wss.take (i + 1)) = heads (wss.take i) ++ hd1 ws := by rw [take_get h, heads_snoc]
theorem tails_take {wss : List (List (List Nat))} {i : Nat} {ws : List (List Nat)} (h : wss[i]? = some ws) : tails (wss.take (i + 1)) = tails (wss.take i) ++ tl1 ws := by rw [take_get h, tails_snoc]
theorem tails_mem {wss : List (List (List Nat))} {ws : List (List Nat)} (h : ws ∈ tails wss) : ∃ w, w :: ws ∈ wss := by
  obtain ⟨t, ht, rfl⟩ := List.mem_map.mp h
  obtain ⟨h1, h2⟩ := List.mem_filter.mp ht
  cases t with
  | nil => simp at h2
  | cons w r => exact ⟨w, h1⟩
theorem tails_length (wss : List (List (List Nat))) : (tails wss).length ≤ wss.length := by
  unfold tails
  rw [List.length_map]
  exact List.length_filter_le _ _
end
theorem reg_Lq_end : True := by
  k_with_none
  trivial
-- C18
section
open PyProof.Rows.LCg
theorem cell_eq {o : Obj} {u v : Option Value} (h : o.data = .cell u) (e : u = v) : o.data = .cell v := e ▸ h
theorem reg_C18 : True := by
  k_with_none
  k_with "k_get" => (first | assumption | exact getL_put_eq | (refine Eq.trans (getL_put_ne (by decide +kernel)) ?_; k_get) | (refine' isSome_of ?h9z; case h9z => k_get) | (refine' isSome_of' ?h9z; case h9z => k_get) | exact rfl)
  k_with "k_put" => (exact rfl)
  k_with "setAttr ref" => (k_here; k_dflt (
    (refine' set_dict ?k19z ?k29z ?k39z ?k49z ?k59z ?k69z ?k79z ?k89z ?k99z ?k109z ?k119z ?k129z ?k139z ?_; (case k19z => k_asm); (case k29z => k_asm); (case k39z => k_asm); (case k49z => k_inst); (case k59z => exact rfl); (case k69z => k_is); (case k79z => k_is); (case k89z => k_is); (case k99z => k_is); (case k109z => k_get); (case k119z => exact rfl); (case k129z => k_upd); (case k139z => ((repeat (refine length_put_le ?_)); omega)); k_whole; intro h' F' N'; (try k_sweep))))
  k_with "size_fits" => (first | assumption | ((try simp only [tx_length]); rw [sizeLine_eq]; omega))
  k_with "k_ne" => (first | assumption | (refine Ne.symm ?_; assumption))
  k_with "tb_rel" => (first
    | exact List.forall_mem_nil _
    | (refine List.forall_mem_cons.mpr ⟨?ta9z, ?tb9z⟩; (case ta9z => first | exact fun _ => News.get (by assumption) (by k_mem) | exact fun h9 => absurd (by simp) h9); (case tb9z => tb_rel)))
  k_with "tb_start" => (
    refine wpAny_call ?_
    refine' enter _ (Cx.X (by assumption)) (Cx.T (by assumption)) (Cx.S (by assumption)) (by assumption) ?k19z ?k29z ?k39z ?k49z ?k59z ?_ ?k69z ?k79z ?k89z ?k99z
    (case k19z => k_is)
    (case k29z => k_is)
    (case k39z => ((try simp only [depth_deeper, depth_under_make, depth_in1, recursionLimit]); omega))
    (case k49z => first | exact BindsTo.of_eq rfl | exact binds_K (Frag.In.keeps (Cx.X (by assumption)) (Cx.S (by assumption))) rfl (by k_is) rfl rfl rfl)
    (case k59z => exact locs rfl)
    (case k69z => exact rfl)
    (case k79z => exact rfl)
    (case k89z => exact rfl)
    (case k99z => decide)
    skip)
  k_with "exec If" => (refine wpAny_If ?_)
  k_with "execs nil" => (refine wpAny_execs_nil ?_)
  k_with "execs cons" => ((with_reducible refine wpAny_execs_cons ?_); (try dsimp only); (try k_fold); (try (with_reducible refine wp_tok ?_; intro tk9)))
  k_with "compareOp In str str" => (first | refine in_is (v := true) (by decide +kernel) ?_ | refine in_is (v := false) (by decide +kernel) ?_ | refine in_is (by assumption) ?_)
  k_with "compareOp Eq str str" => (first | refine eq_is (v := true) (by decide +kernel) ?_ | refine eq_is (v := false) (by decide +kernel) ?_ | refine eq_is (by assumption) ?_)
  k_with "truthy str" => (first | with_reducible refine truth_one ?_ | (with_reducible (refine truth_lit (v := false) (by decide +kernel) ?_)) | (with_reducible (refine truth_lit (v := true) (by decide +kernel) ?_)) | (with_reducible (refine truth_tx (by omega) ?_ ?_) <;> intro hw9))
  k_with "inplaceOp Add str str" => (refine iadd_tx (by ((try simp only [List.length_cons, List.length_nil]); omega)) ?_; intro t9 tk9)
  k_with "ktr_rel" => (first | exact Look.of (by with_reducible assumption) | with_reducible exact Look.here | with_reducible exact Look.next (by decide +kernel) (by ktr_rel))
  k_with "eval Name" => (k_here; first
    | (refine' nm_look ?l9z ?f9z ?c9z ?k9z ?d9z ?v9z ?_; (case l9z => with_reducible assumption); (case f9z => with_reducible assumption); (case c9z => with_reducible assumption); (case k9z => with_reducible assumption); (case v9z => ktr_rel); (case d9z => decide))
    | (refine' nm_cell ?n9z ?c9z ?m9z ?d9z ?k9z ?l9z ?b9z ?_; (case l9z => with_reducible assumption); (case k9z => with_reducible assumption); (case c9z => with_reducible assumption); (case n9z => assumption); (case m9z => k_dflt k_mem); (case d9z => with_reducible assumption); (case b9z => decide))
    | (refine' nm_global ?f9z ?x9z ?t9z ?e9z ?g9z ?k9z ?l9z ?d9z ?_; (case l9z => with_reducible assumption); (case k9z => with_reducible assumption); (case g9z => with_reducible assumption); (case f9z => assumption); (case x9z => assumption); (case t9z => assumption); (case e9z => k_is); (case d9z => decide))
    | (refine' nm_built ?f9z ?x9z ?t9z ?e9z ?hv9z ?hn9z ?g9z ?b9z ?k9z ?l9z ?d9z ?_; (case l9z => with_reducible assumption); (case k9z => with_reducible assumption); (case g9z => with_reducible assumption); (case b9z => with_reducible assumption); (case hv9z => boot_fast); (case f9z => assumption); (case x9z => assumption); (case t9z => assumption); (case e9z => k_is); (case hn9z => decide); (case d9z => decide)))
  k_with "storeName" => (refine' nm_store ?x9z ?l9z ?p9z ?f9z ?n9z ?_; (case x9z => with_reducible assumption); (case l9z => with_reducible assumption); (case p9z => with_reducible assumption); (case f9z => assumption); (case n9z => assumption); intro _ _ _ _; (try k_sweep))
  k_with "exec Expr" => (refine wpAny_Expr_any ?_ (by with_reducible assumption) (by rfl))
  k_with "k_in" => (exact Frag.In.keeps (by with_reducible assumption) (Fr.keep (by with_reducible assumption)))
  k_with "kas_types" => (repeat' (first | (k_unfold; (try dsimp only)) | ((fail_if_success (with_reducible show wpAny _ _ (call _ _) _ _ _)); (fail_if_success (with_reducible show wpAny _ _ (subscriptTail _ _ _ _) _ _ _)); (fail_if_success (with_reducible show wpAny _ _ (eval (PySem.Expr.ListComp _ _ _ _) _) _ _ _)); (fail_if_success (with_reducible show wpAny _ _ (exec (PySem.Stmt.For _ _ _ _ _) _) _ _ _)); (fail_if_success (with_reducible show wpAny _ _ (exec (PySem.Stmt.While _ _ _ _) _) _ _ _)); (fail_if_success (with_reducible show wpAny _ _ (exec (PySem.Stmt.Assign _ (PySem.Expr.ListComp _ _ _ _) _) _) _ _ _)); (first | walk1 | (dsimp only; walk1)))))
  k_with "kse_has" => (first | with_reducible assumption | with_reducible exact List.mem_cons_self | (with_reducible refine List.mem_cons_of_mem _ ?_; kse_has) | (with_reducible refine List.mem_append_left _ ?_; kse_has) | (with_reducible refine List.mem_append_right _ ?_; kse_has))
  trivial
theorem turned_ok {w : World} {p : Program} {loose : List Str} {mg mb : Str → Option Value} {g : Heap} {A : Around} {s : Shared} {Q E : Value → Shared → Prop} {r : Addr} {tbl : List (List (List Nat))} {tj ts : List (Addr × Obj)}
  (C : Cx w p loose mg mb g s.heap) (B : Bm mg g) (hdp : A.depth ≤ 380) (hu : A.units ≤ 2000) (hh : A.handled = none) (hJ : TabJ w g s.heap tj) (hT : TabT w g s.heap ts) (G : AllBare s.gens) (hr : RowsAt s.heap r tbl) (hok : OkT tbl)
  (hret : ∀ s' r' tj' ts', Keeps ((tj ++ ts).map (·.1)) s.heap s'.heap → TabJ w g s'.heap tj' → TabT w g s'.heap ts' → AllBare s'.gens → s'.os = s.os → RowsAt s'.heap r' (turnedOf tbl) → Q (.ref r') s') :
  wpAny (model P0 w) A (call (.ref 818) [.ref r]) Q E s := by
  have O : Own g s.heap (tj ++ ts) := fun p hp => (List.mem_append.mp hp).elim (hJ.1 p) (hT.1 p)
  have hfl : ∀ p ∈ tj ++ ts, ∃ vs, p.2.data = .fields vs := fun p hp => (List.mem_append.mp hp).elim (JP.fields hJ.2 p) (hT.fields p)
  have hnd := nd_tabs hJ hT
  refine wpAny_call ?_
  refine' enterC _ C O ?k1 ?k2 ?k3 ?k4 ?k5 ?k5b ?_ ?k6 ?k7 ?k8
  case k1 => k_is
  case k2 => k_is
  case k3 => exact Nat.lt_of_le_of_lt hdp (by decide)
  case k4 => exact BindsTo.of_eq rfl
  case k5 => exact rfl
  case k5b => decide +kernel
  case k6 => exact rfl
  case k7 => exact rfl
  case k8 => exact rfl
  intro g' L' h' tk' cells' F' N' Y' X' T' hG9 hg9 l1
  have hB9 := B.keeps hg9
  obtain ⟨rits, hrl, hrn, hrx⟩ := hr.hide O hfl hG9
  k_cells Y'
  simp only [List.cons_append, List.nil_append] at N'
  obtain ⟨oq, hoq, N0⟩ : ∃ oq : Obj, oq.data = .cell none ∧ News g' L' h' ((L' + 1, oq) :: (tj ++ ts)) := ⟨_, cell_eq (by assumption) rfl, N'⟩
  clear N'
  obtain ⟨m0, F0, hm0⟩ : ∃ m, Fr g' L' h' m ∧ m (Str.ofString "rows") = some (.ref r) := ⟨_, F', rfl⟩
  clear F'
  have hTJ : TabJ w g' h' tj := ⟨fun p hp => Own.of_news N0 p (by first | kse_has | simp [hp]), hJ.2⟩
  have hlt : ∀ q ∈ tj ++ ts, q.1 ≠ L' + 1 := fun q hq => Nat.ne_of_lt (Nat.lt_succ_of_lt (l1 q hq))
  have h780 : L' + 1 ≠ 780 := by
    obtain ⟨o, ho⟩ := JP.mem hJ.2
    exact (hlt _ (List.mem_append_left _ ho)).symm
  generalize hen : envOfC _ _ _ _ _ = env
  have q1 : env.locals = L' := by rw [← hen]; rfl
  have q2 : env.globals = mainGlobals := by rw [← hen]; rfl
  have q3 : env.builtins = builtinsNs := by rw [← hen]; rfl
  have q4 : env.scope.kind = .function := by rw [← hen]; rfl
  have q5 : env.cells.lookup (Str.ofString "queue") = some (L' + 1) := by rw [← hen]; rfl
  have q7 : (env.scope.kind == .class || (env.scope.kind == .module && env.locals != env.globals)) = false := by rw [← hen]; rfl
  have q6 : interactive env = false := by rw [← hen]; rfl
  have i1 : env.kindOf (Str.ofString "rows") = some .local := by rw [← hen]; rfl
  have i2 : env.kindOf (Str.ofString "queue") = some .cell := by rw [← hen]; rfl
  have i3 : env.kindOf (Str.ofString "lines") = some .local := by rw [← hen]; rfl
  have i4 : env.kindOf (Str.ofString "line") = some .local := by rw [← hen]; rfl
  have i5 : env.kindOf (Str.ofString "turned") = some .local := by rw [← hen]; rfl
  have i6 : env.kindOf (Str.ofString "told") = some .local := by rw [← hen]; rfl
  have i7 : env.kindOf (Str.ofString "k") = some .local := by rw [← hen]; rfl
  have i8 : env.kindOf (Str.ofString "lexer") = some .local := by rw [← hen]; rfl
  have i9 : env.kindOf (Str.ofString "word") = some .local := by rw [← hen]; rfl
  have i10 : env.kindOf (Str.ofString "_netrclex") = some .globalImplicit := by rw [← hen]; rfl
  have i11 : env.kindOf (Str.ofString "_law_stream") = some .globalImplicit := by rw [← hen]; rfl
  have i12 : env.kindOf (Str.ofString "len") = some .globalImplicit := by rw [← hen]; rfl
  have i13 : env.kindOf (Str.ofString "shlex") = some .globalImplicit := by rw [← hen]; rfl
  have i14 : env.kindOf (Str.ofString "range") = some .globalImplicit := by rw [← hen]; rfl
  try dsimp only
  show wpAny _ _ _ _ _ _
  k_fold
  kas_types
  refine comp_E (g := g') (L := L') (m := m0) tbl.length (fun i v => ∃ ws, tbl[i]? = some ws ∧ RowAt g' v ws) (fun _ => True) (fun os i ys news gs => JRows (os = s.os) w (L' + 1) oq ts tbl i ys news gs) hh (by rw [← hen]; rfl) ?hcell rfl ?hnames rfl ?hsz ?iter ?hS ?turn ?fin (by intro _; rfl)
  case hcell => decide
  case hnames => decide
  case hsz => exact Nat.le_trans hok.2.1 (by decide)
  case iter =>
    walk1
    refine ⟨_, F0, N0, .inl ⟨r, rits, rfl, .inl hrl, hrn.symm, fun i v hv => ?_, fun _ _ => .inl hrl⟩, trivial, rfl, G, tj, rfl, hJ.2, ⟨by simp, fun i v h => by simp at h⟩⟩
    have hi : i < tbl.length := hrn ▸ (Array.getElem?_eq_some_iff.mp hv).1
    exact ⟨tbl[i], List.getElem?_eq_getElem hi, hrx i v _ hv (List.getElem?_eq_getElem hi)⟩
  case hS => exact fun _ _ _ _ _ _ => trivial
  case turn =>
    intro os
    refine rows_turn (mg := mg) (mb := mb) X' T' hB9 hh ?_ h780 ?_ hok (by k_is) (by k_is) ⟨_, _, _, _, X' 801 _ (by k_is)⟩ ⟨_, _, _, _, X' 785 _ (by k_is)⟩ q2 (fun _ => rfl) (fun _ => by rw [← hen]; rfl) (fun _ => by rw [← hen]; rfl) (fun _ => by rw [← hen]; rfl)
    · simp only [depth_deeper]; omega
    · intro q hq e
      obtain ⟨o, ho⟩ := JP.mem hJ.2
      exact (Nd.append.mp hnd).2.2 _ ho q hq e.symm
  case fin =>
    intro D s₁ ys news₁ F1 N1 o1 hJ1
    obtain ⟨hos1, G1, tj1, rfl, hj1, hys⟩ := hJ1
    try dsimp only
    show wpAny _ _ _ _ _ _
    k_fold
    kas_types
    obtain ⟨lv, hlv, hlt9⟩ := Told.values hys
    have hD : s₁.heap.IsList D (strValues lv).toArray := ⟨_, (N1 (D, lst ys) (.head _)).1, rfl, _, by rw [hlv]⟩
    rw [List.take_length] at hlt9
    refine SC.join hD hlt9 (joinOk_tx 10 _ (Nat.le_trans (told_sum hok.2.2) (by have := hok.2.1; omega))) fun t2 k2 => ?_
    rw [show Txt.join (Str.ofString "\n") ((tbl.map told).map tx) = tx (joinW 10 (tbl.map told)) from join_tx 10 _]
    have hlen : (joinW 10 (tbl.map told)).length ≤ 1000 := Nat.le_trans (joinW_length 10 _) (Nat.le_trans (told_sum hok.2.2) (by have := hok.2.1; omega))
    kas_types
    have hnd2 := Nd.append.mp hnd
    obtain ⟨o803, ho803⟩ := hT.mem
    have hts1 : TabT w g' s₁.heap ts := hT.up (fun p hp => Own.of_news N1 p (by first | kse_has | simp [hp])) hg9
    obtain ⟨ps, hps⟩ := hts1.s F1.keep
    have n803 : (@Ne Nat 803 L') ∧ g'.get? 803 = none := (N1 (803, o803) (by first | kse_has | simp [ho803])).2
    have hj803 : ∀ p ∈ tj1, p.1 ≠ 803 := fun p hp => (Nd.append.mp (nd_tabs ⟨fun p hp => Own.of_news N1 p (by first | kse_has | simp [hp]), hj1⟩ hts1)).2.2 p hp _ ho803
    have hq803 : L' + 1 ≠ 803 := (hlt _ (List.mem_append_right _ ho803)).symm
    refine stream_new ⟨X', T', F1.keep⟩ (by simp only [depth_deeper]; omega) hB9 hps ?_
    intro st dst f ct cp pl ps' h2 tk2 k2 fr2 hS2 hStm
    have F2 : Fr g' L' h2 m0 := Mine.Fr.after F1 k2 (by simpa using n803.1.symm) (fun a ha => by rw [List.mem_singleton.mp ha]; exact n803.2)
    have Oq2 : Own g' h2 [(L' + 1, oq)] := Own.after (fun p hp => Own.of_news N1 p (by simp at hp; simp [hp])) k2 (by simpa using hq803)
    have Oj2 : Own g' h2 tj1 := Own.after (fun p hp => Own.of_news N1 p (by first | kse_has | simp [hp])) k2 hj803
    have hL2 : ∀ a, s₁.heap.get? a = none → a ≠ L' := fun a e q => by
      obtain ⟨oL, _, _, hL, _⟩ := F1.ns
      rw [q, hL] at e; cases e
    have hcell1 := (N1 (L' + 1, oq) (by first | kse_has | simp)).1
    clear F1 N1
    kas_types
    refine nl_new ⟨X', T', F2.keep⟩ (by simp only [depth_deeper]; omega) ?_
    intro q dq pb es3 n3 ep3 h3 tk3 k3 fr3 O3 A3
    have k3' : ∀ b o, h2.get? b = some o → h3.get? b = some o := fun b o e => k3 b o e (fun q => nomatch q)
    have F3 : Fr g' L' h3 m0 := F2.keeps k3'
    have I3 : Que w g' h3 q dq pb st dst f ct cp pl (joinW 10 (tbl.map told)) 0 1 #[] := ⟨es3, n3, ep3, O3, A3, hStm.up k3'⟩
    have hL3 : ∀ a, h2.get? a = none → a ≠ L' := fun a e q => by
      obtain ⟨oL, _, _, hL, _⟩ := F2.ns
      rw [q, hL] at e; cases e
    clear F2
    repeat' (first | (k_unfold; (try dsimp only)) | ((fail_if_success (with_reducible show wpAny _ _ (storeName _ _ _) _ _ _)); walk1))
    have hq0 : g'.get? (L' + 1) = none := (Oq2 _ (.head _)).2
    refine wpAny_storeName_cell (c := L' + 1) (v₀ := none) q4 i2 q5 ⟨oq, k3' _ _ (Oq2 _ (.head _)).1, hoq⟩ ?_
    intro h4 hc4 hs4
    obtain ⟨oq4, hoq4, hdq4⟩ := hc4
    have F4 : Fr g' L' h4 m0 := F3.change hs4 (Nat.succ_ne_self _) hq0
    obtain ⟨c', es4, n4, ep4, es2, n2, fo, o1, o2, tt, ta, ep2, dx, OQ, A4, hread, d1, d2, hfo, Ox, hxf, hcr, hne⟩ := I3.block F3.keep
    obtain ⟨ts4, hT4⟩ := (hS2.up k3').t F3.keep
    have Oj3 := Oj2.up k3'
    have hkq := quL_kind (q := q) (dq := dq) (pb := pb) (st := st) (dst := dst) (f := f) (pl := pl) (a := 0) (its := #[]) (es := es4) (n := n4) (ep := ep4) (es2 := es2) (n2 := n2) (ta := ta) (ep2 := ep2) hfo d1 d2
    have Ody : Own g' h3 (dx ++ (tj1 ++ ts4)) := fun p hp => by
      simp only [List.mem_append] at hp
      rcases hp with hp | hp | hp
      · exact Ox p hp
      · exact Oj3 p hp
      · exact hT4.1 p hp
    have hdyf : ∀ p ∈ dx ++ (tj1 ++ ts4), ∃ vs, p.2.data = .fields vs := fun p hp => by
      simp only [List.mem_append] at hp
      rcases hp with hp | hp | hp
      · exact hxf p hp
      · exact JP.fields hj1 p hp
      · exact hT4.fields p hp
    have hdyq := kinds_apart Ody OQ hdyf hkq
    have hqcell : Own g' h3 [(L' + 1, oq)] := Oq2.up k3'
    have hdyc : ∀ p ∈ dx ++ (tj1 ++ ts4), p.1 ≠ L' + 1 := fun p hp => kinds_apart Ody hqcell hdyf (fun x hx vs e => by rw [List.mem_singleton.mp hx, hoq] at e; cases e) p hp _ (.head _)
    have frq : ∀ a ∈ [q, dq, pb, st, dst, f, ct, cp, pl], a ≠ L' ∧ a ≠ L' + 1 := fun a ha => by
      have hs1 : ∀ a, s₁.heap.get? a = none → a ≠ L' + 1 := fun a e q => by rw [q, hcell1] at e; cases e
      have hs2 : ∀ a, h2.get? a = none → a ≠ L' + 1 := fun a e q => by rw [q, (Oq2 _ (.head _)).1] at e; cases e
      simp only [List.mem_cons, List.not_mem_nil, or_false] at ha
      rcases ha with rfl | rfl | rfl | rfl | rfl | rfl | rfl | rfl | rfl
      · exact ⟨hL3 _ (fr3 _ (by first | kse_has | simp)), hs2 _ (fr3 _ (by first | kse_has | simp))⟩
      · exact ⟨hL3 _ (fr3 _ (by first | kse_has | simp)), hs2 _ (fr3 _ (by first | kse_has | simp))⟩
      · exact ⟨hL3 _ (fr3 _ (by first | kse_has | simp)), hs2 _ (fr3 _ (by first | kse_has | simp))⟩
      · exact ⟨hL2 _ (fr2 _ (by first | kse_has | simp)), hs1 _ (fr2 _ (by first | kse_has | simp))⟩
      · exact ⟨hL2 _ (fr2 _ (by first | kse_has | simp)), hs1 _ (fr2 _ (by first | kse_has | simp))⟩
      · exact ⟨hL2 _ (fr2 _ (by first | kse_has | simp)), hs1 _ (fr2 _ (by first | kse_has | simp))⟩
      · exact ⟨hL2 _ (fr2 _ (by first | kse_has | simp)), hs1 _ (fr2 _ (by first | kse_has | simp))⟩
      · exact ⟨hL2 _ (fr2 _ (by first | kse_has | simp)), hs1 _ (fr2 _ (by first | kse_has | simp))⟩
      · exact ⟨hL2 _ (fr2 _ (by first | kse_has | simp)), hs1 _ (fr2 _ (by first | kse_has | simp))⟩
    have frQ : ∀ x ∈ quL q dq pb st dst f ct cp pl 0 #[] es4 n4 ep4 es2 n2 fo o1 o2 ta ep2, x.1 ≠ L' ∧ x.1 ≠ L' + 1 := fun x hx => frq x.1 (by
      simp only [quL, List.mem_cons, List.not_mem_nil, or_false] at hx
      rcases hx with rfl | rfl | rfl | rfl | rfl | rfl | rfl | rfl | rfl <;> first | kse_has | simp)
    generalize hdy : dx ++ (tj1 ++ ts4) = dy at Ody hdyf hdyq hdyc
    have N4 : News g' L' h4 ((L' + 1, oq4) :: (quL q dq pb st dst f ct cp pl 0 #[] es4 n4 ep4 es2 n2 fo o1 o2 ta ep2 ++ dy)) := fun x hx => by
      rcases List.mem_cons.mp hx with rfl | hx
      · exact ⟨hoq4, Nat.succ_ne_self _, hq0⟩
      · rcases List.mem_append.mp hx with hx | hx
        · exact ⟨hs4.extBut _ _ (frQ x hx).2 (OQ x hx).1, (frQ x hx).1, (OQ x hx).2⟩
        · obtain ⟨vs, hv⟩ := hdyf x hx
          exact ⟨hs4.extBut _ _ (hdyc x hx) (Ody x hx).1, L_ne_fields F3 (Ody x hx).1 hv, (Ody x hx).2⟩
    clear F3
    kas_types
    refine comp_A (g := g') (L := L') (m := m0) tbl.length (fun _ _ => True) (fun _ => True) (fun os i ys news gs => JLines (os = s.os) (L' + 1) oq4 q dq pb st dst f ct cp pl ep4 es2 n2 fo o1 o2 dy tbl i ys news gs) q1 (by rw [← hen]; rfl) hh (by rw [← hen]; rfl) ?hcell rfl ?hnames rfl ?hsz i3 (by rw [← hen]; rfl) ?iter ?hS ?turn ?fin (by intro _; rfl)
    case hcell => decide
    case hnames => decide
    case hsz => exact Nat.le_trans hok.2.1 (by decide)
    case iter =>
      walk1
      refine ⟨_, F4, N4, .inl ⟨r, rits, rfl, .inl hrl, hrn.symm, fun _ _ _ => trivial, fun _ _ => .inl hrl⟩, trivial, hos1, G1, es4, n4, ta, ep2, ?_, A4, ⟨by simp, fun i v h => by simp at h⟩⟩
      rfl
    case hS => exact fun _ _ _ _ _ _ => trivial
    case turn =>
      intro os
      refine lines_turn (mg := mg) (mb := mb) X' T' hh ?_ hok rfl hdq4 rfl ?_ ?_ hne hfo hread d1 d2 ?_ hlen (fun _ => rfl) (fun _ => rfl) (fun _ => by rw [← hen]; rfl)
      · simp only [depth_deeper]; omega
      · intro x hx
        exact ⟨hdyq x hx (pl, W.listOf #[.int ((0 : Nat) : Int) ta] ep2) (by first | k_mem | simp [quL]), hdyq x hx (dq, dictOf es4 n4) (by first | k_mem | simp [quL])⟩
      · exact ⟨(frq pl (by first | kse_has | simp)).2.symm, (frq dq (by first | kse_has | simp)).2.symm⟩
      · rcases hcr with hcr | ⟨oc, vs, t, hm, r⟩
        · exact .inl hcr
        · exact .inr ⟨oc, vs, t, by rw [← hdy]; exact List.mem_append_left _ hm, r⟩
    case fin =>
      intro D5 s5 ys5 news5 F5 N5 o5 hJ5
      obtain ⟨hos5, G5, es5, n5, ta5, ep5, rfl, A5, hy5⟩ := hJ5
      rw [List.take_length] at hy5
      rw [show max tbl.length 1 = tbl.length from Nat.max_eq_left (List.length_pos_iff.mpr hok.1)] at A5
      have A6 := A5
      obtain ⟨⟨ta1, a1⟩, a2, ⟨ta3, a3⟩, a4, a5, a6, a7, a8, a9⟩ := A5
      rw [← hrn] at a1
      have N6 : News g' L' s5.heap ((L' + 1, oq4) :: (q, instObj 82 dq) :: (dq, dictOf es5 n5) :: (pb, W.listOf #[] ep4) :: (D5, lst ys5) :: (tj1 ++ ts4)) := fun x hx => N5 x (by
        rw [← hdy]
        simp only [quL, List.mem_cons, List.mem_append] at hx ⊢
        rcases hx with h | h | h | h | h | h | h
        · exact .inr (.inl h)
        · exact .inr (.inr (.inl (.inl h)))
        · exact .inr (.inr (.inl (.inr (.inl h))))
        · exact .inr (.inr (.inl (.inr (.inr (.inl h)))))
        · exact .inl h
        · exact .inr (.inr (.inr (.inr (.inl h))))
        · exact .inr (.inr (.inr (.inr (.inr h)))))
      clear N5 N4 F4
      generalize hdz : tj1 ++ ts4 = dz at N6
      try dsimp only
      kas_types
      refine len_base (by assumption) hrl (by rw [hrn]; have := hok.2.1; omega) fun t6 k6 => ?_
      kas_types
      · rename (_ : Int) ≠ _ => hx
        exact absurd rfl hx
      have hnj := nd_tabs (w := w) (g := g') (h := h3) ⟨Oj3, hj1⟩ hT4
      -- what lies apart
      have o5' := Off1.mem o5
      have hqpb : (@Ne Nat q pb) := ne_of_objs OQ (o := instObj 82 dq) (o' := W.listOf #[] ep4) (by first | k_mem | simp [quL]) (by first | k_mem | simp [quL]) (fun e => nomatch congrArg Obj.data e)
      have hfx : [L' + 1, q, dq, pb, D5].Nodup := by
        simp only [List.nodup_cons, List.mem_cons, List.not_mem_nil, or_false, not_or, not_false_eq_true, and_true, List.nodup_nil]
        exact ⟨⟨(frq q (by first | kse_has | simp)).2.symm, (frq dq (by first | kse_has | simp)).2.symm, (frq pb (by first | kse_has | simp)).2.symm, o5' _ (.head _)⟩, ⟨hne.1.1, hqpb, o5' (q, instObj 82 dq) (by first | k_mem | simp [quL])⟩, ⟨hne.1.2.1.symm, o5' (dq, dictOf es5 n5) (by first | k_mem | simp [quL])⟩, o5' (pb, W.listOf #[] ep4) (by first | k_mem | simp [quL])⟩
      have hdzx : ∀ p ∈ dz, p.1 ∉ [L' + 1, q, dq, pb, D5] := fun p hp hm => by
        have hpd : p ∈ dy := by rw [← hdy, hdz]; exact List.mem_append_right _ hp
        simp only [List.mem_cons, List.not_mem_nil, or_false] at hm
        rcases hm with e | e | e | e | e
        · exact hdyc p hpd e
        · exact hdyq p hpd (q, instObj 82 dq) (by first | k_mem | simp [quL]) e
        · exact hdyq p hpd (dq, dictOf es4 n4) (by first | k_mem | simp [quL]) e
        · exact hdyq p hpd (pb, W.listOf #[] ep4) (by first | k_mem | simp [quL]) e
        · exact o5' p (List.mem_cons_of_mem _ (List.mem_append_right _ hpd)) e
      obtain ⟨⟨c1, c2, c3, c4⟩, ⟨c5, c6, c7⟩, ⟨c8, c9⟩, c10⟩ : ((L' + 1 ≠ q) ∧ (L' + 1 ≠ dq) ∧ (L' + 1 ≠ pb) ∧ (L' + 1 ≠ D5)) ∧ (q ≠ dq ∧ q ≠ pb ∧ q ≠ D5) ∧ (dq ≠ pb ∧ dq ≠ D5) ∧ pb ≠ D5 := by
        simp only [List.nodup_cons, List.mem_cons, List.not_mem_nil, or_false, not_or, not_false_eq_true, and_true, List.nodup_nil] at hfx
        exact hfx
      rename Fr _ _ _ _ => F6
      rename News _ _ _ _ => N6
      refine for_over (g := g') (L := L') tbl.length (fun i v => ∃ ws t, tbl[i]? = some ws ∧ v = .str (tx (lineOf ws)) t) (fun nw => (D5, lst ys5) ∈ nw) s.os (fun i news m gs => AllBare gs ∧ ∃ its bs ep, news = (L' + 1, oq4) :: (q, instObj 82 dq) :: (dq, dictOf es5 n5) :: (pb, W.listOf its.toArray ep) :: (D5, lst ys5) :: (bs.flatten ++ dz) ∧ LexQ its bs (tbl.take i) ∧ Apart bs ∧
        Off bs ([L' + 1, q, dq, pb, D5] ++ dz.map (·.1))) q1 hh i4 (by rw [← hen]; rfl) ?iter2 ?hS2 ?turn2 ?fin2 (by intro _; rfl)
      case iter2 =>
        walk1
        refine ⟨_, _, F6, N6, .inl ⟨D5, ys5.toArray, rfl, .inr ⟨lst ys5, by simp, rfl, _, rfl⟩, by simp [hy5.1], fun i v hv => ?_, fun nw hm => .inr ⟨_, hm, rfl, _, rfl⟩⟩, by simp, hos5, G5, [], [], ep4, rfl, trivial, List.Pairwise.nil, fun _ h => nomatch h⟩
        exact hy5.2 i v (by simpa using hv)
      case hS2 =>
        rintro i news m gs ⟨_, its, bs, ep, rfl, _⟩
        simp
      case turn2 =>
        rintro i news v I oI m7 s7 E7 hi ⟨ws, tv, hws, rfl⟩ ⟨G7, its, bs, ep, rfl, hq7, hap, hof⟩ hos7 F7 N7 off7
        have okw := hok.2.2 ws (List.mem_of_getElem? hws)
        show wpAny _ _ _ _ _ _
        k_fold
        kas_types
        refine lx_new ⟨X', T', F7.keep⟩ hh (by simp only [depth_deeper]; omega) ?_ (Nat.le_trans (lineOf_length okw.2.2) (by omega)) ?_
        · rw [units_deeper]; omega
        intro x d sx dsx pb2 fs h8 tk8 k8 fr8 I8
        obtain ⟨b, hb, Ob, hbm⟩ := lx_block I8 (Rest.start okw.1 okw.2.2 okw.2.1)
        have k8' : ∀ b o, s7.heap.get? b = some o → h8.get? b = some o := fun b o e => k8 b o e (fun q => nomatch q)
        have F8 := F7.keeps k8'
        have N8 := N7.grown k8'
        kas_types
        have Oq8 : Own g' h8 [(q, instObj 82 dq), (dq, dictOf es5 n5), (pb, W.listOf its.toArray ep)] := fun p hp => Own.of_news N8 p (by simp at hp; rcases hp with rfl | rfl | rfl <;> first | kse_has | simp)
        have hlq := hq7.length
        refine q_push ⟨X', T', F8.keep⟩ (by simp only [depth_deeper]; omega) ⟨es5, n5, ep, Oq8, A6⟩ (by rw [hlq.1, List.length_take]; have := hok.2.1; omega) ?_
        intro h9 tk9 k9 Q9
        obtain ⟨es9, n9, ep9, O9, _⟩ := Q9
        have hpb9 := (O9 (pb, W.listOf (its ++ [Value.ref x]).toArray ep9) (by first | kse_has | simp)).1
        dsimp only at hpb9
        kas_types
        all_goals (repeat' (first | (dsimp only) | (k_unfold; dsimp only)))
        · exact .inl rfl
        have frb : ∀ p ∈ b, s7.heap.get? p.1 = none := fun p hp => fr8 _ (hbm p hp)
        have inh : ∀ {a : Addr} {o : Obj}, s7.heap.get? a = some o → ∀ p ∈ b, p.1 ≠ a := fun e p hp q => by rw [← q, frb p hp] at e; cases e
        have hL7 : ∃ o, s7.heap.get? L' = some o := by obtain ⟨o, _, _, e, _⟩ := F7.ns; exact ⟨o, e⟩
        obtain ⟨oL7, hoL7⟩ := hL7
        have hpbI : pb ≠ I := off7 (pb, W.listOf its.toArray ep) (by first | kse_has | simp)
        refine ⟨_, _, Mine.Fr.swap F8 N8 (o := W.listOf its.toArray ep) (by first | kse_has | simp) k9, push_news (fx := [(I, oI), (L' + 1, oq4), (q, instObj 82 dq), (dq, dictOf es5 n5)]) (r := [(D5, lst ys5)]) (bs := bs) (dz := dz) N8 Ob (inh hoL7) k9 hpb9 ?_ ?_ ?_ (inh (N7 (pb, W.listOf its.toArray ep) (by first | kse_has | simp)).1), ?_, hos7, G7, its ++ [.ref x], bs ++ [b], ep9, rfl, ?_, ?_, ?_⟩
        · intro p hp
          simp only [List.mem_append, List.mem_cons, List.not_mem_nil, or_false] at hp
          rcases hp with (rfl | rfl | rfl | rfl) | rfl
          · exact hpbI.symm
          · exact c3
          · exact c6
          · exact c8
          · exact c10.symm
        · exact fun p hp e => hof.flat hp (by rw [e]; first | kse_has | simp)
        · exact fun p hp e => hdzx p hp (by rw [e]; first | kse_has | simp)
        · intro p hp
          replace hp : p ∈ (L' + 1, oq4) :: (q, instObj 82 dq) :: (dq, dictOf es5 n5) :: (pb, W.listOf (its ++ [Value.ref x]).toArray ep9) :: (D5, lst ys5) :: ((bs ++ [b]).flatten ++ dz) := hp
          simp only [List.mem_cons, List.mem_append, List.flatten_append, List.flatten_cons, List.flatten_nil, List.append_nil] at hp
          rcases hp with rfl | rfl | rfl | rfl | rfl | (hp | hp) | hp
          · exact off7 _ (by first | kse_has | simp)
          · exact off7 _ (by first | kse_has | simp)
          · exact off7 _ (by first | kse_has | simp)
          · exact hpbI
          · exact off7 _ (by first | kse_has | simp)
          · exact off7 p (by simp only [List.mem_cons, List.mem_append]; exact .inr (.inr (.inr (.inr (.inr (.inl hp))))))
          · exact inh (N7 (I, oI) (.head _)).1 p hp
          · exact off7 p (by first | kse_has | simp [hp])
        · rw [take_get hws]
          exact LexQ.snoc ⟨x, rfl, hb⟩ hq7
        · refine Apart.snoc hap fun b' hb' p hp y hy e => ?_
          exact inh (N7 p (by simp only [List.mem_cons, List.mem_append, List.mem_flatten]; exact .inr (.inr (.inr (.inr (.inr (.inr (.inl ⟨b', hb', hp⟩))))))) ).1 y hy e.symm
        · refine Off.snoc hof fun p hp hm => ?_
          simp only [List.mem_append, List.mem_cons, List.not_mem_nil, or_false, List.mem_map] at hm
          rcases hm with (e | e | e | e | e) | ⟨y, hy, e⟩
          · exact inh (N7 (L' + 1, oq4) (by first | kse_has | simp)).1 p hp e
          · exact inh (N7 (q, instObj 82 dq) (by first | kse_has | simp)).1 p hp e
          · exact inh (N7 (dq, dictOf es5 n5) (by first | kse_has | simp)).1 p hp e
          · exact inh (N7 (pb, W.listOf its.toArray ep) (by first | kse_has | simp)).1 p hp e
          · exact inh (N7 (D5, lst ys5) (by first | kse_has | simp)).1 p hp e
          · exact inh (N7 y (by first | kse_has | simp [hy])).1 p hp e.symm
      case fin2 =>
        rintro s9 m9 news9 F9 N9 hos9 ⟨G9, its, bs, ep, rfl, hq9, hap, hof⟩
        rw [List.take_length] at hq9
        replace N9 : News g' L' s9.heap ((L' + 1, oq4) :: (q, instObj 82 dq) :: (dq, dictOf es5 n5) :: (pb, W.listOf its.toArray ep) :: (bs.flatten ++ dz)) := fun p hp => N9 p (by
          simp only [List.mem_cons] at hp ⊢
          rcases hp with h | h | h | h | h
          · exact .inl h
          · exact .inr (.inl h)
          · exact .inr (.inr (.inl h))
          · exact .inr (.inr (.inr (.inl h)))
          · exact .inr (.inr (.inr (.inr (.inr h)))))
        clear F6 N6
        generalize hdw : bs.flatten ++ dz = dw at N9
        kas_types
        rename Fr _ _ _ _ => F10
        rename News _ _ _ _ => N10
        obtain ⟨T, rfl⟩ := fst_of N10
        rename _ ∧ _ => l10
        have hTdz : ∀ p ∈ dz, p.1 ≠ T := fun p hp => AllNe.mem (allNe_lt l10.2.2.2.2) p (by rw [← hdw]; exact List.mem_append_right _ hp)
        refine while_by (fun k s => ∃ m its bs wss ep tls tb done tn, s.os = s9.os ∧ AllBare s.gens ∧ Fr g' L' s.heap m ∧ m (Str.ofString "turned") = some (.ref T) ∧
          News g' L' s.heap ((L' + 1, oq4) :: (q, instObj 82 dq) :: (dq, dictOf es5 n5) :: (pb, W.listOf its.toArray ep) :: (T, W.listOf tls.toArray tn) :: (bs.flatten ++ (tb ++ dz))) ∧
          LexQ its bs wss ∧ Apart bs ∧ Off bs ([L' + 1, q, dq, pb, T] ++ (tb ++ dz).map (·.1)) ∧ (∀ p ∈ tb, p.1 ∉ [L' + 1, q, dq, pb, T]) ∧ ToldQ tls tb done ∧ tls.length ≤ 12 ∧ k ≤ 12 ∧ tls.length + k = 12 ∧
          rounds 12 tbl = done ++ rounds k wss ∧ (∀ ws ∈ wss, ws.length + 1 ≤ k) ∧ (∀ ws ∈ wss, ∀ x ∈ ws, IsWord x) ∧ wss.length ≤ 9) 12 ?init ?turn3
        case init =>
          have hTd : AllNe T dw := allNe_lt l10.2.2.2.2
          refine ⟨_, its, bs, tbl, ep, [], [], [], 0, rfl, G9, F10, if_pos rfl, fun p hp => N10 p ?_, hq9, hap, ?_, (fun _ h => nomatch h), trivial, by simp, Nat.le_refl _, rfl, rfl, fun ws hw => by have := (hok.2.2 ws hw).2.1; omega, fun ws hw => (hok.2.2 ws hw).2.2, hok.2.1⟩
          · rw [← hdw]
            simp only [List.mem_cons, List.mem_append, List.not_mem_nil, false_or] at hp ⊢
            rcases hp with h | h | h | h | h | h
            · exact .inr (.inl h)
            · exact .inr (.inr (.inl h))
            · exact .inr (.inr (.inr (.inl h)))
            · exact .inr (.inr (.inr (.inr (.inl h))))
            · exact .inl h
            · exact .inr (.inr (.inr (.inr (.inr h))))
          · intro b hb p hp hm
            have h1 := hof b hb p hp
            have h2 := AllNe.mem hTd p (by rw [← hdw]; exact List.mem_append_left _ (List.mem_flatten.mpr ⟨b, hb, hp⟩))
            simp only [List.mem_append, List.mem_cons, List.not_mem_nil, or_false, List.nil_append, not_or] at hm h1
            rcases hm with (h | h | h | h | h) | h
            · exact h1.1.1 h
            · exact h1.1.2.1 h
            · exact h1.1.2.2.1 h
            · exact h1.1.2.2.2.1 h
            · exact h2 h
            · exact h1.2 h
        case turn3 =>
          rintro E10 k10 s10 ⟨m, its, bs, wss, ep, tls, tb, done, tn, hos, Gs, F, hm, N, hq, hap, hof, htb, htq, htl, hk12, hsum, hrd, hws, hww, hwn⟩
          clear F10 N10
          cases its with
          | nil =>
            have hlq := hq.length
            obtain rfl : wss = [] := List.eq_nil_of_length_eq_zero hlq.1.symm
            obtain rfl : bs = [] := List.eq_nil_of_length_eq_zero hlq.2
            kas_types
            refine len_led (by assumption) (by k_mem) (by first | kse_has | simp) fun t11 k11 => ?_
            kas_types
            refine slice_list3 (items := tls.toArray) F N ⟨W.listOf tls.toArray tn, (N (T, W.listOf tls.toArray tn) (by first | kse_has | simp)).1, rfl, _, rfl⟩ .none (.int _ _) .none (by decide) ?_ (by with_unfolding_all rfl) (by intro _; with_unfolding_all rfl) (by rw [List.size_toArray, sizeLine_eq]; omega)
            intro h12 F12 N12
            rw [slice_front] at N12
            kas_types
            all_goals (repeat' (first | (dsimp only) | (k_unfold; dsimp only)))
            have hdone : rounds 12 tbl = done := by rw [hrd, rounds_nil, List.append_nil]
            have Nz : ∀ p ∈ tb ++ dz, h12.get? p.1 = some p.2 ∧ p.1 ≠ L' ∧ g'.get? p.1 = none := fun p hp => N12 p (by simp only [List.mem_cons, List.mem_append] at hp ⊢; rcases hp with h | h <;> first | kse_has | simp [h])
            have hgh : ∀ b o, g.get? b = some o → h12.get? b = some o := fun b o e => F12.keep b o (hg9 b o e)
            obtain ⟨ps12, hps12⟩ := (hT4.up (h' := h12) (fun p hp => ⟨(Nz p (by rw [← hdz]; first | kse_has | simp [hp])).1, (Nz p (by rw [← hdz]; first | kse_has | simp [hp])).2.2⟩) (fun _ _ e => e)).s F12.keep
            obtain ⟨ts12, hts12⟩ := (hps12.back hg9).t hgh
            refine hret _ _ tj1 ts12 (fun b o e n => F12.keep b o (hG9 b o e n)) ⟨fun p hp => ⟨(Nz p (by rw [← hdz]; first | kse_has | simp [hp])).1, none_of hg9 (Nz p (by rw [← hdz]; first | kse_has | simp [hp])).2.2⟩, hj1⟩ hts12 Gs (hos.trans hos9) ?_
            rw [turnedOf, hdone]
            exact htq.rows (N12 _ (.head _)).1 (fun p hp => (Nz p (by first | kse_has | simp [hp])).1)
          | cons v its =>
            obtain ⟨j, rfl⟩ : ∃ j, k10 = j + 1 := by
              cases wss with
              | nil => have := hq.length.1; simp at this
              | cons ws wss => have := hws ws (List.mem_cons_self ..); exact ⟨k10 - 1, by omega⟩
            have hlq := hq.length
            have hpos : (0 : Int) < ((v :: its).toArray.size : Int) := by simp only [List.size_toArray, List.length_cons]; omega
            have hsz9 : (v :: its).length ≤ 9 := hlq.1 ▸ hwn
            generalize hits : v :: its = ws9 at N hq hpos hlq hsz9
            kas_types
            refine len_led (by assumption) (by k_mem) (by simp only [List.size_toArray]; omega) fun t11 k11 => ?_
            kas_types
            rename Fr _ _ _ _ => F13
            rename News _ _ _ _ => N13
            obtain ⟨D, rfl⟩ := fst_of N13
            rename _ ∧ _ => l13
            refine for_over (g := g') (L := L') ws9.length (fun _ _ => True) (fun _ => True) s.os (fun i news m gs => AllBare gs ∧ m (Str.ofString "told") = some (.ref D) ∧ m (Str.ofString "turned") = some (.ref T) ∧ ∃ todo back bsT bsD words ep dn,
              news = (L' + 1, oq4) :: (q, instObj 82 dq) :: (dq, dictOf es5 n5) :: (pb, W.listOf (todo ++ back).toArray ep) :: (T, W.listOf tls.toArray tn) :: (D, W.listOf words dn) :: ((bsT ++ bsD).flatten ++ (tb ++ dz)) ∧ LexQ todo bsT (wss.drop i) ∧ LexQ back bsD (tails (wss.take i)) ∧
              Words words (heads (wss.take i)) ∧ Apart (bsT ++ bsD) ∧ Off (bsT ++ bsD) ([L' + 1, q, dq, pb, T, D] ++ (tb ++ dz).map (·.1))) q1 hh i7 q7 ?iter3 (fun _ _ _ _ _ => trivial) ?turn4 ?fin4 (by intro _; rfl)
            case iter3 =>
              kas_types
              refine len_led (by assumption) (by k_mem) (by simp only [List.size_toArray]; omega) fun t12 k12 => ?_
              repeat' (first | (k_unfold; (try dsimp only)) | ((fail_if_success (with_reducible show wpAny _ _ (call _ _) _ _ _)); walk1))
              walk1
              rename IsRange _ _ _ _ _ _ _ _ => R14
              rename Fr _ _ _ _ => F14
              rename News _ _ _ _ => N14
              have hTd := allNe_lt l13.2.2.2.2.2
              obtain ⟨rs1, rs2⟩ := range_small ws9.length (by omega)
              refine ⟨_, _, F14, fun p hp => N14 p ?_, .inr ⟨_, _, _, _, _, rfl, R14, ?_, ?_, fun _ _ => trivial⟩, trivial, hos.trans hos9, Gs, if_pos rfl, if_keep (by decide +kernel) hm, ws9, [], bs, [], #[], ep, 0, rfl, by simpa using hq, ?_, ?_, by simpa using hap, ?_⟩
              · simp only [List.append_nil, List.mem_cons] at hp ⊢
                rcases hp with h | h | h | h | h | h | h
                · exact .inr (.inl h)
                · exact .inr (.inr (.inl h))
                · exact .inr (.inr (.inr (.inl h)))
                · exact .inr (.inr (.inr (.inr (.inl h))))
                · exact .inr (.inr (.inr (.inr (.inr (.inl h)))))
                · exact .inl h
                · exact .inr (.inr (.inr (.inr (.inr (.inr h)))))
              · rw [List.size_toArray]; exact rs1
              · rw [List.size_toArray]; exact rs2
              · simp [tails, LexQ]
              · exact ⟨by simp [heads], fun i v h => by simp at h⟩
              · rw [List.append_nil]
                intro b hb p hp hx
                have h1 := hof b hb p hp
                have h2 := AllNe.mem hTd p (List.mem_append_left _ (List.mem_flatten.mpr ⟨b, hb, hp⟩))
                simp only [List.mem_append, List.mem_cons, List.not_mem_nil, or_false, not_or] at hx h1
                rcases hx with h | h | h | h | h | h | h
                · exact h1.1.1 h
                · exact h1.1.2.1 h
                · exact h1.1.2.2.1 h
                · exact h1.1.2.2.2.1 h
                · exact h1.1.2.2.2.2 h
                · exact h2 h
                · exact h1.2 h
            case turn4 =>
              rintro i news v15 I oI m15 s15 E15 hi _ ⟨G15, htold, hturned, todo, back, bsT, bsD, words, ep15, dn, rfl, hqT, hqD, hwd, hap15, hof15⟩ hos15 F15 N15 off15
              clear F13 N13
              have hiw : wss[i]? = some wss[i] := List.getElem?_eq_getElem (by omega)
              generalize wss[i] = ws at hiw
              have hwsi := hws ws (List.mem_of_getElem? hiw)
              rw [drop_get hiw] at hqT
              cases todo with
              | nil => cases bsT <;> cases hqT
              | cons v0 todo =>
              cases bsT with
              | nil => cases hqT
              | cons b0 bsT =>
              obtain ⟨⟨x, rfl, d, sx, dsx, pb2, fs, es, n, es2, n2, r4, line, pos, st0, hb0, hr4, aL, sP, R, ndb⟩, hqT⟩ := hqT
              -- the blocks left
              have hapX : Apart (b0 :: (bsT ++ bsD)) := hap15
              have hap1 : ∀ b ∈ bsT ++ bsD, ∀ p ∈ b0, ∀ y ∈ b, p.1 ≠ y.1 := fun b hb => (List.pairwise_cons.mp hapX).1 b hb
              have hap2 : Apart (bsT ++ bsD) := (List.pairwise_cons.mp hapX).2
              have hof1 : ∀ p ∈ b0, p.1 ∉ [L' + 1, q, dq, pb, T, D] ++ (tb ++ dz).map (·.1) := hof15 _ (List.mem_cons_self ..)
              have hof2 : Off (bsT ++ bsD) ([L' + 1, q, dq, pb, T, D] ++ (tb ++ dz).map (·.1)) := fun b hb => hof15 b (List.mem_cons_of_mem _ hb)
              have htD := allNe_lt l13.2.2.2.2.2
              have hTD : ∀ p ∈ tb ++ dz, p.1 ≠ D := fun p hp => AllNe.mem htD p (List.mem_append_right _ hp)
              have htz : ∀ p ∈ tb ++ dz, p.1 ≠ pb := fun p hp e => by
                rcases List.mem_append.mp hp with hp | hp
                · exact htb p hp (by rw [e]; first | kse_has | simp)
                · exact hdzx p hp (by rw [e]; first | kse_has | simp)
              have N15' : News g' L' s15.heap ((I, oI) :: (L' + 1, oq4) :: (q, instObj 82 dq) :: (dq, dictOf es5 n5) :: (pb, W.listOf (Value.ref x :: (todo ++ back)).toArray ep15) :: (T, W.listOf tls.toArray tn) :: (D, W.listOf words dn) :: (b0 ++ (bsT ++ bsD).flatten ++ (tb ++ dz))) := N15
              have off15' : ∀ p ∈ (L' + 1, oq4) :: (q, instObj 82 dq) :: (dq, dictOf es5 n5) :: (pb, W.listOf (Value.ref x :: (todo ++ back)).toArray ep15) :: (T, W.listOf tls.toArray tn) :: (D, W.listOf words dn) :: (b0 ++ (bsT ++ bsD).flatten ++ (tb ++ dz)), p.1 ≠ I := off15
              clear N15 off15
              rw [List.append_assoc] at N15' off15'
              generalize hdv : (bsT ++ bsD).flatten ++ (tb ++ dz) = dv at N15' off15'
              have z1 : L' + 1 ≠ I := off15' (L' + 1, oq4) (by first | kse_has | simp)
              have z2 : q ≠ I := off15' (q, instObj 82 dq) (by first | kse_has | simp)
              have z3 : dq ≠ I := off15' (dq, dictOf es5 n5) (by first | kse_has | simp)
              have z4 : pb ≠ I := off15' (pb, W.listOf (Value.ref x :: (todo ++ back)).toArray ep15) (by first | kse_has | simp)
              have z5 : T ≠ I := off15' (T, W.listOf tls.toArray tn) (by first | kse_has | simp)
              have z6 : D ≠ I := off15' (D, W.listOf words dn) (by first | kse_has | simp)
              have hdvo : ∀ p ∈ dv, p.1 ≠ pb ∧ p.1 ≠ D ∧ p.1 ≠ I := fun p hp => by
                have hI : p.1 ≠ I := off15' p (by first | kse_has | simp [hp])
                rw [← hdv] at hp
                rcases List.mem_append.mp hp with hp | hp
                · exact ⟨fun e => hof2.flat hp (by rw [e]; first | kse_has | simp), fun e => hof2.flat hp (by rw [e]; first | kse_has | simp), hI⟩
                · exact ⟨htz p hp, hTD p hp, hI⟩
              have hIb : ∀ p ∈ b0, p.1 ≠ I := fun p hp => off15' p (by first | kse_has | simp [hp])
              have hblk : ∀ p ∈ b0, ∀ y ∈ dv, p.1 ≠ y.1 := fun p hp y hy e => by
                rw [← hdv] at hy
                rcases List.mem_append.mp hy with hy | hy
                · obtain ⟨b, hb, hy⟩ := List.mem_flatten.mp hy
                  exact hap1 b hb p hp y hy e
                · exact hof1 p hp (List.mem_append_right _ (by rw [e]; exact List.mem_map_of_mem hy))
              have hpbo : ∀ p ∈ [(I, oI), (L' + 1, oq4), (q, instObj 82 dq), (dq, dictOf es5 n5)] ++ ((T, W.listOf tls.toArray tn) :: (D, W.listOf words dn) :: (b0 ++ dv)), p.1 ≠ pb := fun p hp => by
                simp only [List.mem_append, List.mem_cons, List.not_mem_nil, or_false] at hp
                rcases hp with (rfl | rfl | rfl | rfl) | rfl | rfl | hp | hp
                · exact z4.symm
                · exact c3
                · exact c6
                · exact c8
                · exact Nat.ne_of_gt l10.2.2.2.1
                · exact Nat.ne_of_gt l13.2.2.2.1
                · exact fun e => hof1 p hp (by rw [e]; first | kse_has | simp)
                · exact (hdvo p hp).1
              have hn15 : (todo ++ back).length ≤ 1000 := by
                have h1 := hqT.length.1
                have h2 := hqD.length.1
                have h3 := tails_length (wss.take i)
                rw [List.length_drop] at h1
                rw [List.length_take] at h3
                rw [List.length_append]; omega
              show wpAny _ _ _ _ _ _
              k_fold
              kas_types
              have Oq15 : Own g' s15.heap [(q, instObj 82 dq), (dq, dictOf es5 n5), (pb, W.listOf (Value.ref x :: (todo ++ back)).toArray ep15)] := fun p hp => Own.of_news N15' p (by
                simp only [List.mem_cons, List.not_mem_nil, or_false] at hp
                rcases hp with rfl | rfl | rfl <;> first | kse_has | simp)
              refine q_pop (v := .ref x) (its := todo ++ back) ⟨X', T', F15.keep⟩ (by simp only [depth_deeper]; omega) ⟨es5, n5, ep15, Oq15, A6⟩ hn15 ?_
              intro h18 tk18 k18 Q18
              obtain ⟨es18, n18, ep18, O18, _⟩ := Q18
              have hpb18 := (O18 (pb, W.listOf (todo ++ back).toArray ep18) (by first | kse_has | simp)).1
              dsimp only at hpb18
              have F18 := Mine.Fr.swap F15 N15' (o := W.listOf (Value.ref x :: (todo ++ back)).toArray ep15) (by first | kse_has | simp) k18
              have N18 := News.put (pre := [(I, oI), (L' + 1, oq4), (q, instObj 82 dq), (dq, dictOf es5 n5)]) N15' k18 hpb18 hpbo
              clear F15 N15'
              rw [hb0] at N18
              simp only [lxL, List.cons_append, List.nil_append] at N18
              have aL2 := aL.m2
              generalize hdu : r4 ++ dv = du at N18
              kas_types
              show wpAny _ _ (call (.ref 735) [.ref x]) _ _ _
              rename Fr _ _ _ _ => F19
              rename News _ _ _ _ => N19
              have N20 : News g' L' _ (((I, oI) :: (L' + 1, oq4) :: (q, instObj 82 dq) :: (dq, dictOf es5 n5) :: (pb, W.listOf (todo ++ back).toArray ep18) :: (T, W.listOf tls.toArray tn) :: (D, W.listOf words dn) :: []) ++ (lxL x d sx dsx pb2 es n es2 n2 r4 ++ dv)) := fun p hp => N19 p (by
                rw [← hdu]
                simpa only [lxL, List.cons_append, List.nil_append] using hp)
              have hfx20 : ∀ p ∈ lxL x d sx dsx pb2 es n es2 n2 r4, ∀ y ∈ ((I, oI) :: (L' + 1, oq4) :: (q, instObj 82 dq) :: (dq, dictOf es5 n5) :: (pb, W.listOf (todo ++ back).toArray ep18) :: (T, W.listOf tls.toArray tn) :: (D, W.listOf words dn) :: []) ++ dv, p.1 ≠ y.1 := fun p hp y hy => by
                rw [← hb0] at hp
                have h1 := hof1 p hp
                rcases List.mem_append.mp hy with hy | hy
                · simp only [List.mem_cons, List.not_mem_nil, or_false] at hy
                  rcases hy with rfl | rfl | rfl | rfl | rfl | rfl | rfl
                  · exact hIb p hp
                  · exact fun e => h1 (by rw [e]; first | kse_has | simp)
                  · exact fun e => h1 (by rw [e]; first | kse_has | simp)
                  · exact fun e => h1 (by rw [e]; first | kse_has | simp)
                  · exact fun e => h1 (by rw [e]; first | kse_has | simp)
                  · exact fun e => h1 (by rw [e]; first | kse_has | simp)
                  · exact fun e => h1 (by rw [e]; first | kse_has | simp)
                · exact hblk p hp y hy
              have Olx := lx_of (Own.sub (Own.of_news N20) (fun p hp => List.mem_append_right _ (List.mem_append_left _ hp))) hr4 aL sP
              have hlen20 := R.1
              clear N19
              cases ws with
              | nil =>
                obtain ⟨rfl, rfl⟩ := R.done
                refine get_token_none ⟨X', T', F19.keep⟩ hh (by simp only [depth_deeper]; omega) hlen20 Olx ?_
                intro h21 tk21 k21 I21
                obtain ⟨F21, N21, _⟩ := lex_news (b := []) F19 N20 hr4 k21 hfx20 (fun _ h => nomatch h) (fun _ h => nomatch h)
                simp only [List.cons_append, List.nil_append] at N21
                clear F19 N20
                kas_types
                · exact .inl rfl
                rename Fr _ _ _ _ => F22
                rename News _ _ _ _ => N22
                refine ⟨_, _, F22, N22, fun p hp => ?_, hos15, G15, Look.is (by ktr_rel), Look.is (by ktr_rel), todo, back, bsT, bsD, words, ep18, dn, by rw [hdv], hqT, ?_, ?_, hap2, hof2⟩
                · simp only [List.mem_cons] at hp
                  rcases hp with rfl | rfl | rfl | rfl | rfl | rfl | hp
                  · exact z1
                  · exact z2
                  · exact z3
                  · exact z4
                  · exact z5
                  · exact z6
                  · exact (hdvo p hp).2.2
                · rw [tails_take hiw]; simpa only [tl1, List.append_nil] using hqD
                · rw [heads_take hiw]; simpa only [hd1, List.append_nil] using hwd
              | cons wd ws =>
                obtain ⟨pre, suf, rfl, rfl, hline, hsuf, R'⟩ := R.step
                refine get_token_ok ⟨X', T', F19.keep⟩ hh (by simp only [depth_deeper]; omega) hlen20 hline (word_signs (hww _ (List.mem_of_getElem? hiw) wd (List.mem_cons_self ..))) hsuf Olx ?_
                intro h21 tk21 t21 k21 I21
                obtain ⟨b', hb', Ob', hbm'⟩ := lx_block I21 R'
                obtain ⟨F21, N21, hbo⟩ := lex_news F19 N20 hr4 k21 hfx20 Ob' hbm'
                simp only [List.cons_append, List.nil_append] at N21
                clear F19 N20
                have hbI : ∀ p ∈ b', p.1 ≠ I := fun p hp => hbo p hp (I, oI) (by first | kse_has | simp)
                have hbD : ∀ p ∈ b', p.1 ≠ D := fun p hp => hbo p hp (D, W.listOf words dn) (by first | kse_has | simp)
                have hbP : ∀ p ∈ b', p.1 ≠ pb := fun p hp => hbo p hp (pb, W.listOf (todo ++ back).toArray ep18) (by first | kse_has | simp)
                have hwl : words.size ≤ 1000 := by
                  rw [hwd.1]
                  have := List.length_filterMap_le List.head? (wss.take i)
                  rw [List.length_take] at this
                  show (heads (wss.take i)).length ≤ 1000
                  unfold heads; omega
                generalize hdx2 : b' ++ dv = dx2 at N21
                have hx2 : ∀ p ∈ dx2, p.1 ≠ pb ∧ p.1 ≠ D ∧ p.1 ≠ I := fun p hp => by
                  rw [← hdx2] at hp
                  rcases List.mem_append.mp hp with hp | hp
                  · exact ⟨hbP p hp, hbD p hp, hbI p hp⟩
                  · exact hdvo p hp
                kas_types
                rename Fr _ _ _ _ => F22
                rename News _ _ _ _ => N22
                refine app_led (its := words) (n := dn) N22 (by first | kse_has | simp) hwl ?_
                intro h23 tk23 k23 e23
                have F23 := Mine.Fr.swap F22 N22 (o := W.listOf words dn) (by first | kse_has | simp) k23
                have N23 := News.put (pre := [(I, oI), (L' + 1, oq4), (q, instObj 82 dq), (dq, dictOf es5 n5), (pb, W.listOf (todo ++ back).toArray ep18), (T, W.listOf tls.toArray tn)]) (post := dx2) N22 k23 e23 (fun p hp => by
                  simp only [List.mem_append, List.mem_cons, List.not_mem_nil, or_false] at hp
                  rcases hp with (rfl | rfl | rfl | rfl | rfl | rfl) | hp
                  · exact z6.symm
                  · exact Nat.ne_of_lt l13.1
                  · exact Nat.ne_of_lt l13.2.1
                  · exact Nat.ne_of_lt l13.2.2.1
                  · exact Nat.ne_of_lt l13.2.2.2.1
                  · exact Nat.ne_of_lt l13.2.2.2.2.1
                  · exact (hx2 p hp).2.1)
                simp only [List.cons_append, List.nil_append] at N23
                clear F22 N22
                kas_types
                have Oq23 : Own g' h23 [(q, instObj 82 dq), (dq, dictOf es5 n5), (pb, W.listOf (todo ++ back).toArray ep18)] := fun p hp => Own.of_news N23 p (by
                  simp only [List.mem_cons, List.not_mem_nil, or_false] at hp
                  rcases hp with rfl | rfl | rfl <;> first | kse_has | simp)
                refine q_push (its := todo ++ back) ⟨X', T', F23.keep⟩ (by simp only [depth_deeper]; omega) ⟨es5, n5, ep18, Oq23, A6⟩ hn15 ?_
                intro h24 tk24 k24 Q24
                obtain ⟨es24, n24, ep24, O24, _⟩ := Q24
                have hpb24 := (O24 (pb, W.listOf (todo ++ back ++ [Value.ref x]).toArray ep24) (by first | kse_has | simp)).1
                dsimp only at hpb24
                have F24 := Mine.Fr.swap F23 N23 (o := W.listOf (todo ++ back).toArray ep18) (by first | kse_has | simp) k24
                have N24 := News.put (pre := [(I, oI), (L' + 1, oq4), (q, instObj 82 dq), (dq, dictOf es5 n5)]) N23 k24 hpb24 (fun p hp => by
                  simp only [List.mem_append, List.mem_cons, List.not_mem_nil, or_false] at hp
                  rcases hp with (rfl | rfl | rfl | rfl) | rfl | rfl | hp
                  · exact z4.symm
                  · exact c3
                  · exact c6
                  · exact c8
                  · exact Nat.ne_of_gt l10.2.2.2.1
                  · exact Nat.ne_of_gt l13.2.2.2.1
                  · exact (hx2 p hp).1)
                clear F23 N23
                kas_types
                · exact .inl rfl
                refine ⟨(L' + 1, oq4) :: (q, instObj 82 dq) :: (dq, dictOf es5 n5) :: (pb, W.listOf (todo ++ (back ++ [Value.ref x])).toArray ep24) :: (T, W.listOf tls.toArray tn) :: (D, W.listOf (words.push (.str (tx wd) t21)) (dn + 1)) :: ((bsT ++ (bsD ++ [b'])).flatten ++ (tb ++ dz)), _, F24, fun p hp => N24 p ?_, fun p hp => ?_, hos15, G15, Look.is (by ktr_rel), Look.is (by ktr_rel), todo, back ++ [.ref x], bsT, bsD ++ [b'], _, ep24, dn + 1, rfl, hqT, ?_, ?_, ?_, ?_⟩
                · rw [← hdx2, ← hdv]
                  simp only [List.mem_cons, List.mem_append, List.flatten_append, List.flatten_cons, List.flatten_nil, List.append_nil, List.append_assoc, List.not_mem_nil, or_false, List.cons_append, List.nil_append] at hp ⊢
                  rcases hp with h | h | h | h | h | h | h | h | h | h | h
                  · exact .inl h
                  · exact .inr (.inl h)
                  · exact .inr (.inr (.inl h))
                  · exact .inr (.inr (.inr (.inl h)))
                  · exact .inr (.inr (.inr (.inr (.inl h))))
                  · exact .inr (.inr (.inr (.inr (.inr (.inl h)))))
                  · exact .inr (.inr (.inr (.inr (.inr (.inr (.inl h))))))
                  · exact .inr (.inr (.inr (.inr (.inr (.inr (.inr (.inr (.inl h))))))))
                  · exact .inr (.inr (.inr (.inr (.inr (.inr (.inr (.inr (.inr (.inl h)))))))))
                  · exact .inr (.inr (.inr (.inr (.inr (.inr (.inr (.inl h)))))))
                  · exact .inr (.inr (.inr (.inr (.inr (.inr (.inr (.inr (.inr (.inr h)))))))))
                · simp only [List.mem_cons, List.mem_append, List.flatten_append, List.flatten_cons, List.flatten_nil, List.append_nil] at hp
                  have hin : p ∈ dv ∨ p ∈ b' → p.1 ≠ I := fun h => (hx2 p (by rw [← hdx2]; exact List.mem_append.mpr h.symm)).2.2
                  rcases hp with rfl | rfl | rfl | rfl | rfl | rfl | (h | h | h) | h
                  · exact z1
                  · exact z2
                  · exact z3
                  · exact z4
                  · exact z5
                  · exact z6
                  · exact hin (.inl (by rw [← hdv]; simp only [List.flatten_append, List.mem_append]; exact .inl (.inl h)))
                  · exact hin (.inl (by rw [← hdv]; simp only [List.flatten_append, List.mem_append]; exact .inl (.inr h)))
                  · exact hin (.inr h)
                  · exact hin (.inl (by rw [← hdv]; simp only [List.mem_append]; exact .inr h))
                · rw [tails_take hiw]; exact LexQ.snoc ⟨x, rfl, hb'⟩ hqD
                · rw [heads_take hiw]; exact hwd.push
                · rw [← List.append_assoc]
                  refine Apart.snoc hap2 fun b'' hb'' p hp y hy e => hbo y hy p (List.mem_append_right _ ?_) e.symm
                  rw [← hdv]
                  exact List.mem_append_left _ (List.mem_flatten.mpr ⟨b'', hb'', hp⟩)
                · rw [← List.append_assoc]
                  refine Off.snoc hof2 fun p hp hm => ?_
                  rcases List.mem_append.mp hm with hm | hm
                  · simp only [List.mem_cons, List.not_mem_nil, or_false] at hm
                    rcases hm with e | e | e | e | e | e
                    · exact hbo p hp (L' + 1, oq4) (by first | kse_has | simp) e
                    · exact hbo p hp (q, instObj 82 dq) (by first | kse_has | simp) e
                    · exact hbo p hp (dq, dictOf es5 n5) (by first | kse_has | simp) e
                    · exact hbP p hp e
                    · exact hbo p hp (T, W.listOf tls.toArray tn) (by first | kse_has | simp) e
                    · exact hbD p hp e
                  · obtain ⟨y, hy, e⟩ := List.mem_map.mp hm
                    exact hbo p hp y (List.mem_append_right _ (by rw [← hdv]; exact List.mem_append_right _ hy)) e.symm
            case fin4 =>
              rintro s16 m16 news16 F16 N16 hos16 ⟨G16, htold, hturned, todo, back, bsT, bsD, words, ep16, dn, rfl, hqT, hqD, hwd, hap16, hof16⟩
              rw [hlq.1, List.drop_length] at hqT
              rw [hlq.1, List.take_length] at hqD hwd
              obtain rfl : todo = [] := List.eq_nil_of_length_eq_zero hqT.length.1
              obtain rfl : bsT = [] := List.eq_nil_of_length_eq_zero hqT.length.2
              simp only [List.nil_append] at N16 hap16 hof16
              clear F13 N13
              kas_types
              refine app_led N16 (its := tls.toArray) (n := tn) (by first | kse_has | simp) (by simp only [List.size_toArray]; omega) ?_
              intro h17 tk17 k17 e17
              have F17 := Mine.Fr.swap F16 N16 (o := W.listOf tls.toArray tn) (by first | kse_has | simp) k17
              have htD := allNe_lt l13.2.2.2.2.2
              have hofT : ∀ p ∈ bsD.flatten, p.1 ∉ [L' + 1, q, dq, pb, T, D] ++ (tb ++ dz).map (·.1) := fun p hp => hof16.flat hp
              have N17 := News.put (pre := [(L' + 1, oq4), (q, instObj 82 dq), (dq, dictOf es5 n5), (pb, W.listOf back.toArray ep16)]) (post := (D, W.listOf words dn) :: (bsD.flatten ++ (tb ++ dz))) N16 k17 e17 (fun p hp => by
                simp only [List.mem_append, List.mem_cons, List.not_mem_nil, or_false] at hp
                rcases hp with (rfl | rfl | rfl | rfl) | rfl | hp | hp | hp
                · exact Nat.ne_of_lt l10.1
                · exact Nat.ne_of_lt l10.2.1
                · exact Nat.ne_of_lt l10.2.2.1
                · exact Nat.ne_of_lt l10.2.2.2.1
                · exact Nat.ne_of_gt l13.2.2.2.2.1
                · exact fun e => hofT p hp (by rw [e]; first | kse_has | simp)
                · exact fun e => htb p hp (by rw [e]; first | kse_has | simp)
                · exact hTdz p hp)
              clear F16 N16
              kas_types
              all_goals (repeat' (first | (dsimp only) | (k_unfold; dsimp only)))
              have hne : wss ≠ [] := fun e => by rw [e] at hlq; rw [← hits] at hlq; simp at hlq
              refine ⟨⟨j, Nat.lt_succ_self j, m16, back, bsD, tails wss, ep16, tls ++ [.ref D], tb ++ [(D, W.listOf words dn)], done ++ [heads wss], tn + 1, hos16.trans hos9.symm, G16, F17, hturned, fun p hp => ?_, hqD, hap16, ?_, ?_, ToldQ.snoc (p := (D, W.listOf words dn)) ⟨rfl, words, dn, rfl, hwd⟩ htq, by simp; omega, by omega, by simp; omega, ?_, fun ws hw => ?_, fun ws hw x hx => ?_, Nat.le_trans (tails_length _) hwn⟩⟩
              · refine N17 p ?_
                simp only [List.push_toArray, List.mem_append, List.mem_cons, List.not_mem_nil, or_false] at hp ⊢
                rcases hp with h | h | h | h | h | h | (h | h) | h
                · exact .inl (.inl h)
                · exact .inl (.inr (.inl h))
                · exact .inl (.inr (.inr (.inl h)))
                · exact .inl (.inr (.inr (.inr h)))
                · exact .inr (.inl h)
                · exact .inr (.inr (.inr (.inl h)))
                · exact .inr (.inr (.inr (.inr (.inl h))))
                · exact .inr (.inr (.inl h))
                · exact .inr (.inr (.inr (.inr (.inr h))))
              · intro b hb p hp hm
                have h1 := hof16 b hb p hp
                replace hm : p.1 ∈ [L' + 1, q, dq, pb, T] ∨ p.1 ∈ ((tb ++ [(D, W.listOf words dn)]) ++ dz).map (·.1) := List.mem_append.mp hm
                replace h1 : ¬ (p.1 ∈ [L' + 1, q, dq, pb, T, D] ∨ p.1 ∈ (tb ++ dz).map (·.1)) := fun h => h1 (List.mem_append.mpr h)
                simp only [List.mem_append, List.mem_cons, List.not_mem_nil, or_false, not_or, List.map_append, List.map_cons, List.map_nil] at hm h1
                rcases hm with (h | h | h | h | h) | (h | h) | h
                · exact h1.1.1 h
                · exact h1.1.2.1 h
                · exact h1.1.2.2.1 h
                · exact h1.1.2.2.2.1 h
                · exact h1.1.2.2.2.2.1 h
                · exact h1.2.1 h
                · exact h1.1.2.2.2.2.2 h
                · exact h1.2.2 h
              · intro p hp
                rcases List.mem_append.mp hp with hp | hp
                · exact htb p hp
                · rw [List.mem_singleton.mp hp]
                  simp only [List.mem_cons, List.not_mem_nil, or_false, not_or]
                  exact ⟨Nat.ne_of_gt l13.1, Nat.ne_of_gt l13.2.1, Nat.ne_of_gt l13.2.2.1, Nat.ne_of_gt l13.2.2.2.1, Nat.ne_of_gt l13.2.2.2.2.1⟩
              · rw [hrd]
                show done ++ (if wss = [] then [] else heads wss :: rounds j (tails wss)) = _
                rw [if_neg hne]; simp
              · obtain ⟨w', hw'⟩ := tails_mem hw
                have := hws _ hw'
                simp only [List.length_cons] at this
                omega
              · obtain ⟨w', hw'⟩ := tails_mem hw
                exact hww _ hw' x (List.mem_cons_of_mem _ hx)
end
theorem reg_C18_end : True := by
  k_with_none
  trivial
-- CbK
section
open PyProof.Rows.LCg
abbrev cell0 : Obj := { cls := .type "cell", data := .cell none }
theorem newEnv_comp {M : Model} {A : Around} {E : Value → Shared → Prop} {s : Shared} {scope : Scope} {gl : Addr} {cl cl' : List (Str × Addr)} {qual : Str} {env : Env} {Q : Env → Shared → Prop} (hcf : cellsFrom (s.heap.objs.size + 1) scope.names cl = cl')
    (h : Q { scope, locals := s.heap.objs.size, globals := gl, cells := cl', qual, func := none, code := env.code, frame := env.frame, builtins := env.builtins } { s with heap := pushCells (s.heap.push { cls := .type "dict", data := .dict #[] }) scope.names }) :
    wpAny M A (newFunctionEnv scope gl cl [] qual none .none (some env)) Q E s := by
  simp only [newFunctionEnv, Option.isSome_some, if_true]
  refine wpAny_bind (wpAny_alloc ?_)
  refine wpAny_bind (wpAny_layCells _ (fun name kind cells => by cases hkc : kind == NameKind.cell <;> simp [hkc]) _ _ _ _ ?_)
  rw [show ({ s with heap := s.heap.push { cls := .type "dict", data := .dict #[] } } : Shared).heap.objs.size = s.heap.objs.size + 1 from Heap.size_push .., hcf]
  exact wpAny_bind (wpAny_pure (wpAny_pure h))
/-- behind a turn of a comprehension whose name is a cell -/
def TurnEndK (g : Heap) (L : Addr) (m : Str → Option Value) (I : Addr) (oI : Obj) (C : Addr) (oC : Obj) (K : Addr) (oK : Obj) (D : Addr) (oD : Obj) (os : OsState) (P : List (Addr × Obj) → Array GenState → Prop) (s : Shared) : Prop :=
  ∃ news, Fr g L s.heap m ∧ News g L s.heap ((I, oI) :: (C, oC) :: (K, oK) :: (D, oD) :: news) ∧ (∀ p ∈ news, p.1 ≠ I ∧ p.1 ≠ C ∧ p.1 ≠ K ∧ p.1 ≠ D) ∧ s.os = os ∧ P news s.gens
def CompTurnK (prog : Program) (w : World) (A : Around) (env : Env) (g : Heap) (L : Addr) (m : Str → Option Value) (elt : Expr) (x : Str) (scope : Scope) (cl : List (Str × Addr)) (os : OsState) (n : Nat) (P : Nat → Value → Prop) (J : Nat → List Value → List (Addr × Obj) → Array GenState → Prop) : Prop :=
  ∀ i ys news v I oI C oC K oK D (s : Shared) (E : Value → Shared → Prop), i < n → P i v → J i ys news s.gens → s.os = os → oK.data = .cell (some v) → Fr g L s.heap m → News g L s.heap ((I, oI) :: (C, oC) :: (K, oK) :: (D, lst ys) :: news) → (∀ p ∈ news, p.1 ≠ I ∧ p.1 ≠ C ∧ p.1 ≠ K ∧ p.1 ≠ D) →
    wpAny (model prog w) A (eval elt (compEnvC scope ((x, K) :: cl) C env)) (fun y s₃ => TurnEndK g L m I oI C oC K oK D (lst ys) os (J (i + 1) (ys ++ [y])) s₃) E s
section
variable {prog : Program} {w : World} {A : Around} {E : Value → Shared → Prop} {s : Shared} {env : Env} {g : Heap} {L : Addr} {m : Str → Option Value}
theorem compK_block {elt iter : Expr} {x : Str} {px : Pos} {scope : Scope} {cl : List (Str × Addr)} {pos : Pos} {I : Addr} {fp : List Addr} {n : Nat} {P : Nat → Value → Prop} {St : Nat → Heap → Prop} {S : List (Addr × Obj) → Prop} {news : List (Addr × Obj)}
    {J : Nat → List Value → List (Addr × Obj) → Array GenState → Prop} {RR : Value → Addr → Result → Shared → Prop}
    (W : Walks prog w A I fp [I] n P St) (hsz : n ≤ 1000) (hIo : ∀ i h, St i h → ∃ o, h.get? I = some o)
    (hSt : ∀ i h h' o nw, St i h → h.get? I = some o → h'.get? I = some o → (∀ b o, g.get? b = some o → h'.get? b = some o) → News g L h' nw → S nw → St i h') (hS : ∀ i ys news gs, J i ys news gs → S news)
    (hcf : ∀ n, cellsFrom n scope.names cl = (x, n) :: cl) (hpc : ∀ h, pushCells h scope.names = h.push cell0) (hkind : scope.kind = .function) (hx : ∀ cl C, (compEnvC scope cl C env).kindOf x = some .cell) (hst : St 0 s.heap) (hfp : ∀ b ∈ fp, b < s.heap.objs.size)
    (F : Fr g L s.heap m) (N : News g L s.heap news) (hIL : L ≠ I) (hI₀ : g.get? I = none) (off : ∀ p ∈ news, p.1 ≠ I) (hJ : J 0 [] news s.gens)
    (turn : CompTurnK prog w A env g L m elt x scope cl s.os n P J)
    (hRR : ∀ D C s' m' ys news', Fr g L s'.heap m → News g L s'.heap ((D, lst ys) :: news') → (∀ p ∈ news', p.1 ≠ D) → s'.heap.Ns C m' → g.get? C = none → g.get? D = none → C ≠ L → D ≠ L → C ≠ D → (∀ p ∈ news', p.1 ≠ C) → s'.os = s.os → J n ys news' s'.gens → RR (.ref D) C (.ok .next) s') :
    wpAny (model prog w) A (newList []) (fun acc s₃ => wpAny (model prog w) A (newFunctionEnv scope env.globals cl [] env.qual none .none (some env)) (fun cenv s₄ =>
      codeAny (model prog w) A (.compStart (.ListComp elt [⟨.Name x px, iter, [], 0⟩] scope pos) 0 (.ref I) acc { cenv with scope := relabel scope env }) (RR acc cenv.locals) s₄) E s₃) E s := by
  refine wpAny_newObj_type (newEnv_comp (hcf _) ?_)
  dsimp only
  rw [hpc]
  generalize hH1 : s.heap.push { cls := .type "list", dict := none, data := .seq ([] : List Value).toArray } = H1
  have sz1 : H1.objs.size = s.heap.objs.size + 1 := by rw [← hH1, Heap.size_push]
  generalize hC : H1.objs.size = C at *
  generalize hH2 : H1.push { cls := .type "dict", data := .dict #[] } = H2
  have sz2 : H2.objs.size = C + 1 := by rw [← hH2, Heap.size_push, hC]
  generalize hD : s.heap.objs.size = D at *
  have e1 : C = D + 1 := by rw [← hC, ← hD, ← hH1, Heap.size_push]
  have hDC : D ≠ C := by rw [e1]; exact Nat.ne_of_lt (Nat.lt_succ_self _)
  have hKC : C + 1 ≠ C := by omega
  have hKD : C + 1 ≠ D := by omega
  have below : ∀ b, b < D → b ≠ C ∧ b ≠ C + 1 ∧ b ≠ D := fun b hb => ⟨by omega, by omega, by omega⟩
  have old : ∀ b o, s.heap.get? b = some o → (H2.push cell0).get? b = some o := fun b o e => Heap.get?_push_of_some _ (hH2 ▸ Heap.get?_push_of_some _ (hH1 ▸ Heap.get?_push_of_some _ e))
  have gD : (H2.push cell0).get? D = some (lst []) := Heap.get?_push_of_some _ (hH2 ▸ Heap.get?_push_of_some _ (hH1 ▸ hD ▸ Heap.get?_push_size _ rfl))
  have gC : (H2.push cell0).get? C = some { cls := .type "dict", data := .dict #[] } := Heap.get?_push_of_some _ (hH2 ▸ hC ▸ Heap.get?_push_size _ rfl)
  have gK : (H2.push cell0).get? (C + 1) = some cell0 := sz2 ▸ Heap.get?_push_size _ rfl
  have nsC : (H2.push cell0).Ns C (fun _ => none) := by
    have := Heap.Ns.new H1 (.type "dict")
    rw [hC, hH2] at this
    exact this.push _
  generalize H2.push cell0 = h₁ at old gD gC gK nsC
  have hIlt : I < D := hfp I (W.sub I (List.mem_singleton.mpr rfl))
  have hIne := below I hIlt
  have hDf : D ∉ fp := fun hm => Nat.lt_irrefl _ (hfp _ hm)
  have hCf : C ∉ fp := fun hm => by
    have h9 := hfp _ hm
    rw [e1] at h9
    exact absurd h9 (Nat.not_lt.mpr (Nat.le_succ D))
  have hKf : C + 1 ∉ fp := fun hm => by
    have h9 := hfp _ hm
    rw [e1] at h9
    exact absurd h9 (Nat.not_lt.mpr (Nat.le_trans (Nat.le_succ D) (Nat.le_succ _)))
  have fresh₀ : ∀ a, D ≤ a → g.get? a = none := fun a ha => by
    cases e : g.get? a with
    | none => rfl
    | some o' => exact absurd (Heap.lt_size (F.keep a o' e)) (Nat.not_lt.mpr (hD ▸ ha))
  have hD₀ : g.get? D = none := fresh₀ _ (Nat.le_refl _)
  have hC₀ : g.get? C = none := fresh₀ _ (by rw [e1]; exact Nat.le_succ _)
  have hK₀ : g.get? (C + 1) = none := fresh₀ _ (by rw [e1]; exact Nat.le_trans (Nat.le_succ _) (Nat.le_succ _))
  have hLlt : L < D := hD ▸ F.ns.lt
  have hLne := below L hLlt
  obtain ⟨oC, heC, hoC⟩ := ns_obj nsC
  have loop : ∀ s₃ : Shared, s₃ = { s with heap := h₁ } →
      codeAny (model prog w) A (.compLoop (.ListComp elt [⟨.Name x px, iter, [], 0⟩] scope pos) 0 (.ref I) (.ref D) (compEnvC scope ((x, C + 1) :: cl) C env)) (RR (.ref D) C) s₃ := by
    rintro s₃ rfl
    refine codeAny_compLoop_tests (fun k s' => ∃ i ys news' v0, s'.os = s.os ∧ i ≤ n ∧ k = n + 1 - i ∧ ys.length ≤ i ∧ St i s'.heap ∧ Fr g L s'.heap m ∧ s'.heap.get? C = some oC ∧ s'.heap.IsCell (C + 1) v0 ∧ News g L s'.heap ((D, lst ys) :: news') ∧
      (∀ p ∈ news', p.1 ≠ I ∧ p.1 ≠ C ∧ p.1 ≠ C + 1 ∧ p.1 ≠ D) ∧ J i ys news' s'.gens) ?_ (n + 1)
      ⟨0, [], news, none, rfl, Nat.zero_le _, rfl, Nat.le_refl _, W.frame _ _ _ hst fun b _ o e => old b o e, F.keeps old, heC, ⟨_, gK, rfl⟩, fun p hp => ?_, fun p hp => ?_, hJ⟩
    · rintro k s' ⟨i, ys, news', v0, hos, hi, rfl, hyl, hst', F', gC', cK', N', off', hJ'⟩
      by_cases hlt : i < n
      · refine W.item i _ _ _ hlt hst' fun v h₂ tk₂ hPv hst₂ hk₂ => ?_
        obtain ⟨oK0, gK0, dK0⟩ := cK'
        have gK2 : h₂.get? (C + 1) = some oK0 := hk₂ _ _ (by simpa using Ne.symm hIne.2.1) gK0
        refine wpAny_assign_Name (wpAny_storeName_cell (c := C + 1) (v₀ := v0) (by simp [compEnvC, relabel, hkind]) (hx _ _) (by simp [compEnvC]) ⟨oK0, gK2, dK0⟩ (fun h₃ hc₃ hs₃ => ?_))
        refine wpAny_tests_nil ?_
        simp only [if_true]
        have hst₃ : St (i + 1) h₃ := W.frame _ _ _ hst₂ fun b hb o e => hs₃.extBut b o (fun q => hKf (by have q' : b = C + 1 := q; rw [← q']; exact hb)) e
        obtain ⟨oI, heI⟩ := hIo _ _ hst₃
        obtain ⟨oK, heK, hoK⟩ := hc₃
        have F₂ := fr_but F' hk₂ hIL hI₀
        have F₃ : Fr g L h₃ m := F₂.change hs₃ (Ne.symm hLne.2.1) hK₀
        have N₂ : News g L h₂ ((D, lst ys) :: news') := news_but N' hk₂ fun p hp => by
          rcases List.mem_cons.mp hp with rfl | hp
          · exact Ne.symm hIne.2.2
          · exact (off' p hp).1
        have gC3 : h₃.get? C = some oC := hs₃.extBut _ _ (Ne.symm hKC) (hk₂ _ _ (by simpa using Ne.symm hIne.1) gC')
        have N₃ : News g L h₃ ((I, oI) :: (C, oC) :: (C + 1, oK) :: (D, lst ys) :: news') := fun p hp => by
          rcases List.mem_cons.mp hp with rfl | hp
          · exact ⟨heI, Ne.symm hIL, hI₀⟩
          · rcases List.mem_cons.mp hp with rfl | hp
            · exact ⟨gC3, Ne.symm hLne.1, hC₀⟩
            · rcases List.mem_cons.mp hp with rfl | hp
              · exact ⟨heK, Ne.symm hLne.2.1, hK₀⟩
              · have z := N₂ p hp
                refine ⟨hs₃.extBut _ _ ?_ z.1, z.2⟩
                rcases List.mem_cons.mp hp with rfl | hp
                · exact Ne.symm hKD
                · exact (off' p hp).2.2.1
        refine wpAny_mono (turn i ys news' v I oI C oC (C + 1) oK D _ _ hlt hPv hJ' hos hoK F₃ N₃ off') (fun y s₅ h₅ => ?_) fun _ _ e => e
        obtain ⟨news₄, F₄, N₄, off₄, hos₄, hJ₄⟩ := h₅
        have zI := (N₄ (I, oI) List.mem_cons_self).1
        have zC := (N₄ (C, oC) (.tail _ (.head _))).1
        have zK := (N₄ (C + 1, oK) (.tail _ (.tail _ (.head _)))).1
        have zD := (N₄ (D, lst ys) (.tail _ (.tail _ (.tail _ (.head _)))))
        have Nd : News g L s₅.heap news₄ := fun p hp => N₄ p (.tail _ (.tail _ (.tail _ (.tail _ hp))))
        have hst₄ : St (i + 1) s₅.heap := hSt _ _ _ _ _ hst₃ heI zI F₄.keep Nd (hS _ _ _ _ hJ₄)
        refine append_at (hsz := by show ys.toArray.size ≤ sizeLine; rw [List.size_toArray, sizeLine_eq]; omega) zD.1 fun h₆ hs₆ hD₆ => ?_
        refine ⟨n + 1 - (i + 1), by omega, i + 1, ys ++ [y], news₄, some v, hos₄, hlt, rfl, by rw [List.length_append, List.length_singleton]; omega, W.frame _ _ _ hst₄ fun b hb o e => hs₆.extBut b o (fun q => hDf (q ▸ hb)) e, F₄.change hs₆ (Ne.symm hLne.2.2) hD₀,
          hs₆.extBut _ _ (Ne.symm hDC) zC, ⟨oK, hs₆.extBut _ _ hKD zK, hoK⟩, fun p hp => ?_, off₄, hJ₄⟩
        rcases List.mem_cons.mp hp with rfl | hp
        · exact ⟨hD₆.trans (congrArg some (lst_snoc ys y)), Ne.symm hLne.2.2, hD₀⟩
        · exact ⟨hs₆.extBut _ _ (off₄ p hp).2.2.2 (Nd p hp).1, (Nd p hp).2⟩
      · obtain rfl : i = n := Nat.le_antisymm hi (Nat.not_lt.mp hlt)
        refine W.done _ _ _ hst' fun h₂ tk₂ hk₂ => ?_
        exact hRR _ _ _ _ ys news' (fr_but F' hk₂ hIL hI₀) (news_but N' hk₂ fun p hp => by
          rcases List.mem_cons.mp hp with rfl | hp
          · exact Ne.symm hIne.2.2
          · exact (off' p hp).1) (fun p hp => (off' p hp).2.2.2) (hoC.ns (hk₂ _ _ (by simpa using Ne.symm hIne.1) gC')) hC₀ hD₀ (Ne.symm hLne.1) (Ne.symm hLne.2.2) (Ne.symm hDC) (fun p hp => (off' p hp).2.1) hos hJ'
    · rcases List.mem_cons.mp hp with rfl | hp
      · exact ⟨gD, Ne.symm hLne.2.2, hD₀⟩
      · exact ⟨old _ _ (N p hp).1, (N p hp).2⟩
    · have hlt := hD ▸ Heap.lt_size (N p hp).1
      have := below p.1 hlt
      exact ⟨off p hp, this.1, this.2.1, this.2.2⟩
  exact codeAny_compStart_list (loop _ rfl) (W.self 0 _ _ _ (W.frame _ _ _ hst fun b _ o e => old b o e) (loop _ rfl))
theorem compK_over {elt iter : Expr} {x : Str} {px : Pos} {scope : Scope} {cl : List (Str × Addr)} {pos : Pos} {xv : Value} {n : Nat} {P : Nat → Value → Prop} {S : List (Addr × Obj) → Prop} {news : List (Addr × Obj)}
    {J : Nat → List Value → List (Addr × Obj) → Array GenState → Prop} {RR : Value → Addr → Result → Shared → Prop}
    (hh : A.handled = none) (O : Over g L s news xv n P S) (hsz : n ≤ 1000) (hS0 : S news) (hS : ∀ i ys news gs, J i ys news gs → S news)
    (hcf : ∀ n, cellsFrom n scope.names cl = (x, n) :: cl) (hpc : ∀ h, pushCells h scope.names = h.push cell0) (hkind : scope.kind = .function) (hx : ∀ cl C, (compEnvC scope cl C env).kindOf x = some .cell)
    (F : Fr g L s.heap m) (N : News g L s.heap news) (hJ : J 0 [] news s.gens) (turn : CompTurnK prog w A env g L m elt x scope cl s.os n P J)
    (hRR : ∀ D C s' m' ys news', Fr g L s'.heap m → News g L s'.heap ((D, lst ys) :: news') → (∀ p ∈ news', p.1 ≠ D) → s'.heap.Ns C m' → g.get? C = none → g.get? D = none → C ≠ L → D ≠ L → C ≠ D → (∀ p ∈ news', p.1 ≠ C) → s'.os = s.os → J n ys news' s'.gens → RR (.ref D) C (.ok .next) s') :
    wpAny (model prog w) A (pyIter xv) (fun it s₂ => wpAny (model prog w) A (newList []) (fun acc s₃ => wpAny (model prog w) A (newFunctionEnv scope env.globals cl [] env.qual none .none (some env)) (fun cenv s₄ =>
      codeAny (model prog w) A (.compStart (.ListComp elt [⟨.Name x px, iter, [], 0⟩] scope pos) 0 it acc { cenv with scope := relabel scope env }) (RR acc cenv.locals) s₄) E s₃) E s₂) E s := by
  rcases O with ⟨ax, its, rfl, hs, rfl, hP, hS'⟩ | ⟨r, a, t, u, v, rfl, hr, hsm, hn, hP⟩
  · have hl := hs.list F.keep N
    have hlt : ax < s.heap.objs.size := by obtain ⟨_, e, _⟩ := hl; exact Heap.lt_size e
    refine wpAny_pyIter_list hl ?_
    have up : ∀ b o, s.heap.get? b = some o → (s.heap.push { cls := .type "list_iterator", data := .fields #[.ref ax, .int 0 0] }).get? b = some o := fun b o e => Heap.get?_push_of_some _ e
    let W := Walks.list (prog := prog) (w := w) hh s.heap.objs.size ax (Nat.ne_of_lt hlt) its
    refine compK_block (S := SrcAt g ax its) (P := P) { sub := W.sub, frame := W.frame, done := W.done, self := W.self, item := fun i s Q E hi st hQ => W.item i s Q E hi st fun v h' tk hv => hQ v h' tk (hP i v hv) } hsz (fun i h st => by obtain ⟨o, e, _⟩ := st.1; exact ⟨o, e⟩)
      list_st (fun i ys nw gs hj => hS' _ (hS i ys nw gs hj)) hcf hpc hkind hx ⟨⟨_, Heap.get?_push_size _ rfl, rfl, rfl⟩, hl.push _⟩ (fun b hb => ?_) (F.keeps up) (N.grown up) (Nat.ne_of_lt F.ns.lt) (next_is_new F) (fun p hp => Nat.ne_of_lt (Heap.lt_size (N p hp).1)) hJ turn hRR
    show b < (s.heap.push _).objs.size
    rw [Heap.size_push]
    rcases List.mem_cons.mp hb with rfl | hb
    · exact Nat.lt_succ_self _
    · rw [List.mem_singleton.mp hb]; exact Nat.lt_succ_of_lt hlt
  · refine wpAny_pyIter_range hr hsm ?_
    let W := range_walks (prog := prog) (w := w) (A := A) (I := s.heap.objs.size) hh 0 n
    refine compK_block (S := fun _ => True) (P := P) { sub := W.sub, frame := W.frame, done := W.done, self := W.self, item := fun i s Q E hi st hQ => W.item i s Q E hi st fun v h' tk hv => hQ v h' tk (by obtain ⟨t, rfl⟩ := hv; rw [Int.zero_add]; exact hP i t) } hsz (fun i h st => ⟨_, st⟩)
      range_st (fun _ _ _ _ _ => trivial) hcf hpc hkind hx (by show IsRangeIter _ _ _ _ _; rw [hn]; simpa using Heap.get?_push_size _ rfl) (fun b hb => ?_) (F.keeps fun _ _ e => Heap.get?_push_of_some _ e) (N.grown fun _ _ e => Heap.get?_push_of_some _ e) (Nat.ne_of_lt F.ns.lt) (next_is_new F)
      (fun p hp => Nat.ne_of_lt (Heap.lt_size (N p hp).1)) hJ turn hRR
    rw [List.mem_singleton.mp hb]
    show s.heap.objs.size < (s.heap.push _).objs.size
    rw [Heap.size_push]; exact Nat.lt_succ_self _
/-- a comprehension's value -/
theorem compK_E {elt iter : Expr} {x : Str} {px : Pos} {scope : Scope} {cl : List (Str × Addr)} {pos : Pos} {Q : Value → Shared → Prop} (n : Nat) (P : Nat → Value → Prop) (S : List (Addr × Obj) → Prop) (J : OsState → Nat → List Value → List (Addr × Obj) → Array GenState → Prop)
    (hh : A.handled = none) (hclos : closureFor scope env = pure cl) (hcf : ∀ n, cellsFrom n scope.names cl = (x, n) :: cl) (hpc : ∀ h, pushCells h scope.names = h.push cell0) (hkind : scope.kind = .function) (hnames : ∀ y ∈ scope.names, y.2 = .local → scope.names.lookup y.1 = some .local) (hx : ∀ cl C, (compEnvC scope cl C env).kindOf x = some .cell) (hsz : n ≤ 1000)
    (h : wpAny (model prog w) A (eval iter env) (fun xv s₁ => ∃ news, Fr g L s₁.heap m ∧ News g L s₁.heap news ∧ Over g L s₁ news xv n P S ∧ S news ∧ J s₁.os 0 [] news s₁.gens) E s)
    (hS : ∀ os i ys news gs, J os i ys news gs → S news) (turn : ∀ os, CompTurnK prog w A env g L m elt x scope cl os n P (J os))
    (hQ : ∀ D s' ys news', Fr g L s'.heap m → News g L s'.heap ((D, lst ys) :: news') → (∀ p ∈ news', p.1 ≠ D) → J s'.os n ys news' s'.gens → Q (.ref D) s')
    (hs : ∀ x, foldedSetIterable iter env x = pure x := by intro _; rfl) :
    wpAny (model prog w) A (eval (.ListComp elt [⟨.Name x px, iter, [], 0⟩] scope pos) env) Q E s := by
  rw [eval_ListComp]
  refine wpAny_comprehension_free (use := none) rfl hs hclos hkind hnames (wpAny_mono h (fun xv s₁ h₁ => ?_) fun _ _ e => e)
  obtain ⟨news, F, N, O, hS0, hJ⟩ := h₁
  refine compK_over hh O hsz hS0 (hS s₁.os) hcf hpc hkind hx F N hJ (turn _) ?_
  intro D C s' m' ys news' F' N' o1 hn hC₀ hD₀ hCL hDL hCD offC hos hj
  refine ⟨m', hn, fun h'' hs'' => hQ D _ ys news' (F'.change hs'' hCL hC₀) (fun p hp => ?_) o1 (by rw [← hos] at hj; exact hj)⟩
  refine ⟨hs''.extBut _ _ ?_ (N' p hp).1, (N' p hp).2⟩
  rcases List.mem_cons.mp hp with rfl | hp
  · exact Ne.symm hCD
  · exact offC p hp
/-- a comprehension bound to a local name -/
theorem compK_A {elt iter : Expr} {x y : Str} {px py : Pos} {scope : Scope} {cl : List (Str × Addr)} {pos spos : Pos} {Q : Flow → Shared → Prop} (n : Nat) (P : Nat → Value → Prop) (S : List (Addr × Obj) → Prop) (J : OsState → Nat → List Value → List (Addr × Obj) → Array GenState → Prop)
    (hL : env.locals = L) (hsw : swapsWith (.ListComp elt [⟨.Name x px, iter, [], 0⟩] scope pos) (some (.Name y py)) spos.line env = pure true)
    (hh : A.handled = none) (hclos : closureFor scope env = pure cl) (hcf : ∀ n, cellsFrom n scope.names cl = (x, n) :: cl) (hpc : ∀ h, pushCells h scope.names = h.push cell0) (hkind : scope.kind = .function) (hnames : ∀ y ∈ scope.names, y.2 = .local → scope.names.lookup y.1 = some .local) (hx : ∀ cl C, (compEnvC scope cl C env).kindOf x = some .cell) (hsz : n ≤ 1000)
    (hy : env.kindOf y = some .local) (hp : (env.scope.kind == .class || (env.scope.kind == .module && env.locals != env.globals)) = false)
    (h : wpAny (model prog w) A (eval iter env) (fun xv s₁ => ∃ news, Fr g L s₁.heap m ∧ News g L s₁.heap news ∧ Over g L s₁ news xv n P S ∧ S news ∧ J s₁.os 0 [] news s₁.gens) E s)
    (hS : ∀ os i ys news gs, J os i ys news gs → S news) (turn : ∀ os, CompTurnK prog w A env g L m elt x scope cl os n P (J os))
    (hQ : ∀ D s' ys news', Fr g L s'.heap (fun z => if z = y then some (.ref D) else m z) → News g L s'.heap ((D, lst ys) :: news') → (∀ p ∈ news', p.1 ≠ D) → J s'.os n ys news' s'.gens → Q .next s')
    (hs : ∀ x, foldedSetIterable iter env x = pure x := by intro _; rfl) :
    wpAny (model prog w) A (exec (.Assign [.Name y py] (.ListComp elt [⟨.Name x px, iter, [], 0⟩] scope pos) spos) env) Q E s := by
  subst hL
  rw [exec_Assign_Name_used _ _ _ _ hsw]
  refine wpAny_bind (wpAny_standAt (wpAny_bind ?_))
  show wpAny _ A (do let _ ← comprehension (.ListComp elt [⟨.Name x px, iter, [], 0⟩] scope pos) scope env _ (newList []) false (eval iter env) (some (assign (.Name y py) env))) _ _ s
  refine wpAny_bind (wpAny_mono (wpAny_comprehension_free (use := some (assign (.Name y py) env)) (Q := fun _ s' => Q .next s') rfl hs hclos hkind hnames
    (wpAny_mono h (fun xv s₁ h₁ => ?_) fun _ _ e => e)) (fun _ s' hq => wpAny_pure (wpAny_pure hq)) fun _ _ e => e)
  obtain ⟨news, F, N, O, hS0, hJ⟩ := h₁
  refine compK_over hh O hsz hS0 (hS s₁.os) hcf hpc hkind hx F N hJ (turn _) ?_
  intro D C s' m' ys news' F' N' o1 hn hC₀ hD₀ hCL hDL hCD offC hos hj
  show wpAny _ A (assign (.Name y py) env (.ref D)) _ _ _
  refine wpAny_assign_Name (wpAny_storeName_local hy F'.ns (fun h₂ hn₂ hs₂ => ?_) hp)
  have hL₀ : g.get? env.locals = none := Heap.get?_none_of_le F'.above
  have F₂ : Fr g env.locals h₂ (fun z => if z = y then some (.ref D) else m z) := ⟨hn₂, fun b o e => hs₂.extBut b o (fun q => by rw [q, hL₀] at e; cases e) (F'.keep b o e), F'.above⟩
  refine ⟨m', hn.sameBut hs₂ hCL, fun h'' hs'' => hQ D _ ys news' (F₂.change hs'' hCL hC₀) (fun p hp => ?_) o1 (by rw [← hos] at hj; exact hj)⟩
  have z : h₂.get? p.1 = some p.2 := hs₂.extBut _ _ (N' p hp).2.1 (N' p hp).1
  refine ⟨hs''.extBut _ _ ?_ z, (N' p hp).2⟩
  rcases List.mem_cons.mp hp with rfl | hp
  · exact Ne.symm hCD
  · exact offC p hp
end
end
-- Lw
section
open PyProof.Rows.LCg
theorem nm_compl {M : Model} {A : Around} {E : Value → Shared → Prop} {s : Shared} {env : Env} {g : Heap} {L C : Addr} {oC : Obj} {m₂ : Str → Option Value} {news : List (Addr × Obj)} {x : Str} {v : Value} {pos : Pos} {Q : Value → Shared → Prop} (hl : env.kindOf x = some .local) (N : News g L s.heap news) (hm : (C, oC) ∈ news) (ho : NsObj oC m₂) (hv : m₂ x = some v) (hC : env.locals = C) (hk : env.scope.kind = .function) (hd : (x == ("__debug__" : Str)) = false) (h : Q v s) :
    wpAny M A (eval (.Name x pos) env) Q E s := nm_local (ho.ns (N _ hm).1) hC hv hk hl hd h
/-- a row's list: in the base, or on the ledger -/
def RowIn (g : Heap) (blk : List (Addr × Obj)) (v : Value) (ws : List (List Nat)) : Prop := ∃ (a : Addr) (its : Array Value), v = .ref a ∧ SrcAt g a its blk ∧ Words its ws
theorem len_src {prog : Program} {w : World} {A : Around} {E : Value → Shared → Prop} {s : Shared} {g : Heap} {L l : Addr} {m : Str → Option Value} {its : Array Value} {news : List (Addr × Obj)} {Q : Value → Shared → Prop} (F : Fr g L s.heap m) (N : News g L s.heap news) (hl : SrcAt g l its news) (hb : its.size ≤ 1000) (h : ∀ t k, Q (.int its.size t) { s with toks := k }) : wpAny (model prog w) A (call (.builtin "len") [.ref l]) Q E s :=
  call_len_list (hl.list F.keep N) (by omega) (h _ _)
theorem pick_take {tbl : List (List (List Nat))} {i kk : Nat} {ws : List (List Nat)} (h : tbl[i]? = some ws) : (tbl.take (i + 1)).filterMap (fun ws => ws[kk]?) = (tbl.take i).filterMap (fun ws => ws[kk]?) ++ (ws[kk]?).toList := by
  rw [take_get h, List.filterMap_append]
  cases e : ws[kk]? <;> simp [e]
/-- what stands while the k-th words are picked -/
def JPick (c : Prop) (nw : List (Addr × Obj)) (gs0 : Array GenState) (tbl : List (List (List Nat))) (kk : Nat) (i : Nat) (ys : List Value) (news : List (Addr × Obj)) (gs : Array GenState) : Prop :=
  c ∧ news = nw ∧ gs = gs0 ∧ Words ys.toArray ((tbl.take i).filterMap fun ws => ws[kk]?)
theorem reg_Lw : True := by
  k_with_none
  k_with "k_get" => (first | assumption | exact getL_put_eq | (refine Eq.trans (getL_put_ne (by decide +kernel)) ?_; k_get) | (refine' isSome_of ?h9z; case h9z => k_get) | (refine' isSome_of' ?h9z; case h9z => k_get) | exact rfl)
  k_with "k_put" => (exact rfl)
  k_with "setAttr ref" => (k_here; k_dflt (
    (refine' set_dict ?k19z ?k29z ?k39z ?k49z ?k59z ?k69z ?k79z ?k89z ?k99z ?k109z ?k119z ?k129z ?k139z ?_; (case k19z => k_asm); (case k29z => k_asm); (case k39z => k_asm); (case k49z => k_inst); (case k59z => exact rfl); (case k69z => k_is); (case k79z => k_is); (case k89z => k_is); (case k99z => k_is); (case k109z => k_get); (case k119z => exact rfl); (case k129z => k_upd); (case k139z => ((repeat (refine length_put_le ?_)); omega)); k_whole; intro h' F' N'; (try k_sweep))))
  k_with "size_fits" => (first | assumption | ((try simp only [tx_length]); rw [sizeLine_eq]; omega))
  k_with "k_ne" => (first | assumption | (refine Ne.symm ?_; assumption))
  k_with "tb_rel" => (first
    | exact List.forall_mem_nil _
    | (refine List.forall_mem_cons.mpr ⟨?ta9z, ?tb9z⟩; (case ta9z => first | exact fun _ => News.get (by assumption) (by k_mem) | exact fun h9 => absurd (by simp) h9); (case tb9z => tb_rel)))
  k_with "tb_start" => (
    refine wpAny_call ?_
    refine' enter _ (Cx.X (by assumption)) (Cx.T (by assumption)) (Cx.S (by assumption)) (by assumption) ?k19z ?k29z ?k39z ?k49z ?k59z ?_ ?k69z ?k79z ?k89z ?k99z
    (case k19z => k_is)
    (case k29z => k_is)
    (case k39z => ((try simp only [depth_deeper, depth_under_make, depth_in1, recursionLimit]); omega))
    (case k49z => first | exact BindsTo.of_eq rfl | exact binds_K (Frag.In.keeps (Cx.X (by assumption)) (Cx.S (by assumption))) rfl (by k_is) rfl rfl rfl)
    (case k59z => exact locs rfl)
    (case k69z => exact rfl)
    (case k79z => exact rfl)
    (case k89z => exact rfl)
    (case k99z => decide)
    skip)
  k_with "exec If" => (refine wpAny_If ?_)
  k_with "execs nil" => (refine wpAny_execs_nil ?_)
  k_with "execs cons" => ((with_reducible refine wpAny_execs_cons ?_); (try dsimp only); (try k_fold); (try (with_reducible refine wp_tok ?_; intro tk9)))
  k_with "compareOp In str str" => (first | refine in_is (v := true) (by decide +kernel) ?_ | refine in_is (v := false) (by decide +kernel) ?_ | refine in_is (by assumption) ?_)
  k_with "compareOp Eq str str" => (first | refine eq_is (v := true) (by decide +kernel) ?_ | refine eq_is (v := false) (by decide +kernel) ?_ | refine eq_is (by assumption) ?_)
  k_with "truthy str" => (first | with_reducible refine truth_one ?_ | (with_reducible (refine truth_lit (v := false) (by decide +kernel) ?_)) | (with_reducible (refine truth_lit (v := true) (by decide +kernel) ?_)) | (with_reducible (refine truth_tx (by omega) ?_ ?_) <;> intro hw9))
  k_with "inplaceOp Add str str" => (refine iadd_tx (by ((try simp only [List.length_cons, List.length_nil]); omega)) ?_; intro t9 tk9)
  k_with "eval Name" => (k_here; first
    | (refine' nm_compl ?l9z ?n9z ?m9z ?o9z ?v9z ?c9z ?k9z ?d9z ?_; (case l9z => with_reducible assumption); (case k9z => with_reducible assumption); (case c9z => with_reducible assumption); (case o9z => with_reducible assumption); (case v9z => with_reducible assumption); (case n9z => with_reducible assumption); (case m9z => with_reducible assumption); (case d9z => with_reducible assumption))
    | (refine' nm_cell ?n9z ?c9z ?m9z ?d9z ?k9z ?l9z ?b9z ?_; (case l9z => with_reducible assumption); (case k9z => with_reducible assumption); (case c9z => with_reducible assumption); (case n9z => with_reducible assumption); (case m9z => with_reducible assumption); (case d9z => with_reducible assumption); (case b9z => decide))
    | (refine' nm_built ?f9z ?x9z ?t9z ?e9z ?hv9z ?hn9z ?g9z ?b9z ?k9z ?l9z ?d9z ?_; (case l9z => with_reducible assumption); (case k9z => with_reducible assumption); (case g9z => with_reducible assumption); (case b9z => with_reducible assumption); (case hv9z => boot_fast); (case f9z => assumption); (case x9z => assumption); (case t9z => assumption); (case e9z => k_is); (case hn9z => decide); (case d9z => decide)))
  k_with "k_in" => (exact Frag.In.keeps (by with_reducible assumption) (Fr.keep (by with_reducible assumption)))
  k_with "kas_types" => (repeat' (first | (k_unfold; (try dsimp only)) | ((fail_if_success (with_reducible show wpAny _ _ (call _ _) _ _ _)); (fail_if_success (with_reducible show wpAny _ _ (subscriptTail _ _ _ _) _ _ _)); (fail_if_success (with_reducible show wpAny _ _ (eval (PySem.Expr.ListComp _ _ _ _) _) _ _ _)); (first | walk1 | (dsimp only; walk1)))))
  trivial
theorem pick_turn {w : World} {A : Around} {ev : Env} {g : Heap} {L : Addr} {m mg mb : Str → Option Value} {p : Program} {loose : List Str} {scope : Scope} {cl : List (Str × Addr)} {os : OsState} {tbl : List (List (List Nat))} {c : Prop} {nw : List (Addr × Obj)} {gs0 : Array GenState} {x : Str} {K : Addr} {oK : Obj} {kk : Nat} {tk : Tok} {p1 p2 p3 p4 p5 p6 p7 p8 : Pos}
    (X : (hd.heap_1 w.params).In g) (T : TopRead p loose mg mb g) (hlen : ∀ ws ∈ tbl, ws.length ≤ 20) (hK : (K, oK) ∈ nw) (hoK : oK.data = .cell (some (.int (kk : Int) tk)))
    (q2 : ∀ C, (compEnvC scope cl C ev).globals = mainGlobals) (q3 : ∀ C, (compEnvC scope cl C ev).builtins = builtinsNs) (q4 : ∀ C, (compEnvC scope cl C ev).scope.kind = .function) (q5 : ∀ C, (compEnvC scope cl C ev).cells.lookup (Str.ofString "k") = some K)
    (i1 : ∀ C, (compEnvC scope cl C ev).kindOf x = some .local) (i2 : ∀ C, (compEnvC scope cl C ev).kindOf (Str.ofString "k") = some .cell) (i3 : ∀ C, (compEnvC scope cl C ev).kindOf (Str.ofString "len") = some .globalImplicit) (hd9 : (x == ("__debug__" : Str)) = false) :
    CompTurn P0 w A ev g L m (.Subscript (.Name x p1) (.Name (Str.ofString "k") p2) p3) [.Compare (.Call (.Name (Str.ofString "len") p4) [.Name x p5] [] p6) [.Gt] [.Name (Str.ofString "k") p7] p8] x scope cl os tbl.length
      (fun i v => ∃ ws, tbl[i]? = some ws ∧ RowIn g nw v ws) (fun i ys news gs => JPick c nw gs0 tbl kk i ys news gs) := by
  intro i ys news v I oI C oC D m₂ s E hi hP hJ hos hoC hm₂ F N off n1 n2 n3
  obtain ⟨ws, hws, a, its, rfl, hl, hw⟩ := hP
  obtain ⟨hc, rfl, rfl, hy⟩ := hJ
  have q1 : (compEnvC scope cl C ev).locals = C := rfl
  replace q2 := q2 C
  replace q3 := q3 C
  replace q4 := q4 C
  replace q5 := q5 C
  replace i1 := i1 C
  replace i2 := i2 C
  replace i3 := i3 C
  refine wpAny_tests_one ?_
  generalize compEnvC scope cl C ev = env at *
  have hmC : (C, oC) ∈ (I, oI) :: (C, oC) :: (D, lst ys) :: news := by simp
  have hmK : (K, oK) ∈ (I, oI) :: (C, oC) :: (D, lst ys) :: news := by simp [hK]
  have hl' : SrcAt g a its ((I, oI) :: (C, oC) :: (D, lst ys) :: news) := hl.imp id fun ⟨o, h, r⟩ => ⟨o, by simp [h], r⟩
  have hn : its.size ≤ 20 := hw.1 ▸ hlen ws (List.mem_of_getElem? hws)
  show wpAny _ _ _ _ _ _
  k_fold
  kas_types
  refine len_src F N hl' (by omega) fun t1 k1 => ?_
  kas_types
  · rename _ < _ => hlt
    have hk : kk < its.size := by omega
    obtain ⟨l, t, e1, e2⟩ := hw.2 kk its[kk] (Array.getElem?_eq_getElem hk)
    refine item_list (hl'.list F.keep N) (by omega) (by omega) (x := .str (tx l) t) ?_ ?_
    · rw [show ((kk : Nat) : Int).toNat = kk by omega, Array.getElem?_eq_getElem hk, e2]
    · refine ⟨news, F, N, off, hos, hc, rfl, rfl, ?_⟩
      rw [pick_take hws, e1]
      have := hy.push (w := l) (t := t)
      simpa using this
  · rename ¬ _ => hge
    have hk : ws[kk]? = none := List.getElem?_eq_none (by have := hw.1; omega)
    refine ⟨news, F, N, off, hos, hc, rfl, rfl, ?_⟩
    rw [pick_take hws, hk]
    simpa using hy
/-- the k-th words of the rows that have one -/
def pickCol (tbl : List (List (List Nat))) (k : Nat) : List (List Nat) := tbl.filterMap fun ws => ws[k]?
theorem RowIn.sub {g : Heap} {b b' : List (Addr × Obj)} {v : Value} {ws : List (List Nat)} (x : RowIn g b v ws) (h : ∀ p ∈ b, p ∈ b') : RowIn g b' v ws := by
  obtain ⟨a, its, e, hs, hw⟩ := x
  exact ⟨a, its, e, hs.imp id fun ⟨o, h1, r⟩ => ⟨o, h _ h1, r⟩, hw⟩
theorem SrcAt.sub {g : Heap} {a : Addr} {its : Array Value} {b b' : List (Addr × Obj)} (x : SrcAt g a its b) (h : ∀ p ∈ b, p ∈ b') : SrcAt g a its b' := x.imp id fun ⟨o, h1, r⟩ => ⟨o, h _ h1, r⟩
/-- a table's list and rows: in the base, or on the ledger -/
def TabIn (g : Heap) (b : List (Addr × Obj)) (r : Addr) (tbl : List (List (List Nat))) : Prop := ∃ its : Array Value, SrcAt g r its b ∧ its.size = tbl.length ∧ ∀ (i : Nat) (v : Value) (ws : List (List Nat)), its[i]? = some v → tbl[i]? = some ws → RowIn g b v ws
/-- what stands while a table's columns are made -/
def JTab (c : Prop) (nw : List (Addr × Obj)) (gs0 : Array GenState) (tbl : List (List (List Nat))) (i : Nat) (ys : List Value) (news : List (Addr × Obj)) (gs : Array GenState) : Prop :=
  c ∧ gs = gs0 ∧ ∃ blk, news = blk ++ nw ∧ ToldQ ys blk ((List.range i).map (pickCol tbl))
theorem table_turn {w : World} {A : Around} {env : Env} {g : Heap} {L : Addr} {m mg mb : Str → Option Value} {p : Program} {loose : List Str} {scout scin : Scope} {clout : List (Str × Addr)} {os : OsState} {tbl : List (List (List Nat))} {c : Prop} {nw : List (Addr × Obj)} {gs0 : Array GenState} {x src : Str} {cs r : Addr} {osrc : Obj} {n : Nat} {p1 p2 p3 p4 p5 p6 p7 p8 px ps pos : Pos}
    (X : (hd.heap_1 w.params).In g) (T : TopRead p loose mg mb g) (hh : A.handled = none) (hlen : ∀ ws ∈ tbl, ws.length ≤ 20) (hnt : tbl.length ≤ 20) (ht : TabIn g nw r tbl) (hcs : (cs, osrc) ∈ nw) (hosrc : osrc.data = .cell (some (.ref r)))
    (hclos : ∀ K C, closureFor scin (compEnvC scout ((Str.ofString "k", K) :: clout) C env) = pure [(Str.ofString "k", K)]) (hcell : ∀ y ∈ scin.names, y.2 ≠ .cell) (hkind : scin.kind = .function) (hnames : ∀ y ∈ scin.names, y.2 = .local → scin.names.lookup y.1 = some .local) (hx : scin.names.lookup x = some .local)
    (hko : ∀ K C, (compEnvC scout ((Str.ofString "k", K) :: clout) C env).scope.kind = .function) (his : ∀ K C, (compEnvC scout ((Str.ofString "k", K) :: clout) C env).kindOf src = some .cell) (hcl : ∀ K, ((Str.ofString "k", K) :: clout).lookup src = some cs) (hds : (src == ("__debug__" : Str)) = false)
    (q2 : ∀ K C C', (compEnvC scin [(Str.ofString "k", K)] C' (compEnvC scout ((Str.ofString "k", K) :: clout) C env)).globals = mainGlobals) (q3 : ∀ K C C', (compEnvC scin [(Str.ofString "k", K)] C' (compEnvC scout ((Str.ofString "k", K) :: clout) C env)).builtins = builtinsNs)
    (q4 : ∀ K C C', (compEnvC scin [(Str.ofString "k", K)] C' (compEnvC scout ((Str.ofString "k", K) :: clout) C env)).scope.kind = .function)
    (i1 : ∀ K C C', (compEnvC scin [(Str.ofString "k", K)] C' (compEnvC scout ((Str.ofString "k", K) :: clout) C env)).kindOf x = some .local) (i2 : ∀ K C C', (compEnvC scin [(Str.ofString "k", K)] C' (compEnvC scout ((Str.ofString "k", K) :: clout) C env)).kindOf (Str.ofString "k") = some .cell)
    (i3 : ∀ K C C', (compEnvC scin [(Str.ofString "k", K)] C' (compEnvC scout ((Str.ofString "k", K) :: clout) C env)).kindOf (Str.ofString "len") = some .globalImplicit) (hd9 : (x == ("__debug__" : Str)) = false) :
    CompTurnK P0 w A env g L m (.ListComp (.Subscript (.Name x p1) (.Name (Str.ofString "k") p2) p3) [⟨.Name x px, .Name src ps, [.Compare (.Call (.Name (Str.ofString "len") p4) [.Name x p5] [] p6) [.Gt] [.Name (Str.ofString "k") p7] p8], 0⟩] scin pos) (Str.ofString "k") scout clout os n
      (fun i v => ∃ t, v = .int (i : Int) t) (fun i ys news gs => JTab c nw gs0 tbl i ys news gs) := by
  intro i ys news v I oI C oC K oK D s E hi hP hJ hos hoK F N off
  obtain ⟨t, rfl⟩ := hP
  obtain ⟨hc, rfl, blk, rfl, hy⟩ := hJ
  obtain ⟨its, hsr, hsz, hrows⟩ := ht
  have hsub : ∀ p ∈ nw, p ∈ (I, oI) :: (C, oC) :: (K, oK) :: (D, lst ys) :: (blk ++ nw) := fun p hp => by simp [hp]
  generalize hnw : (I, oI) :: (C, oC) :: (K, oK) :: (D, lst ys) :: (blk ++ nw) = nw0 at N hsub
  refine comp_E (g := g) (L := L) (m := m) tbl.length (fun i v => ∃ ws, tbl[i]? = some ws ∧ RowIn g nw0 v ws) (fun nw => nw = nw0) (fun os' i' ys' news' gs' => JPick (os' = os ∧ c) nw0 s.gens tbl i i' ys' news' gs') hh (hclos K C) hcell hkind hnames hx (Nat.le_trans hnt (by decide)) ?_ (fun _ _ _ _ _ h => h.2.1) ?_ ?_ (by intro _; rfl)
  · refine nm_cell N (hcl K) (hsub _ hcs) hosrc (hko K C) (his K C) hds ?_
    refine ⟨nw0, F, N, .inl ⟨r, its, rfl, SrcAt.sub hsr hsub, hsz.symm, fun i v hv => ?_, fun nw e => e ▸ SrcAt.sub hsr hsub⟩, rfl, ⟨hos, hc⟩, rfl, rfl, ⟨rfl, fun i v h => by simp at h⟩⟩
    have hi : i < tbl.length := hsz ▸ (Array.getElem?_eq_some_iff.mp hv).1
    exact ⟨tbl[i], List.getElem?_eq_getElem hi, (hrows i v _ hv (List.getElem?_eq_getElem hi)).sub hsub⟩
  · intro os'
    exact pick_turn (K := K) (oK := oK) (tk := t) (mg := mg) (mb := mb) X T hlen (by rw [← hnw]; simp) hoK (q2 K C) (q3 K C) (q4 K C) (fun C' => by simp [compEnvC]) (i1 K C) (i2 K C) (i3 K C) hd9
  · intro D' s' ys' news' F' N' o1 hJ'
    obtain ⟨⟨hos', hc'⟩, rfl, hgs, hw'⟩ := hJ'
    rw [List.take_length] at hw'
    have o1' := Off1.mem o1
    refine ⟨(blk ++ [(D', lst ys')]) ++ nw, F', fun p hp => N' p ?_, fun p hp => ?_, hos', hc', hgs, _, rfl, ?_⟩
    · rw [← hnw]
      simp only [List.mem_cons, List.mem_append, List.not_mem_nil, or_false] at hp ⊢
      rcases hp with h | h | h | h | (h | h) | h
      · exact .inr (.inl h)
      · exact .inr (.inr (.inl h))
      · exact .inr (.inr (.inr (.inl h)))
      · exact .inr (.inr (.inr (.inr (.inl h))))
      · exact .inr (.inr (.inr (.inr (.inr (.inl h)))))
      · exact .inl h
      · exact .inr (.inr (.inr (.inr (.inr (.inr h)))))
    · simp only [List.mem_append, List.mem_cons, List.not_mem_nil, or_false] at hp
      rcases hp with (h | rfl) | h
      · exact off p (by simp [h])
      · rw [← hnw] at o1'
        exact ⟨(o1' (I, oI) (by simp)).symm, (o1' (C, oC) (by simp)).symm, (o1' (K, oK) (by simp)).symm, (o1' (D, lst ys) (by simp)).symm⟩
      · exact off p (by simp [h])
    · rw [List.range_succ, List.map_append]
      exact ToldQ.snoc (p := (D', lst ys')) ⟨rfl, ys'.toArray, ys'.length, rfl, hw'⟩ hy
end
theorem reg_Lw_end : True := by
  k_with_none
  trivial
-- Eqr
section
open PySem.SeqAt PySem.P3
def rowDat (ws : List (List Nat)) : Dat := .list (ws.map fun l => .str (tx l))
def tblDat (tbl : List (List (List Nat))) : Dat := .list (tbl.map rowDat)
theorem kqdPs_map {α : Type} (f : α → Dat) : ∀ l : List α, kqdPs (l.map f) = l.map fun x => kqdP (f x)
  | [] => by simp [kqdPs]
  | x :: r => by simp [kqdPs, kqdPs_map f r]
theorem row_reads {h : Heap} {v : Value} {ws : List (List Nat)} (x : RowAt h v ws) : ∃ as, Reads h v (kqdP (rowDat ws)) as := by
  obtain ⟨a, its, rfl, ⟨o, e, hc, n, hd⟩, hw⟩ := x
  have key : ∀ (vs : List Value) (ws : List (List Nat)), vs.length = ws.length → (∀ (i : Nat) (v : Value), vs[i]? = some v → ∃ (l : List Nat) (t : Tok), ws[i]? = some l ∧ v = .str (tx l) t) → ∃ as, ReadsAll h vs (ws.map fun l => .str (tx l)) as := by
    intro vs
    induction vs with
    | nil => intro ws hl _; cases ws with
      | nil => exact ⟨_, .nil⟩
      | cons => cases hl
    | cons v vs ih =>
      intro ws hl hx
      cases ws with
      | nil => cases hl
      | cons l ws =>
        obtain ⟨l', t, e1, rfl⟩ := hx 0 v (by simp)
        simp only [List.getElem?_cons_zero, Option.some.injEq] at e1
        subst e1
        obtain ⟨as, r⟩ := ih ws (by simpa using hl) fun i v hv => by simpa using hx (i + 1) v (by simpa using hv)
        exact ⟨_, .cons (.str _ t) r⟩
  obtain ⟨as, r⟩ := key its.toList ws (by simpa using hw.1) fun i v hv => hw.2 i v (by simpa using hv)
  refine ⟨a :: as, ?_⟩
  have e2 : kqdP (rowDat ws) = .list (ws.map fun l => .str (tx l)) := by
    unfold rowDat
    rw [kqdP, kqdPs_map]
    simp [kqdP]
  rw [e2]
  exact .list e hc hd r
theorem tbl_reads {h : Heap} {a : Addr} {tbl : List (List (List Nat))} (x : RowsAt h a tbl) : ∃ as, Reads h (.ref a) (kqdP (tblDat tbl)) as := by
  obtain ⟨its, ⟨o, e, hc, n, hd⟩, hn, hx⟩ := x
  have key : ∀ (vs : List Value) (tbl : List (List (List Nat))), vs.length = tbl.length → (∀ (i : Nat) (v : Value) (ws : List (List Nat)), vs[i]? = some v → tbl[i]? = some ws → RowAt h v ws) → ∃ as, ReadsAll h vs (tbl.map fun x => kqdP (rowDat x)) as := by
    intro vs
    induction vs with
    | nil => intro tbl hl _; cases tbl with
      | nil => exact ⟨_, .nil⟩
      | cons => cases hl
    | cons v vs ih =>
      intro tbl hl hx
      cases tbl with
      | nil => cases hl
      | cons ws tbl =>
        obtain ⟨as, r⟩ := row_reads (hx 0 v ws (by simp) (by simp))
        obtain ⟨bs, r'⟩ := ih tbl (by simpa using hl) fun i v ws h1 h2 => hx (i + 1) v ws (by simpa using h1) (by simpa using h2)
        exact ⟨_, .cons r r'⟩
  obtain ⟨as, r⟩ := key its.toList tbl (by simpa using hn) fun i v ws h1 h2 => hx i v ws (by simpa using h1) h2
  refine ⟨a :: as, ?_⟩
  unfold tblDat
  rw [kqdP, kqdPs_map]
  exact .list e hc hd r
theorem word_ok : (allWords.all fun l => PyData.strOk (tx l)) = true := by decide +kernel
theorem tbl_lay {tbl : List (List (List Nat))} (hall : ∀ ws ∈ tbl, ∀ x ∈ ws, IsWord x) : SeqAt.shaped (kqdP (tblDat tbl)) = true := by
  have l := kqd_lay 9 (tblDat tbl) (by
    simp only [tblDat, rowDat, kqdOk, List.all_eq_true, List.mem_map]
    rintro _ ⟨ws, hws, rfl⟩
    simp only [kqdOk, List.all_eq_true, List.mem_map]
    rintro _ ⟨l, hl, rfl⟩
    have := List.all_eq_true.mp word_ok l (hall ws hws l hl).mem
    simpa [kqdOk] using this)
  unfold SeqAt.shaped
  rw [l.1, Bool.true_and]
  exact decide_eq_true (Nat.le_trans l.2 (by decide))
section
variable {prog : Program} {w : World} {A : Around} {E : Value → Shared → Prop} {s : Shared} {a b : Addr} {tbl : List (List (List Nat))} {Q : Value → Shared → Prop}
theorem tbl_self (hall : ∀ ws ∈ tbl, ∀ x ∈ ws, IsWord x) : PyData.eqv (kqdP (tblDat tbl)) (kqdP (tblDat tbl)) = true := by
  have l := tbl_lay hall
  unfold SeqAt.shaped at l
  rw [Bool.and_eq_true] at l
  exact eqv_refl _ l.1
theorem rows_eq (ha : RowsAt s.heap a tbl) (hb : RowsAt s.heap b tbl) (hall : ∀ ws ∈ tbl, ∀ x ∈ ws, IsWord x) (hu : A.units + 64 < cLine) (h : Q (.bool true) s) : wpAny (model prog w) A (compareOp .Eq (.ref a) (.ref b)) Q E s := by
  obtain ⟨as, ra⟩ := tbl_reads ha
  obtain ⟨bs, rb⟩ := tbl_reads hb
  exact eq_dataH ra rb (tbl_lay hall) (tbl_lay hall) hu (by rw [tbl_self hall]; exact h)
theorem rows_ne (ha : RowsAt s.heap a tbl) (hb : RowsAt s.heap b tbl) (hall : ∀ ws ∈ tbl, ∀ x ∈ ws, IsWord x) (hu : A.units + 64 < cLine) (h : Q (.bool false) s) : wpAny (model prog w) A (compareOp .NotEq (.ref a) (.ref b)) Q E s := by
  obtain ⟨as, ra⟩ := tbl_reads ha
  obtain ⟨bs, rb⟩ := tbl_reads hb
  exact ne_dataH ra rb (tbl_lay hall) (tbl_lay hall) hu (by rw [tbl_self hall]; exact h)
end
end
-- Pl
section
abbrev Tbl := List (List (List Nat))
def maxLen (tbl : Tbl) : Nat := tbl.foldr (fun ws m => max ws.length m) 0
def cols (tbl : Tbl) : Tbl := (List.range (maxLen tbl)).map (pickCol tbl)
theorem le_maxLen {tbl : Tbl} {ws : List (List Nat)} (h : ws ∈ tbl) : ws.length ≤ maxLen tbl := by
  induction tbl with
  | nil => cases h
  | cons x r ih =>
    show ws.length ≤ max x.length (maxLen r)
    rcases List.mem_cons.mp h with rfl | h
    · exact Nat.le_max_left _ _
    · exact Nat.le_trans (ih h) (Nat.le_max_right _ _)
theorem maxLen_le {tbl : Tbl} {n : Nat} (h : ∀ ws ∈ tbl, ws.length ≤ n) : maxLen tbl ≤ n := by
  induction tbl with
  | nil => exact Nat.zero_le _
  | cons x r ih => exact Nat.max_le.mpr ⟨h x (List.mem_cons_self ..), ih fun ws hw => h ws (List.mem_cons_of_mem _ hw)⟩
theorem maxLen_has {tbl : Tbl} (h : tbl ≠ []) : ∃ ws ∈ tbl, ws.length = maxLen tbl := by
  induction tbl with
  | nil => exact absurd rfl h
  | cons x r ih =>
    show ∃ ws ∈ x :: r, ws.length = max x.length (maxLen r)
    by_cases hr : r = []
    · subst hr; exact ⟨x, .head _, by simp [maxLen]⟩
    · obtain ⟨ws, hw, e⟩ := ih hr
      rcases Nat.le_total x.length (maxLen r) with hle | hle
      · exact ⟨ws, .tail _ hw, by rw [Nat.max_eq_right hle, e]⟩
      · exact ⟨x, .head _, by rw [Nat.max_eq_left hle]⟩
/-- what waits before round k -/
def waits (tbl : Tbl) (k : Nat) : Tbl := (tbl.filter fun ws => decide (k ≤ ws.length)).map (List.drop k)
theorem waits_zero (tbl : Tbl) : waits tbl 0 = tbl := by
  unfold waits
  rw [List.filter_eq_self.mpr (fun ws _ => by simp)]
  conv => rhs; rw [← List.map_id tbl]
  exact List.map_congr_left fun _ _ => rfl
theorem heads_waits (tbl : Tbl) (k : Nat) : heads (waits tbl k) = pickCol tbl k := by
  unfold heads waits pickCol
  rw [List.filterMap_map]
  induction tbl with
  | nil => rfl
  | cons ws r ih =>
    by_cases h : k ≤ ws.length
    · rw [List.filter_cons_of_pos (by simpa using h), List.filterMap_cons, List.filterMap_cons, ih]
      simp [List.head?_drop]
    · rw [List.filter_cons_of_neg (by simpa using h), List.filterMap_cons, ih, List.getElem?_eq_none (by omega)]
theorem tails_waits (tbl : Tbl) (k : Nat) : tails (waits tbl k) = waits tbl (k + 1) := by
  unfold tails waits
  rw [List.filter_map, List.map_map, List.filter_filter]
  have e : ∀ ws : List (List Nat), (((fun x => !x.isEmpty) ∘ List.drop k) ws && decide (k ≤ ws.length)) = decide (k + 1 ≤ ws.length) := fun ws => by
    rw [Bool.eq_iff_iff]
    simp
    omega
  rw [List.filter_congr (fun ws _ => e ws)]
  refine List.map_congr_left fun ws _ => ?_
  simp [List.tail_drop]
theorem waits_nil (tbl : Tbl) (k : Nat) (h : tbl ≠ []) : waits tbl k = [] ↔ maxLen tbl < k := by
  unfold waits
  rw [List.map_eq_nil_iff, List.filter_eq_nil_iff]
  constructor
  · intro hx
    obtain ⟨ws, hw, e⟩ := maxLen_has h
    have := hx ws hw
    simp at this
    omega
  · intro hx ws hw
    have := le_maxLen hw
    simp
    omega
theorem rounds_waits (tbl : Tbl) (h : tbl ≠ []) : ∀ n k, k ≤ maxLen tbl + 1 → maxLen tbl + 1 ≤ n + k → rounds n (waits tbl k) = ((List.range (maxLen tbl + 1)).drop k).map (pickCol tbl)
  | 0, k, h1, h2 => by
    have : k = maxLen tbl + 1 := by omega
    subst this
    rw [List.drop_of_length_le (by simp)]; rfl
  | n + 1, k, h1, h2 => by
    show (if waits tbl k = [] then [] else heads (waits tbl k) :: rounds n (tails (waits tbl k))) = _
    by_cases hk : k = maxLen tbl + 1
    · subst hk
      rw [if_pos ((waits_nil tbl _ h).mpr (Nat.lt_succ_self _)), List.drop_of_length_le (by simp)]; rfl
    · rw [if_neg (fun e => by have := (waits_nil tbl k h).mp e; omega), heads_waits, tails_waits, rounds_waits tbl h n (k + 1) (by omega) (by omega), List.drop_eq_getElem_cons (i := k) (by simp; omega)]
      simp
theorem turned_cols {tbl : Tbl} (h : tbl ≠ []) (hm : maxLen tbl ≤ 11) : turnedOf tbl = cols tbl := by
  unfold turnedOf cols
  have := rounds_waits tbl h 12 0 (by omega) (by omega)
  rw [waits_zero, List.drop_zero] at this
  rw [this, List.range_succ, List.map_append, List.map_cons, List.map_nil, List.dropLast_concat]
theorem pick_length (tbl : Tbl) (k : Nat) : (pickCol tbl k).length = tbl.countP fun ws => decide (k < ws.length) := by
  unfold pickCol
  induction tbl with
  | nil => rfl
  | cons ws r ih =>
    by_cases h : k < ws.length
    · rw [List.filterMap_cons, List.getElem?_eq_getElem h, List.countP_cons_of_pos (by simpa using h), List.length_cons, ih]
    · rw [List.filterMap_cons, List.getElem?_eq_none (by omega), List.countP_cons_of_neg (by simpa using h), ih]
theorem pick_anti (tbl : Tbl) {j k : Nat} (h : j ≤ k) : (pickCol tbl k).length ≤ (pickCol tbl j).length := by
  rw [pick_length, pick_length]
  refine List.countP_mono_left fun ws _ hw => ?_
  simp only [decide_eq_true_eq] at hw ⊢
  omega
theorem pick_zero {tbl : Tbl} (h : ∀ ws ∈ tbl, ws ≠ []) : (pickCol tbl 0).length = tbl.length := by
  rw [pick_length, List.countP_eq_length]
  intro ws hw
  simpa using List.length_pos_iff.mpr (h ws hw)
theorem pick_le (tbl : Tbl) (k : Nat) : (pickCol tbl k).length ≤ tbl.length := List.length_filterMap_le _ _
theorem pick_ne {tbl : Tbl} (h : tbl ≠ []) {k : Nat} (hk : k < maxLen tbl) : pickCol tbl k ≠ [] := by
  obtain ⟨ws, hw, e⟩ := maxLen_has h
  intro q
  have := pick_length tbl k
  rw [q] at this
  have h2 := (List.countP_pos_iff (p := fun ws : List (List Nat) => decide (k < ws.length))).mpr ⟨ws, hw, by rw [e]; exact decide_eq_true hk⟩
  rw [← this] at h2
  simp at h2
theorem cols_length (tbl : Tbl) : (cols tbl).length = maxLen tbl := by simp [cols]
theorem cols_maxLen {tbl : Tbl} (h : tbl ≠ []) (hne : ∀ ws ∈ tbl, ws ≠ []) : maxLen (cols tbl) = tbl.length := by
  refine Nat.le_antisymm (maxLen_le fun ws hw => ?_) ?_
  · obtain ⟨k, _, rfl⟩ := List.mem_map.mp hw
    exact pick_le tbl k
  · rw [← pick_zero hne]
    refine le_maxLen (List.mem_map.mpr ⟨0, ?_, rfl⟩)
    obtain ⟨ws, hw, e⟩ := maxLen_has h
    have := List.length_pos_iff.mpr (hne ws hw)
    simp; omega
/-- in a list of lists that never grow longer, the n-th of the j-th entries is the n-th list's j-th -/
theorem pick_at : ∀ (C : Tbl) (j n : Nat), (∀ a b : Nat, ∀ x y : List (List Nat), a ≤ b → C[a]? = some x → C[b]? = some y → y.length ≤ x.length) → (pickCol C j)[n]? = (C[n]?).bind fun x => x[j]?
  | [], j, n, _ => by simp [pickCol]
  | x :: r, j, n, h => by
    have hr : ∀ a b : Nat, ∀ u v : List (List Nat), a ≤ b → r[a]? = some u → r[b]? = some v → v.length ≤ u.length := fun a b u v hab h1 h2 => h (a + 1) (b + 1) u v (by omega) (by simpa using h1) (by simpa using h2)
    by_cases hj : j < x.length
    · have e : pickCol (x :: r) j = x[j] :: pickCol r j := by simp [pickCol, List.filterMap_cons, List.getElem?_eq_getElem hj]
      rw [e]
      cases n with
      | zero => simp [List.getElem?_eq_getElem hj]
      | succ n => simpa using pick_at r j n hr
    · have none : ∀ (n : Nat) (y : List (List Nat)), (x :: r)[n]? = some y → y[j]? = none := fun n y hy => List.getElem?_eq_none (by
        have := h 0 n x y (Nat.zero_le _) (by simp) hy
        omega)
      have e : pickCol (x :: r) j = [] := by
        unfold pickCol
        rw [List.filterMap_eq_nil_iff]
        intro y hy
        obtain ⟨i, hi, rfl⟩ := List.mem_iff_getElem.mp hy
        exact none i _ (List.getElem?_eq_getElem hi)
      rw [e]
      cases q : (x :: r)[n]? with
      | none => simp
      | some y => simp [none n y q]
theorem range_pick_self {α : Type} (l : List α) (n : Nat) (h : l.length ≤ n) : (List.range n).filterMap (fun j => l[j]?) = l := by
  induction n generalizing l with
  | zero => simp at h; subst h; rfl
  | succ n ih =>
    cases l with
    | nil => simp
    | cons x r =>
      rw [List.range_succ_eq_map, List.filterMap_cons, List.filterMap_map]
      simp only [List.getElem?_cons_zero]
      congr 1
      have := ih r (by simpa using h)
      simpa [Function.comp_def] using this
theorem cols_anti (tbl : Tbl) : ∀ a b : Nat, ∀ x y : List (List Nat), a ≤ b → (cols tbl)[a]? = some x → (cols tbl)[b]? = some y → y.length ≤ x.length := by
  intro a b x y hab h1 h2
  simp only [cols, List.getElem?_map, Option.map_eq_some_iff] at h1 h2
  obtain ⟨a', ha, rfl⟩ := h1
  obtain ⟨b', hb, rfl⟩ := h2
  have e1 : a' = a := by
    obtain ⟨_, e⟩ := List.getElem?_eq_some_iff.mp ha
    simpa using e.symm
  have e2 : b' = b := by
    obtain ⟨_, e⟩ := List.getElem?_eq_some_iff.mp hb
    simpa using e.symm
  subst e1 e2
  exact pick_anti tbl hab
/-- the rows of the columns, packed to the left -/
def packs (C : Tbl) (n : Nat) : Tbl := (List.range n).map (pickCol C)
theorem cols_cols {tbl : Tbl} (h : tbl ≠ []) (hne : ∀ ws ∈ tbl, ws ≠ []) : cols (cols tbl) = packs (cols tbl) tbl.length := by
  conv => lhs; unfold cols
  rw [show maxLen ((List.range (maxLen tbl)).map (pickCol tbl)) = tbl.length from cols_maxLen h hne]
  rfl
theorem cols_ne {tbl : Tbl} (h : tbl ≠ []) : ∀ ws ∈ cols tbl, ws ≠ [] := fun ws hw => by
  obtain ⟨k, hk, rfl⟩ := List.mem_map.mp hw
  exact pick_ne h (by simpa using hk)
theorem cols_nil {tbl : Tbl} (h : tbl ≠ []) (hne : ∀ ws ∈ tbl, ws ≠ []) : cols tbl ≠ [] := fun e => by
  have := cols_length tbl
  rw [e] at this
  obtain ⟨ws, hw, e2⟩ := maxLen_has h
  have := List.length_pos_iff.mpr (hne ws hw)
  simp at *
  omega
theorem cols_packs {tbl : Tbl} (h : tbl ≠ []) (hne : ∀ ws ∈ tbl, ws ≠ []) : cols (cols (cols tbl)) = cols tbl := by
  have h1 := cols_nil h hne
  have h2 := cols_ne (tbl := tbl) h
  have e1 : maxLen (cols (cols tbl)) = (cols tbl).length := cols_maxLen h1 h2
  conv => lhs; unfold cols
  rw [show maxLen ((List.range (maxLen ((List.range (maxLen tbl)).map (pickCol tbl)))).map (pickCol ((List.range (maxLen tbl)).map (pickCol tbl)))) = (cols tbl).length from e1, cols_length]
  refine List.map_congr_left fun n hn => ?_
  have hn : n < maxLen tbl := by simpa using hn
  show pickCol (cols (cols tbl)) n = pickCol tbl n
  rw [cols_cols h hne]
  show (packs (cols tbl) tbl.length).filterMap (fun ws => ws[n]?) = _
  unfold packs
  rw [List.filterMap_map]
  have e2 : (cols tbl)[n]? = some (pickCol tbl n) := by simp [cols, hn]
  have e3 : ((fun ws : List (List Nat) => ws[n]?) ∘ pickCol (cols tbl)) = fun j => (pickCol tbl n)[j]? := by
    funext j
    show (pickCol (cols tbl) j)[n]? = _
    rw [pick_at _ _ _ (cols_anti tbl), e2]; rfl
  rw [e3]
  exact range_pick_self _ _ (pick_le tbl n)
theorem OkT.cols {tbl : Tbl} (h : OkT tbl) : OkT (cols tbl) := by
  obtain ⟨h0, h1, h2⟩ := h
  have hm : maxLen tbl ≤ 9 := maxLen_le fun ws hw => (h2 ws hw).2.1
  refine ⟨cols_nil h0 fun ws hw => (h2 ws hw).1, by rw [cols_length]; exact hm, fun ws hw => ⟨cols_ne h0 ws hw, ?_, fun x hx => ?_⟩⟩
  · obtain ⟨k, _, rfl⟩ := List.mem_map.mp hw
    exact Nat.le_trans (pick_le tbl k) h1
  · obtain ⟨k, _, rfl⟩ := List.mem_map.mp hw
    obtain ⟨ws', hw', e⟩ := List.mem_filterMap.mp hx
    exact (h2 ws' hw').2.2 x (List.mem_of_getElem? e)
theorem OkT.turned {tbl : Tbl} (h : OkT tbl) : turnedOf tbl = Mine.cols tbl := turned_cols h.1 (Nat.le_trans (maxLen_le fun ws hw => (h.2.2 ws hw).2.1) (by decide))
end
-- Lb
section
open PyProof.Rows.LCg
/-- only lists -/
def Lists (b : List (Addr × Obj)) : Prop := ∀ p ∈ b, p.2.cls = .type "list" ∧ ∃ vs n, p.2.data = .seq vs n
theorem list_src {g h : Heap} (S : ∀ b o, g.get? b = some o → h.get? b = some o) {a : Addr} {its : Array Value} (hl : h.IsList a its) : ∃ blk, Own g h blk ∧ Lists blk ∧ SrcAt g a its blk := by
  obtain ⟨o, e, hc, n, hd⟩ := hl
  cases z : g.get? a with
  | some o' =>
    have := S _ _ z
    rw [e] at this; cases this
    exact ⟨[], (fun _ h => nomatch h), (fun _ h => nomatch h), .inl ⟨o, z, hc, n, hd⟩⟩
  | none =>
    refine ⟨[(a, o)], fun p hp => ?_, fun p hp => ?_, .inr ⟨o, .head _, hc, n, hd⟩⟩
    · rw [List.mem_singleton.mp hp]; exact ⟨e, z⟩
    · rw [List.mem_singleton.mp hp]; exact ⟨hc, _, _, hd⟩
theorem row_in {g h : Heap} (S : ∀ b o, g.get? b = some o → h.get? b = some o) {v : Value} {ws : List (List Nat)} (x : RowAt h v ws) : ∃ blk, Own g h blk ∧ Lists blk ∧ RowIn g blk v ws := by
  obtain ⟨a, its, rfl, hl, hw⟩ := x
  obtain ⟨blk, O, hb, hs⟩ := list_src S hl
  exact ⟨blk, O, hb, a, its, rfl, hs, hw⟩
/-- a table as a ledger of lists -/
theorem tab_in {g h : Heap} (S : ∀ b o, g.get? b = some o → h.get? b = some o) {r : Addr} {tbl : List (List (List Nat))} (x : RowsAt h r tbl) : ∃ blk, Own g h blk ∧ Lists blk ∧ TabIn g blk r tbl := by
  obtain ⟨its, hl, hn, hx⟩ := x
  have key : ∀ (vs : List Value) (t : List (List (List Nat))), vs.length = t.length → (∀ (i : Nat) (v : Value) (ws : List (List Nat)), vs[i]? = some v → t[i]? = some ws → RowAt h v ws) → ∃ blk, Own g h blk ∧ Lists blk ∧ ∀ (i : Nat) (v : Value) (ws : List (List Nat)), vs[i]? = some v → t[i]? = some ws → RowIn g blk v ws := by
    intro vs
    induction vs with
    | nil => intro t _ _; exact ⟨[], (fun _ h => nomatch h), (fun _ h => nomatch h), fun i v ws h => by simp at h⟩
    | cons v vs ih =>
      intro t hl hx
      cases t with
      | nil => cases hl
      | cons ws t =>
        obtain ⟨b1, O1, l1, r1⟩ := row_in S (hx 0 v ws (by simp) (by simp))
        obtain ⟨b2, O2, l2, r2⟩ := ih t (by simpa using hl) fun i v ws h1 h2 => hx (i + 1) v ws (by simpa using h1) (by simpa using h2)
        refine ⟨b1 ++ b2, fun p hp => (List.mem_append.mp hp).elim (O1 p) (O2 p), fun p hp => (List.mem_append.mp hp).elim (l1 p) (l2 p), fun i v' ws' h1 h2 => ?_⟩
        cases i with
        | zero =>
          simp only [List.getElem?_cons_zero, Option.some.injEq] at h1 h2
          subst h1 h2
          exact r1.sub fun p hp => List.mem_append_left _ hp
        | succ i => exact (r2 i v' ws' (by simpa using h1) (by simpa using h2)).sub fun p hp => List.mem_append_right _ hp
  obtain ⟨b1, O1, l1, r1⟩ := list_src S hl
  obtain ⟨b2, O2, l2, r2⟩ := key its.toList tbl (by simpa using hn) fun i v ws h1 h2 => hx i v ws (by simpa using h1) h2
  exact ⟨b1 ++ b2, fun p hp => (List.mem_append.mp hp).elim (O1 p) (O2 p), fun p hp => (List.mem_append.mp hp).elim (l1 p) (l2 p), its, SrcAt.sub r1 fun p hp => List.mem_append_left _ hp, hn, fun i v ws h1 h2 => (r2 i v ws (by simpa using h1) h2).sub fun p hp => List.mem_append_right _ hp⟩
theorem TabIn.sub {g : Heap} {b b' : List (Addr × Obj)} {r : Addr} {tbl : List (List (List Nat))} (x : TabIn g b r tbl) (h : ∀ p ∈ b, p ∈ b') : TabIn g b' r tbl := by
  obtain ⟨its, hs, hn, hx⟩ := x
  exact ⟨its, SrcAt.sub hs h, hn, fun i v ws h1 h2 => (hx i v ws h1 h2).sub h⟩
theorem TabIn.rows {g h : Heap} {L : Addr} {m : Str → Option Value} {b : List (Addr × Obj)} {r : Addr} {tbl : List (List (List Nat))} (x : TabIn g b r tbl) (F : Fr g L h m) (N : News g L h b) : RowsAt h r tbl := by
  obtain ⟨its, hs, hn, hx⟩ := x
  refine ⟨its, hs.list F.keep N, hn, fun i v ws h1 h2 => ?_⟩
  obtain ⟨a, its', e, hs', hw⟩ := hx i v ws h1 h2
  exact ⟨a, its', e, hs'.list F.keep N, hw⟩
/-- a comprehension's columns are a table -/
theorem toldQ_tab {g : Heap} {D : Addr} {ys : List Value} {blk : List (Addr × Obj)} {wss : List (List (List Nat))} (x : ToldQ ys blk wss) : TabIn g ((D, lst ys) :: blk) D wss := by
  have key : ∀ (ys : List Value) (blk : List (Addr × Obj)) (wss : List (List (List Nat))), ToldQ ys blk wss → ∀ (i : Nat) (v : Value) (ws : List (List Nat)), ys[i]? = some v → wss[i]? = some ws → RowIn g blk v ws := by
    intro ys
    induction ys with
    | nil => intro blk wss _ i v ws h; simp at h
    | cons y ys ih =>
      intro blk wss x i v ws h1 h2
      cases blk with
      | nil => cases wss <;> cases x
      | cons p blk =>
      cases wss with
      | nil => cases x
      | cons w wss =>
        cases i with
        | zero =>
          simp only [List.getElem?_cons_zero, Option.some.injEq] at h1 h2
          subst h1 h2
          obtain ⟨⟨rfl, its, n, e, hw⟩, _⟩ := x
          exact ⟨p.1, its, rfl, .inr ⟨p.2, .head _, by rw [e], n, by rw [e]⟩, hw⟩
        | succ i => exact (ih blk wss x.2 i v ws (by simpa using h1) (by simpa using h2)).sub fun q hq => List.mem_cons_of_mem _ hq
  refine ⟨ys.toArray, .inr ⟨lst ys, .head _, rfl, _, rfl⟩, by simp [x.length], fun i v ws h1 h2 => ?_⟩
  exact (key ys blk wss x i v ws (by simpa using h1) h2).sub fun q hq => List.mem_cons_of_mem _ hq
theorem toldQ_lists : ∀ {ys : List Value} {blk : List (Addr × Obj)} {wss : List (List (List Nat))}, ToldQ ys blk wss → Lists blk
  | [], [], [], _ => fun _ h => nomatch h
  | _ :: _, p :: _, _ :: _, x => fun q hq => by
    rcases List.mem_cons.mp hq with rfl | hq
    · obtain ⟨⟨_, its, n, e, _⟩, _⟩ := x
      rw [e]; exact ⟨rfl, _, _, rfl⟩
    · exact toldQ_lists x.2 q hq
  | [], _ :: _, _, h => by cases h
  | [], [], _ :: _, h => by cases h
  | _ :: _, [], _, h => by cases h
  | _ :: _, _ :: _, [], h => by cases h
/-- lists lie apart from what holds fields -/
theorem lists_apart {g h : Heap} {l l' : List (Addr × Obj)} (O : Own g h l) (O' : Own g h l') (hl : Lists l) (hf : ∀ p ∈ l', ∃ vs, p.2.data = .fields vs) : ∀ x ∈ l, x.1 ∉ l'.map (·.1) := fun x hx hm => by
  obtain ⟨y, hy, e⟩ := List.mem_map.mp hm
  have h1 := (O x hx).1
  rw [← e, (O' y hy).1] at h1
  obtain ⟨_, vs, n, hd⟩ := hl x hx
  obtain ⟨vs', hd'⟩ := hf y hy
  rw [← Option.some.inj h1, hd'] at hd
  cases hd
/-- the lengths of the rows -/
def Lens (ys : List Value) (t : List (List (List Nat))) : Prop := IntsAre ys (t.map fun ws => (ws.length : Int))
theorem lists_news {g h : Heap} {L : Addr} {m : Str → Option Value} {b : List (Addr × Obj)} (F : Fr g L h m) (O : Own g h b) (hl : Lists b) : News g L h b := fun p hp => by
  refine ⟨(O p hp).1, fun e => ?_, (O p hp).2⟩
  obtain ⟨oL, es, ep, hL, hd, _⟩ := F.ns
  have h1 := (O p hp).1
  rw [e, hL] at h1
  obtain ⟨_, vs, n, hd'⟩ := hl p hp
  rw [← Option.some.inj h1, hd] at hd'
  cases hd'
theorem lists_ne {g h : Heap} {b : List (Addr × Obj)} {c : Addr} {o : Obj} {u : Option Value} (O : Own g h b) (hl : Lists b) (e : h.get? c = some o) (ho : o.data = .cell u) : ∀ p ∈ b, p.1 ≠ c := fun p hp q => by
  have h1 := (O p hp).1
  rw [q, e] at h1
  obtain ⟨_, vs, n, hd'⟩ := hl p hp
  rw [← Option.some.inj h1, ho] at hd'
  cases hd'
/-- a cell is set: the others stand -/
theorem news_cell {g h h' : Heap} {L c : Addr} {o o' : Obj} {pre post : List (Addr × Obj)} (N : News g L h (pre ++ (c, o) :: post)) (hs : Heap.SameBut c h h') (e : h'.get? c = some o') (hn : ∀ p ∈ pre ++ post, p.1 ≠ c) : News g L h' (pre ++ (c, o') :: post) :=
  News.put N (fun b o e n => hs.extBut b o (by simpa using n) e) e hn
end
-- Lz
section
open PyProof.Rows.LCg
def JLens (c : Prop) (nw : List (Addr × Obj)) (gs0 : Array GenState) (tbl : List (List (List Nat))) (i : Nat) (ys : List Value) (news : List (Addr × Obj)) (gs : Array GenState) : Prop :=
  c ∧ news = nw ∧ gs = gs0 ∧ IntsAre ys ((tbl.take i).map fun ws => (ws.length : Int))
theorem ints_snoc : ∀ {vs : List Value} {ns : List Int} {k : Int} {t : Tok}, IntsAre vs ns → IntsAre (vs ++ [.int k t]) (ns ++ [k])
  | [], [], k, t, _ => .cons k t .nil
  | _ :: _, _ :: _, k, t, .cons n u h => .cons n u (ints_snoc h)
theorem reg_Lz : True := by
  k_with_none
  k_with "k_get" => (first | assumption | exact getL_put_eq | (refine Eq.trans (getL_put_ne (by decide +kernel)) ?_; k_get) | (refine' isSome_of ?h9z; case h9z => k_get) | (refine' isSome_of' ?h9z; case h9z => k_get) | exact rfl)
  k_with "k_put" => (exact rfl)
  k_with "setAttr ref" => (k_here; k_dflt (
    (refine' set_dict ?k19z ?k29z ?k39z ?k49z ?k59z ?k69z ?k79z ?k89z ?k99z ?k109z ?k119z ?k129z ?k139z ?_; (case k19z => k_asm); (case k29z => k_asm); (case k39z => k_asm); (case k49z => k_inst); (case k59z => exact rfl); (case k69z => k_is); (case k79z => k_is); (case k89z => k_is); (case k99z => k_is); (case k109z => k_get); (case k119z => exact rfl); (case k129z => k_upd); (case k139z => ((repeat (refine length_put_le ?_)); omega)); k_whole; intro h' F' N'; (try k_sweep))))
  k_with "size_fits" => (first | assumption | ((try simp only [tx_length]); rw [sizeLine_eq]; omega))
  k_with "k_ne" => (first | assumption | (refine Ne.symm ?_; assumption))
  k_with "tb_rel" => (first
    | exact List.forall_mem_nil _
    | (refine List.forall_mem_cons.mpr ⟨?ta9z, ?tb9z⟩; (case ta9z => first | exact fun _ => News.get (by assumption) (by k_mem) | exact fun h9 => absurd (by simp) h9); (case tb9z => tb_rel)))
  k_with "tb_start" => (
    refine wpAny_call ?_
    refine' enter _ (Cx.X (by assumption)) (Cx.T (by assumption)) (Cx.S (by assumption)) (by assumption) ?k19z ?k29z ?k39z ?k49z ?k59z ?_ ?k69z ?k79z ?k89z ?k99z
    (case k19z => k_is)
    (case k29z => k_is)
    (case k39z => ((try simp only [depth_deeper, depth_under_make, depth_in1, recursionLimit]); omega))
    (case k49z => first | exact BindsTo.of_eq rfl | exact binds_K (Frag.In.keeps (Cx.X (by assumption)) (Cx.S (by assumption))) rfl (by k_is) rfl rfl rfl)
    (case k59z => exact locs rfl)
    (case k69z => exact rfl)
    (case k79z => exact rfl)
    (case k89z => exact rfl)
    (case k99z => decide)
    skip)
  k_with "exec If" => (refine wpAny_If ?_)
  k_with "execs nil" => (refine wpAny_execs_nil ?_)
  k_with "execs cons" => ((with_reducible refine wpAny_execs_cons ?_); (try dsimp only); (try k_fold); (try (with_reducible refine wp_tok ?_; intro tk9)))
  k_with "compareOp In str str" => (first | refine in_is (v := true) (by decide +kernel) ?_ | refine in_is (v := false) (by decide +kernel) ?_ | refine in_is (by assumption) ?_)
  k_with "compareOp Eq str str" => (first | refine eq_is (v := true) (by decide +kernel) ?_ | refine eq_is (v := false) (by decide +kernel) ?_ | refine eq_is (by assumption) ?_)
  k_with "truthy str" => (first | with_reducible refine truth_one ?_ | (with_reducible (refine truth_lit (v := false) (by decide +kernel) ?_)) | (with_reducible (refine truth_lit (v := true) (by decide +kernel) ?_)) | (with_reducible (refine truth_tx (by omega) ?_ ?_) <;> intro hw9))
  k_with "inplaceOp Add str str" => (refine iadd_tx (by ((try simp only [List.length_cons, List.length_nil]); omega)) ?_; intro t9 tk9)
  k_with "eval Name" => (k_here; first
    | (refine' nm_compl ?l9z ?n9z ?m9z ?o9z ?v9z ?c9z ?k9z ?d9z ?_; (case l9z => with_reducible assumption); (case k9z => with_reducible assumption); (case c9z => with_reducible assumption); (case o9z => with_reducible assumption); (case v9z => with_reducible assumption); (case n9z => with_reducible assumption); (case m9z => with_reducible assumption); (case d9z => with_reducible assumption))
    | (refine' nm_cell ?n9z ?c9z ?m9z ?d9z ?k9z ?l9z ?b9z ?_; (case l9z => with_reducible assumption); (case k9z => with_reducible assumption); (case c9z => with_reducible assumption); (case n9z => with_reducible assumption); (case m9z => with_reducible assumption); (case d9z => with_reducible assumption); (case b9z => decide))
    | (refine' nm_built ?f9z ?x9z ?t9z ?e9z ?hv9z ?hn9z ?g9z ?b9z ?k9z ?l9z ?d9z ?_; (case l9z => with_reducible assumption); (case k9z => with_reducible assumption); (case g9z => with_reducible assumption); (case b9z => with_reducible assumption); (case hv9z => boot_fast); (case f9z => assumption); (case x9z => assumption); (case t9z => assumption); (case e9z => k_is); (case hn9z => decide); (case d9z => decide)))
  k_with "k_in" => (exact Frag.In.keeps (by with_reducible assumption) (Fr.keep (by with_reducible assumption)))
  k_with "kas_types" => (repeat' (first | (k_unfold; (try dsimp only)) | ((fail_if_success (with_reducible show wpAny _ _ (call _ _) _ _ _)); (fail_if_success (with_reducible show wpAny _ _ (subscriptTail _ _ _ _) _ _ _)); (fail_if_success (with_reducible show wpAny _ _ (eval (PySem.Expr.ListComp _ _ _ _) _) _ _ _)); (first | walk1 | (dsimp only; walk1)))))
  trivial
theorem lens_turn {w : World} {A : Around} {ev : Env} {g : Heap} {L : Addr} {m mg mb : Str → Option Value} {p : Program} {loose : List Str} {scope : Scope} {cl : List (Str × Addr)} {os : OsState} {tbl : List (List (List Nat))} {c : Prop} {nw : List (Addr × Obj)} {gs0 : Array GenState} {p4 p5 p6 : Pos}
    (X : (hd.heap_1 w.params).In g) (T : TopRead p loose mg mb g) (hlen : ∀ ws ∈ tbl, ws.length ≤ 20)
    (q2 : ∀ C, (compEnvC scope cl C ev).globals = mainGlobals) (q3 : ∀ C, (compEnvC scope cl C ev).builtins = builtinsNs) (q4 : ∀ C, (compEnvC scope cl C ev).scope.kind = .function)
    (i1 : ∀ C, (compEnvC scope cl C ev).kindOf (Str.ofString "row") = some .local) (i3 : ∀ C, (compEnvC scope cl C ev).kindOf (Str.ofString "len") = some .globalImplicit) :
    CompTurn P0 w A ev g L m (.Call (.Name (Str.ofString "len") p4) [.Name (Str.ofString "row") p5] [] p6) [] (Str.ofString "row") scope cl os tbl.length
      (fun i v => ∃ ws, tbl[i]? = some ws ∧ RowIn g nw v ws) (fun i ys news gs => JLens c nw gs0 tbl i ys news gs) := by
  intro i ys news v I oI C oC D m₂ s E hi hP hJ hos hoC hm₂ F N off n1 n2 n3
  obtain ⟨ws, hws, a, its, rfl, hl, hw⟩ := hP
  obtain ⟨hc, rfl, rfl, hy⟩ := hJ
  have q1 : (compEnvC scope cl C ev).locals = C := rfl
  replace q2 := q2 C
  replace q3 := q3 C
  replace q4 := q4 C
  replace i1 := i1 C
  replace i3 := i3 C
  refine wpAny_tests_nil ?_
  simp only [if_true]
  generalize compEnvC scope cl C ev = env at *
  have hd9 : (Str.ofString "row" == ("__debug__" : Str)) = false := by decide
  have hmC : (C, oC) ∈ (I, oI) :: (C, oC) :: (D, lst ys) :: news := by simp
  have hl' : SrcAt g a its ((I, oI) :: (C, oC) :: (D, lst ys) :: news) := hl.imp id fun ⟨o, h, r⟩ => ⟨o, by simp [h], r⟩
  have hn : its.size ≤ 20 := hw.1 ▸ hlen ws (List.mem_of_getElem? hws)
  show wpAny _ _ _ _ _ _
  k_fold
  kas_types
  refine len_src F N hl' (by omega) fun t1 k1 => ?_
  all_goals (repeat' (first | (dsimp only) | (k_unfold; dsimp only)))
  refine ⟨news, F, N, off, hos, hc, rfl, rfl, ?_⟩
  rw [take_get hws, List.map_append, List.map_cons, List.map_nil, ← hw.1]
  exact ints_snoc hy
theorem max_is {tbl : Tbl} {M : Int} (h : tbl ≠ []) (h1 : M ∈ tbl.map fun ws => (ws.length : Int)) (h2 : ∀ a ∈ tbl.map (fun ws => (ws.length : Int)), a ≤ M) : M = ((maxLen tbl : Nat) : Int) := by
  obtain ⟨ws, hw, rfl⟩ := List.mem_map.mp h1
  have e1 := le_maxLen hw
  obtain ⟨ws', hw', e'⟩ := maxLen_has h
  have e2 := h2 _ (List.mem_map.mpr ⟨ws', hw', rfl⟩)
  omega
end
theorem reg_Lz_end : True := by
  k_with_none
  trivial
-- Lt
section
open PyProof.Rows.LCg
/-- nothing that holds fields -/
def NoF (nw : List (Addr × Obj)) : Prop := ∀ p ∈ nw, ∀ vs, p.2.data ≠ .fields vs
theorem Lists.noF {b : List (Addr × Obj)} (hl : Lists b) : NoF b := fun p hp vs e => by
  obtain ⟨_, vs', n, hd⟩ := hl p hp
  rw [e] at hd; cases hd
/-- a table turned, the frame's ledger kept -/
theorem turned_step {w : World} {p : Program} {loose : List Str} {mg mb : Str → Option Value} {g : Heap} {L : Addr} {m : Str → Option Value} {A : Around} {s : Shared} {Q E : Value → Shared → Prop} {h0 : Heap} {r : Addr} {tbl : List (List (List Nat))} {nw tj ts : List (Addr × Obj)}
  (X : (hd.heap_1 w.params).In g) (T : TopRead p loose mg mb g) (B : Bm mg g) (hdp : A.depth ≤ 380) (hu : A.units ≤ 2000) (hh : A.handled = none) (F : Fr g L s.heap m) (N0 : News g L s.heap (nw ++ (tj ++ ts))) (hnf : NoF nw) (hJ : TabJ w g h0 tj) (hT : TabT w g h0 ts) (G : AllBare s.gens) (t : TabIn g nw r tbl) (hok : OkT tbl)
  (hret : ∀ s' r' nw' tj' ts', Fr g L s'.heap m → News g L s'.heap (nw' ++ (tj' ++ ts')) → NoF nw' → (∀ p ∈ nw, p ∈ nw') → TabIn g nw' r' (cols tbl) → TabJ w g s'.heap tj' → TabT w g s'.heap ts' → AllBare s'.gens → s'.os = s.os → Q (.ref r') s') :
  wpAny (model P0 w) A (call (.ref 818) [.ref r]) Q E s := by
  have N : News g L s.heap nw := fun p hp => N0 p (List.mem_append_left _ hp)
  replace hJ : TabJ w g s.heap tj := ⟨fun p hp => Own.of_news N0 p (by simp [hp]), hJ.2⟩
  replace hT : TabT w g s.heap ts := hT.up (fun p hp => Own.of_news N0 p (by simp [hp])) fun _ _ e => e
  have O : Own g s.heap (tj ++ ts) := fun p hp => (List.mem_append.mp hp).elim (hJ.1 p) (hT.1 p)
  have hfl : ∀ p ∈ tj ++ ts, ∃ vs, p.2.data = .fields vs := fun p hp => (List.mem_append.mp hp).elim (JP.fields hJ.2 p) (hT.fields p)
  refine turned_ok ⟨X, T, F.keep⟩ B hdp hu hh hJ hT G (t.rows F N) hok ?_
  intro s' r' tj' ts' K J' T' G' hos hr
  rw [hok.turned] at hr
  have hL : L ∉ (tj ++ ts).map (·.1) := fun hm => by
    obtain ⟨q, hq, e⟩ := List.mem_map.mp hm
    obtain ⟨vs, hv⟩ := hfl q hq
    exact L_ne_fields F (O q hq).1 hv e
  have F' : Fr g L s'.heap m := Fr.after F K hL fun a ha => by
    obtain ⟨q, hq, e⟩ := List.mem_map.mp ha
    exact e ▸ (O q hq).2
  have N' : News g L s'.heap nw := Mine.News.after N K fun p hp hm => by
    obtain ⟨q, hq, e⟩ := List.mem_map.mp hm
    obtain ⟨vs, hv⟩ := hfl q hq
    have h1 := (N p hp).1
    rw [← e, (O q hq).1] at h1
    exact hnf p hp vs (Option.some.inj h1 ▸ hv)
  obtain ⟨b, Ob, hb, tb⟩ := tab_in F'.keep hr
  have hj' : ∀ p ∈ tj' ++ ts', s'.heap.get? p.1 = some p.2 ∧ (@Ne Nat p.1 L) ∧ g.get? p.1 = none := fun p hp => by
    rcases List.mem_append.mp hp with hp | hp
    · obtain ⟨vs, hv⟩ := JP.fields J'.2 p hp
      exact ⟨(J'.1 p hp).1, L_ne_fields F' (J'.1 p hp).1 hv, (J'.1 p hp).2⟩
    · obtain ⟨vs, hv⟩ := T'.fields p hp
      exact ⟨(T'.1 p hp).1, L_ne_fields F' (T'.1 p hp).1 hv, (T'.1 p hp).2⟩
  refine hret s' r' (b ++ nw) tj' ts' F' (fun p hp => (List.mem_append.mp hp).elim (fun hp => (List.mem_append.mp hp).elim (lists_news F' Ob hb p) (N' p)) (hj' p)) (fun p hp => (List.mem_append.mp hp).elim (hb.noF p) (hnf p)) (fun p hp => List.mem_append_right _ hp) (tb.sub fun p hp => List.mem_append_left _ hp) J' T' G' hos
end
-- Wt
section
open PyProof.Rows.LCg
/-- the law's signs, as the program has them -/
abbrev signsS : Str := Str.ofString " !#$&()*;<>?[\\]^`{|}~"
theorem signs_tx : signsS = tx lawSigns := by decide +kernel
theorem item_all : (List.range 21).all (fun n => lawSigns.any fun c => Txt.item signsS ((n : Nat) : Int) == tx [c]) = true := by decide +kernel
theorem item_signs {k : Int} (h0 : 0 ≤ k) (h1 : k < 21) : ∃ c ∈ lawSigns, Txt.item signsS k = tx [c] := by
  obtain ⟨n, rfl⟩ : ∃ n : Nat, k = (n : Int) := ⟨k.toNat, (Int.toNat_of_nonneg h0).symm⟩
  have := List.all_eq_true.mp item_all n (List.mem_range.mpr (by omega))
  obtain ⟨c, hc, e⟩ := List.any_eq_true.mp this
  exact ⟨c, hc, eq_of_beq e⟩
def Signs (ys : List Value) (cs : List Nat) : Prop := (∃ lv : List (Str × Tok), strValues lv = ys ∧ lv.map (·.1) = cs.map fun c => tx [c]) ∧ ∀ c ∈ cs, c ∈ lawSigns
def JWord (c : Prop) (nw : List (Addr × Obj)) (gs0 : Array GenState) (i : Nat) (ys : List Value) (news : List (Addr × Obj)) (gs : Array GenState) : Prop :=
  c ∧ news = nw ∧ gs = gs0 ∧ ∃ cs : List Nat, Signs ys cs ∧ cs.length = i
theorem Signs.snoc {ys : List Value} {cs : List Nat} {c : Nat} {t : Tok} (h : Signs ys cs) (hc : c ∈ lawSigns) : Signs (ys ++ [.str (tx [c]) t]) (cs ++ [c]) := by
  obtain ⟨⟨lv, rfl, e⟩, ha⟩ := h
  refine ⟨⟨lv ++ [(tx [c], t)], by simp [strValues], by rw [List.map_append, List.map_append, e]; rfl⟩, fun x hx => ?_⟩
  rcases List.mem_append.mp hx with hx | hx
  · exact ha x hx
  · rw [List.mem_singleton.mp hx]; exact hc
theorem reg_Wt : True := by
  k_with_none
  k_with "k_get" => (first | assumption | exact getL_put_eq | (refine Eq.trans (getL_put_ne (by decide +kernel)) ?_; k_get) | (refine' isSome_of ?h9z; case h9z => k_get) | (refine' isSome_of' ?h9z; case h9z => k_get) | exact rfl)
  k_with "k_put" => (exact rfl)
  k_with "setAttr ref" => (k_here; k_dflt (
    (refine' set_dict ?k19z ?k29z ?k39z ?k49z ?k59z ?k69z ?k79z ?k89z ?k99z ?k109z ?k119z ?k129z ?k139z ?_; (case k19z => k_asm); (case k29z => k_asm); (case k39z => k_asm); (case k49z => k_inst); (case k59z => exact rfl); (case k69z => k_is); (case k79z => k_is); (case k89z => k_is); (case k99z => k_is); (case k109z => k_get); (case k119z => exact rfl); (case k129z => k_upd); (case k139z => ((repeat (refine length_put_le ?_)); omega)); k_whole; intro h' F' N'; (try k_sweep))))
  k_with "size_fits" => (first | assumption | ((try simp only [tx_length]); rw [sizeLine_eq]; omega))
  k_with "k_ne" => (first | assumption | (refine Ne.symm ?_; assumption))
  k_with "tb_rel" => (first
    | exact List.forall_mem_nil _
    | (refine List.forall_mem_cons.mpr ⟨?ta9z, ?tb9z⟩; (case ta9z => first | exact fun _ => News.get (by assumption) (by k_mem) | exact fun h9 => absurd (by simp) h9); (case tb9z => tb_rel)))
  k_with "tb_start" => (
    refine wpAny_call ?_
    refine' enter _ (Cx.X (by assumption)) (Cx.T (by assumption)) (Cx.S (by assumption)) (by assumption) ?k19z ?k29z ?k39z ?k49z ?k59z ?_ ?k69z ?k79z ?k89z ?k99z
    (case k19z => k_is)
    (case k29z => k_is)
    (case k39z => ((try simp only [depth_deeper, depth_under_make, depth_in1, recursionLimit]); omega))
    (case k49z => first | exact BindsTo.of_eq rfl | exact binds_K (Frag.In.keeps (Cx.X (by assumption)) (Cx.S (by assumption))) rfl (by k_is) rfl rfl rfl)
    (case k59z => exact locs rfl)
    (case k69z => exact rfl)
    (case k79z => exact rfl)
    (case k89z => exact rfl)
    (case k99z => decide)
    skip)
  k_with "exec If" => (refine wpAny_If ?_)
  k_with "execs nil" => (refine wpAny_execs_nil ?_)
  k_with "execs cons" => ((with_reducible refine wpAny_execs_cons ?_); (try dsimp only); (try k_fold); (try (with_reducible refine wp_tok ?_; intro tk9)))
  k_with "compareOp In str str" => (first | refine in_is (v := true) (by decide +kernel) ?_ | refine in_is (v := false) (by decide +kernel) ?_ | refine in_is (by assumption) ?_)
  k_with "compareOp Eq str str" => (first | refine eq_is (v := true) (by decide +kernel) ?_ | refine eq_is (v := false) (by decide +kernel) ?_ | refine eq_is (by assumption) ?_)
  k_with "truthy str" => (first | with_reducible refine truth_one ?_ | (with_reducible (refine truth_lit (v := false) (by decide +kernel) ?_)) | (with_reducible (refine truth_lit (v := true) (by decide +kernel) ?_)) | (with_reducible (refine truth_tx (by omega) ?_ ?_) <;> intro hw9))
  k_with "inplaceOp Add str str" => (refine iadd_tx (by ((try simp only [List.length_cons, List.length_nil]); omega)) ?_; intro t9 tk9)
  k_with "eval Name" => (k_here; first
    | (refine' nm_compl ?l9z ?n9z ?m9z ?o9z ?v9z ?c9z ?k9z ?d9z ?_; (case l9z => with_reducible assumption); (case k9z => with_reducible assumption); (case c9z => with_reducible assumption); (case o9z => with_reducible assumption); (case v9z => with_reducible assumption); (case n9z => with_reducible assumption); (case m9z => with_reducible assumption); (case d9z => with_reducible assumption))
    | (refine' nm_cell ?n9z ?c9z ?m9z ?d9z ?k9z ?l9z ?b9z ?_; (case l9z => with_reducible assumption); (case k9z => with_reducible assumption); (case c9z => with_reducible assumption); (case n9z => with_reducible assumption); (case m9z => with_reducible assumption); (case d9z => with_reducible assumption); (case b9z => decide))
    | (refine' nm_built ?f9z ?x9z ?t9z ?e9z ?hv9z ?hn9z ?g9z ?b9z ?k9z ?l9z ?d9z ?_; (case l9z => with_reducible assumption); (case k9z => with_reducible assumption); (case g9z => with_reducible assumption); (case b9z => with_reducible assumption); (case hv9z => boot_fast); (case f9z => assumption); (case x9z => assumption); (case t9z => assumption); (case e9z => k_is); (case hn9z => decide); (case d9z => decide)))
  k_with "k_in" => (exact Frag.In.keeps (by with_reducible assumption) (Fr.keep (by with_reducible assumption)))
  k_with "kas_types" => (repeat' (first | (k_unfold; (try dsimp only)) | ((fail_if_success (with_reducible show wpAny _ _ (call _ _) _ _ _)); (fail_if_success (with_reducible show wpAny _ _ (subscriptTail _ _ _ _) _ _ _)); (fail_if_success (with_reducible show wpAny _ _ (eval (PySem.Expr.ListComp _ _ _ _) _) _ _ _)); (first | walk1 | (dsimp only; walk1)))))
  trivial
theorem word_turn {w : World} {A : Around} {ev : Env} {g : Heap} {L : Addr} {m mg mb : Str → Option Value} {p : Program} {loose : List Str} {scope : Scope} {cl : List (Str × Addr)} {os : OsState} {c : Prop} {nw : List (Addr × Obj)} {gs0 : Array GenState} {cs cp : Addr} {osg op : Obj} {a : Int} {tp tsg : Tok} {n : Nat} {p1 p2 p3 p4 p5 p6 p7 p8 p9 p10 p11 : Pos}
    (X : (hd.heap_1 w.params).In g) (T : TopRead p loose mg mb g) (hn : n ≤ 2) (ha : 0 ≤ a) (hs : (cs, osg) ∈ nw) (hos : osg.data = .cell (some (.str signsS tsg))) (hp : (cp, op) ∈ nw) (hop : op.data = .cell (some (.int a tp)))
    (q2 : ∀ C, (compEnvC scope cl C ev).globals = mainGlobals) (q3 : ∀ C, (compEnvC scope cl C ev).builtins = builtinsNs) (q4 : ∀ C, (compEnvC scope cl C ev).scope.kind = .function) (q5 : ∀ C, (compEnvC scope cl C ev).cells.lookup (Str.ofString "signs") = some cs) (q6 : ∀ C, (compEnvC scope cl C ev).cells.lookup (Str.ofString "part") = some cp)
    (i1 : ∀ C, (compEnvC scope cl C ev).kindOf (Str.ofString "k") = some .local) (i2 : ∀ C, (compEnvC scope cl C ev).kindOf (Str.ofString "signs") = some .cell) (i3 : ∀ C, (compEnvC scope cl C ev).kindOf (Str.ofString "part") = some .cell) :
    CompTurn P0 w A ev g L m (.Subscript (.Name (Str.ofString "signs") p1) (.BinOp (.BinOp (.Name (Str.ofString "part") p2) .FloorDiv (.BinOp (.Constant (.int 3) 0 p3) .Mult (.BinOp (.Constant (.int 21) 0 p4) .Pow (.Name (Str.ofString "k") p5) p6) p7) p8) .Mod (.Constant (.int 21) 0 p9) p10) p11) [] (Str.ofString "k") scope cl os n
      (fun i v => ∃ t, v = .int (i : Int) t) (fun i ys news gs => JWord c nw gs0 i ys news gs) := by
  intro i ys news v I oI C oC D m₂ s E hi hP hJ hos1 hoC hm₂ F N off n1 n2 n3
  obtain ⟨t, rfl⟩ := hP
  obtain ⟨hc, rfl, rfl, zs, hy, hz⟩ := hJ
  have q1 : (compEnvC scope cl C ev).locals = C := rfl
  replace q2 := q2 C
  replace q3 := q3 C
  replace q4 := q4 C
  replace q5 := q5 C
  replace q6 := q6 C
  replace i1 := i1 C
  replace i2 := i2 C
  replace i3 := i3 C
  refine wpAny_tests_nil ?_
  simp only [if_true]
  generalize compEnvC scope cl C ev = env at *
  have hd9 : (Str.ofString "k" == ("__debug__" : Str)) = false := by decide
  have hmC : (C, oC) ∈ (I, oI) :: (C, oC) :: (D, lst ys) :: news := by simp
  have hmS : (cs, osg) ∈ (I, oI) :: (C, oC) :: (D, lst ys) :: news := by simp [hs]
  have hmP : (cp, op) ∈ (I, oI) :: (C, oC) :: (D, lst ys) :: news := by simp [hp]
  obtain rfl | rfl : i = 0 ∨ i = 1 := by omega
  · replace hm₂ : m₂ (Str.ofString "k") = some (.int 0 t) := hm₂
    show wpAny _ _ _ _ _ _
    k_fold
    kas_types
    refine KXi.item (n := 21) (by decide +kernel) (Int.le_trans (by decide) (fmod_lo _ (by decide))) (fmod_hi _ (by decide)) (by decide) fun _ => ?_
    all_goals (repeat' (first | (dsimp only) | (k_unfold; dsimp only)))
    obtain ⟨z, hz1, hz2⟩ := item_signs (fmod_lo ((a.fdiv (3 * 21 ^ Int.toNat 0))) (n := 21) (by decide)) (fmod_hi _ (by decide))
    refine ⟨news, F, N, off, hos1, hc, rfl, rfl, zs ++ [z], ?_, by simp [hz]⟩
    rw [hz2]
    exact hy.snoc hz1
  · replace hm₂ : m₂ (Str.ofString "k") = some (.int 1 t) := hm₂
    show wpAny _ _ _ _ _ _
    k_fold
    kas_types
    refine KXi.item (n := 21) (by decide +kernel) (Int.le_trans (by decide) (fmod_lo _ (by decide))) (fmod_hi _ (by decide)) (by decide) fun _ => ?_
    all_goals (repeat' (first | (dsimp only) | (k_unfold; dsimp only)))
    obtain ⟨z, hz1, hz2⟩ := item_signs (fmod_lo ((a.fdiv (3 * 21 ^ Int.toNat 1))) (n := 21) (by decide)) (fmod_hi _ (by decide))
    refine ⟨news, F, N, off, hos1, hc, rfl, rfl, zs ++ [z], ?_, by simp [hz]⟩
    rw [hz2]
    exact hy.snoc hz1
/-- signs joined are a word -/
theorem signs_join {ys : List Value} {cs : List Nat} (h : Signs ys cs) (hn : cs.length ≤ 2) : ∃ lv : List (Str × Tok), strValues lv = ys ∧ JoinOk (Str.ofString "") (lv.map (·.1)) = true ∧ Txt.join (Str.ofString "") (lv.map (·.1)) = tx cs ∧ IsWord cs := by
  obtain ⟨⟨lv, e1, e2⟩, hc⟩ := h
  refine ⟨lv, e1, ?_, ?_, hn, hc⟩
  · rw [e2]
    match cs, hn with
    | [], _ => decide +kernel
    | [a], _ => exact rfl
    | [a, b], _ => exact rfl
  · rw [e2]
    match cs, hn with
    | [], _ => rfl
    | [a], _ => rfl
    | [a, b], _ => rfl
end
theorem reg_Wt_end : True := by
  k_with_none
  trivial
-- Ru
section
open PyProof.Rows.LCg
theorem ints_at : ∀ {vs : List Value} {ns : List Int}, IntsAre vs ns → ∀ (i : Nat) (v : Value), vs[i]? = some v → ∃ k t, v = .int k t
  | [], [], .nil, i, v, h => by simp at h
  | _ :: _, _ :: _, .cons n t r, 0, v, h => by
    simp only [List.getElem?_cons_zero, Option.some.injEq] at h
    exact ⟨n, t, h.symm⟩
  | _ :: _, _ :: _, .cons n t r, i + 1, v, h => ints_at r i v (by simpa using h)
theorem slice_head (vs : List Value) : slicePick vs.toArray none (some 5) none = (vs.take 5).toArray := by
  have e : sliceBounds none (some 5) none vs.toArray.size = (((0 : Nat) : Int), ((min 5 vs.length : Nat) : Int), 1) := by
    simp only [sliceBounds, Option.getD_none, show (1 : Int) > 0 by decide, if_true, show ¬ (5 : Int) < 0 by decide, if_false, List.size_toArray]
    congr 2
    omega
  have := kmk_pick_nat _ e
  rw [this, List.drop_zero, Nat.sub_zero]
  congr 1
  rw [← List.take_eq_take_min]
/-- a row of a table, and the table with another one there -/
theorem ToldQ.split : ∀ {tls : List Value} {tb : List (Addr × Obj)} {tbl : List (List (List Nat))} (j : Nat), ToldQ tls tb tbl → j < tbl.length →
    ∃ (b1 b2 : List (Addr × Obj)) (c1 c2 : List (List (List Nat))) (p : Addr × Obj) (ws : List (List Nat)) (its : Array Value) (n : Nat), tb = b1 ++ p :: b2 ∧ tbl = c1 ++ ws :: c2 ∧ c1.length = j ∧ tls[j]? = some (.ref p.1) ∧ p.2 = W.listOf its n ∧ Words its ws ∧
      ∀ its' n' ws', Words its' ws' → ToldQ tls (b1 ++ (p.1, W.listOf its' n') :: b2) (c1 ++ ws' :: c2)
  | v :: tls, p :: tb, ws :: tbl, 0, x, _ => by
    obtain ⟨⟨rfl, its, n, e, hw⟩, x2⟩ := x
    exact ⟨[], tb, [], tbl, p, ws, its, n, rfl, rfl, rfl, rfl, e, hw, fun its' n' ws' h => ⟨⟨rfl, its', n', rfl, h⟩, x2⟩⟩
  | v :: tls, p :: tb, ws :: tbl, j + 1, x, h => by
    obtain ⟨b1, b2, c1, c2, q, us, its, n, e1, e2, e3, e4, e5, e6, e7⟩ := ToldQ.split j x.2 (by simpa using h)
    exact ⟨p :: b1, b2, ws :: c1, c2, q, us, its, n, by rw [e1]; rfl, by rw [e2]; rfl, by simp [e3], by simpa using e4, e5, e6, fun its' n' ws' h' => ⟨x.1, e7 its' n' ws' h'⟩⟩
  | [], [], [], j, _, h => by simp at h
  | [], _ :: _, _, _, x, _ => by cases x
  | [], [], _ :: _, _, x, _ => by cases x
  | _ :: _, [], _, _, x, _ => by cases x
  | _ :: _, _ :: _, [], _, x, _ => by cases x
theorem row_item {prog : Program} {w : World} {A : Around} {E : Value → Shared → Prop} {s : Shared} {value slice : Expr} {l : Addr} {items : Array Value} {k : Int} {u : Tok} {x : Value} {j : Nat} {Q : Value → Shared → Prop} (hl : s.heap.IsList l items) (hx : items[j]? = some x) (hk : k = (j : Int) ∨ k = (j : Int) - items.size) (hb : items.size ≤ 1000) (h : Q x s)
    (hs : subscripted slice false (.ref l) (.int k u) = operate [.ref l, .int k u] (getItem (.ref l) (.int k u)) := by with_unfolding_all rfl) (hg : ∀ r, letTemporaryGo value (.ref l) r = pure () := by intro _; with_unfolding_all rfl) :
    wpAny (model prog w) A (subscriptTail value slice (.ref l) (.int k u)) Q E s := by
  have hj : j < items.size := (Array.getElem?_eq_some_iff.mp hx).1
  rcases hk with rfl | rfl
  · exact item_list hl (by omega) (by omega) (by simpa using hx) h hs hg
  · exact subscriptTail_builtin hl.typeIs slot_list_getitem.lookup (wpAny_getItem_list_neg hl (by omega) (by omega) (by omega) (by rw [show ((j : Int) - items.size + items.size).toNat = j by omega]; exact hx) h) hs hg
/-- what the table of the first i numbers is -/
def OkN (i : Nat) (tbl : List (List (List Nat))) : Prop := tbl ≠ [] ∧ tbl.length ≤ 2 + i ∧ ∀ ws ∈ tbl, ws ≠ [] ∧ ws.length ≤ 2 + i ∧ ∀ x ∈ ws, IsWord x
theorem OkN.add {i : Nat} {tbl : List (List (List Nat))} {cs : List Nat} (h : OkN i tbl) (hw : IsWord cs) : OkN (i + 1) (tbl ++ [[cs]]) := by
  obtain ⟨h1, h2, h3⟩ := h
  refine ⟨by simp, by simp; omega, fun ws hws => ?_⟩
  rcases List.mem_append.mp hws with h | h
  · obtain ⟨a, b, c⟩ := h3 ws h
    exact ⟨a, by omega, c⟩
  · rw [List.mem_singleton.mp h]
    exact ⟨by simp, by simp; omega, fun x hx => by rw [List.mem_singleton.mp hx]; exact hw⟩
theorem OkN.put {i : Nat} {c1 c2 : List (List (List Nat))} {ws : List (List Nat)} {cs : List Nat} (h : OkN i (c1 ++ ws :: c2)) (hw : IsWord cs) : OkN (i + 1) (c1 ++ (ws ++ [cs]) :: c2) := by
  obtain ⟨h1, h2, h3⟩ := h
  refine ⟨by simp, by simp at h2 ⊢; omega, fun us hus => ?_⟩
  simp only [List.mem_append, List.mem_cons] at hus
  rcases hus with h | rfl | h
  · obtain ⟨a, b, c⟩ := h3 us (by first | kse_has | simp [h])
    exact ⟨a, by omega, c⟩
  · obtain ⟨a, b, c⟩ := h3 ws (by first | kse_has | simp)
    refine ⟨by simp, by simp; omega, fun x hx => ?_⟩
    rcases List.mem_append.mp hx with hx | hx
    · exact c x hx
    · rw [List.mem_singleton.mp hx]; exact hw
  · obtain ⟨a, b, c⟩ := h3 us (by first | kse_has | simp [h])
    exact ⟨a, by omega, c⟩
def JR (gs0 : Array GenState) (L R B : Addr) (osg slc : Obj) (i : Nat) (news : List (Addr × Obj)) (m : Str → Option Value) (gs : Array GenState) : Prop :=
  gs = gs0 ∧ m (Str.ofString "rows") = some (.ref R) ∧ ∃ (op : Obj) (u : Option Value) (tls : List Value) (tb : List (Addr × Obj)) (tbl : List (List (List Nat))) (n : Nat), op.data = .cell u ∧ news = (L + 1 + 1, op) :: (L + 1, osg) :: (B, slc) :: (R, W.listOf tls.toArray n) :: tb ∧ ToldQ tls tb tbl ∧ Nd news ∧ OkN i tbl
theorem reg_Ru : True := by
  k_with_none
  k_with "k_get" => (first | assumption | exact getL_put_eq | (refine Eq.trans (getL_put_ne (by decide +kernel)) ?_; k_get) | (refine' isSome_of ?h9z; case h9z => k_get) | (refine' isSome_of' ?h9z; case h9z => k_get) | exact rfl)
  k_with "k_put" => (exact rfl)
  k_with "setAttr ref" => (k_here; k_dflt (
    (refine' set_dict ?k19z ?k29z ?k39z ?k49z ?k59z ?k69z ?k79z ?k89z ?k99z ?k109z ?k119z ?k129z ?k139z ?_; (case k19z => k_asm); (case k29z => k_asm); (case k39z => k_asm); (case k49z => k_inst); (case k59z => exact rfl); (case k69z => k_is); (case k79z => k_is); (case k89z => k_is); (case k99z => k_is); (case k109z => k_get); (case k119z => exact rfl); (case k129z => k_upd); (case k139z => ((repeat (refine length_put_le ?_)); omega)); k_whole; intro h' F' N'; (try k_sweep))))
  k_with "size_fits" => (first | assumption | ((try simp only [tx_length]); rw [sizeLine_eq]; omega))
  k_with "k_ne" => (first | assumption | (refine Ne.symm ?_; assumption))
  k_with "tb_rel" => (first
    | exact List.forall_mem_nil _
    | (refine List.forall_mem_cons.mpr ⟨?ta9z, ?tb9z⟩; (case ta9z => first | exact fun _ => News.get (by assumption) (by k_mem) | exact fun h9 => absurd (by simp) h9); (case tb9z => tb_rel)))
  k_with "tb_start" => (
    refine wpAny_call ?_
    refine' enter _ (Cx.X (by assumption)) (Cx.T (by assumption)) (Cx.S (by assumption)) (by assumption) ?k19z ?k29z ?k39z ?k49z ?k59z ?_ ?k69z ?k79z ?k89z ?k99z
    (case k19z => k_is)
    (case k29z => k_is)
    (case k39z => ((try simp only [depth_deeper, depth_under_make, depth_in1, recursionLimit]); omega))
    (case k49z => first | exact BindsTo.of_eq rfl | exact binds_K (Frag.In.keeps (Cx.X (by assumption)) (Cx.S (by assumption))) rfl (by k_is) rfl rfl rfl)
    (case k59z => exact locs rfl)
    (case k69z => exact rfl)
    (case k79z => exact rfl)
    (case k89z => exact rfl)
    (case k99z => decide)
    skip)
  k_with "exec If" => (refine wpAny_If ?_)
  k_with "execs nil" => (refine wpAny_execs_nil ?_)
  k_with "execs cons" => ((with_reducible refine wpAny_execs_cons ?_); (try dsimp only); (try k_fold))
  k_with "compareOp In str str" => (first | refine in_is (v := true) (by decide +kernel) ?_ | refine in_is (v := false) (by decide +kernel) ?_ | refine in_is (by assumption) ?_)
  k_with "compareOp Eq str str" => (first | refine eq_is (v := true) (by decide +kernel) ?_ | refine eq_is (v := false) (by decide +kernel) ?_ | refine eq_is (by assumption) ?_)
  k_with "truthy str" => (first | with_reducible refine truth_one ?_ | (with_reducible (refine truth_lit (v := false) (by decide +kernel) ?_)) | (with_reducible (refine truth_lit (v := true) (by decide +kernel) ?_)) | (with_reducible (refine truth_tx (by omega) ?_ ?_) <;> intro hw9))
  k_with "inplaceOp Add str str" => (refine iadd_tx (by ((try simp only [List.length_cons, List.length_nil]); omega)) ?_; intro t9 tk9)
  k_with "ktr_rel" => (first | exact Look.of (by with_reducible assumption) | with_reducible exact Look.here | with_reducible exact Look.next (by decide +kernel) (by ktr_rel))
  k_with "eval Name" => (k_here; first
    | (refine' nm_look ?l9z ?f9z ?c9z ?k9z ?d9z ?v9z ?_; (case l9z => with_reducible assumption); (case f9z => with_reducible assumption); (case c9z => with_reducible assumption); (case k9z => with_reducible assumption); (case v9z => ktr_rel); (case d9z => decide))
    | (refine' nm_cell ?n9z ?c9z ?m9z ?d9z ?k9z ?l9z ?b9z ?_; (case l9z => with_reducible assumption); (case k9z => with_reducible assumption); (case c9z => with_reducible assumption); (case n9z => assumption); (case m9z => k_dflt k_mem); (case d9z => with_reducible assumption); (case b9z => decide))
    | (refine' nm_global ?f9z ?x9z ?t9z ?e9z ?g9z ?k9z ?l9z ?d9z ?_; (case l9z => with_reducible assumption); (case k9z => with_reducible assumption); (case g9z => with_reducible assumption); (case f9z => assumption); (case x9z => assumption); (case t9z => assumption); (case e9z => k_is); (case d9z => decide))
    | (refine' nm_built ?f9z ?x9z ?t9z ?e9z ?hv9z ?hn9z ?g9z ?b9z ?k9z ?l9z ?d9z ?_; (case l9z => with_reducible assumption); (case k9z => with_reducible assumption); (case g9z => with_reducible assumption); (case b9z => with_reducible assumption); (case hv9z => boot_fast); (case f9z => assumption); (case x9z => assumption); (case t9z => assumption); (case e9z => k_is); (case hn9z => decide); (case d9z => decide)))
  k_with "storeName" => (refine' nm_store ?x9z ?l9z ?p9z ?f9z ?n9z ?_; (case x9z => with_reducible assumption); (case l9z => with_reducible assumption); (case p9z => with_reducible assumption); (case f9z => assumption); (case n9z => assumption); intro _ _ _ _; (try k_sweep))
  k_with "exec Expr" => (refine wpAny_Expr_any ?_ (by with_reducible assumption) (by rfl))
  k_with "k_in" => (exact Frag.In.keeps (by with_reducible assumption) (Fr.keep (by with_reducible assumption)))
  k_with "kas_types" => (repeat' (first | (k_unfold; (try dsimp only)) | ((fail_if_success (with_reducible show wpAny _ _ (call _ _) _ _ _)); (fail_if_success (with_reducible show wpAny _ _ (subscriptTail _ _ _ _) _ _ _)); (fail_if_success (with_reducible show wpAny _ _ (eval (PySem.Expr.ListComp _ _ _ _) _) _ _ _)); (fail_if_success (with_reducible show wpAny _ _ (exec (PySem.Stmt.For _ _ _ _ _) _) _ _ _)); (fail_if_success (with_reducible show wpAny _ _ (exec (PySem.Stmt.While _ _ _ _) _) _ _ _)); (fail_if_success (with_reducible show wpAny _ _ (exec (PySem.Stmt.Assign _ (PySem.Expr.ListComp _ _ _ _) _) _) _ _ _)); (first | walk1 | (dsimp only; walk1)))))
  k_with "kse_has" => (first | with_reducible assumption | with_reducible exact List.mem_cons_self | (with_reducible refine List.mem_cons_of_mem _ ?_; kse_has) | (with_reducible refine List.mem_append_left _ ?_; kse_has) | (with_reducible refine List.mem_append_right _ ?_; kse_has))
  trivial
theorem rows_ok {w : World} {p : Program} {loose : List Str} {mg mb : Str → Option Value} {g : Heap} {A : Around} {s : Shared} {Q E : Value → Shared → Prop} {l : Addr} {vs : List Value} {ns : List Int}
  (C : Cx w p loose mg mb g s.heap) (hdp : A.depth ≤ 500) (hh : A.handled = none) (hl : s.heap.IsList l vs.toArray) (hi : IntsAre vs ns) (hn : ns.length ≤ 63)
  (hret : ∀ s' r tbl, Keeps [] s.heap s'.heap → s'.os = s.os → s'.gens = s.gens → RowsAt s'.heap r tbl → OkT tbl → Q (.ref r) s') :
  wpAny (model P0 w) A (call (.ref 813) [.ref l]) Q E s := by
  have O : Own g s.heap ([] : List (Addr × Obj)) := fun p hp => nomatch hp
  refine wpAny_call ?_
  refine' enterC _ C O ?k1 ?k2 ?k3 ?k4 ?k5 ?k5b ?_ ?k6 ?k7 ?k8
  case k1 => k_is
  case k2 => k_is
  case k3 => exact Nat.lt_of_le_of_lt hdp (by decide)
  case k4 => exact BindsTo.of_eq rfl
  case k5 => exact rfl
  case k5b => decide +kernel
  case k6 => exact rfl
  case k7 => exact rfl
  case k8 => exact rfl
  intro g' L' h' tk' cells' F' N' Y' X' T' hG9 hg9 l1
  k_cells Y'
  simp only [List.cons_append, List.nil_append, List.append_nil] at N'
  obtain ⟨os0, op0, hos0, hop0, N0⟩ : ∃ os0 op0 : Obj, os0.data = .cell none ∧ op0.data = .cell none ∧ News g' L' h' [(L' + 1 + 1, op0), (L' + 1, os0)] := ⟨_, _, cell_eq (by assumption) rfl, cell_eq (by assumption) rfl, N'⟩
  clear N'
  obtain ⟨m0, F0, hm0⟩ : ∃ m, Fr g' L' h' m ∧ m (Str.ofString "script") = some (.ref l) := ⟨_, F', rfl⟩
  clear F'
  have hll : g'.IsList l vs.toArray := hl.at fun o e => hG9 _ o e (fun q => nomatch q)
  dsimp only
  generalize hen : envOfC _ _ _ _ _ = env
  have q1 : env.locals = L' := by rw [← hen]; rfl
  have q2 : env.globals = mainGlobals := by rw [← hen]; rfl
  have q3 : env.builtins = builtinsNs := by rw [← hen]; rfl
  have q4 : env.scope.kind = .function := by rw [← hen]; rfl
  have q7 : (env.scope.kind == .class || (env.scope.kind == .module && env.locals != env.globals)) = false := by rw [← hen]; rfl
  have q6 : interactive env = false := by rw [← hen]; rfl
  have i1 : env.kindOf (Str.ofString "script") = some .local := by rw [← hen]; rfl
  have i2 : env.kindOf (Str.ofString "signs") = some .cell := by rw [← hen]; rfl
  have i3 : env.kindOf (Str.ofString "rows") = some .local := by rw [← hen]; rfl
  have i4 : env.kindOf (Str.ofString "x") = some .local := by rw [← hen]; rfl
  have i5 : env.kindOf (Str.ofString "part") = some .cell := by rw [← hen]; rfl
  have i6 : env.kindOf (Str.ofString "word") = some .local := by rw [← hen]; rfl
  have i14 : env.kindOf (Str.ofString "range") = some .globalImplicit := by rw [← hen]; rfl
  have w1 : env.cells.lookup (Str.ofString "signs") = some (L' + 1) := by rw [← hen]; rfl
  have w2 : env.cells.lookup (Str.ofString "part") = some (L' + 1 + 1) := by rw [← hen]; rfl
  show wpAny _ _ _ _ _ _
  k_fold
  repeat' (first | (k_unfold; (try dsimp only)) | ((fail_if_success (with_reducible show wpAny _ _ (storeName _ _ _) _ _ _)); walk1))
  refine wpAny_storeName_cell (c := L' + 1) (v₀ := none) q4 i2 w1 ⟨os0, (N0 (L' + 1, os0) (by first | kse_has | simp)).1, hos0⟩ ?_
  intro h2 hc2 hs2
  obtain ⟨os2, gos2, hos2⟩ := hc2
  have F2 : Fr g' L' h2 m0 := F0.change hs2 (Nat.succ_ne_self _) (N0 (L' + 1, os0) (by first | kse_has | simp)).2.2
  have N2 : News g' L' h2 [(L' + 1 + 1, op0), (L' + 1, os2)] := news_cell (pre := [(L' + 1 + 1, op0)]) (post := []) (o := os0) N0 hs2 gos2 (fun p hp => by
    simp only [List.append_nil, List.mem_singleton] at hp
    subst hp
    exact Nat.succ_ne_self _)
  clear F0 N0
  repeat' (first | (k_unfold; (try dsimp only)) | ((fail_if_success (with_reducible show wpAny _ _ (exec (PySem.Stmt.For _ _ _ _ _) _) _ _ _)); walk1))
  rename_i r0 h01 l01 r1 h02 l02 R h03 l03 h3 tk3 F3 N3

  refine for_over (g := g') (L := L') (vs.take 5).length (fun i v => ∃ k t, v = .int k t) (fun nw => (h3.objs.size + 1, ({ cls := .type "list", data := .seq (slicePick vs.toArray none (some 5) none) } : Obj)) ∈ nw) s.os (JR s.gens L' R (h3.objs.size + 1) os2 { cls := .type "list", data := .seq (slicePick vs.toArray none (some 5) none) }) q1 hh i4 q7 ?iter ?hS ?turn ?fin (by intro _; rfl)
  case hS =>
    intro i news m gs ⟨_, _, op, u, tls, tb, tbl, n, _, e, _⟩
    rw [e]; simp
  case iter =>
    kas_types
    refine slice_list3 (items := vs.toArray) F3 N3 (hll.at fun o e => F3.keep _ o e) .none (.int _ _) .none (by decide) ?_ (by with_unfolding_all rfl) (by intro _; with_unfolding_all rfl) (by rw [List.size_toArray, hi.length, sizeLine_eq]; omega)
    intro h4 F4 N4
    have hD0 : ∀ p ∈ [(R, W.listOf #[Value.ref r0, Value.ref r1] 0), (r1, W.listOf #[Value.str (Str.ofString "") (tk' + 1 + 1), Value.str (Str.ofString "#") (tk' + 1 + 1 + 1)] 0), (r0, W.listOf #[Value.str (Str.ofString "$") (tk' + 1)] 0), (L' + 1 + 1, op0), (L' + 1, os2)], p.1 < h3.objs.size := fun p hp => Heap.lt_size (N3 p hp).1
    have hls : SrcAt g' (h3.objs.size + 1) (vs.take 5).toArray (((h3.objs.size + 1, ({ cls := .type "list", data := .seq (slicePick vs.toArray none (some 5) none) } : Obj))) :: []) := .inr ⟨_, .head _, rfl, _, by rw [slice_head]⟩
    refine ⟨(L' + 1 + 1, op0) :: (L' + 1, os2) :: (h3.objs.size + 1, { cls := .type "list", data := .seq (slicePick vs.toArray none (some 5) none) }) :: (R, W.listOf [Value.ref r0, Value.ref r1].toArray 0) :: [(r0, W.listOf #[Value.str (Str.ofString "$") (tk' + 1)] 0), (r1, W.listOf #[Value.str (Str.ofString "") (tk' + 1 + 1), Value.str (Str.ofString "#") (tk' + 1 + 1 + 1)] 0)], _, F4, fun p hp => N4 p ?_, .inl ⟨_, (vs.take 5).toArray, rfl, SrcAt.sub hls ?_, by simp, fun i v hv => ?_, fun nw hm => SrcAt.sub hls ?_⟩, ?_, rfl, rfl, if_pos rfl, op0, none, [.ref r0, .ref r1], _, [[[36]], [[], [35]]], 0, hop0, rfl, ?_, ?_, ?_⟩
    · simp only [List.mem_cons, List.not_mem_nil, or_false] at hp ⊢
      rcases hp with h | h | h | h | h | h
      · exact .inr (.inr (.inr (.inr (.inl h))))
      · exact .inr (.inr (.inr (.inr (.inr h))))
      · exact .inl h
      · exact .inr (.inl h)
      · exact .inr (.inr (.inr (.inl h)))
      · exact .inr (.inr (.inl h))
    · intro p hp
      rw [List.mem_singleton.mp hp]; simp
    · have hv : (vs.take 5)[i]? = some v := by simpa using hv
      rw [List.getElem?_take] at hv
      split at hv
      · exact ints_at hi i v hv
      · cases hv
    · intro p hp
      rw [List.mem_singleton.mp hp]; exact hm
    · simp
    · exact ⟨⟨rfl, _, _, rfl, rfl, fun i v h => by
        match i with
        | 0 => simp at h; exact ⟨[36], _, rfl, h.symm⟩
        | i + 1 => simp at h⟩, ⟨rfl, _, _, rfl, rfl, fun i v h => by
        match i with
        | 0 => simp at h; exact ⟨[], _, rfl, h.symm⟩
        | 1 => simp at h; exact ⟨[35], _, rfl, h.symm⟩
        | i + 2 => simp at h⟩, trivial⟩
    · have a1 := hD0 (R, W.listOf #[Value.ref r0, Value.ref r1] 0) (by first | kse_has | simp)
      have a2 := hD0 (L' + 1 + 1, op0) (by first | kse_has | simp)
      have a3 := hD0 (L' + 1, os2) (by first | kse_has | simp)
      have a4 := hD0 (r0, W.listOf #[Value.str (Str.ofString "$") (tk' + 1)] 0) (by first | kse_has | simp)
      have a5 := hD0 (r1, W.listOf #[Value.str (Str.ofString "") (tk' + 1 + 1), Value.str (Str.ofString "#") (tk' + 1 + 1 + 1)] 0) (by first | kse_has | simp)
      show List.Nodup [L' + 1 + 1, L' + 1, h3.objs.size + 1, R, r0, r1]
      change @LT.lt Nat _ R h3.objs.size at a1
      change @LT.lt Nat _ (L' + 1 + 1) h3.objs.size at a2
      change @LT.lt Nat _ (L' + 1) h3.objs.size at a3
      change @LT.lt Nat _ r0 h3.objs.size at a4
      change @LT.lt Nat _ r1 h3.objs.size at a5
      obtain ⟨b1, b2⟩ := l01
      obtain ⟨b3, b4, b5⟩ := l02
      obtain ⟨b6, b7, b8, b9⟩ := l03
      simp only [List.nodup_cons, List.mem_cons, List.not_mem_nil, or_false, not_or, not_false_eq_true, and_true, List.nodup_nil]
      refine ⟨⟨?_, ?_, ?_, ?_, ?_⟩, ⟨?_, ?_, ?_, ?_⟩, ⟨?_, ?_, ?_⟩, ⟨?_, ?_⟩, ?_⟩
      · exact Nat.succ_ne_self _
      · exact Nat.ne_of_lt (Nat.lt_succ_of_lt a2)
      · exact Nat.ne_of_lt (by assumption)
      · exact Nat.ne_of_lt (by assumption)
      · exact Nat.ne_of_lt (by assumption)
      · exact Nat.ne_of_lt (Nat.lt_succ_of_lt a3)
      · exact Nat.ne_of_lt (by assumption)
      · exact Nat.ne_of_lt (by assumption)
      · exact Nat.ne_of_lt (by assumption)
      · exact Nat.ne_of_gt (Nat.lt_succ_of_lt a1)
      · exact Nat.ne_of_gt (Nat.lt_succ_of_lt a4)
      · exact Nat.ne_of_gt (Nat.lt_succ_of_lt a5)
      · exact Nat.ne_of_gt (by assumption)
      · exact Nat.ne_of_gt (by assumption)
      · exact Nat.ne_of_lt (by assumption)
    · refine ⟨by simp, by simp, fun ws hw => ?_⟩
      simp only [List.mem_cons, List.not_mem_nil, or_false] at hw
      rcases hw with rfl | rfl
      · exact ⟨by simp, by simp, fun x hx => by simp at hx; subst hx; exact ⟨by simp, by decide⟩⟩
      · exact ⟨by simp, by simp, fun x hx => by
          simp at hx
          rcases hx with rfl | rfl
          · exact ⟨by simp, by simp⟩
          · exact ⟨by simp, by decide⟩⟩
  case turn =>
    intro i news v I oI m s1 E1 hi1 hP hJ hos1 F1 N1 off1
    obtain ⟨k, t, rfl⟩ := hP
    obtain ⟨hgs, hmR, op, u, tls, tb, tbl, n, hop, rfl, hq, hnd, hok⟩ := hJ
    generalize hB : h3.objs.size + 1 = B at *
    generalize hslc : ({ cls := .type "list", data := .seq (slicePick vs.toArray none (some 5) none) } : Obj) = slc at *
    clear F3 N3 l01 l02 l03
    show wpAny _ _ _ _ _ _
    k_fold
    repeat' (first | (k_unfold; (try dsimp only)) | ((fail_if_success (with_reducible show wpAny _ _ (storeName _ _ _) _ _ _)); walk1))
    have hnd0 := Nd.cons.mp hnd
    refine wpAny_storeName_cell (c := L' + 1 + 1) (v₀ := u) q4 i5 w2 ⟨op, (N1 (L' + 1 + 1, op) (by first | kse_has | simp)).1, hop⟩ ?_
    intro h5 hc5 hs5
    obtain ⟨op5, gop5, hop5⟩ := hc5
    have F5 := F1.change hs5 (N1 (L' + 1 + 1, op) (by first | kse_has | simp)).2.1 (N1 (L' + 1 + 1, op) (by first | kse_has | simp)).2.2
    have N5 := news_cell (pre := [(I, oI)]) (o' := op5) N1 hs5 gop5 (fun p hp => by
      rcases List.mem_append.mp hp with hp | hp
      · rw [List.mem_singleton.mp hp]
        exact (off1 (L' + 1 + 1, op) (by first | kse_has | simp)).symm
      · exact hnd0.1 p hp)
    clear N1
    obtain ⟨nn, hn1, hn2⟩ : ∃ nn : Nat, nn ≤ 2 ∧ ((k.fdiv 3).fmod 1323).fmod 3 = (nn : Int) := by
      have e0 := fmod_lo ((k.fdiv 3).fmod 1323) (n := 3) (by decide)
      have e1 := fmod_hi ((k.fdiv 3).fmod 1323) (n := 3) (by decide)
      exact ⟨(((k.fdiv 3).fmod 1323).fmod 3).toNat, by omega, (Int.toNat_of_nonneg e0).symm⟩
    have hpart := fmod_lo (k.fdiv 3) (n := 1323) (by decide)
    simp only [List.singleton_append] at N5
    generalize hnw : (I, oI) :: (L' + 1 + 1, op5) :: (L' + 1, os2) :: (B, slc) :: (R, W.listOf tls.toArray n) :: tb = nw at N5
    have hm1 : (L' + 1 + 1, op5) ∈ nw := by rw [← hnw]; simp
    have hm2 : (L' + 1, os2) ∈ nw := by rw [← hnw]; simp
    have hm3 : (R, W.listOf tls.toArray n) ∈ nw := by rw [← hnw]; simp
    kas_types
    refine comp_E (g := g') (L := L') (m := fun z => if z = Str.ofString "x" then some (Value.int k t) else m z) nn (fun i v => ∃ t, v = .int (i : Int) t) (fun _ => True) (fun os i ys news gs => JWord (os = s.os) nw s.gens i ys news gs) hh (by rw [← hen]; rfl) ?hcell rfl ?hnames rfl ?hsz ?iter2 (fun _ _ _ _ _ _ => trivial) ?turn2 ?fin2 (by intro _; rfl)
    case hcell => decide
    case hnames => decide
    case hsz => exact Nat.le_trans hn1 (by decide)
    case iter2 =>
      kas_types
      rw [hn2]
      repeat' (first | (k_unfold; (try dsimp only)) | ((fail_if_success (with_reducible show wpAny _ _ (call _ _) _ _ _)); walk1))
      walk1
      rename IsRange _ _ _ _ _ _ _ _ => R5
      rename Fr _ _ _ _ => F6
      rename News _ _ _ _ => N6
      obtain ⟨rs1, rs2⟩ := range_small nn (by omega)
      exact ⟨nw, F6, fun p hp => N6 p (by first | kse_has | simp [hp]), .inr ⟨_, _, _, _, _, rfl, R5, rs1, rs2, fun _ t => ⟨t, rfl⟩⟩, trivial, hos1, rfl, hgs, [], ⟨⟨[], rfl, rfl⟩, fun _ h => nomatch h⟩, rfl⟩
    case turn2 =>
      intro os
      refine word_turn (mg := mg) (mb := mb) (cs := L' + 1) (cp := L' + 1 + 1) X' T' hn1 hpart hm2 hos2 hm1 hop5 ?c1 ?c2 (fun _ => rfl) ?c3 ?c4 (fun _ => rfl) ?c5 ?c6
      case c1 => exact fun _ => q2
      case c2 => exact fun _ => q3
      all_goals (intros; first | rfl | (rw [← hen]; rfl))
    case fin2 =>
      intro D s6 ys news6 F6 N6 o6 hJ6
      obtain ⟨hos6, hn6, hgs6, cs, hcs, hcn⟩ := hJ6
      rw [hn6] at N6
      clear hn6 o6 N5 F5
      kas_types
      obtain ⟨lv, hlv, hjo, hjn, hword⟩ := signs_join hcs (by omega)
      have hDl : s6.heap.IsList D (strValues lv).toArray := ⟨_, (N6 (D, lst ys) (.head _)).1, rfl, _, by rw [hlv]⟩
      refine SC.join hDl rfl hjo fun t7 k7 => ?_
      rw [hjn]
      replace N6 : News g' L' s6.heap nw := fun p hp => N6 p (List.mem_cons_of_mem _ hp)
      kas_types
      · rename_i l8 h8 F8 N8 l08
        have hlq := hq.length
        have htl : tls.length ≤ 10 := by have := hok.2.1; have := hi1; simp only [List.length_take] at this; omega
        refine app_led N8 (its := tls.toArray) (n := n) (List.mem_cons_of_mem _ hm3) (by simp only [List.size_toArray]; omega) ?_
        intro h9 tk9 k9 e9
        have F9 := Mine.Fr.swap F8 N8 (o := W.listOf tls.toArray n) (List.mem_cons_of_mem _ hm3) k9
        subst hnw
        have hN := hnd
        simp only [Nd.cons] at hN
        obtain ⟨d1, d2, d3, d4, d5⟩ := hN
        have N9 := News.put (pre := [(l8, W.listOf #[Value.str (tx cs) t7] 0), (I, oI), (L' + 1 + 1, op5), (L' + 1, os2), (B, slc)]) (post := tb) N8 k9 e9 (fun p hp => by
          simp only [List.mem_append, List.mem_cons, List.not_mem_nil, or_false] at hp
          rcases hp with (rfl | rfl | rfl | rfl | rfl) | hp
          · exact Nat.ne_of_gt (l08 _ hm3)
          · exact (off1 (R, W.listOf tls.toArray n) (by first | kse_has | simp)).symm
          · exact (d1 (R, W.listOf tls.toArray n) (by first | kse_has | simp)).symm
          · exact (d2 (R, W.listOf tls.toArray n) (by first | kse_has | simp)).symm
          · exact (d3 (R, W.listOf tls.toArray n) (by first | kse_has | simp)).symm
          · exact d4 p hp)
        kas_types
        all_goals (repeat' (first | (dsimp only) | (k_unfold; dsimp only)))
        · exact .inl rfl
        refine ⟨(L' + 1 + 1, op5) :: (L' + 1, os2) :: (B, slc) :: (R, W.listOf (tls ++ [Value.ref l8]).toArray (n + 1)) :: (tb ++ [(l8, W.listOf #[Value.str (tx cs) t7] 0)]), _, F9, fun p hp => N9 p ?_, fun p hp => ?_, hos6, hgs6, (if_neg (by decide +kernel)).trans ((if_neg (by decide +kernel)).trans hmR), op5, _, tls ++ [.ref l8], tb ++ [(l8, W.listOf #[Value.str (tx cs) t7] 0)], tbl ++ [[cs]], n + 1, hop5, rfl, ToldQ.snoc (p := (l8, W.listOf #[Value.str (tx cs) t7] 0)) ⟨rfl, _, _, rfl, rfl, fun i v h => ?_⟩ hq, ?_, hok.add hword⟩
        · simp only [List.push_toArray, List.mem_append, List.mem_cons, List.not_mem_nil, or_false] at hp ⊢
          rcases hp with h | h | h | h | h | h | h
          · exact .inl (.inr (.inl h))
          · exact .inl (.inr (.inr (.inl h)))
          · exact .inl (.inr (.inr (.inr (.inl h))))
          · exact .inl (.inr (.inr (.inr (.inr h))))
          · exact .inr (.inl h)
          · exact .inr (.inr h)
          · exact .inl (.inl h)
        · simp only [List.mem_cons, List.mem_append, List.not_mem_nil, or_false] at hp
          rcases hp with rfl | rfl | rfl | rfl | hp | rfl
          · exact off1 (L' + 1 + 1, op) (by first | kse_has | simp)
          · exact off1 (L' + 1, os2) (by first | kse_has | simp)
          · exact off1 (B, slc) (by first | kse_has | simp)
          · exact off1 (R, W.listOf tls.toArray n) (by first | kse_has | simp)
          · exact off1 p (by first | kse_has | simp [hp])
          · exact Nat.ne_of_gt (l08 (I, oI) (by first | kse_has | simp))
        · match i, h with
          | 0, h => simp at h; exact ⟨cs, t7, rfl, h.symm⟩
          | i + 1, h => simp at h
        · have e : Nd ([(L' + 1 + 1, op5), (L' + 1, os2), (B, slc), (R, W.listOf (tls ++ [Value.ref l8]).toArray (n + 1))] ++ tb ++ [(l8, W.listOf #[Value.str (tx cs) t7] 0)]) := by
            refine Nd.append.mpr ⟨hnd.adr (by first | kse_has | simp), by simp [Nd], fun p hp q hq => ?_⟩
            rw [List.mem_singleton.mp hq]
            simp only [List.mem_cons, List.mem_append, List.not_mem_nil, or_false] at hp
            rcases hp with (rfl | rfl | rfl | rfl) | hp
            · exact Nat.ne_of_lt (l08 (L' + 1 + 1, op5) (by first | kse_has | simp))
            · exact Nat.ne_of_lt (l08 (L' + 1, os2) (by first | kse_has | simp))
            · exact Nat.ne_of_lt (l08 (B, slc) (by first | kse_has | simp))
            · exact Nat.ne_of_lt (l08 (R, W.listOf tls.toArray n) hm3)
            · exact Nat.ne_of_lt (l08 p (by first | kse_has | simp [hp]))
          simpa using e
      · rename Fr _ _ _ _ => F8
        rename News _ _ _ _ => N8
        rename k.fmod 3 ≠ 0 => hk0
        have hlq := hq.length
        have htl : tls.length ≤ 10 := by have := hok.2.1; have := hi1; simp only [List.length_take] at this; omega
        have hpos : 0 < tbl.length := List.length_pos_iff.mpr hok.1
        have e0 := fmod_lo k (n := 3) (by decide)
        have e1 := fmod_hi k (n := 3) (by decide)
        obtain ⟨j, hj, hjk⟩ : ∃ j : Nat, j < tbl.length ∧ (k.fmod 3 - 2 = (j : Int) ∨ k.fmod 3 - 2 = (j : Int) - tls.toArray.size) := by
          by_cases h2 : k.fmod 3 = 2
          · exact ⟨0, hpos, .inl (by omega)⟩
          · exact ⟨tbl.length - 1, by omega, .inr (by simp only [List.size_toArray]; omega)⟩
        obtain ⟨b1, b2, c1, c2, ⟨pa, po⟩, ws, its, n', rfl, rfl, hc1, htj, rfl, hws, hall⟩ := hq.split j hj
        have hm4 : (pa, W.listOf its n') ∈ nw := by rw [← hnw]; simp
        have hwl : its.size ≤ 10 := by
          have := (hok.2.2 ws (by first | kse_has | simp)).2.1
          have := hi1
          simp only [List.length_take] at this
          rw [hws.1]; omega
        refine row_item ⟨_, (N8 _ hm3).1, rfl, _, rfl⟩ (x := .ref pa) (by simpa using htj) hjk (by simp only [List.size_toArray]; omega) ?_
        kas_types
        subst hnw
        refine app_led N8 (its := its) (n := n') hm4 (by omega) ?_
        intro h9 tk9 k9 e9
        have F9 := Mine.Fr.swap F8 N8 (o := W.listOf its n') hm4 k9
        have hnd2 : Nd ((L' + 1 + 1, op) :: (L' + 1, os2) :: (B, slc) :: (R, W.listOf tls.toArray n) :: b1 ++ (pa, W.listOf its n') :: b2) := hnd
        have hN := Nd.append.mp hnd2
        have hN2 := Nd.cons.mp hN.2.1
        have N9 := News.put (pre := (I, oI) :: (L' + 1 + 1, op5) :: (L' + 1, os2) :: (B, slc) :: (R, W.listOf tls.toArray n) :: b1) (post := b2) N8 k9 e9 (fun p hp => by
          simp only [List.mem_append, List.mem_cons] at hp
          rcases hp with (rfl | rfl | rfl | rfl | rfl | hp) | hp
          · exact (off1 (pa, W.listOf its n') (by first | kse_has | simp)).symm
          · exact hN.2.2 (L' + 1 + 1, op) (by first | kse_has | simp) (pa, W.listOf its n') (by first | kse_has | simp)
          · exact hN.2.2 (L' + 1, os2) (by first | kse_has | simp) (pa, W.listOf its n') (by first | kse_has | simp)
          · exact hN.2.2 (B, slc) (by first | kse_has | simp) (pa, W.listOf its n') (by first | kse_has | simp)
          · exact hN.2.2 (R, W.listOf tls.toArray n) (by first | kse_has | simp) (pa, W.listOf its n') (by first | kse_has | simp)
          · exact hN.2.2 p (by first | kse_has | simp [hp]) (pa, W.listOf its n') (by first | kse_has | simp)
          · exact hN2.1 p hp)
        kas_types
        all_goals (repeat' (first | (dsimp only) | (k_unfold; dsimp only)))
        · exact .inl rfl
        refine ⟨(L' + 1 + 1, op5) :: (L' + 1, os2) :: (B, slc) :: (R, W.listOf tls.toArray n) :: (b1 ++ (pa, W.listOf (its.push (.str (tx cs) t7)) (n' + 1)) :: b2), _, F9, N9, fun p hp => ?_, hos6, hgs6, (if_neg (by decide +kernel)).trans ((if_neg (by decide +kernel)).trans hmR), op5, _, tls, b1 ++ (pa, W.listOf (its.push (.str (tx cs) t7)) (n' + 1)) :: b2, c1 ++ (ws ++ [cs]) :: c2, n, hop5, rfl, hall _ _ _ hws.push, hnd.adr (by first | kse_has | simp), hok.put hword⟩
        simp only [List.mem_cons, List.mem_append] at hp
        rcases hp with rfl | rfl | rfl | rfl | hp | rfl | hp
        · exact off1 (L' + 1 + 1, op) (by first | kse_has | simp)
        · exact off1 (L' + 1, os2) (by first | kse_has | simp)
        · exact off1 (B, slc) (by first | kse_has | simp)
        · exact off1 (R, W.listOf tls.toArray n) (by first | kse_has | simp)
        · exact off1 p (by first | kse_has | simp [hp])
        · exact off1 (pa, W.listOf its n') (by first | kse_has | simp)
        · exact off1 p (by first | kse_has | simp [hp])
  case fin =>
    intro s4 m4 news4 F4 N4 os4 hJ4
    obtain ⟨gs4, hmR, op, u, tls, tb, tbl, n, hop, rfl, hq, hnd, hok⟩ := hJ4
    kas_types
    all_goals (repeat' (first | (dsimp only) | (k_unfold; dsimp only)))
    refine hret s4 R tbl (fun b o e _ => F4.keep b o (hG9 b o e fun q => nomatch q)) os4 gs4 ⟨tls.toArray, ⟨_, (N4 (R, W.listOf tls.toArray n) (by first | kse_has | simp)).1, rfl, _, rfl⟩, by simp [hq.length], fun i v ws h1 h2 => ?_⟩ ⟨hok.1, ?_, fun ws hw => ?_⟩
    · exact hq.at (fun p hp => (N4 p (by first | kse_has | simp [hp])).1) i v ws (by simpa using h1) h2
    · have := hok.2.1; simp only [List.length_take] at this; omega
    · obtain ⟨a, b, c⟩ := hok.2.2 ws hw
      exact ⟨a, by simp only [List.length_take] at b; omega, c⟩
end
theorem reg_Ru_end : True := by
  k_with_none
  trivial
-- C20
section
open PyProof.Rows.LCg
theorem OkT.words {tbl : Tbl} (h : OkT tbl) : ∀ ws ∈ tbl, ∀ x ∈ ws, IsWord x := fun ws hw => (h.2.2 ws hw).2.2
theorem reg_C20 : True := by
  k_with_none
  k_with "k_get" => (first | assumption | exact getL_put_eq | (refine Eq.trans (getL_put_ne (by decide +kernel)) ?_; k_get) | (refine' isSome_of ?h9z; case h9z => k_get) | (refine' isSome_of' ?h9z; case h9z => k_get) | exact rfl)
  k_with "k_put" => (exact rfl)
  k_with "setAttr ref" => (k_here; k_dflt (
    (refine' set_dict ?k19z ?k29z ?k39z ?k49z ?k59z ?k69z ?k79z ?k89z ?k99z ?k109z ?k119z ?k129z ?k139z ?_; (case k19z => k_asm); (case k29z => k_asm); (case k39z => k_asm); (case k49z => k_inst); (case k59z => exact rfl); (case k69z => k_is); (case k79z => k_is); (case k89z => k_is); (case k99z => k_is); (case k109z => k_get); (case k119z => exact rfl); (case k129z => k_upd); (case k139z => ((repeat (refine length_put_le ?_)); omega)); k_whole; intro h' F' N'; (try k_sweep))))
  k_with "size_fits" => (first | assumption | ((try simp only [tx_length]); rw [sizeLine_eq]; omega))
  k_with "k_ne" => (first | assumption | (refine Ne.symm ?_; assumption))
  k_with "tb_rel" => (first
    | exact List.forall_mem_nil _
    | (refine List.forall_mem_cons.mpr ⟨?ta9z, ?tb9z⟩; (case ta9z => first | exact fun _ => News.get (by assumption) (by k_mem) | exact fun h9 => absurd (by simp) h9); (case tb9z => tb_rel)))
  k_with "tb_start" => (
    refine wpAny_call ?_
    refine' enter _ (Cx.X (by assumption)) (Cx.T (by assumption)) (Cx.S (by assumption)) (by assumption) ?k19z ?k29z ?k39z ?k49z ?k59z ?_ ?k69z ?k79z ?k89z ?k99z
    (case k19z => k_is)
    (case k29z => k_is)
    (case k39z => ((try simp only [depth_deeper, depth_under_make, depth_in1, recursionLimit]); omega))
    (case k49z => first | exact BindsTo.of_eq rfl | exact binds_K (Frag.In.keeps (Cx.X (by assumption)) (Cx.S (by assumption))) rfl (by k_is) rfl rfl rfl)
    (case k59z => exact locs rfl)
    (case k69z => exact rfl)
    (case k79z => exact rfl)
    (case k89z => exact rfl)
    (case k99z => decide)
    skip)
  k_with "exec If" => (refine wpAny_If ?_)
  k_with "execs nil" => (refine wpAny_execs_nil ?_)
  k_with "execs cons" => ((with_reducible refine wpAny_execs_cons ?_); (try dsimp only); (try k_fold); (try (with_reducible refine wp_tok ?_; intro tk9)))
  k_with "compareOp In str str" => (first | refine in_is (v := true) (by decide +kernel) ?_ | refine in_is (v := false) (by decide +kernel) ?_ | refine in_is (by assumption) ?_)
  k_with "compareOp Eq str str" => (first | refine eq_is (v := true) (by decide +kernel) ?_ | refine eq_is (v := false) (by decide +kernel) ?_ | refine eq_is (by assumption) ?_)
  k_with "truthy str" => (first | with_reducible refine truth_one ?_ | (with_reducible (refine truth_lit (v := false) (by decide +kernel) ?_)) | (with_reducible (refine truth_lit (v := true) (by decide +kernel) ?_)) | (with_reducible (refine truth_tx (by omega) ?_ ?_) <;> intro hw9))
  k_with "inplaceOp Add str str" => (refine iadd_tx (by ((try simp only [List.length_cons, List.length_nil]); omega)) ?_; intro t9 tk9)
  k_with "ktr_rel" => (first | exact Look.of (by with_reducible assumption) | with_reducible exact Look.here | with_reducible exact Look.next (by decide +kernel) (by ktr_rel))
  k_with "eval Name" => (k_here; first
    | (refine' nm_look ?l9z ?f9z ?c9z ?k9z ?d9z ?v9z ?_; (case l9z => with_reducible assumption); (case f9z => with_reducible assumption); (case c9z => with_reducible assumption); (case k9z => with_reducible assumption); (case v9z => ktr_rel); (case d9z => decide))
    | (refine' nm_cell ?n9z ?c9z ?m9z ?d9z ?k9z ?l9z ?b9z ?_; (case l9z => with_reducible assumption); (case k9z => with_reducible assumption); (case c9z => with_reducible assumption); (case n9z => assumption); (case m9z => k_dflt k_mem); (case d9z => with_reducible assumption); (case b9z => decide))
    | (refine' nm_global ?f9z ?x9z ?t9z ?e9z ?g9z ?k9z ?l9z ?d9z ?_; (case l9z => with_reducible assumption); (case k9z => with_reducible assumption); (case g9z => with_reducible assumption); (case f9z => assumption); (case x9z => assumption); (case t9z => assumption); (case e9z => k_is); (case d9z => decide))
    | (refine' nm_built ?f9z ?x9z ?t9z ?e9z ?hv9z ?hn9z ?g9z ?b9z ?k9z ?l9z ?d9z ?_; (case l9z => with_reducible assumption); (case k9z => with_reducible assumption); (case g9z => with_reducible assumption); (case b9z => with_reducible assumption); (case hv9z => boot_fast); (case f9z => assumption); (case x9z => assumption); (case t9z => assumption); (case e9z => k_is); (case hn9z => decide); (case d9z => decide)))
  k_with "storeName" => (refine' nm_store ?x9z ?l9z ?p9z ?f9z ?n9z ?_; (case x9z => with_reducible assumption); (case l9z => with_reducible assumption); (case p9z => with_reducible assumption); (case f9z => assumption); (case n9z => assumption); intro _ _ _ _; (try k_sweep))
  k_with "exec Expr" => (refine wpAny_Expr_any ?_ (by with_reducible assumption) (by rfl))
  k_with "k_in" => (exact Frag.In.keeps (by with_reducible assumption) (Fr.keep (by with_reducible assumption)))
  k_with "kas_types" => (repeat' (first | (k_unfold; (try dsimp only)) | ((fail_if_success (with_reducible show wpAny _ _ (call _ _) _ _ _)); (fail_if_success (with_reducible show wpAny _ _ (subscriptTail _ _ _ _) _ _ _)); (fail_if_success (with_reducible show wpAny _ _ (eval (PySem.Expr.ListComp _ _ _ _) _) _ _ _)); (fail_if_success (with_reducible show wpAny _ _ (exec (PySem.Stmt.For _ _ _ _ _) _) _ _ _)); (fail_if_success (with_reducible show wpAny _ _ (exec (PySem.Stmt.While _ _ _ _) _) _ _ _)); (fail_if_success (with_reducible show wpAny _ _ (exec (PySem.Stmt.Assign _ (PySem.Expr.ListComp _ _ _ _) _) _) _ _ _)); (first | walk1 | (dsimp only; walk1)))))
  k_with "kse_has" => (first | with_reducible assumption | with_reducible exact List.mem_cons_self | (with_reducible refine List.mem_cons_of_mem _ ?_; kse_has) | (with_reducible refine List.mem_append_left _ ?_; kse_has) | (with_reducible refine List.mem_append_right _ ?_; kse_has))
  trivial
theorem reg_C20_1 : True := by
  k_with "k_mem" => (with_reducible assumption)
  trivial
theorem law_ok {w : World} {p : Program} {loose : List Str} {mg mb : Str → Option Value} {g : Heap} {A : Around} {s : Shared} {Q E : Value → Shared → Prop} {l : Addr} {vs : List Value} {ns : List Int} {tj ts : List (Addr × Obj)}
  (C : Cx w p loose mg mb g s.heap) (B : Bm mg g) (hdp : A.depth ≤ 370) (hu : A.units ≤ 1900) (hh : A.handled = none) (hJ : TabJ w g s.heap tj) (hT : TabT w g s.heap ts) (G : AllBare s.gens) (hl : s.heap.IsList l vs.toArray) (hi : IntsAre vs ns) (hn : ns.length ≤ 63)
  (hret : ∀ s' tj' ts', Keeps ((tj ++ ts).map (·.1)) s.heap s'.heap → TabJ w g s'.heap tj' → TabT w g s'.heap ts' → AllBare s'.gens → s'.os = s.os → Q (.bool true) s') :
  wpAny (model P0 w) A (call (.ref 823) [.ref l]) Q E s := by
  have O : Own g s.heap (tj ++ ts) := fun p hp => (List.mem_append.mp hp).elim (hJ.1 p) (hT.1 p)
  have hfl : ∀ p ∈ tj ++ ts, ∃ vs, p.2.data = .fields vs := fun p hp => (List.mem_append.mp hp).elim (JP.fields hJ.2 p) (hT.fields p)
  refine wpAny_call ?_
  refine' enterC _ C O ?k1 ?k2 ?k3 ?k4 ?k5 ?k5b ?_ ?k6 ?k7 ?k8
  case k1 => k_is
  case k2 => k_is
  case k3 => exact Nat.lt_of_le_of_lt hdp (by decide)
  case k4 => exact BindsTo.of_eq rfl
  case k5 => exact rfl
  case k5b => decide +kernel
  case k6 => exact rfl
  case k7 => exact rfl
  case k8 => exact rfl
  intro g' L' h' tk' cells' F' N' Y' X' T' hG9 hg9 l1
  have hB9 := B.keeps hg9
  k_cells Y'
  simp only [List.cons_append, List.nil_append] at N'
  obtain ⟨oc, or0, hoc, hor, N0⟩ : ∃ oc or0 : Obj, oc.data = .cell none ∧ or0.data = .cell none ∧ News g' L' h' ((L' + 1 + 1, oc) :: (L' + 1, or0) :: (tj ++ ts)) := ⟨_, _, cell_eq (by assumption) rfl, cell_eq (by assumption) rfl, N'⟩
  clear N'
  obtain ⟨m0, F0, hm0⟩ : ∃ m, Fr g' L' h' m ∧ m (Str.ofString "script") = some (.ref l) := ⟨_, F', rfl⟩
  clear F'
  have hlt1 : ∀ p ∈ tj ++ ts, p.1 ≠ L' + 1 := fun p hp => Nat.ne_of_lt (Nat.lt_succ_of_lt (l1 p hp))
  have hlt2 : ∀ p ∈ tj ++ ts, p.1 ≠ L' + 1 + 1 := fun p hp => Nat.ne_of_lt (Nat.lt_succ_of_lt (Nat.lt_succ_of_lt (l1 p hp)))
  have hll : g'.IsList l vs.toArray := by
    obtain ⟨o, e, hc, n, hd⟩ := hl
    refine ⟨o, hG9 _ _ e fun q => ?_, hc, n, hd⟩
    obtain ⟨p, hp, e'⟩ := List.mem_map.mp q
    obtain ⟨vs', hd'⟩ := hfl p hp
    have := (O p hp).1
    rw [e', e] at this
    cases this
    rw [hd] at hd'; cases hd'
  dsimp only
  generalize hen : envOfC _ _ _ _ _ = env
  have q1 : env.locals = L' := by rw [← hen]; rfl
  have q2 : env.globals = mainGlobals := by rw [← hen]; rfl
  have q3 : env.builtins = builtinsNs := by rw [← hen]; rfl
  have q4 : env.scope.kind = .function := by rw [← hen]; rfl
  have q7 : (env.scope.kind == .class || (env.scope.kind == .module && env.locals != env.globals)) = false := by rw [← hen]; rfl
  have q6 : interactive env = false := by rw [← hen]; rfl
  have i1 : env.kindOf (Str.ofString "script") = some .local := by rw [← hen]; rfl
  have i2 : env.kindOf (Str.ofString "rows") = some .cell := by rw [← hen]; rfl
  have i3 : env.kindOf (Str.ofString "columns") = some .cell := by rw [← hen]; rfl
  have i4 : env.kindOf (Str.ofString "packed") = some .local := by rw [← hen]; rfl
  have i5 : env.kindOf (Str.ofString "once") = some .local := by rw [← hen]; rfl
  have i6 : env.kindOf (Str.ofString "twice") = some .local := by rw [← hen]; rfl
  have i10 : env.kindOf (Str.ofString "_law_rows") = some .globalImplicit := by rw [← hen]; rfl
  have i11 : env.kindOf (Str.ofString "_law_turned") = some .globalImplicit := by rw [← hen]; rfl
  have i12 : env.kindOf (Str.ofString "len") = some .globalImplicit := by rw [← hen]; rfl
  have i13 : env.kindOf (Str.ofString "max") = some .globalImplicit := by rw [← hen]; rfl
  have i14 : env.kindOf (Str.ofString "range") = some .globalImplicit := by rw [← hen]; rfl
  have w1 : env.cells.lookup (Str.ofString "rows") = some (L' + 1) := by rw [← hen]; rfl
  have w2 : env.cells.lookup (Str.ofString "columns") = some (L' + 1 + 1) := by rw [← hen]; rfl
  show wpAny _ _ _ _ _ _
  k_fold
  kas_types
  refine rows_ok ⟨X', T', F0.keep⟩ (by simp only [depth_deeper]; omega) hh (hll.at fun o e => F0.keep _ o e) hi hn ?_
  intro s1 r tbl k1 os1 gs1 hr1 hok
  have k1' : ∀ b o, h'.get? b = some o → s1.heap.get? b = some o := fun b o e => k1 b o e (fun q => nomatch q)
  have F1 := F0.keeps k1'
  have N1 := N0.grown k1'
  obtain ⟨b1, O1, hb1, t1⟩ := tab_in F1.keep hr1
  clear F0 N0
  repeat' (first | (k_unfold; (try dsimp only)) | ((fail_if_success (with_reducible show wpAny _ _ (storeName _ _ _) _ _ _)); walk1))
  refine wpAny_storeName_cell (c := L' + 1) (v₀ := none) q4 i2 w1 ⟨or0, (N1 (L' + 1, or0) (by first | kse_has | simp)).1, hor⟩ ?_
  intro h2 hc2 hs2
  obtain ⟨or2, gor2, hor2⟩ := hc2
  have F2 : Fr g' L' h2 m0 := F1.change hs2 (Nat.succ_ne_self _) (N1 (L' + 1, or0) (by first | kse_has | simp)).2.2
  have N2 : News g' L' h2 ([(L' + 1 + 1, oc)] ++ (L' + 1, or2) :: (b1 ++ (tj ++ ts))) := news_cell (o := or0) (fun p hp => by
      simp only [List.mem_append, List.mem_cons, List.not_mem_nil, or_false] at hp
      rcases hp with rfl | rfl | hp | hp
      · exact N1 _ (by first | kse_has | simp)
      · exact N1 _ (by first | kse_has | simp)
      · exact lists_news F1 O1 hb1 p hp
      · exact N1 p (by first | kse_has | simp [hp])) hs2 gor2 (fun p hp => by
      simp only [List.mem_append, List.mem_cons, List.not_mem_nil, or_false] at hp
      rcases hp with rfl | hp | hp
      · exact Nat.succ_ne_self _
      · exact lists_ne O1 hb1 (N1 (L' + 1, or0) (by first | kse_has | simp)).1 hor p hp
      · exact hlt1 p (by simpa using hp))
  clear F1 N1
  kas_types
  have hlr : ∀ ws ∈ tbl, ws.length ≤ 20 := fun ws hw => Nat.le_trans (hok.2.2 ws hw).2.1 (by decide)
  have hnr : tbl.length ≤ 20 := Nat.le_trans hok.2.1 (by decide)
  have hmx : maxLen tbl ≤ 9 := maxLen_le fun ws hw => (hok.2.2 ws hw).2.1
  generalize hnw : [(L' + 1 + 1, oc)] ++ (L' + 1, or2) :: (b1 ++ (tj ++ ts)) = nw at N2
  have hmr : (L' + 1, or2) ∈ nw := by rw [← hnw]; simp
  have t1' : TabIn g' nw r tbl := t1.sub fun p hp => by rw [← hnw]; simp [hp]
  refine wpAny_Assign_Name ?_ (by rw [← hen]; rfl)
  refine compK_E (g := g') (L := L') (m := m0) (maxLen tbl) (fun i v => ∃ t, v = .int (i : Int) t) (fun _ => True) (fun os i ys news gs => JTab (os = s.os) nw s1.gens tbl i ys news gs) hh (by rw [← hen]; rfl) (fun _ => rfl) (fun _ => rfl) rfl ?hnames (by intro _ _; rw [← hen]; rfl) ?hsz ?iter (fun _ _ _ _ _ _ => trivial) ?turn ?fin (by intro _; rfl)
  case hnames => decide
  case hsz => exact Nat.le_trans hmx (by decide)
  case iter =>
    kas_types
    refine comp_E (g := g') (L := L') (m := m0) tbl.length (fun i v => ∃ ws, tbl[i]? = some ws ∧ RowIn g' nw v ws) (fun nw' => nw' = nw) (fun os i ys news gs => JLens (os = s.os) nw s1.gens tbl i ys news gs) hh (by rw [← hen]; rfl) ?hcell rfl ?hnames2 rfl ?hsz2 ?iter2 (fun _ _ _ _ _ h => h.2.1) ?turn2 ?fin2 (by intro _; rfl)
    case hcell => decide
    case hnames2 => decide
    case hsz2 => exact Nat.le_trans hnr (by decide)
    case iter2 =>
      obtain ⟨its, hsr, hsz, hrows⟩ := t1'
      refine nm_cell N2 w1 hmr hor2 q4 i2 (by decide) ?_
      refine ⟨nw, F2, N2, .inl ⟨r, its, rfl, hsr, hsz.symm, fun i v hv => ?_, fun nw' e => e ▸ hsr⟩, rfl, os1, rfl, rfl, ?_⟩
      · have hi : i < tbl.length := hsz ▸ (Array.getElem?_eq_some_iff.mp hv).1
        exact ⟨tbl[i], List.getElem?_eq_getElem hi, hrows i v _ hv (List.getElem?_eq_getElem hi)⟩
      · exact .nil
    case turn2 =>
      intro os
      exact lens_turn (mg := mg) (mb := mb) X' T' hlr (fun _ => q2) (fun _ => q3) (fun _ => rfl) (fun _ => rfl) (fun _ => by rw [← hen]; rfl)
    case fin2 =>
      intro D3 s3 ys3 news3 F3 N3 o3 hJ3
      obtain ⟨hos3, hn3, hgs3, hy3⟩ := hJ3
      rw [List.take_length] at hy3
      rw [hn3] at N3
      clear hn3 o3
      have hil := hy3.length
      kas_types
      refine max_list_N hh F3 (fun p hp => N3 p hp) ⟨_, (N3 (D3, lst ys3) (.head _)).1, rfl, _, rfl⟩ hy3 (by rw [List.length_map]; exact List.length_pos_iff.mpr hok.1) ?_
      intro h4 M tM tk4 F4 N4 hM1 hM2
      obtain rfl := max_is hok.1 hM1 hM2
      clear F3 N3
      repeat' (first | (k_unfold; (try dsimp only)) | ((fail_if_success (with_reducible show wpAny _ _ (call _ _) _ _ _)); walk1))
      walk1
      rename IsRange _ _ _ _ _ _ _ _ => R5
      rename Fr _ _ _ _ => F5
      rename News _ _ _ _ => N5
      obtain ⟨rs1, rs2⟩ := range_small (maxLen tbl) (by omega)
      exact ⟨nw, F5, fun p hp => N5 p (by first | kse_has | simp [hp]), .inr ⟨_, _, _, _, _, rfl, R5, rs1, rs2, fun _ t => ⟨t, rfl⟩⟩, trivial, hos3, hgs3, [], rfl, trivial⟩
  case turn =>
    intro os
    refine table_turn (mg := mg) (mb := mb) (cs := L' + 1) (r := r) (osrc := or2) X' T' hh hlr hnr t1' hmr hor2 ?q1 ?q2 rfl ?q3 rfl (fun _ _ => rfl) ?q4 ?q5 (by decide) ?q6 ?q7 (fun _ _ _ => rfl) ?q8 ?q9 ?q10 (by decide)
    case q2 => decide
    case q3 => decide
    case q6 => exact fun _ _ _ => q2
    case q7 => exact fun _ _ _ => q3
    case q5 => exact fun _ => rfl
    all_goals (intros; rw [← hen]; rfl)
  case fin =>
    intro D3 s3 ys3 news3 F3 N3 o3 hJ3
    obtain ⟨hos3, hgs3, b3, rfl, hy3⟩ := hJ3
    have t3 := toldQ_tab (g := g') (D := D3) hy3
    have hb3 : Lists ((D3, lst ys3) :: b3) := fun p hp => (List.mem_cons.mp hp).elim (fun e => e ▸ ⟨rfl, _, _, rfl⟩) (toldQ_lists hy3 p)
    generalize hb4 : (D3, lst ys3) :: b3 = b4 at t3 hb3
    have N3' : News g' L' s3.heap ([] ++ (L' + 1 + 1, oc) :: ((L' + 1, or2) :: (b4 ++ (b1 ++ (tj ++ ts))))) := fun p hp => N3 p (by
      rw [← hnw]; rw [← hb4] at hp
      simp only [List.mem_append, List.mem_cons, List.not_mem_nil, or_false, List.nil_append] at hp ⊢
      rcases hp with h | h | (h | h) | h | h
      · exact .inr (.inr (.inl h))
      · exact .inr (.inr (.inr (.inl h)))
      · exact .inl h
      · exact .inr (.inl h)
      · exact .inr (.inr (.inr (.inr (.inl h))))
      · exact .inr (.inr (.inr (.inr (.inr h)))))
    have hcc := N3' (L' + 1 + 1, oc) (by first | kse_has | simp)
    have Ob : Own g' s3.heap (b4 ++ b1) := fun p hp => Own.of_news N3' p (by
      simp only [List.mem_append] at hp
      rcases hp with h | h <;> simp [h])
    have hbb : Lists (b4 ++ b1) := fun p hp => (List.mem_append.mp hp).elim (hb3 p) (hb1 p)
    refine wpAny_storeName_cell (c := L' + 1 + 1) (v₀ := none) q4 i3 w2 ⟨oc, hcc.1, hoc⟩ ?_
    intro h4 hc4 hs4
    obtain ⟨oc4, goc4, hoc4⟩ := hc4
    have F4 : Fr g' L' h4 m0 := F3.change hs4 hcc.2.1 hcc.2.2
    have N4 := news_cell (o' := oc4) N3' hs4 goc4 (fun p hp => by
      simp only [List.nil_append, List.mem_append, List.mem_cons] at hp
      rcases hp with rfl | hp | hp | hp
      · exact (Nat.succ_ne_self _).symm
      · exact lists_ne Ob hbb hcc.1 hoc p (by first | kse_has | simp [hp])
      · exact lists_ne Ob hbb hcc.1 hoc p (by first | kse_has | simp [hp])
      · exact hlt2 p (by simpa using hp))
    clear F3 N3 N3' F2 N2 hcc Ob
    simp only [List.nil_append] at N4
    have hc20 : OkT (cols tbl) := hok.cols
    generalize hnw4 : (L' + 1 + 1, oc4) :: (L' + 1, or2) :: (b4 ++ (b1 ++ (tj ++ ts))) = nw4 at N4
    have hmr4 : (L' + 1, or2) ∈ nw4 := by rw [← hnw4]; simp
    have hmc4 : (L' + 1 + 1, oc4) ∈ nw4 := by rw [← hnw4]; simp
    have t4 : TabIn g' nw4 D3 (cols tbl) := TabIn.sub t3 fun p hp => by rw [← hnw4]; simp [hp]
    have t4r : TabIn g' nw4 r tbl := t1.sub fun p hp => by rw [← hnw4]; simp [hp]
    have hm04 := hm0
    kas_types
    refine compK_A (g := g') (L := L') (m := m0) tbl.length (fun i v => ∃ t, v = .int (i : Int) t) (fun _ => True) (fun os i ys news gs => JTab (os = s.os) nw4 s1.gens (cols tbl) i ys news gs) q1 (by rw [← hen]; rfl) hh (by rw [← hen]; rfl) (fun _ => rfl) (fun _ => rfl) rfl ?hnames (by intro _ _; rw [← hen]; rfl) ?hsz i4 q7 ?iter (fun _ _ _ _ _ _ => trivial) ?turn ?fin (by intro _; rfl)
    case hnames => decide
    case hsz => exact Nat.le_trans hnr (by decide)
    case iter =>
      kas_types
      obtain ⟨its, hsr, hsz, hrows⟩ := t4r
      refine len_src F4 N4 hsr (by omega) fun t5 k5 => ?_
      rw [hsz]
      repeat' (first | (k_unfold; (try dsimp only)) | ((fail_if_success (with_reducible show wpAny _ _ (call _ _) _ _ _)); walk1))
      walk1
      rename IsRange _ _ _ _ _ _ _ _ => R5
      rename Fr _ _ _ _ => F5
      rename News _ _ _ _ => N5
      obtain ⟨rs1, rs2⟩ := range_small tbl.length (by omega)
      exact ⟨nw4, F5, fun p hp => N5 p (by first | kse_has | simp [hp]), .inr ⟨_, _, _, _, _, rfl, R5, rs1, rs2, fun _ t => ⟨t, rfl⟩⟩, trivial, hos3, hgs3, [], rfl, trivial⟩
    case turn =>
      intro os
      refine table_turn (mg := mg) (mb := mb) (cs := L' + 1 + 1) (r := D3) (osrc := oc4) X' T' hh (fun ws hw => Nat.le_trans (hc20.2.2 ws hw).2.1 (by decide)) (Nat.le_trans hc20.2.1 (by decide)) t4 hmc4 hoc4 ?z1 ?z2 rfl ?z3 rfl (fun _ _ => rfl) ?z4 ?z5 (by decide) ?z6 ?z7 (fun _ _ _ => rfl) ?z8 ?z9 ?z10 (by decide)
      case z2 => decide
      case z3 => decide
      case z6 => exact fun _ _ _ => q2
      case z7 => exact fun _ _ _ => q3
      case z5 => exact fun _ => rfl
      all_goals (intros; rw [← hen]; rfl)
    case fin =>
      intro D5 s5 ys5 news5 F5 N5 o5 hJ5
      obtain ⟨hos5, hgs5, b5, rfl, hy5⟩ := hJ5
      have t5 : TabIn g' ((D5, lst ys5) :: b5) D5 (packs (cols tbl) tbl.length) := toldQ_tab (g := g') (D := D5) hy5
      have hb5 : Lists ((D5, lst ys5) :: b5) := fun p hp => (List.mem_cons.mp hp).elim (fun e => e ▸ ⟨rfl, _, _, rfl⟩) (toldQ_lists hy5 p)
      generalize hb6 : (D5, lst ys5) :: b5 = b6 at t5 hb5
      have Na : News g' L' s5.heap ((L' + 1 + 1, oc4) :: (L' + 1, or2) :: (b6 ++ (b4 ++ b1)) ++ (tj ++ ts)) := fun p hp => N5 p (by
        rw [← hnw4]; rw [← hb6] at hp
        simp only [List.mem_append, List.mem_cons] at hp ⊢
        rcases hp with (h | h | (h | h) | h | h) | h
        · exact .inr (.inr (.inl h))
        · exact .inr (.inr (.inr (.inl h)))
        · exact .inl h
        · exact .inr (.inl h)
        · exact .inr (.inr (.inr (.inr (.inl h))))
        · exact .inr (.inr (.inr (.inr (.inr (.inl h)))))
        · exact .inr (.inr (.inr (.inr (.inr (.inr h))))))
      have Oj5 : TabJ w g' s5.heap tj := ⟨fun p hp => Own.of_news N5 p (by rw [← hnw4]; simp [hp]), hJ.2⟩
      have Ot5 : TabT w g' s5.heap ts := hT.up (fun p hp => Own.of_news N5 p (by rw [← hnw4]; simp [hp])) hg9
      generalize hnw6 : (L' + 1 + 1, oc4) :: (L' + 1, or2) :: (b6 ++ (b4 ++ b1)) = nw6 at Na
      have hnf6 : NoF nw6 := fun p hp vs e => by
        rw [← hnw6] at hp
        simp only [List.mem_append, List.mem_cons] at hp
        rcases hp with rfl | rfl | h | h | h
        · rw [hoc4] at e; cases e
        · rw [hor2] at e; cases e
        · exact hb5.noF p h vs e
        · exact hb3.noF p h vs e
        · exact hb1.noF p h vs e
      have hmr6' : (L' + 1, or2) ∈ nw6 ++ (tj ++ ts) := by rw [← hnw6]; simp
      have hmc6' : (L' + 1 + 1, oc4) ∈ nw6 ++ (tj ++ ts) := by rw [← hnw6]; simp
      have hmr6 : (L' + 1, or2) ∈ nw6 := by rw [← hnw6]; simp
      have hmc6 : (L' + 1 + 1, oc4) ∈ nw6 := by rw [← hnw6]; simp
      have tr6 : TabIn g' nw6 r tbl := t1.sub fun p hp => by rw [← hnw6]; simp [hp]
      have tc6 : TabIn g' nw6 D3 (cols tbl) := TabIn.sub t3 fun p hp => by rw [← hnw6]; simp [hp]
      have tp6 : TabIn g' nw6 D5 (packs (cols tbl) tbl.length) := t5.sub fun p hp => by rw [← hnw6]; simp [hp]
      clear N5 N4 F4
      kas_types
      refine turned_step X' T' hB9 (by simp only [depth_deeper]; omega) (by rw [units_deeper]; omega) hh F5 Na hnf6 Oj5 Ot5 (by rw [hgs5, gs1]; exact G) tr6 hok ?_
      intro s7 r7 nw7 tj7 ts7 F7 N7 hnf7 hs7 t7 J7 T7 G7 os7
      have hmr7 : (L' + 1, or2) ∈ nw7 ++ (tj7 ++ ts7) := List.mem_append_left _ (hs7 _ hmr6)
      have hmc7 : (L' + 1 + 1, oc4) ∈ nw7 ++ (tj7 ++ ts7) := List.mem_append_left _ (hs7 _ hmc6)
      have tc7 := tc6.sub hs7
      have tp7 := tp6.sub hs7
      clear F5 Na hmr6' hmc6'
      repeat' (first | (k_unfold; (try dsimp only)) | ((fail_if_success (with_reducible show wpAny _ _ (call _ _) _ _ _)); (fail_if_success (with_reducible show wpAny _ _ (compareOp _ _ _) _ _ _)); (first | walk1 | (dsimp only; walk1))))
      rename Fr _ _ _ _ => F8
      rename News _ _ _ _ => N8
      have N8' : News g' L' _ nw7 := fun p hp => N8 p (List.mem_append_left _ hp)
      refine rows_ne (t7.rows F8 N8') (tc7.rows F8 N8') hc20.words (by rw [units_deeper]; exact Nat.lt_of_le_of_lt (Nat.add_le_add_right (Nat.add_le_add_right hu 3) 64) (by decide)) ?_
      repeat' (first | (k_unfold; (try dsimp only)) | ((fail_if_success (with_reducible show wpAny _ _ (call _ _) _ _ _)); (fail_if_success (with_reducible show wpAny _ _ (compareOp _ _ _) _ _ _)); (first | walk1 | (dsimp only; walk1))))
      refine turned_step X' T' hB9 (by simp only [depth_deeper]; omega) (by rw [units_deeper]; omega) hh F8 N8 hnf7 J7 T7 G7 t7 hc20 ?_
      intro s9 r9 nw9 tj9 ts9 F9 N9 hnf9 hs9 t9 J9 T9 G9 os9
      have t79 := t7.sub hs9
      have tp9 := tp7.sub hs9
      clear F8 N8 N8'
      repeat' (first | (k_unfold; (try dsimp only)) | ((fail_if_success (with_reducible show wpAny _ _ (call _ _) _ _ _)); (fail_if_success (with_reducible show wpAny _ _ (compareOp _ _ _) _ _ _)); (first | walk1 | (dsimp only; walk1))))
      rename Fr _ _ _ _ => F10
      rename News _ _ _ _ => N10
      have N10' : News g' L' _ nw9 := fun p hp => N10 p (List.mem_append_left _ hp)
      have hc2 : OkT (cols (cols tbl)) := hc20.cols
      have tpr := tp9.rows F10 N10'
      rw [← cols_cols hok.1 fun ws hw => (hok.2.2 ws hw).1] at tpr
      refine rows_eq (t9.rows F10 N10') tpr hc2.words (by rw [units_deeper]; exact Nat.lt_of_le_of_lt (Nat.add_le_add_right (Nat.add_le_add_right hu 3) 64) (by decide)) ?_
      repeat' (first | (k_unfold; (try dsimp only)) | ((fail_if_success (with_reducible show wpAny _ _ (call _ _) _ _ _)); (fail_if_success (with_reducible show wpAny _ _ (compareOp _ _ _) _ _ _)); (first | walk1 | (dsimp only; walk1))))
      refine turned_step X' T' hB9 (by simp only [depth_deeper]; omega) (by rw [units_deeper]; omega) hh F10 N10 hnf9 J9 T9 G9 t9 hc2 ?_
      intro s11 r11 nw11 tj11 ts11 F11 N11 hnf11 hs11 t11 J11 T11 G11 os11
      have t711 := t79.sub hs11
      clear F10 N10 N10'
      repeat' (first | (k_unfold; (try dsimp only)) | ((fail_if_success (with_reducible show wpAny _ _ (call _ _) _ _ _)); (fail_if_success (with_reducible show wpAny _ _ (compareOp _ _ _) _ _ _)); (first | walk1 | (dsimp only; walk1))))
      have N12' : News g' L' _ nw11 := fun p hp => N11 p (List.mem_append_left _ hp)
      have h11 := t11.rows F11 N12'
      rw [cols_packs hok.1 fun ws hw => (hok.2.2 ws hw).1] at h11
      refine rows_eq h11 (t711.rows F11 N12') hc20.words (by rw [units_deeper]; exact Nat.lt_of_le_of_lt (Nat.add_le_add_right (Nat.add_le_add_right hu 3) 64) (by decide)) ?_
      repeat' (first | (k_unfold; (try dsimp only)) | ((fail_if_success (with_reducible show wpAny _ _ (call _ _) _ _ _)); (fail_if_success (with_reducible show wpAny _ _ (compareOp _ _ _) _ _ _)); (first | walk1 | (dsimp only; walk1))))
      obtain ⟨ps, hps⟩ := T11.s F11.keep
      obtain ⟨ts', hts'⟩ := (hps.back hg9).t fun b o e => F11.keep b o (hg9 b o e)
      exact hret s11 tj11 ts' (fun b o e hb => F11.keep b o (hG9 b o e hb)) (J11.back hg9) hts' G11 (os11.trans (os9.trans (os7.trans hos5)))
end
theorem reg_C20_end : True := by
  k_with_none
  trivial
-- Fin
section
theorem tabT_803 {w : World} {g h : Heap} {ts : List (Addr × Obj)} (T : TabT w g h ts) : ∃ ps, h.get? 803 = some (tabObj ps) := by
  obtain ⟨O, rfl | ⟨nm, pa, bd, sc, pos, c', G, ⟨rfl, _⟩ | ⟨oc, vs, t, rfl, _⟩⟩⟩ := T <;> exact ⟨_, (O _ (.head _)).1⟩
theorem tabJ_780 {w : World} {g h : Heap} {tl : List (Addr × Obj)} (T : TabJ w g h tl) : ∃ ps, h.get? 780 = some (tabObj ps) := by
  obtain ⟨O, rfl | ⟨pos, c', oc, vs, t, G, rfl, _⟩⟩ := T <;> exact ⟨_, (O _ (.head _)).1⟩
theorem tst : PySem.Challenge.rw_in0141_01.Holds := by
  refine topq (by rfl) (by rfl) (by rfl) promq ?_
  k_fill
  intro w s₀ s₁ mg mb G Y fa o pm cd doc dV kV ho hd' hcd hD hmg hg args vals as hpre hlay hrd hwl hlo
  have KX := km_in_of Y
  have h803 := km_tabs_of Y 803 (by decide)
  refine Ground.open G ?_
  intro T B D TE TW
  have hTabs : TabsAt [(807, 803), (784, 780)] s₁.heap := by
    intro q hq
    simp only [List.mem_cons, List.not_mem_nil, or_false] at hq
    rcases hq with rfl | rfl
    · exact ⟨codeHd_of_K KX (by kernel_rfl), h803⟩
    · obtain ⟨d, hdr⟩ : ∃ d, (recsOf hd.view_1).find? (fun e => e.name == Str.ofString "join") = some d := Option.isSome_iff_exists.mp (by kernel_rfl)
      exact tab_of T KX hdr (by kernel_rfl)
  have efa : fa = 823 := by
    have e1 := mg_of (n := Str.ofString "law") (v := .ref 823) KX T.g (by kernel_rfl)
    have e2 : mg (Str.ofString "law") = some (Value.ref fa) := hmg
    rw [e1] at e2
    injection e2 with e3
    injection e3 with e4
    exact e4.symm
  subst efa
  wrow_args hpre hlay hrd hwl hlo
  rename IntsAre _ _ => hI
  rename Heap.IsList _ _ _ => hL
  rename ¬ _ < _ => hc
  show wpAny _ _ (call (.ref 823) [.ref _]) _ _ _
  have S : ∀ b o, (ghostOf s₁.heap [(807, 803), (784, 780)]).get? b = some o → s₁.heap.get? b = some o := fun b o e => of_hideAll _ e
  have X9 := ghost_K hTabs KX (by kernel_rfl)
  have T9 := ghost_top hTabs T
  have g803 : (ghostOf s₁.heap [(807, 803), (784, 780)]).get? 803 = none := hideAll_none _ (by simp)
  have g780 : (ghostOf s₁.heap [(807, 803), (784, 780)]).get? 780 = none := hideAll_none _ (by simp)
  have e780 := (hTabs (784, 780) (by simp)).2
  refine law_ok (tj := [(780, tabObj #[])]) (ts := [(803, tabObj #[])]) ⟨X9, topRead_of T9, S⟩ T9.bmain (by decide) (by decide) rfl ⟨fun p hp => ?_, .inl rfl⟩ ⟨fun p hp => ?_, .inl rfl⟩ (.of_eq hg) hL hI (by omega) ?_
  · rw [List.mem_singleton.mp hp]; exact ⟨e780, g780⟩
  · rw [List.mem_singleton.mp hp]; exact ⟨h803, g803⟩
  intro s' tj' ts' hk hJ' hT' G' os'
  obtain ⟨ps1, p1⟩ := tabJ_780 hJ'
  obtain ⟨ps2, p2⟩ := tabT_803 hT'
  have c1 : isCodeTable s₁.heap 780 := ((hTabs (784, 780) (by simp)).1.tab e780).isCodeTable
  have c2 : isCodeTable s₁.heap 803 := ((hTabs (807, 803) (by simp)).1.tab h803).isCodeTable
  have split : ∀ b o, s₁.heap.get? b = some o → s'.heap.get? b = some o ∨ (isCodeTable s₁.heap b ∧ o = tabObj #[] ∧ ∃ ps, s'.heap.get? b = some (tabObj ps)) := fun b o e => by
    by_cases h1 : b = 780
    · subst h1; rw [e780] at e; cases e; exact .inr ⟨c1, rfl, ps1, p1⟩
    · by_cases h2 : b = 803
      · subst h2; rw [h803] at e; cases e; exact .inr ⟨c2, rfl, ps2, p2⟩
      · exact .inl (hk b o e (by simp [h1, h2]))
  refine ⟨.inl ⟨.bool true, .bool true, [], rfl, fun _ => rfl, .bool true, by first | kernel_rfl | with_unfolding_all rfl, fun _ => ⟨.nil, fun _ h => nomatch h⟩⟩, ⟨fun b o e => ?_, fun b o e => ?_⟩, os', G'⟩
  · rcases split b o e with h | ⟨h1, rfl, ps, h2⟩
    · exact .inl h
    · exact .inr (.inl ⟨h1, rfl, #[], ps, rfl, by rw [Array.empty_append]; exact h2⟩)
  · rcases split b o e with h | ⟨h1, rfl, ps, h2⟩
    · exact ⟨o, h⟩
    · exact ⟨_, h2⟩
end
end Mine
theorem PySem.Challenge.cw_in0141_01_holds : PySem.Challenge.rw_in0141_01.Holds :=
  Mine.tst
