import PyProof.Rows.All
import Wide.All
import OpenK.AllK
import Wide.FinOn
import Lean
import PySem.Challenge.RW_fc0039_01
open PySem PySem.W PySem.Calls PyProof.Rows
set_option Elab.async false
set_option rowWalk.seconds 100000
namespace Mine
set_option maxRecDepth 100000
structure FD where
  params : PySem.Arguments
  body : List PySem.Stmt
  scope : PySem.Scope
def at_ (l : List PySem.Stmt) (i : Nat) : PySem.Stmt := (l[i]?).getD (.Pass default)
def inCls : PySem.Stmt → List PySem.Stmt
  | .ClassDef _ _ _ b _ _ _ _ _ _ _ => b
  | _ => []
def fdOf : PySem.Stmt → FD
  | .FunctionDef _ a b _ _ _ s _ _ _ => ⟨a, b, s⟩
  | _ => ⟨⟨[], [], none, [], [], none, []⟩, [], default⟩
namespace Fn
@[reducible] def f_Cache___init__ : FD := by
  refine' Subtype.val (p := fun d => fdOf (at_ (inCls (at_ PySem.Challenge.pw_fc0039_01.main.body 33)) 2) = d) ⟨_, ?h⟩
  case h =>
    conv => lhs; whnf
@[reducible] def f_Cache___getitem__ : FD := by
  refine' Subtype.val (p := fun d => fdOf (at_ (inCls (at_ PySem.Challenge.pw_fc0039_01.main.body 33)) 4) = d) ⟨_, ?h⟩
  case h =>
    conv => lhs; whnf
@[reducible] def f_Cache___setitem__ : FD := by
  refine' Subtype.val (p := fun d => fdOf (at_ (inCls (at_ PySem.Challenge.pw_fc0039_01.main.body 33)) 5) = d) ⟨_, ?h⟩
  case h =>
    conv => lhs; whnf
@[reducible] def f_Cache___delitem__ : FD := by
  refine' Subtype.val (p := fun d => fdOf (at_ (inCls (at_ PySem.Challenge.pw_fc0039_01.main.body 33)) 6) = d) ⟨_, ?h⟩
  case h =>
    conv => lhs; whnf
@[reducible] def f_Cache___len__ : FD := by
  refine' Subtype.val (p := fun d => fdOf (at_ (inCls (at_ PySem.Challenge.pw_fc0039_01.main.body 33)) 10) = d) ⟨_, ?h⟩
  case h =>
    conv => lhs; whnf
@[reducible] def f_Cache_get : FD := by
  refine' Subtype.val (p := fun d => fdOf (at_ (inCls (at_ PySem.Challenge.pw_fc0039_01.main.body 33)) 11) = d) ⟨_, ?h⟩
  case h =>
    conv => lhs; whnf
@[reducible] def f_Cache_getsizeof : FD := by
  refine' Subtype.val (p := fun d => fdOf (at_ (inCls (at_ PySem.Challenge.pw_fc0039_01.main.body 33)) 17) = d) ⟨_, ?h⟩
  case h =>
    conv => lhs; whnf
@[reducible] def f__TimedCache__Timer___init__ : FD := by
  refine' Subtype.val (p := fun d => fdOf (at_ (inCls (at_ (inCls (at_ PySem.Challenge.pw_fc0039_01.main.body 34)) 0)) 0) = d) ⟨_, ?h⟩
  case h =>
    conv => lhs; whnf
@[reducible] def f__TimedCache__Timer___call__ : FD := by
  refine' Subtype.val (p := fun d => fdOf (at_ (inCls (at_ (inCls (at_ PySem.Challenge.pw_fc0039_01.main.body 34)) 0)) 1) = d) ⟨_, ?h⟩
  case h =>
    conv => lhs; whnf
@[reducible] def f__TimedCache__Timer___enter__ : FD := by
  refine' Subtype.val (p := fun d => fdOf (at_ (inCls (at_ (inCls (at_ PySem.Challenge.pw_fc0039_01.main.body 34)) 0)) 2) = d) ⟨_, ?h⟩
  case h =>
    conv => lhs; whnf
@[reducible] def f__TimedCache__Timer___exit__ : FD := by
  refine' Subtype.val (p := fun d => fdOf (at_ (inCls (at_ (inCls (at_ PySem.Challenge.pw_fc0039_01.main.body 34)) 0)) 3) = d) ⟨_, ?h⟩
  case h =>
    conv => lhs; whnf
@[reducible] def f__TimedCache__Timer___getattr__ : FD := by
  refine' Subtype.val (p := fun d => fdOf (at_ (inCls (at_ (inCls (at_ PySem.Challenge.pw_fc0039_01.main.body 34)) 0)) 5) = d) ⟨_, ?h⟩
  case h =>
    conv => lhs; whnf
@[reducible] def f__TimedCache___init__ : FD := by
  refine' Subtype.val (p := fun d => fdOf (at_ (inCls (at_ PySem.Challenge.pw_fc0039_01.main.body 34)) 1) = d) ⟨_, ?h⟩
  case h =>
    conv => lhs; whnf
@[reducible] def f__TimedCache___len__ : FD := by
  refine' Subtype.val (p := fun d => fdOf (at_ (inCls (at_ PySem.Challenge.pw_fc0039_01.main.body 34)) 3) = d) ⟨_, ?h⟩
  case h =>
    conv => lhs; whnf
@[reducible] def f__TimedCache_timer : FD := by
  refine' Subtype.val (p := fun d => fdOf (at_ (inCls (at_ PySem.Challenge.pw_fc0039_01.main.body 34)) 5) = d) ⟨_, ?h⟩
  case h =>
    conv => lhs; whnf
@[reducible] def f__TimedCache_get : FD := by
  refine' Subtype.val (p := fun d => fdOf (at_ (inCls (at_ PySem.Challenge.pw_fc0039_01.main.body 34)) 6) = d) ⟨_, ?h⟩
  case h =>
    conv => lhs; whnf
@[reducible] def f_TLRUCache__Item___init__ : FD := by
  refine' Subtype.val (p := fun d => fdOf (at_ (inCls (at_ (inCls (at_ PySem.Challenge.pw_fc0039_01.main.body 52)) 1)) 1) = d) ⟨_, ?h⟩
  case h =>
    conv => lhs; whnf
@[reducible] def f_TLRUCache__Item___lt__ : FD := by
  refine' Subtype.val (p := fun d => fdOf (at_ (inCls (at_ (inCls (at_ PySem.Challenge.pw_fc0039_01.main.body 52)) 1)) 2) = d) ⟨_, ?h⟩
  case h =>
    conv => lhs; whnf
@[reducible] def f_TLRUCache___init__ : FD := by
  refine' Subtype.val (p := fun d => fdOf (at_ (inCls (at_ PySem.Challenge.pw_fc0039_01.main.body 52)) 2) = d) ⟨_, ?h⟩
  case h =>
    conv => lhs; whnf
@[reducible] def f_TLRUCache___contains__ : FD := by
  refine' Subtype.val (p := fun d => fdOf (at_ (inCls (at_ PySem.Challenge.pw_fc0039_01.main.body 52)) 3) = d) ⟨_, ?h⟩
  case h =>
    conv => lhs; whnf
@[reducible] def f_TLRUCache___getitem__ : FD := by
  refine' Subtype.val (p := fun d => fdOf (at_ (inCls (at_ PySem.Challenge.pw_fc0039_01.main.body 52)) 4) = d) ⟨_, ?h⟩
  case h =>
    conv => lhs; whnf
@[reducible] def f_TLRUCache___setitem__ : FD := by
  refine' Subtype.val (p := fun d => fdOf (at_ (inCls (at_ PySem.Challenge.pw_fc0039_01.main.body 52)) 5) = d) ⟨_, ?h⟩
  case h =>
    conv => lhs; whnf
@[reducible] def f_TLRUCache___delitem__ : FD := by
  refine' Subtype.val (p := fun d => fdOf (at_ (inCls (at_ PySem.Challenge.pw_fc0039_01.main.body 52)) 6) = d) ⟨_, ?h⟩
  case h =>
    conv => lhs; whnf
@[reducible] def f_TLRUCache_expire : FD := by
  refine' Subtype.val (p := fun d => fdOf (at_ (inCls (at_ PySem.Challenge.pw_fc0039_01.main.body 52)) 9) = d) ⟨_, ?h⟩
  case h =>
    conv => lhs; whnf
@[reducible] def f__law_powers : FD := by
  refine' Subtype.val (p := fun d => fdOf (at_ PySem.Challenge.pw_fc0039_01.main.body 54) = d) ⟨_, ?h⟩
  case h =>
    conv => lhs; whnf
@[reducible] def f__law_at : FD := by
  refine' Subtype.val (p := fun d => fdOf (at_ PySem.Challenge.pw_fc0039_01.main.body 55) = d) ⟨_, ?h⟩
  case h =>
    conv => lhs; whnf
@[reducible] def f_law : FD := by
  refine' Subtype.val (p := fun d => fdOf (at_ PySem.Challenge.pw_fc0039_01.main.body 56) = d) ⟨_, ?h⟩
  case h =>
    conv => lhs; whnf
end Fn
set_option maxHeartbeats 4000000 in
def K : Params → Frag := fun P =>
  (nat_lit 2, ⟨.none, none, (.dict [⟨PyData.keyHash P (.ofString "\u0069mport.loaded._collections"), (.str (.ofString "\u0069mport.loaded._collections") 185), (.bool true)⟩, ⟨PyData.keyHash P (.ofString "class._frozen_\u0069mportlib.BuiltinImporter"), (.str (.ofString "class._frozen_\u0069mportlib.BuiltinImporter") 187), (.ref 15)⟩, ⟨PyData.keyHash P (.ofString "watched.\u0069mport"), (.str (.ofString "watched.\u0069mport") 208), (.ref 19)⟩, ⟨PyData.keyHash P (.ofString "class._frozen_\u0069mportlib.ModuleSpec"), (.str (.ofString "class._frozen_\u0069mportlib.ModuleSpec") 218), (.ref 23)⟩, ⟨PyData.keyHash P (.ofString "sys.modules.booked-epoch"), (.str (.ofString "sys.modules.booked-epoch") 247), (.int (4) 0)⟩, ⟨PyData.keyHash P (.ofString "sys.modules.landed._collections"), (.str (.ofString "sys.modules.landed._collections") 248), (.bool true)⟩, ⟨PyData.keyHash P (.ofString "\u0069mport.later-laid._collections"), (.str (.ofString "\u0069mport.later-laid._collections") 263), (.bool true)⟩, ⟨PyData.keyHash P (.ofString "watched.library"), (.str (.ofString "watched.library") 265), (.ref 28)⟩, ⟨PyData.keyHash P (.ofString "watched.library-objects"), (.str (.ofString "watched.library-objects") 0), (.str (.mk #[13, 31]) 0)⟩, ⟨PyData.keyHash P (.ofString "watched.library-deep._collections"), (.str (.ofString "watched.library-deep._collections") 266), (.str (.mk #[4, 0, 0, 12, 4, 0, 0, 12, 4, 0, 0, 3, 4, 0, 0, 12, 8, 4, 100, 105, 99, 116, 2]) 0)⟩, ⟨PyData.keyHash P (.ofString "\u0069mport.loaded._heapq"), (.str (.ofString "\u0069mport.loaded._heapq") 279), (.bool true)⟩, ⟨PyData.keyHash P (.ofString "class._frozen_\u0069mportlib_external._LoaderBasics"), (.str (.ofString "class._frozen_\u0069mportlib_external._LoaderBasics") 284), (.ref 34)⟩, ⟨PyData.keyHash P (.ofString "class._frozen_\u0069mportlib_external.FileLoader"), (.str (.ofString "class._frozen_\u0069mportlib_external.FileLoader") 300), (.ref 39)⟩, ⟨PyData.keyHash P (.ofString "class._frozen_\u0069mportlib_external.ExtensionFileLoader"), (.str (.ofString "class._frozen_\u0069mportlib_external.ExtensionFileLoader") 321), (.ref 44)⟩, ⟨PyData.keyHash P (.ofString "\u0069mport.later-laid._heapq"), (.str (.ofString "\u0069mport.later-laid._heapq") 369), (.bool true)⟩].toArray 15), #[]⟩) ::
  (nat_lit 3, ⟨(.type "dict"), none, (.dict [⟨PyData.keyHash P (.ofString "__name__"), (.str (.ofString "__name__") 165), (.str (.ofString "law_fc0039_01") 1927)⟩, ⟨PyData.keyHash P (.ofString "__doc__"), (.str (.ofString "__doc__") 166), .none⟩, ⟨PyData.keyHash P (.ofString "__package__"), (.str (.ofString "__package__") 167), .none⟩, ⟨PyData.keyHash P (.ofString "__loader__"), (.str (.ofString "__loader__") 168), (.builtin "__main__.__loader__#opaque")⟩, ⟨PyData.keyHash P (.ofString "__spec__"), (.str (.ofString "__spec__") 169), .none⟩, ⟨PyData.keyHash P (.ofString "__annotations__"), (.str (.ofString "__annotations__") 170), (.ref 6)⟩, ⟨PyData.keyHash P (.ofString "__builtins__"), (.str (.ofString "__builtins__") 171), (.ref 4)⟩, ⟨PyData.keyHash P (.ofString "__file__"), (.str (.ofString "__file__") 173), (.str (.ofString "/claim/cut.py") 172)⟩, ⟨PyData.keyHash P (.ofString "__cached__"), (.str (.ofString "__cached__") 174), .none⟩, ⟨PyData.keyHash P (.ofString "deque"), (.str (.ofString "deque") 272), (.type "collections.deque")⟩, ⟨PyData.keyHash P (.ofString "heapify"), (.str (.ofString "heapify") 376), (.builtin "_heapq.heapify")⟩, ⟨PyData.keyHash P (.ofString "heappop"), (.str (.ofString "heappop") 379), (.builtin "_heapq.heappop")⟩, ⟨PyData.keyHash P (.ofString "heappush"), (.str (.ofString "heappush") 382), (.builtin "_heapq.heappush")⟩, ⟨PyData.keyHash P (.ofString "_wall"), (.str (.ofString "_wall") 395), (.ref 60)⟩, ⟨PyData.keyHash P (.ofString "_pe_name"), (.str (.ofString "_pe_name") 402), (.ref 67)⟩, ⟨PyData.keyHash P (.ofString "ABCMeta"), (.str (.ofString "ABCMeta") 428), (.ref 84)⟩, ⟨PyData.keyHash P (.ofString "_ABCLike"), (.str (.ofString "_ABCLike") 471), (.ref 117)⟩, ⟨PyData.keyHash P (.ofString "_abc_plain_meta"), (.str (.ofString "_abc_plain_meta") 478), (.ref 126)⟩, ⟨PyData.keyHash P (.ofString "_abc_has_iter"), (.str (.ofString "_abc_has_iter") 485), (.ref 133)⟩, ⟨PyData.keyHash P (.ofString "_abc_has_len"), (.str (.ofString "_abc_has_len") 492), (.ref 140)⟩, ⟨PyData.keyHash P (.ofString "_abc_has_contains"), (.str (.ofString "_abc_has_contains") 499), (.ref 147)⟩, ⟨PyData.keyHash P (.ofString "_abc_is_mappingproxy"), (.str (.ofString "_abc_is_mappingproxy") 506), (.ref 154)⟩, ⟨PyData.keyHash P (.ofString "_abc_is_builtin_collection"), (.str (.ofString "_abc_is_builtin_collection") 513), (.ref 161)⟩, ⟨PyData.keyHash P (.ofString "Iterable"), (.str (.ofString "Iterable") 554), (.ref 194)⟩, ⟨PyData.keyHash P (.ofString "Sized"), (.str (.ofString "Sized") 591), (.ref 224)⟩, ⟨PyData.keyHash P (.ofString "Container"), (.str (.ofString "Container") 638), (.ref 260)⟩, ⟨PyData.keyHash P (.ofString "Collection"), (.str (.ofString "Collection") 668), (.ref 283)⟩, ⟨PyData.keyHash P (.ofString "Set"), (.str (.ofString "Set") 825), (.ref 399)⟩, ⟨PyData.keyHash P (.ofString "Mapping"), (.str (.ofString "Mapping") 913), (.ref 471)⟩, ⟨PyData.keyHash P (.ofString "MappingView"), (.str (.ofString "MappingView") 981), (.ref 521)⟩, ⟨PyData.keyHash P (.ofString "KeysView"), (.str (.ofString "KeysView") 1041), (.ref 568)⟩, ⟨PyData.keyHash P (.ofString "ItemsView"), (.str (.ofString "ItemsView") 1105), (.ref 613)⟩, ⟨PyData.keyHash P (.ofString "ValuesView"), (.str (.ofString "ValuesView") 1148), (.ref 648)⟩, ⟨PyData.keyHash P (.ofString "MutableMapping"), (.str (.ofString "MutableMapping") 1235), (.ref 723)⟩, ⟨PyData.keyHash P (.ofString "Cache"), (.str (.ofString "Cache") 1421), (.ref 858)⟩, ⟨PyData.keyHash P (.ofString "_TimedCache"), (.str (.ofString "_TimedCache") 1598), (.ref 1006)⟩, ⟨PyData.keyHash P (.ofString "_gt_from_lt"), (.str (.ofString "_gt_from_lt") 1609), (.ref 1015)⟩, ⟨PyData.keyHash P (.ofString "_le_from_lt"), (.str (.ofString "_le_from_lt") 1618), (.ref 1022)⟩, ⟨PyData.keyHash P (.ofString "_ge_from_lt"), (.str (.ofString "_ge_from_lt") 1627), (.ref 1029)⟩, ⟨PyData.keyHash P (.ofString "_ge_from_le"), (.str (.ofString "_ge_from_le") 1636), (.ref 1036)⟩, ⟨PyData.keyHash P (.ofString "_lt_from_le"), (.str (.ofString "_lt_from_le") 1645), (.ref 1043)⟩, ⟨PyData.keyHash P (.ofString "_gt_from_le"), (.str (.ofString "_gt_from_le") 1654), (.ref 1050)⟩, ⟨PyData.keyHash P (.ofString "_lt_from_gt"), (.str (.ofString "_lt_from_gt") 1663), (.ref 1057)⟩, ⟨PyData.keyHash P (.ofString "_ge_from_gt"), (.str (.ofString "_ge_from_gt") 1672), (.ref 1064)⟩, ⟨PyData.keyHash P (.ofString "_le_from_gt"), (.str (.ofString "_le_from_gt") 1681), (.ref 1071)⟩, ⟨PyData.keyHash P (.ofString "_le_from_ge"), (.str (.ofString "_le_from_ge") 1690), (.ref 1078)⟩, ⟨PyData.keyHash P (.ofString "_gt_from_ge"), (.str (.ofString "_gt_from_ge") 1699), (.ref 1085)⟩, ⟨PyData.keyHash P (.ofString "_lt_from_ge"), (.str (.ofString "_lt_from_ge") 1708), (.ref 1092)⟩, ⟨PyData.keyHash P (.ofString "total_ordering"), (.str (.ofString "total_ordering") 1719), (.ref 1099)⟩, ⟨PyData.keyHash P (.ofString "monotonic"), (.str (.ofString "monotonic") 1729), (.ref 1106)⟩, ⟨PyData.keyHash P (.ofString "TLRUCache"), (.str (.ofString "TLRUCache") 1926), (.ref 1231)⟩, ⟨PyData.keyHash P (.ofString "_law_powers"), (.str (.ofString "_law_powers") 1934), (.ref 1240)⟩, ⟨PyData.keyHash P (.ofString "_law_at"), (.str (.ofString "_law_at") 1943), (.ref 1247)⟩, ⟨PyData.keyHash P (.ofString "law"), (.str (.ofString "law") 1949), (.ref 1252)⟩].toArray 54), #[]⟩) ::
  (nat_lit 83, ⟨(.type "dict"), none, (.dict [⟨PyData.keyHash P (.ofString "__module__"), (.str (.ofString "__module__") 412), (.str (.ofString "abc") 403)⟩, ⟨PyData.keyHash P (.ofString "__firstlineno__"), (.str (.ofString "__firstlineno__") 416), (.int (11) 415)⟩, ⟨PyData.keyHash P (.ofString "register"), (.str (.ofString "register") 424), (.ref 81)⟩, ⟨PyData.keyHash P (.ofString "__static_attributes__"), (.str (.ofString "__static_attributes__") 425), (.ref 82)⟩, ⟨PyData.keyHash P (.ofString "__doc__"), (.str (.ofString "__doc__") 426), .none⟩].toArray 2), #[]⟩) ::
  (nat_lit 84, ⟨(.type "type"), none, (.cls { name := (.ofString "ABCMeta"), bases := [(.type "type")], mro := [(.ref 84), (.type "type"), (.type "object")], ns := 83, qualname := (.ofString "ABCMeta"), hasDict := true, slotNames := [], subclasses := [(.ref 117)], abstract := false, collection := none, hasDel := false }), #[(some (.ref 68)), none, (some (.str (.ofString "ABCMeta") 405)), (some (.str (.ofString "ABCMeta") 413)), (some (.builtin "type.__new__")), (some (.bool true))]⟩) ::
  (nat_lit 116, ⟨(.type "dict"), none, (.dict [⟨PyData.keyHash P (.ofString "__module__"), (.str (.ofString "__module__") 438), (.str (.ofString "collections.abc") 429)⟩, ⟨PyData.keyHash P (.ofString "__firstlineno__"), (.str (.ofString "__firstlineno__") 442), (.int (16) 441)⟩, ⟨PyData.keyHash P (.ofString "__instancecheck__"), (.str (.ofString "__instancecheck__") 451), (.ref 100)⟩, ⟨PyData.keyHash P (.ofString "__subclasscheck__"), (.str (.ofString "__subclasscheck__") 459), (.ref 107)⟩, ⟨PyData.keyHash P (.ofString "register"), (.str (.ofString "register") 467), (.ref 114)⟩, ⟨PyData.keyHash P (.ofString "__static_attributes__"), (.str (.ofString "__static_attributes__") 468), (.ref 115)⟩, ⟨PyData.keyHash P (.ofString "__doc__"), (.str (.ofString "__doc__") 469), .none⟩].toArray 2), #[]⟩) ::
  (nat_lit 117, ⟨(.type "type"), none, (.cls { name := (.ofString "_ABCLike"), bases := [(.ref 84)], mro := [(.ref 117), (.ref 84), (.type "type"), (.type "object")], ns := 116, qualname := (.ofString "_ABCLike"), hasDict := true, slotNames := [], subclasses := [], abstract := false, collection := none, hasDel := false }), #[(some (.ref 87)), none, (some (.str (.ofString "_ABCLike") 431)), (some (.str (.ofString "_ABCLike") 439)), (some (.builtin "type.__new__")), (some (.bool true))]⟩) ::
  (nat_lit 193, ⟨(.type "dict"), none, (.dict [⟨PyData.keyHash P (.ofString "__module__"), (.str (.ofString "__module__") 521), (.str (.ofString "collections.abc") 429)⟩, ⟨PyData.keyHash P (.ofString "__firstlineno__"), (.str (.ofString "__firstlineno__") 525), (.int (47) 524)⟩, ⟨PyData.keyHash P (.ofString "__slots__"), (.str (.ofString "__slots__") 526), (.ref 169)⟩, ⟨PyData.keyHash P (.ofString "__iter__"), (.str (.ofString "__iter__") 533), (.ref 176)⟩, ⟨PyData.keyHash P (.ofString "_abc_kind"), (.str (.ofString "_abc_kind") 541), (.ref 183)⟩, ⟨PyData.keyHash P (.ofString "__class_getitem__"), (.str (.ofString "__class_getitem__") 549), (.ref 195)⟩, ⟨PyData.keyHash P (.ofString "__static_attributes__"), (.str (.ofString "__static_attributes__") 550), (.ref 191)⟩, ⟨PyData.keyHash P (.ofString "__doc__"), (.str (.ofString "__doc__") 552), .none⟩, ⟨PyData.keyHash P (.ofString "__abstractmethods__"), (.str (.ofString "__abstractmethods__") 559), (.ref 198)⟩].toArray 3), #[]⟩) ::
  (nat_lit 194, ⟨(.ref 117), none, (.cls { name := (.ofString "Iterable"), bases := [(.type "object")], mro := [(.ref 194), (.type "object")], ns := 193, qualname := (.ofString "Iterable"), hasDict := false, slotNames := [], subclasses := [(.ref 283)], abstract := true, collection := none, hasDel := false }), #[none, none, (some (.str (.ofString "Iterable") 514)), (some (.str (.ofString "Iterable") 522)), (some (.builtin "object.__new__")), (some (.bool false))]⟩) ::
  (nat_lit 223, ⟨(.type "dict"), none, (.dict [⟨PyData.keyHash P (.ofString "__module__"), (.str (.ofString "__module__") 567), (.str (.ofString "collections.abc") 429)⟩, ⟨PyData.keyHash P (.ofString "__firstlineno__"), (.str (.ofString "__firstlineno__") 571), (.int (63) 570)⟩, ⟨PyData.keyHash P (.ofString "__slots__"), (.str (.ofString "__slots__") 572), (.ref 206)⟩, ⟨PyData.keyHash P (.ofString "__len__"), (.str (.ofString "__len__") 579), (.ref 213)⟩, ⟨PyData.keyHash P (.ofString "_abc_kind"), (.str (.ofString "_abc_kind") 587), (.ref 220)⟩, ⟨PyData.keyHash P (.ofString "__static_attributes__"), (.str (.ofString "__static_attributes__") 588), (.ref 221)⟩, ⟨PyData.keyHash P (.ofString "__doc__"), (.str (.ofString "__doc__") 589), .none⟩, ⟨PyData.keyHash P (.ofString "__abstractmethods__"), (.str (.ofString "__abstractmethods__") 596), (.ref 227)⟩].toArray 3), #[]⟩) ::
  (nat_lit 224, ⟨(.ref 117), none, (.cls { name := (.ofString "Sized"), bases := [(.type "object")], mro := [(.ref 224), (.type "object")], ns := 223, qualname := (.ofString "Sized"), hasDict := false, slotNames := [], subclasses := [(.ref 283), (.ref 521)], abstract := true, collection := none, hasDel := false }), #[none, none, (some (.str (.ofString "Sized") 560)), (some (.str (.ofString "Sized") 568)), (some (.builtin "object.__new__")), (some (.bool false))]⟩) ::
  (nat_lit 259, ⟨(.type "dict"), none, (.dict [⟨PyData.keyHash P (.ofString "__module__"), (.str (.ofString "__module__") 604), (.str (.ofString "collections.abc") 429)⟩, ⟨PyData.keyHash P (.ofString "__firstlineno__"), (.str (.ofString "__firstlineno__") 608), (.int (75) 607)⟩, ⟨PyData.keyHash P (.ofString "__slots__"), (.str (.ofString "__slots__") 609), (.ref 235)⟩, ⟨PyData.keyHash P (.ofString "__contains__"), (.str (.ofString "__contains__") 617), (.ref 242)⟩, ⟨PyData.keyHash P (.ofString "_abc_kind"), (.str (.ofString "_abc_kind") 625), (.ref 249)⟩, ⟨PyData.keyHash P (.ofString "__class_getitem__"), (.str (.ofString "__class_getitem__") 633), (.ref 261)⟩, ⟨PyData.keyHash P (.ofString "__static_attributes__"), (.str (.ofString "__static_attributes__") 634), (.ref 257)⟩, ⟨PyData.keyHash P (.ofString "__doc__"), (.str (.ofString "__doc__") 636), .none⟩, ⟨PyData.keyHash P (.ofString "__abstractmethods__"), (.str (.ofString "__abstractmethods__") 643), (.ref 264)⟩].toArray 3), #[]⟩) ::
  (nat_lit 260, ⟨(.ref 117), none, (.cls { name := (.ofString "Container"), bases := [(.type "object")], mro := [(.ref 260), (.type "object")], ns := 259, qualname := (.ofString "Container"), hasDict := false, slotNames := [], subclasses := [(.ref 283)], abstract := true, collection := none, hasDel := false }), #[none, none, (some (.str (.ofString "Container") 597)), (some (.str (.ofString "Container") 605)), (some (.builtin "object.__new__")), (some (.bool false))]⟩) ::
  (nat_lit 282, ⟨(.type "dict"), none, (.dict [⟨PyData.keyHash P (.ofString "__module__"), (.str (.ofString "__module__") 651), (.str (.ofString "collections.abc") 429)⟩, ⟨PyData.keyHash P (.ofString "__firstlineno__"), (.str (.ofString "__firstlineno__") 655), (.int (90) 654)⟩, ⟨PyData.keyHash P (.ofString "__slots__"), (.str (.ofString "__slots__") 656), (.ref 272)⟩, ⟨PyData.keyHash P (.ofString "_abc_kind"), (.str (.ofString "_abc_kind") 664), (.ref 279)⟩, ⟨PyData.keyHash P (.ofString "__static_attributes__"), (.str (.ofString "__static_attributes__") 665), (.ref 280)⟩, ⟨PyData.keyHash P (.ofString "__doc__"), (.str (.ofString "__doc__") 666), .none⟩, ⟨PyData.keyHash P (.ofString "__abstractmethods__"), (.str (.ofString "__abstractmethods__") 675), (.ref 286)⟩].toArray 3), #[]⟩) ::
  (nat_lit 283, ⟨(.ref 117), none, (.cls { name := (.ofString "Collection"), bases := [(.ref 224), (.ref 194), (.ref 260)], mro := [(.ref 283), (.ref 224), (.ref 194), (.ref 260), (.type "object")], ns := 282, qualname := (.ofString "Collection"), hasDict := false, slotNames := [], subclasses := [(.ref 399), (.ref 471), (.ref 648)], abstract := true, collection := none, hasDel := false }), #[(some (.ref 265)), none, (some (.str (.ofString "Collection") 644)), (some (.str (.ofString "Collection") 652)), (some (.builtin "object.__new__")), (some (.bool false))]⟩) ::
  (nat_lit 470, ⟨(.type "dict"), none, (.dict [⟨PyData.keyHash P (.ofString "__module__"), (.str (.ofString "__module__") 840), (.str (.ofString "collections.abc") 429)⟩, ⟨PyData.keyHash P (.ofString "__firstlineno__"), (.str (.ofString "__firstlineno__") 844), (.int (190) 843)⟩, ⟨PyData.keyHash P (.ofString "__slots__"), (.str (.ofString "__slots__") 845), (.ref 410)⟩, ⟨PyData.keyHash P (.ofString "__getitem__"), (.str (.ofString "__getitem__") 853), (.ref 417)⟩, ⟨PyData.keyHash P (.ofString "get"), (.str (.ofString "get") 862), (.ref 425)⟩, ⟨PyData.keyHash P (.ofString "__contains__"), (.str (.ofString "__contains__") 870), (.ref 432)⟩, ⟨PyData.keyHash P (.ofString "keys"), (.str (.ofString "keys") 877), (.ref 439)⟩, ⟨PyData.keyHash P (.ofString "items"), (.str (.ofString "items") 884), (.ref 446)⟩, ⟨PyData.keyHash P (.ofString "values"), (.str (.ofString "values") 891), (.ref 453)⟩, ⟨PyData.keyHash P (.ofString "__eq__"), (.str (.ofString "__eq__") 899), (.ref 460)⟩, ⟨PyData.keyHash P (.ofString "__reversed__"), (.str (.ofString "__reversed__") 900), .none⟩, ⟨PyData.keyHash P (.ofString "_abc_kind"), (.str (.ofString "_abc_kind") 908), (.ref 467)⟩, ⟨PyData.keyHash P (.ofString "__static_attributes__"), (.str (.ofString "__static_attributes__") 909), (.ref 468)⟩, ⟨PyData.keyHash P (.ofString "__doc__"), (.str (.ofString "__doc__") 910), .none⟩, ⟨PyData.keyHash P (.ofString "__hash__"), (.str (.ofString "__hash__") 911), .none⟩, ⟨PyData.keyHash P (.ofString "__abstractmethods__"), (.str (.ofString "__abstractmethods__") 920), (.ref 474)⟩].toArray 4), #[]⟩) ::
  (nat_lit 471, ⟨(.ref 117), none, (.cls { name := (.ofString "Mapping"), bases := [(.ref 283)], mro := [(.ref 471), (.ref 283), (.ref 224), (.ref 194), (.ref 260), (.type "object")], ns := 470, qualname := (.ofString "Mapping"), hasDict := false, slotNames := [], subclasses := [(.ref 723)], abstract := true, collection := none, hasDel := false }), #[(some (.ref 403)), none, (some (.str (.ofString "Mapping") 833)), (some (.str (.ofString "Mapping") 841)), (some (.builtin "object.__new__")), (some (.bool false))]⟩) ::
  (nat_lit 722, ⟨(.type "dict"), none, (.dict [⟨PyData.keyHash P (.ofString "__module__"), (.str (.ofString "__module__") 1156), (.str (.ofString "collections.abc") 429)⟩, ⟨PyData.keyHash P (.ofString "__firstlineno__"), (.str (.ofString "__firstlineno__") 1160), (.int (314) 1159)⟩, ⟨PyData.keyHash P (.ofString "__slots__"), (.str (.ofString "__slots__") 1161), (.ref 658)⟩, ⟨PyData.keyHash P (.ofString "__setitem__"), (.str (.ofString "__setitem__") 1170), (.ref 665)⟩, ⟨PyData.keyHash P (.ofString "__delitem__"), (.str (.ofString "__delitem__") 1178), (.ref 672)⟩, ⟨PyData.keyHash P (.ofString "_MutableMapping__marker"), (.str (.ofString "_MutableMapping__marker") 1179), (.ref 673)⟩, ⟨PyData.keyHash P (.ofString "pop"), (.str (.ofString "pop") 1189), (.ref 681)⟩, ⟨PyData.keyHash P (.ofString "popitem"), (.str (.ofString "popitem") 1198), (.ref 688)⟩, ⟨PyData.keyHash P (.ofString "clear"), (.str (.ofString "clear") 1205), (.ref 695)⟩, ⟨PyData.keyHash P (.ofString "update"), (.str (.ofString "update") 1214), (.ref 704)⟩, ⟨PyData.keyHash P (.ofString "setdefault"), (.str (.ofString "setdefault") 1223), (.ref 712)⟩, ⟨PyData.keyHash P (.ofString "_abc_kind"), (.str (.ofString "_abc_kind") 1231), (.ref 719)⟩, ⟨PyData.keyHash P (.ofString "__static_attributes__"), (.str (.ofString "__static_attributes__") 1232), (.ref 720)⟩, ⟨PyData.keyHash P (.ofString "__doc__"), (.str (.ofString "__doc__") 1233), .none⟩, ⟨PyData.keyHash P (.ofString "__abstractmethods__"), (.str (.ofString "__abstractmethods__") 1244), (.ref 726)⟩].toArray 3), #[]⟩) ::
  (nat_lit 723, ⟨(.ref 117), none, (.cls { name := (.ofString "MutableMapping"), bases := [(.ref 471)], mro := [(.ref 723), (.ref 471), (.ref 283), (.ref 224), (.ref 194), (.ref 260), (.type "object")], ns := 722, qualname := (.ofString "MutableMapping"), hasDict := false, slotNames := [], subclasses := [(.ref 858)], abstract := true, collection := none, hasDel := false }), #[(some (.ref 651)), none, (some (.str (.ofString "MutableMapping") 1149)), (some (.str (.ofString "MutableMapping") 1157)), (some (.builtin "object.__new__")), (some (.bool false))]⟩) ::
  (nat_lit 857, ⟨(.type "dict"), none, (.dict [⟨PyData.keyHash P (.ofString "__module__"), (.str (.ofString "__module__") 1254), (.str (.ofString "cachetools") 1245)⟩, ⟨PyData.keyHash P (.ofString "__firstlineno__"), (.str (.ofString "__firstlineno__") 1258), (.int (360) 1257)⟩, ⟨PyData.keyHash P (.ofString "_Cache__marker"), (.str (.ofString "_Cache__marker") 1259), (.ref 734)⟩, ⟨PyData.keyHash P (.ofString "_Cache__size"), (.str (.ofString "_Cache__size") 1260), .none⟩, ⟨PyData.keyHash P (.ofString "__init__"), (.str (.ofString "__init__") 1269), (.ref 742)⟩, ⟨PyData.keyHash P (.ofString "__repr__"), (.str (.ofString "__repr__") 1276), (.ref 749)⟩, ⟨PyData.keyHash P (.ofString "__getitem__"), (.str (.ofString "__getitem__") 1284), (.ref 756)⟩, ⟨PyData.keyHash P (.ofString "__setitem__"), (.str (.ofString "__setitem__") 1298), (.ref 763)⟩, ⟨PyData.keyHash P (.ofString "__delitem__"), (.str (.ofString "__delitem__") 1308), (.ref 770)⟩, ⟨PyData.keyHash P (.ofString "__contains__"), (.str (.ofString "__contains__") 1316), (.ref 777)⟩, ⟨PyData.keyHash P (.ofString "__missing__"), (.str (.ofString "__missing__") 1324), (.ref 784)⟩, ⟨PyData.keyHash P (.ofString "__iter__"), (.str (.ofString "__iter__") 1331), (.ref 791)⟩, ⟨PyData.keyHash P (.ofString "__len__"), (.str (.ofString "__len__") 1338), (.ref 798)⟩, ⟨PyData.keyHash P (.ofString "get"), (.str (.ofString "get") 1347), (.ref 806)⟩, ⟨PyData.keyHash P (.ofString "pop"), (.str (.ofString "pop") 1357), (.ref 814)⟩, ⟨PyData.keyHash P (.ofString "setdefault"), (.str (.ofString "setdefault") 1366), (.ref 822)⟩, ⟨PyData.keyHash P (.ofString "clear"), (.str (.ofString "clear") 1373), (.ref 829)⟩, ⟨PyData.keyHash P (.ofString "maxsize"), (.str (.ofString "maxsize") 1381), (.ref 837)⟩, ⟨PyData.keyHash P (.ofString "currsize"), (.str (.ofString "currsize") 1389), (.ref 845)⟩, ⟨PyData.keyHash P (.ofString "getsizeof"), (.str (.ofString "getsizeof") 1408), (.ref 854)⟩, ⟨PyData.keyHash P (.ofString "__static_attributes__"), (.str (.ofString "__static_attributes__") 1414), (.ref 856)⟩, ⟨PyData.keyHash P (.ofString "__dict__"), (.str (.ofString "__dict__") 1416), (.ref 859)⟩, ⟨PyData.keyHash P (.ofString "__weakref__"), (.str (.ofString "__weakref__") 1418), (.ref 860)⟩, ⟨PyData.keyHash P (.ofString "__doc__"), (.str (.ofString "__doc__") 1419), .none⟩].toArray 4), #[]⟩) ::
  (nat_lit 858, ⟨(.ref 117), none, (.cls { name := (.ofString "Cache"), bases := [(.ref 723)], mro := [(.ref 858), (.ref 723), (.ref 471), (.ref 283), (.ref 224), (.ref 194), (.ref 260), (.type "object")], ns := 857, qualname := (.ofString "Cache"), hasDict := true, slotNames := [], subclasses := [(.ref 1006)], abstract := false, collection := none, hasDel := false }), #[(some (.ref 727)), none, (some (.str (.ofString "Cache") 1247)), (some (.str (.ofString "Cache") 1255)), (some (.builtin "object.__new__")), (some (.bool true))]⟩) ::
  (nat_lit 921, ⟨(.type "dict"), none, (.dict [⟨PyData.keyHash P (.ofString "__module__"), (.str (.ofString "__module__") 1441), (.str (.ofString "cachetools") 1245)⟩, ⟨PyData.keyHash P (.ofString "__firstlineno__"), (.str (.ofString "__firstlineno__") 1445), (.int (475) 1444)⟩, ⟨PyData.keyHash P (.ofString "__init__"), (.str (.ofString "__init__") 1453), (.ref 884)⟩, ⟨PyData.keyHash P (.ofString "__call__"), (.str (.ofString "__call__") 1460), (.ref 891)⟩, ⟨PyData.keyHash P (.ofString "__enter__"), (.str (.ofString "__enter__") 1468), (.ref 898)⟩, ⟨PyData.keyHash P (.ofString "__exit__"), (.str (.ofString "__exit__") 1476), (.ref 905)⟩, ⟨PyData.keyHash P (.ofString "__reduce__"), (.str (.ofString "__reduce__") 1483), (.ref 912)⟩, ⟨PyData.keyHash P (.ofString "__getattr__"), (.str (.ofString "__getattr__") 1491), (.ref 919)⟩, ⟨PyData.keyHash P (.ofString "__static_attributes__"), (.str (.ofString "__static_attributes__") 1495), (.ref 920)⟩, ⟨PyData.keyHash P (.ofString "__dict__"), (.str (.ofString "__dict__") 1497), (.ref 923)⟩, ⟨PyData.keyHash P (.ofString "__weakref__"), (.str (.ofString "__weakref__") 1499), (.ref 924)⟩, ⟨PyData.keyHash P (.ofString "__doc__"), (.str (.ofString "__doc__") 1500), .none⟩].toArray 4), #[]⟩) ::
  (nat_lit 922, ⟨(.type "type"), none, (.cls { name := (.ofString "_Timer"), bases := [(.type "object")], mro := [(.ref 922), (.type "object")], ns := 921, qualname := (.ofString "_TimedCache._Timer"), hasDict := true, slotNames := [], subclasses := [], abstract := false, collection := none, hasDel := false }), #[none, none, (some (.str (.ofString "_Timer") 1434)), (some (.str (.ofString "_TimedCache._Timer") 1442)), (some (.builtin "object.__new__")), (some (.bool true))]⟩) ::
  (nat_lit 1005, ⟨(.type "dict"), none, (.dict [⟨PyData.keyHash P (.ofString "__module__"), (.str (.ofString "__module__") 1429), (.str (.ofString "cachetools") 1245)⟩, ⟨PyData.keyHash P (.ofString "__firstlineno__"), (.str (.ofString "__firstlineno__") 1433), (.int (473) 1432)⟩, ⟨PyData.keyHash P (.ofString "_Timer"), (.str (.ofString "_Timer") 1502), (.ref 922)⟩, ⟨PyData.keyHash P (.ofString "__init__"), (.str (.ofString "__init__") 1512), (.ref 934)⟩, ⟨PyData.keyHash P (.ofString "__repr__"), (.str (.ofString "__repr__") 1522), (.ref 942)⟩, ⟨PyData.keyHash P (.ofString "__len__"), (.str (.ofString "__len__") 1532), (.ref 950)⟩, ⟨PyData.keyHash P (.ofString "currsize"), (.str (.ofString "currsize") 1542), (.ref 959)⟩, ⟨PyData.keyHash P (.ofString "timer"), (.str (.ofString "timer") 1550), (.ref 967)⟩, ⟨PyData.keyHash P (.ofString "get"), (.str (.ofString "get") 1559), (.ref 974)⟩, ⟨PyData.keyHash P (.ofString "pop"), (.str (.ofString "pop") 1568), (.ref 981)⟩, ⟨PyData.keyHash P (.ofString "setdefault"), (.str (.ofString "setdefault") 1577), (.ref 988)⟩, ⟨PyData.keyHash P (.ofString "clear"), (.str (.ofString "clear") 1584), (.ref 995)⟩, ⟨PyData.keyHash P (.ofString "expire"), (.str (.ofString "expire") 1592), (.ref 1003)⟩, ⟨PyData.keyHash P (.ofString "__static_attributes__"), (.str (.ofString "__static_attributes__") 1594), (.ref 1004)⟩, ⟨PyData.keyHash P (.ofString "__doc__"), (.str (.ofString "__doc__") 1596), .none⟩].toArray 3), #[]⟩) ::
  (nat_lit 1006, ⟨(.ref 117), none, (.cls { name := (.ofString "_TimedCache"), bases := [(.ref 858)], mro := [(.ref 1006), (.ref 858), (.ref 723), (.ref 471), (.ref 283), (.ref 224), (.ref 194), (.ref 260), (.type "object")], ns := 1005, qualname := (.ofString "_TimedCache"), hasDict := true, slotNames := [], subclasses := [(.ref 1231)], abstract := false, collection := none, hasDel := false }), #[(some (.ref 863)), none, (some (.str (.ofString "_TimedCache") 1422)), (some (.str (.ofString "_TimedCache") 1430)), (some (.builtin "object.__new__")), (some (.bool true))]⟩) ::
  (nat_lit 1139, ⟨(.type "dict"), none, (.dict [⟨PyData.keyHash P (.ofString "__module__"), (.str (.ofString "__module__") 1753), (.str (.ofString "cachetools") 1730)⟩, ⟨PyData.keyHash P (.ofString "__firstlineno__"), (.str (.ofString "__firstlineno__") 1757), (.int (642) 1756)⟩, ⟨PyData.keyHash P (.ofString "__slots__"), (.str (.ofString "__slots__") 1761), (.ref 1121)⟩, ⟨PyData.keyHash P (.ofString "__init__"), (.str (.ofString "__init__") 1770), (.ref 1129)⟩, ⟨PyData.keyHash P (.ofString "__lt__"), (.str (.ofString "__lt__") 1778), (.ref 1136)⟩, ⟨PyData.keyHash P (.ofString "__static_attributes__"), (.str (.ofString "__static_attributes__") 1782), (.ref 1137)⟩, ⟨PyData.keyHash P (.ofString "expires"), (.str (.ofString "expires") 1784), (.ref 1141)⟩, ⟨PyData.keyHash P (.ofString "key"), (.str (.ofString "key") 1786), (.ref 1142)⟩, ⟨PyData.keyHash P (.ofString "removed"), (.str (.ofString "removed") 1788), (.ref 1143)⟩, ⟨PyData.keyHash P (.ofString "__doc__"), (.str (.ofString "__doc__") 1789), .none⟩, ⟨PyData.keyHash P (.ofString "__gt__"), (.str (.ofString "__gt__") 1805), (.ref 1015)⟩, ⟨PyData.keyHash P (.ofString "__le__"), (.str (.ofString "__le__") 1807), (.ref 1022)⟩, ⟨PyData.keyHash P (.ofString "__ge__"), (.str (.ofString "__ge__") 1809), (.ref 1029)⟩].toArray 8), #[]⟩) ::
  (nat_lit 1140, ⟨(.type "type"), none, (.cls { name := (.ofString "_Item"), bases := [(.type "object")], mro := [(.ref 1140), (.type "object")], ns := 1139, qualname := (.ofString "TLRUCache._Item"), hasDict := false, slotNames := [(.ofString "expires"), (.ofString "key"), (.ofString "removed")], subclasses := [], abstract := false, collection := none, hasDel := false }), #[none, none, (some (.str (.ofString "_Item") 1746)), (some (.str (.ofString "TLRUCache._Item") 1754)), (some (.builtin "object.__new__")), (some (.bool false))]⟩) ::
  (nat_lit 1230, ⟨(.type "dict"), none, (.dict [⟨PyData.keyHash P (.ofString "__module__"), (.str (.ofString "__module__") 1739), (.str (.ofString "cachetools") 1730)⟩, ⟨PyData.keyHash P (.ofString "__firstlineno__"), (.str (.ofString "__firstlineno__") 1743), (.int (639) 1742)⟩, ⟨PyData.keyHash P (.ofString "_TLRUCache__HEAP_CLEANUP_FACTOR"), (.str (.ofString "_TLRUCache__HEAP_CLEANUP_FACTOR") 1745), (.int (2) 1744)⟩, ⟨PyData.keyHash P (.ofString "_Item"), (.str (.ofString "_Item") 1810), (.ref 1140)⟩, ⟨PyData.keyHash P (.ofString "__init__"), (.str (.ofString "__init__") 1821), (.ref 1154)⟩, ⟨PyData.keyHash P (.ofString "__contains__"), (.str (.ofString "__contains__") 1830), (.ref 1161)⟩, ⟨PyData.keyHash P (.ofString "__getitem__"), (.str (.ofString "__getitem__") 1842), (.ref 1169)⟩, ⟨PyData.keyHash P (.ofString "__setitem__"), (.str (.ofString "__setitem__") 1857), (.ref 1177)⟩, ⟨PyData.keyHash P (.ofString "__delitem__"), (.str (.ofString "__delitem__") 1869), (.ref 1185)⟩, ⟨PyData.keyHash P (.ofString "__iter__"), (.str (.ofString "__iter__") 1878), (.ref 1192)⟩, ⟨PyData.keyHash P (.ofString "ttu"), (.str (.ofString "ttu") 1886), (.ref 1200)⟩, ⟨PyData.keyHash P (.ofString "expire"), (.str (.ofString "expire") 1892), (.ref 1206)⟩, ⟨PyData.keyHash P (.ofString "popitem"), (.str (.ofString "popitem") 1902), (.ref 1213)⟩, ⟨PyData.keyHash P (.ofString "clear"), (.str (.ofString "clear") 1909), (.ref 1220)⟩, ⟨PyData.keyHash P (.ofString "_TLRUCache__delitem"), (.str (.ofString "_TLRUCache__delitem") 1919), (.ref 1228)⟩, ⟨PyData.keyHash P (.ofString "__static_attributes__"), (.str (.ofString "__static_attributes__") 1923), (.ref 1229)⟩, ⟨PyData.keyHash P (.ofString "__doc__"), (.str (.ofString "__doc__") 1924), .none⟩].toArray 2), #[]⟩) ::
  (nat_lit 1231, ⟨(.ref 117), none, (.cls { name := (.ofString "TLRUCache"), bases := [(.ref 1006)], mro := [(.ref 1231), (.ref 1006), (.ref 858), (.ref 723), (.ref 471), (.ref 283), (.ref 224), (.ref 194), (.ref 260), (.type "object")], ns := 1230, qualname := (.ofString "TLRUCache"), hasDict := true, slotNames := [], subclasses := [], abstract := false, collection := none, hasDel := false }), #[(some (.ref 1107)), none, (some (.str (.ofString "TLRUCache") 1732)), (some (.str (.ofString "TLRUCache") 1740)), (some (.builtin "object.__new__")), (some (.bool true))]⟩) ::
  (nat_lit 734, ⟨(.type "object"), none, .plain, #[]⟩) ::
  (nat_lit 735, ⟨(.type "tuple"), none, (.seq #[.none] 0), #[]⟩) ::
  (nat_lit 741, ⟨(.type "code"), none, (.fields #[(.str (.ofString "__init__") 1261), (.str (.ofString "Cache.__init__") 1262), (.str (.ofString "/claim/cut.py") 1263), (.int (364) 0), (.int (3) 0), (.int (0) 0), (.int (0) 0), (.int (3) 0), (.ref 736), (.bool true), (.int (383) 0), (.ref 737), .none, (.ref 738), (.ref 739), (.ref 740), (.int (1267) 0), (.int (364) 0), (.str (.ofString "/claim/cut.py") 1268)]), #[]⟩) ::
  (nat_lit 742, ⟨(.type "function"), none, (.func { name := (.ofString "__init__"), qualname := (.ofString "Cache.__init__"), params := Fn.f_Cache___init__.params, body := .stmts Fn.f_Cache___init__.body, scope := Fn.f_Cache___init__.scope, globals := 3, closure := [], defaults := (.ref 735), kwdefaults := .none, doc := .none, pyModule := (.str (.ofString "cachetools") 1245), annotations := none, code := (.ref 741), closureTuple := .none, builtins := 0 }), #[]⟩) ::
  (nat_lit 755, ⟨(.type "code"), none, (.fields #[(.str (.ofString "__getitem__") 1277), (.str (.ofString "Cache.__getitem__") 1278), (.str (.ofString "/claim/cut.py") 1279), (.int (378) 0), (.int (2) 0), (.int (0) 0), (.int (0) 0), (.int (3) 0), (.ref 750), (.bool true), (.int (383) 0), (.ref 751), .none, (.ref 752), (.ref 753), (.ref 754), (.int (1282) 0), (.int (378) 0), (.str (.ofString "/claim/cut.py") 1283)]), #[]⟩) ::
  (nat_lit 756, ⟨(.type "function"), none, (.func { name := (.ofString "__getitem__"), qualname := (.ofString "Cache.__getitem__"), params := Fn.f_Cache___getitem__.params, body := .stmts Fn.f_Cache___getitem__.body, scope := Fn.f_Cache___getitem__.scope, globals := 3, closure := [], defaults := .none, kwdefaults := .none, doc := .none, pyModule := (.str (.ofString "cachetools") 1245), annotations := none, code := (.ref 755), closureTuple := .none, builtins := 0 }), #[]⟩) ::
  (nat_lit 762, ⟨(.type "code"), none, (.fields #[(.str (.ofString "__setitem__") 1285), (.str (.ofString "Cache.__setitem__") 1286), (.str (.ofString "/claim/cut.py") 1287), (.int (384) 0), (.int (3) 0), (.int (0) 0), (.int (0) 0), (.int (3) 0), (.ref 757), (.bool true), (.int (383) 0), (.ref 758), .none, (.ref 759), (.ref 760), (.ref 761), (.int (1296) 0), (.int (384) 0), (.str (.ofString "/claim/cut.py") 1297)]), #[]⟩) ::
  (nat_lit 763, ⟨(.type "function"), none, (.func { name := (.ofString "__setitem__"), qualname := (.ofString "Cache.__setitem__"), params := Fn.f_Cache___setitem__.params, body := .stmts Fn.f_Cache___setitem__.body, scope := Fn.f_Cache___setitem__.scope, globals := 3, closure := [], defaults := .none, kwdefaults := .none, doc := .none, pyModule := (.str (.ofString "cachetools") 1245), annotations := none, code := (.ref 762), closureTuple := .none, builtins := 0 }), #[]⟩) ::
  (nat_lit 769, ⟨(.type "code"), none, (.fields #[(.str (.ofString "__delitem__") 1299), (.str (.ofString "Cache.__delitem__") 1300), (.str (.ofString "/claim/cut.py") 1301), (.int (418) 0), (.int (2) 0), (.int (0) 0), (.int (0) 0), (.int (3) 0), (.ref 764), (.bool true), (.int (383) 0), (.ref 765), .none, (.ref 766), (.ref 767), (.ref 768), (.int (1306) 0), (.int (418) 0), (.str (.ofString "/claim/cut.py") 1307)]), #[]⟩) ::
  (nat_lit 770, ⟨(.type "function"), none, (.func { name := (.ofString "__delitem__"), qualname := (.ofString "Cache.__delitem__"), params := Fn.f_Cache___delitem__.params, body := .stmts Fn.f_Cache___delitem__.body, scope := Fn.f_Cache___delitem__.scope, globals := 3, closure := [], defaults := .none, kwdefaults := .none, doc := .none, pyModule := (.str (.ofString "cachetools") 1245), annotations := none, code := (.ref 769), closureTuple := .none, builtins := 0 }), #[]⟩) ::
  (nat_lit 797, ⟨(.type "code"), none, (.fields #[(.str (.ofString "__len__") 1332), (.str (.ofString "Cache.__len__") 1333), (.str (.ofString "/claim/cut.py") 1334), (.int (437) 0), (.int (1) 0), (.int (0) 0), (.int (0) 0), (.int (3) 0), (.ref 792), (.bool true), (.int (383) 0), (.ref 793), .none, (.ref 794), (.ref 795), (.ref 796), (.int (1336) 0), (.int (437) 0), (.str (.ofString "/claim/cut.py") 1337)]), #[]⟩) ::
  (nat_lit 798, ⟨(.type "function"), none, (.func { name := (.ofString "__len__"), qualname := (.ofString "Cache.__len__"), params := Fn.f_Cache___len__.params, body := .stmts Fn.f_Cache___len__.body, scope := Fn.f_Cache___len__.scope, globals := 3, closure := [], defaults := .none, kwdefaults := .none, doc := .none, pyModule := (.str (.ofString "cachetools") 1245), annotations := none, code := (.ref 797), closureTuple := .none, builtins := 0 }), #[]⟩) ::
  (nat_lit 799, ⟨(.type "tuple"), none, (.seq #[.none] 0), #[]⟩) ::
  (nat_lit 805, ⟨(.type "code"), none, (.fields #[(.str (.ofString "get") 1339), (.str (.ofString "Cache.get") 1340), (.str (.ofString "/claim/cut.py") 1341), (.int (440) 0), (.int (3) 0), (.int (0) 0), (.int (0) 0), (.int (3) 0), (.ref 800), (.bool true), (.int (383) 0), (.ref 801), .none, (.ref 802), (.ref 803), (.ref 804), (.int (1345) 0), (.int (440) 0), (.str (.ofString "/claim/cut.py") 1346)]), #[]⟩) ::
  (nat_lit 806, ⟨(.type "function"), none, (.func { name := (.ofString "get"), qualname := (.ofString "Cache.get"), params := Fn.f_Cache_get.params, body := .stmts Fn.f_Cache_get.body, scope := Fn.f_Cache_get.scope, globals := 3, closure := [], defaults := (.ref 799), kwdefaults := .none, doc := .none, pyModule := (.str (.ofString "cachetools") 1245), annotations := none, code := (.ref 805), closureTuple := .none, builtins := 0 }), #[]⟩) ::
  (nat_lit 851, ⟨(.type "code"), none, (.fields #[(.str (.ofString "getsizeof") 1390), (.str (.ofString "Cache.getsizeof") 1391), (.str (.ofString "/claim/cut.py") 1392), (.int (470) 0), (.int (1) 0), (.int (0) 0), (.int (0) 0), (.int (3) 0), (.ref 846), (.bool true), (.int (383) 0), (.ref 847), .none, (.ref 848), (.ref 849), (.ref 850), (.int (1394) 0), (.int (470) 0), (.str (.ofString "/claim/cut.py") 1395)]), #[]⟩) ::
  (nat_lit 852, ⟨(.type "function"), none, (.func { name := (.ofString "getsizeof"), qualname := (.ofString "Cache.getsizeof"), params := Fn.f_Cache_getsizeof.params, body := .stmts Fn.f_Cache_getsizeof.body, scope := Fn.f_Cache_getsizeof.scope, globals := 3, closure := [], defaults := .none, kwdefaults := .none, doc := .none, pyModule := (.str (.ofString "cachetools") 1245), annotations := (some 855), code := (.ref 851), closureTuple := .none, builtins := 0 }), #[]⟩) ::
  (nat_lit 853, ⟨(.type "dict"), none, (.dict [⟨PyData.keyHash P (.ofString "__module__"), (.str (.ofString "__module__") 1397), (.str (.ofString "cachetools") 1245)⟩, ⟨PyData.keyHash P (.ofString "__name__"), (.str (.ofString "__name__") 1400), (.str (.ofString "getsizeof") 1399)⟩, ⟨PyData.keyHash P (.ofString "__qualname__"), (.str (.ofString "__qualname__") 1403), (.str (.ofString "Cache.getsizeof") 1402)⟩, ⟨PyData.keyHash P (.ofString "__doc__"), (.str (.ofString "__doc__") 1405), .none⟩, ⟨PyData.keyHash P (.ofString "__annotations__"), (.str (.ofString "__annotations__") 1407), (.ref 855)⟩].toArray 5), #[]⟩) ::
  (nat_lit 854, ⟨(.type "staticmethod"), (some 853), (.fields #[(.ref 852), (.bool false)]), #[]⟩) ::
  (nat_lit 855, ⟨(.type "dict"), none, (.dict [].toArray 0), #[]⟩) ::
  (nat_lit 883, ⟨(.type "code"), none, (.fields #[(.str (.ofString "__init__") 1446), (.str (.ofString "_TimedCache._Timer.__init__") 1447), (.str (.ofString "/claim/cut.py") 1448), (.int (477) 0), (.int (2) 0), (.int (0) 0), (.int (0) 0), (.int (3) 0), (.ref 878), (.bool true), (.int (383) 0), (.ref 879), .none, (.ref 880), (.ref 881), (.ref 882), (.int (1451) 0), (.int (477) 0), (.str (.ofString "/claim/cut.py") 1452)]), #[]⟩) ::
  (nat_lit 884, ⟨(.type "function"), none, (.func { name := (.ofString "__init__"), qualname := (.ofString "_TimedCache._Timer.__init__"), params := Fn.f__TimedCache__Timer___init__.params, body := .stmts Fn.f__TimedCache__Timer___init__.body, scope := Fn.f__TimedCache__Timer___init__.scope, globals := 3, closure := [], defaults := .none, kwdefaults := .none, doc := .none, pyModule := (.str (.ofString "cachetools") 1245), annotations := none, code := (.ref 883), closureTuple := .none, builtins := 0 }), #[]⟩) ::
  (nat_lit 890, ⟨(.type "code"), none, (.fields #[(.str (.ofString "__call__") 1454), (.str (.ofString "_TimedCache._Timer.__call__") 1455), (.str (.ofString "/claim/cut.py") 1456), (.int (481) 0), (.int (1) 0), (.int (0) 0), (.int (0) 0), (.int (3) 0), (.ref 885), (.bool true), (.int (383) 0), (.ref 886), .none, (.ref 887), (.ref 888), (.ref 889), (.int (1458) 0), (.int (481) 0), (.str (.ofString "/claim/cut.py") 1459)]), #[]⟩) ::
  (nat_lit 891, ⟨(.type "function"), none, (.func { name := (.ofString "__call__"), qualname := (.ofString "_TimedCache._Timer.__call__"), params := Fn.f__TimedCache__Timer___call__.params, body := .stmts Fn.f__TimedCache__Timer___call__.body, scope := Fn.f__TimedCache__Timer___call__.scope, globals := 3, closure := [], defaults := .none, kwdefaults := .none, doc := .none, pyModule := (.str (.ofString "cachetools") 1245), annotations := none, code := (.ref 890), closureTuple := .none, builtins := 0 }), #[]⟩) ::
  (nat_lit 897, ⟨(.type "code"), none, (.fields #[(.str (.ofString "__enter__") 1461), (.str (.ofString "_TimedCache._Timer.__enter__") 1462), (.str (.ofString "/claim/cut.py") 1463), (.int (487) 0), (.int (1) 0), (.int (0) 0), (.int (0) 0), (.int (3) 0), (.ref 892), (.bool true), (.int (383) 0), (.ref 893), .none, (.ref 894), (.ref 895), (.ref 896), (.int (1466) 0), (.int (487) 0), (.str (.ofString "/claim/cut.py") 1467)]), #[]⟩) ::
  (nat_lit 898, ⟨(.type "function"), none, (.func { name := (.ofString "__enter__"), qualname := (.ofString "_TimedCache._Timer.__enter__"), params := Fn.f__TimedCache__Timer___enter__.params, body := .stmts Fn.f__TimedCache__Timer___enter__.body, scope := Fn.f__TimedCache__Timer___enter__.scope, globals := 3, closure := [], defaults := .none, kwdefaults := .none, doc := .none, pyModule := (.str (.ofString "cachetools") 1245), annotations := none, code := (.ref 897), closureTuple := .none, builtins := 0 }), #[]⟩) ::
  (nat_lit 904, ⟨(.type "code"), none, (.fields #[(.str (.ofString "__exit__") 1469), (.str (.ofString "_TimedCache._Timer.__exit__") 1470), (.str (.ofString "/claim/cut.py") 1471), (.int (495) 0), (.int (1) 0), (.int (0) 0), (.int (0) 0), (.int (7) 0), (.ref 899), (.bool true), (.int (383) 0), (.ref 900), .none, (.ref 901), (.ref 902), (.ref 903), (.int (1474) 0), (.int (495) 0), (.str (.ofString "/claim/cut.py") 1475)]), #[]⟩) ::
  (nat_lit 905, ⟨(.type "function"), none, (.func { name := (.ofString "__exit__"), qualname := (.ofString "_TimedCache._Timer.__exit__"), params := Fn.f__TimedCache__Timer___exit__.params, body := .stmts Fn.f__TimedCache__Timer___exit__.body, scope := Fn.f__TimedCache__Timer___exit__.scope, globals := 3, closure := [], defaults := .none, kwdefaults := .none, doc := .none, pyModule := (.str (.ofString "cachetools") 1245), annotations := none, code := (.ref 904), closureTuple := .none, builtins := 0 }), #[]⟩) ::
  (nat_lit 918, ⟨(.type "code"), none, (.fields #[(.str (.ofString "__getattr__") 1484), (.str (.ofString "_TimedCache._Timer.__getattr__") 1485), (.str (.ofString "/claim/cut.py") 1486), (.int (501) 0), (.int (2) 0), (.int (0) 0), (.int (0) 0), (.int (3) 0), (.ref 913), (.bool true), (.int (383) 0), (.ref 914), .none, (.ref 915), (.ref 916), (.ref 917), (.int (1489) 0), (.int (501) 0), (.str (.ofString "/claim/cut.py") 1490)]), #[]⟩) ::
  (nat_lit 919, ⟨(.type "function"), none, (.func { name := (.ofString "__getattr__"), qualname := (.ofString "_TimedCache._Timer.__getattr__"), params := Fn.f__TimedCache__Timer___getattr__.params, body := .stmts Fn.f__TimedCache__Timer___getattr__.body, scope := Fn.f__TimedCache__Timer___getattr__.scope, globals := 3, closure := [], defaults := .none, kwdefaults := .none, doc := .none, pyModule := (.str (.ofString "cachetools") 1245), annotations := none, code := (.ref 918), closureTuple := .none, builtins := 0 }), #[]⟩) ::
  (nat_lit 927, ⟨(.type "tuple"), none, (.seq #[.none] 0), #[]⟩) ::
  (nat_lit 933, ⟨(.type "code"), none, (.fields #[(.str (.ofString "__init__") 1503), (.str (.ofString "_TimedCache.__init__") 1504), (.str (.ofString "/claim/cut.py") 1505), (.int (504) 0), (.int (4) 0), (.int (0) 0), (.int (0) 0), (.int (3) 0), (.ref 928), (.bool true), (.int (383) 0), (.ref 929), .none, (.ref 930), (.ref 931), (.ref 932), (.int (1510) 0), (.int (504) 0), (.str (.ofString "/claim/cut.py") 1511)]), #[]⟩) ::
  (nat_lit 934, ⟨(.type "function"), none, (.func { name := (.ofString "__init__"), qualname := (.ofString "_TimedCache.__init__"), params := Fn.f__TimedCache___init__.params, body := .stmts Fn.f__TimedCache___init__.body, scope := Fn.f__TimedCache___init__.scope, globals := 3, closure := [], defaults := (.ref 927), kwdefaults := .none, doc := .none, pyModule := (.str (.ofString "cachetools") 1245), annotations := none, code := (.ref 933), closureTuple := .none, builtins := 0 }), #[]⟩) ::
  (nat_lit 943, ⟨(.type "tuple"), none, (.seq #[(.ref 798)] 0), #[]⟩) ::
  (nat_lit 949, ⟨(.type "code"), none, (.fields #[(.str (.ofString "__len__") 1524), (.str (.ofString "_TimedCache.__len__") 1525), (.str (.ofString "/claim/cut.py") 1526), (.int (513) 0), (.int (2) 0), (.int (0) 0), (.int (0) 0), (.int (3) 0), (.ref 944), (.bool true), (.int (383) 0), (.ref 945), .none, (.ref 946), (.ref 947), (.ref 948), (.int (1530) 0), (.int (513) 0), (.str (.ofString "/claim/cut.py") 1531)]), #[]⟩) ::
  (nat_lit 950, ⟨(.type "function"), none, (.func { name := (.ofString "__len__"), qualname := (.ofString "_TimedCache.__len__"), params := Fn.f__TimedCache___len__.params, body := .stmts Fn.f__TimedCache___len__.body, scope := Fn.f__TimedCache___len__.scope, globals := 3, closure := [], defaults := (.ref 943), kwdefaults := .none, doc := .none, pyModule := (.str (.ofString "cachetools") 1245), annotations := none, code := (.ref 949), closureTuple := .none, builtins := 0 }), #[]⟩) ::
  (nat_lit 965, ⟨(.type "code"), none, (.fields #[(.str (.ofString "timer") 1543), (.str (.ofString "_TimedCache.timer") 1544), (.str (.ofString "/claim/cut.py") 1545), (.int (524) 0), (.int (1) 0), (.int (0) 0), (.int (0) 0), (.int (3) 0), (.ref 960), (.bool true), (.int (383) 0), (.ref 961), .none, (.ref 962), (.ref 963), (.ref 964), (.int (1547) 0), (.int (524) 0), (.str (.ofString "/claim/cut.py") 1548)]), #[]⟩) ::
  (nat_lit 966, ⟨(.type "function"), none, (.func { name := (.ofString "timer"), qualname := (.ofString "_TimedCache.timer"), params := Fn.f__TimedCache_timer.params, body := .stmts Fn.f__TimedCache_timer.body, scope := Fn.f__TimedCache_timer.scope, globals := 3, closure := [], defaults := .none, kwdefaults := .none, doc := .none, pyModule := (.str (.ofString "cachetools") 1245), annotations := none, code := (.ref 965), closureTuple := .none, builtins := 0 }), #[]⟩) ::
  (nat_lit 967, ⟨(.type "property"), none, (.fields #[(.ref 966), .none, .none, .none, (.str (.ofString "timer") 1550), (.bool false)]), #[]⟩) ::
  (nat_lit 973, ⟨(.type "code"), none, (.fields #[(.str (.ofString "get") 1551), (.str (.ofString "_TimedCache.get") 1552), (.str (.ofString "/claim/cut.py") 1553), (.int (528) 0), (.int (1) 0), (.int (0) 0), (.int (0) 0), (.int (15) 0), (.ref 968), (.bool true), (.int (383) 0), (.ref 969), .none, (.ref 970), (.ref 971), (.ref 972), (.int (1557) 0), (.int (528) 0), (.str (.ofString "/claim/cut.py") 1558)]), #[]⟩) ::
  (nat_lit 974, ⟨(.type "function"), none, (.func { name := (.ofString "get"), qualname := (.ofString "_TimedCache.get"), params := Fn.f__TimedCache_get.params, body := .stmts Fn.f__TimedCache_get.body, scope := Fn.f__TimedCache_get.scope, globals := 3, closure := [], defaults := .none, kwdefaults := .none, doc := .none, pyModule := (.str (.ofString "cachetools") 1245), annotations := none, code := (.ref 973), closureTuple := .none, builtins := 0 }), #[]⟩) ::
  (nat_lit 1122, ⟨(.type "tuple"), none, (.seq #[.none, .none] 0), #[]⟩) ::
  (nat_lit 1128, ⟨(.type "code"), none, (.fields #[(.str (.ofString "__init__") 1762), (.str (.ofString "TLRUCache._Item.__init__") 1763), (.str (.ofString "/claim/cut.py") 1764), (.int (646) 0), (.int (3) 0), (.int (0) 0), (.int (0) 0), (.int (3) 0), (.ref 1123), (.bool true), (.int (383) 0), (.ref 1124), .none, (.ref 1125), (.ref 1126), (.ref 1127), (.int (1768) 0), (.int (646) 0), (.str (.ofString "/claim/cut.py") 1769)]), #[]⟩) ::
  (nat_lit 1129, ⟨(.type "function"), none, (.func { name := (.ofString "__init__"), qualname := (.ofString "TLRUCache._Item.__init__"), params := Fn.f_TLRUCache__Item___init__.params, body := .stmts Fn.f_TLRUCache__Item___init__.body, scope := Fn.f_TLRUCache__Item___init__.scope, globals := 3, closure := [], defaults := (.ref 1122), kwdefaults := .none, doc := .none, pyModule := (.str (.ofString "cachetools") 1730), annotations := none, code := (.ref 1128), closureTuple := .none, builtins := 0 }), #[]⟩) ::
  (nat_lit 1135, ⟨(.type "code"), none, (.fields #[(.str (.ofString "__lt__") 1771), (.str (.ofString "TLRUCache._Item.__lt__") 1772), (.str (.ofString "/claim/cut.py") 1773), (.int (651) 0), (.int (2) 0), (.int (0) 0), (.int (0) 0), (.int (3) 0), (.ref 1130), (.bool true), (.int (383) 0), (.ref 1131), .none, (.ref 1132), (.ref 1133), (.ref 1134), (.int (1776) 0), (.int (651) 0), (.str (.ofString "/claim/cut.py") 1777)]), #[]⟩) ::
  (nat_lit 1136, ⟨(.type "function"), none, (.func { name := (.ofString "__lt__"), qualname := (.ofString "TLRUCache._Item.__lt__"), params := Fn.f_TLRUCache__Item___lt__.params, body := .stmts Fn.f_TLRUCache__Item___lt__.body, scope := Fn.f_TLRUCache__Item___lt__.scope, globals := 3, closure := [], defaults := .none, kwdefaults := .none, doc := .none, pyModule := (.str (.ofString "cachetools") 1730), annotations := none, code := (.ref 1135), closureTuple := .none, builtins := 0 }), #[]⟩) ::
  (nat_lit 1141, ⟨(.type "member_descriptor"), none, (.fields #[(.str (.ofString "expires") 1783), (.ref 1140), (.builtin "proto.slot"), (.builtin "proto.slot#set"), (.int (2) 0)]), #[]⟩) ::
  (nat_lit 1142, ⟨(.type "member_descriptor"), none, (.fields #[(.str (.ofString "key") 1785), (.ref 1140), (.builtin "proto.slot"), (.builtin "proto.slot#set"), (.int (1) 0)]), #[]⟩) ::
  (nat_lit 1143, ⟨(.type "member_descriptor"), none, (.fields #[(.str (.ofString "removed") 1787), (.ref 1140), (.builtin "proto.slot"), (.builtin "proto.slot#set"), (.int (0) 0)]), #[]⟩) ::
  (nat_lit 1147, ⟨(.type "tuple"), none, (.seq #[(.ref 1106), .none] 0), #[]⟩) ::
  (nat_lit 1153, ⟨(.type "code"), none, (.fields #[(.str (.ofString "__init__") 1811), (.str (.ofString "TLRUCache.__init__") 1812), (.str (.ofString "/claim/cut.py") 1813), (.int (654) 0), (.int (5) 0), (.int (0) 0), (.int (0) 0), (.int (3) 0), (.ref 1148), (.bool true), (.int (383) 0), (.ref 1149), .none, (.ref 1150), (.ref 1151), (.ref 1152), (.int (1819) 0), (.int (654) 0), (.str (.ofString "/claim/cut.py") 1820)]), #[]⟩) ::
  (nat_lit 1154, ⟨(.type "function"), none, (.func { name := (.ofString "__init__"), qualname := (.ofString "TLRUCache.__init__"), params := Fn.f_TLRUCache___init__.params, body := .stmts Fn.f_TLRUCache___init__.body, scope := Fn.f_TLRUCache___init__.scope, globals := 3, closure := [], defaults := (.ref 1147), kwdefaults := .none, doc := .none, pyModule := (.str (.ofString "cachetools") 1730), annotations := none, code := (.ref 1153), closureTuple := .none, builtins := 0 }), #[]⟩) ::
  (nat_lit 1160, ⟨(.type "code"), none, (.fields #[(.str (.ofString "__contains__") 1822), (.str (.ofString "TLRUCache.__contains__") 1823), (.str (.ofString "/claim/cut.py") 1824), (.int (660) 0), (.int (2) 0), (.int (0) 0), (.int (0) 0), (.int (3) 0), (.ref 1155), (.bool true), (.int (383) 0), (.ref 1156), .none, (.ref 1157), (.ref 1158), (.ref 1159), (.int (1828) 0), (.int (660) 0), (.str (.ofString "/claim/cut.py") 1829)]), #[]⟩) ::
  (nat_lit 1161, ⟨(.type "function"), none, (.func { name := (.ofString "__contains__"), qualname := (.ofString "TLRUCache.__contains__"), params := Fn.f_TLRUCache___contains__.params, body := .stmts Fn.f_TLRUCache___contains__.body, scope := Fn.f_TLRUCache___contains__.scope, globals := 3, closure := [], defaults := .none, kwdefaults := .none, doc := .none, pyModule := (.str (.ofString "cachetools") 1730), annotations := none, code := (.ref 1160), closureTuple := .none, builtins := 0 }), #[]⟩) ::
  (nat_lit 1162, ⟨(.type "tuple"), none, (.seq #[(.ref 756)] 0), #[]⟩) ::
  (nat_lit 1168, ⟨(.type "code"), none, (.fields #[(.str (.ofString "__getitem__") 1832), (.str (.ofString "TLRUCache.__getitem__") 1833), (.str (.ofString "/claim/cut.py") 1834), (.int (668) 0), (.int (3) 0), (.int (0) 0), (.int (0) 0), (.int (3) 0), (.ref 1163), (.bool true), (.int (383) 0), (.ref 1164), .none, (.ref 1165), (.ref 1166), (.ref 1167), (.int (1840) 0), (.int (668) 0), (.str (.ofString "/claim/cut.py") 1841)]), #[]⟩) ::
  (nat_lit 1169, ⟨(.type "function"), none, (.func { name := (.ofString "__getitem__"), qualname := (.ofString "TLRUCache.__getitem__"), params := Fn.f_TLRUCache___getitem__.params, body := .stmts Fn.f_TLRUCache___getitem__.body, scope := Fn.f_TLRUCache___getitem__.scope, globals := 3, closure := [], defaults := (.ref 1162), kwdefaults := .none, doc := .none, pyModule := (.str (.ofString "cachetools") 1730), annotations := none, code := (.ref 1168), closureTuple := .none, builtins := 0 }), #[]⟩) ::
  (nat_lit 1170, ⟨(.type "tuple"), none, (.seq #[(.ref 763)] 0), #[]⟩) ::
  (nat_lit 1176, ⟨(.type "code"), none, (.fields #[(.str (.ofString "__setitem__") 1844), (.str (.ofString "TLRUCache.__setitem__") 1845), (.str (.ofString "/claim/cut.py") 1846), (.int (680) 0), (.int (4) 0), (.int (0) 0), (.int (0) 0), (.int (3) 0), (.ref 1171), (.bool true), (.int (383) 0), (.ref 1172), .none, (.ref 1173), (.ref 1174), (.ref 1175), (.int (1855) 0), (.int (680) 0), (.str (.ofString "/claim/cut.py") 1856)]), #[]⟩) ::
  (nat_lit 1177, ⟨(.type "function"), none, (.func { name := (.ofString "__setitem__"), qualname := (.ofString "TLRUCache.__setitem__"), params := Fn.f_TLRUCache___setitem__.params, body := .stmts Fn.f_TLRUCache___setitem__.body, scope := Fn.f_TLRUCache___setitem__.scope, globals := 3, closure := [], defaults := (.ref 1170), kwdefaults := .none, doc := .none, pyModule := (.str (.ofString "cachetools") 1730), annotations := none, code := (.ref 1176), closureTuple := .none, builtins := 0 }), #[]⟩) ::
  (nat_lit 1178, ⟨(.type "tuple"), none, (.seq #[(.ref 770)] 0), #[]⟩) ::
  (nat_lit 1184, ⟨(.type "code"), none, (.fields #[(.str (.ofString "__delitem__") 1859), (.str (.ofString "TLRUCache.__delitem__") 1860), (.str (.ofString "/claim/cut.py") 1861), (.int (695) 0), (.int (3) 0), (.int (0) 0), (.int (0) 0), (.int (3) 0), (.ref 1179), (.bool true), (.int (383) 0), (.ref 1180), .none, (.ref 1181), (.ref 1182), (.ref 1183), (.int (1867) 0), (.int (695) 0), (.str (.ofString "/claim/cut.py") 1868)]), #[]⟩) ::
  (nat_lit 1185, ⟨(.type "function"), none, (.func { name := (.ofString "__delitem__"), qualname := (.ofString "TLRUCache.__delitem__"), params := Fn.f_TLRUCache___delitem__.params, body := .stmts Fn.f_TLRUCache___delitem__.body, scope := Fn.f_TLRUCache___delitem__.scope, globals := 3, closure := [], defaults := (.ref 1178), kwdefaults := .none, doc := .none, pyModule := (.str (.ofString "cachetools") 1730), annotations := none, code := (.ref 1184), closureTuple := .none, builtins := 0 }), #[]⟩) ::
  (nat_lit 1201, ⟨(.type "tuple"), none, (.seq #[.none] 0), #[]⟩) ::
  (nat_lit 1205, ⟨(.type "code"), none, (.fields #[(.str (.ofString "expire") 1887), (.str (.ofString "TLRUCache.expire") 1888), (.str (.ofString "/claim/cut.py") 1889), (.int (713) 0), (.int (2) 0), (.int (0) 0), (.int (0) 0), (.int (3) 0), (.ref 1202), (.bool true), (.int (383) 0), (.ref 1203), .none, .none, .none, (.ref 1204), (.int (1890) 0), (.int (713) 0), (.str (.ofString "/claim/cut.py") 1891)]), #[]⟩) ::
  (nat_lit 1206, ⟨(.type "function"), none, (.func { name := (.ofString "expire"), qualname := (.ofString "TLRUCache.expire"), params := Fn.f_TLRUCache_expire.params, body := .stmts Fn.f_TLRUCache_expire.body, scope := Fn.f_TLRUCache_expire.scope, globals := 3, closure := [], defaults := (.ref 1201), kwdefaults := .none, doc := .none, pyModule := (.str (.ofString "cachetools") 1730), annotations := none, code := (.ref 1205), closureTuple := .none, builtins := 0 }), #[]⟩) ::
  (nat_lit 1239, ⟨(.type "code"), none, (.fields #[(.str (.ofString "_law_powers") 1929), (.str (.ofString "_law_powers") 1930), (.str (.ofString "/claim/cut.py") 1931), (.int (757) 0), (.int (0) 0), (.int (0) 0), (.int (0) 0), (.int (3) 0), (.ref 1234), (.bool true), (.int (383) 0), (.ref 1235), .none, (.ref 1236), (.ref 1237), (.ref 1238), (.int (1932) 0), (.int (757) 0), (.str (.ofString "/claim/cut.py") 1933)]), #[]⟩) ::
  (nat_lit 1240, ⟨(.type "function"), none, (.func { name := (.ofString "_law_powers"), qualname := (.ofString "_law_powers"), params := Fn.f__law_powers.params, body := .stmts Fn.f__law_powers.body, scope := Fn.f__law_powers.scope, globals := 3, closure := [], defaults := .none, kwdefaults := .none, doc := .none, pyModule := (.str (.ofString "law_fc0039_01") 1927), annotations := none, code := (.ref 1239), closureTuple := .none, builtins := 0 }), #[]⟩) ::
  (nat_lit 1246, ⟨(.type "code"), none, (.fields #[(.str (.ofString "_law_at") 1935), (.str (.ofString "_law_at") 1936), (.str (.ofString "/claim/cut.py") 1937), (.int (759) 0), (.int (3) 0), (.int (0) 0), (.int (0) 0), (.int (3) 0), (.ref 1241), (.bool true), (.int (383) 0), (.ref 1242), .none, (.ref 1243), (.ref 1244), (.ref 1245), (.int (1941) 0), (.int (759) 0), (.str (.ofString "/claim/cut.py") 1942)]), #[]⟩) ::
  (nat_lit 1247, ⟨(.type "function"), none, (.func { name := (.ofString "_law_at"), qualname := (.ofString "_law_at"), params := Fn.f__law_at.params, body := .stmts Fn.f__law_at.body, scope := Fn.f__law_at.scope, globals := 3, closure := [], defaults := .none, kwdefaults := .none, doc := .none, pyModule := (.str (.ofString "law_fc0039_01") 1927), annotations := none, code := (.ref 1246), closureTuple := .none, builtins := 0 }), #[]⟩) ::
  (nat_lit 1251, ⟨(.type "code"), none, (.fields #[(.str (.ofString "law") 1944), (.str (.ofString "law") 1945), (.str (.ofString "/claim/cut.py") 1946), (.int (761) 0), (.int (1) 0), (.int (0) 0), (.int (0) 0), (.int (3) 0), (.ref 1248), (.bool true), (.int (383) 0), (.ref 1249), .none, .none, .none, (.ref 1250), (.int (1947) 0), (.int (761) 0), (.str (.ofString "/claim/cut.py") 1948)]), #[]⟩) ::
  (nat_lit 1252, ⟨(.type "function"), none, (.func { name := (.ofString "law"), qualname := (.ofString "law"), params := Fn.f_law.params, body := .stmts Fn.f_law.body, scope := Fn.f_law.scope, globals := 3, closure := [], defaults := .none, kwdefaults := .none, doc := .none, pyModule := (.str (.ofString "law_fc0039_01") 1927), annotations := none, code := (.ref 1251), closureTuple := .none, builtins := 0 }), #[]⟩) ::
  []
def Ks : List Nat := nat_lit 2 :: nat_lit 3 :: nat_lit 83 :: nat_lit 84 :: nat_lit 116 :: nat_lit 117 :: nat_lit 193 :: nat_lit 194 :: nat_lit 223 :: nat_lit 224 :: nat_lit 259 :: nat_lit 260 :: nat_lit 282 :: nat_lit 283 :: nat_lit 470 :: nat_lit 471 :: nat_lit 722 :: nat_lit 723 :: nat_lit 857 :: nat_lit 858 :: nat_lit 921 :: nat_lit 922 :: nat_lit 1005 :: nat_lit 1006 :: nat_lit 1139 :: nat_lit 1140 :: nat_lit 1230 :: nat_lit 1231 :: nat_lit 734 :: nat_lit 735 :: nat_lit 741 :: nat_lit 742 :: nat_lit 755 :: nat_lit 756 :: nat_lit 762 :: nat_lit 763 :: nat_lit 769 :: nat_lit 770 :: nat_lit 797 :: nat_lit 798 :: nat_lit 799 :: nat_lit 805 :: nat_lit 806 :: nat_lit 851 :: nat_lit 852 :: nat_lit 853 :: nat_lit 854 :: nat_lit 855 :: nat_lit 883 :: nat_lit 884 :: nat_lit 890 :: nat_lit 891 :: nat_lit 897 :: nat_lit 898 :: nat_lit 904 :: nat_lit 905 :: nat_lit 918 :: nat_lit 919 :: nat_lit 927 :: nat_lit 933 :: nat_lit 934 :: nat_lit 943 :: nat_lit 949 :: nat_lit 950 :: nat_lit 965 :: nat_lit 966 :: nat_lit 967 :: nat_lit 973 :: nat_lit 974 :: nat_lit 1122 :: nat_lit 1128 :: nat_lit 1129 :: nat_lit 1135 :: nat_lit 1136 :: nat_lit 1141 :: nat_lit 1142 :: nat_lit 1143 :: nat_lit 1147 :: nat_lit 1153 :: nat_lit 1154 :: nat_lit 1160 :: nat_lit 1161 :: nat_lit 1162 :: nat_lit 1168 :: nat_lit 1169 :: nat_lit 1170 :: nat_lit 1176 :: nat_lit 1177 :: nat_lit 1178 :: nat_lit 1184 :: nat_lit 1185 :: nat_lit 1201 :: nat_lit 1205 :: nat_lit 1206 :: nat_lit 1239 :: nat_lit 1240 :: nat_lit 1246 :: nat_lit 1247 :: nat_lit 1251 :: nat_lit 1252 :: []
end Mine
namespace Mine
set_option maxRecDepth 100000 in
theorem ks_ok : ∀ P, Ks = (K P).map (·.1) := fun _ => by kernel_rfl
end Mine
namespace Mine
set_option maxRecDepth 100000
namespace Fn
@[reducible] def f_clock : FD := by
  refine' Subtype.val (p := fun d => fdOf (at_ f_law.body 7) = d) ⟨_, ?h⟩
  case h =>
    conv => lhs; whnf
@[reducible] def f_end : FD := by
  refine' Subtype.val (p := fun d => fdOf (at_ f_law.body 8) = d) ⟨_, ?h⟩
  case h =>
    conv => lhs; whnf
end Fn
abbrev fsc (nms : List (Str × NameKind)) (g co : Bool) (mo : List (Str × Const)) : Scope := { kind := .function, names := nms, isGenerator := g, isCoroutine := co, more := mo }
abbrev itO (dx : Addr) (ex key rm : Value) : Obj := ⟨.ref 1140, some dx, .plain, #[some ex, some key, some rm]⟩
abbrev sE (P : Params) (n : Str) (t : Tok) (v : Value) : DictEntry := ⟨PyData.keyHash P n, .str n t, v⟩
abbrev calD (P : Params) (t1 t2 t3 t4 t5 t6 t7 : Tok) (da cur mx tm di od ttu : Value) : Obj :=
  dictOf [sE P "_Cache__data" t1 da, sE P "_Cache__currsize" t2 cur, sE P "_Cache__maxsize" t3 mx, sE P "_TimedCache__timer" t4 tm, sE P "_TLRUCache__items" t5 di, sE P "_TLRUCache__order" t6 od, sE P "_TLRUCache__ttu" t7 ttu] 7
abbrev tmD (P : Params) (t1 t2 t3 : Tok) (clk nest time : Value) : Obj :=
  dictOf [sE P "_Timer__timer" t1 clk, sE P "_Timer__nesting" t2 nest, sE P "_Timer__time" t3 time] 3
abbrev clkO (hc : Addr) (doc pm : Value) (cc : Addr) (ctv : Value) : Obj := fnMade "clock" "law.<locals>.clock" Fn.f_clock.params Fn.f_clock.body Fn.f_clock.scope [("hour", hc)] doc pm cc ctv
abbrev endO (doc pm : Value) (tc : Addr) (ctv : Value) : Obj := fnMade "end" "law.<locals>.end" Fn.f_end.params Fn.f_end.body Fn.f_end.scope [] doc pm tc ctv

section
variable {prog : Program} {w : World}
theorem get_ownA {K : Frag} {A : Around} {E : Value → Shared → Prop} {s : Shared} {x C L : Addr} {h₀ : Heap} {m : Str → Option Value} {ox : Obj} {es : List DictEntry} {n : Nat} {name : Str} {v : Value} {expr : Bool} {Q : Value → Shared → Prop} {attr : Option Value}
    (F : Fr h₀ L s.heap m) (X₀ : K.In h₀) (I : InstAt s.heap x ox C (some (dictOf es n))) (hg : findIn K (.ref C) "__getattribute__" = some (some (.builtin "object.__getattribute__"))) (hh : hasDictIn K C = true)
    (ha : findIn K (.ref C) name = some attr) (hn : noGet K attr = true) (hl : getL name es = some (some v)) (hv : handedIn v = true) (h : Q v { s with toks := s.toks + 1 }) :
    wpAny (model prog w) A (getAttr (.ref x) name expr) Q E s :=
  get_value (X₀.keeps F.keep) I hg (findObj_own hh ha hn hl) hv h
theorem method_ga {K : Frag} {A : Around} {E : Value → Shared → Prop} {s : Shared} {x C : Addr} {ox : Obj} {od : Option Obj} {name : Str} {a : Value} {pl : Sem Bool} {Q : Value × List Value → Shared → Prop}
    (X : K.In s.heap) (I : InstAt s.heap x ox C od) (hga : findIn K (.ref C) "__getattribute__" = some (some (.builtin "object.__getattribute__"))) (hk : findIn K (.ref C) "__getattr__" = some (some a))
    (h : wpAny (model prog w) A (getAttr (.ref x) name) (fun v => Q (v, [])) E s) : wpAny (model prog w) A (getMethod (.ref x) name pl) Q E s := by
  have hcan := PySem.F.canon_object_ga
  have u : wpAny (model prog w) A (do return (← getAttr (.ref x) name, ([] : List Value))) Q E s := wpAny_bind (wpAny_mono h (fun _ _ z => wpAny_pure z) fun _ _ z => z)
  unfold getMethod specialOf
  refine wpAny_bind (wpAny_bind (I.type.here ((looks_findIn X hga).here ?_)))
  dsimp only
  rw [hcan, if_neg (by decide)]
  refine wpAny_bind (wpAny_bind (I.type.here ((looks_findIn X hk).here ?_)))
  exact u
end
end Mine
namespace Mine
open PyProof.V
section
variable {prog : Program} {w : World} {A : Around} {E : Value → Shared → Prop} {s : Shared} {h₀ : Heap} {L d : Addr} {m : Str → Option Value} {news : List (Addr × Obj)} {g : Obj → List (Addr × Obj)} {o : Obj} {kvs : List (Int × Value)} {k : Int} {t : Tok} {v : Value}
abbrev DOf (prog : Program) (w : World) (o : Obj) (kvs : List (Int × Value)) : Prop := o.IsDictOf (intKind prog w) kvs
theorem DOf.at_ (N : News h₀ L s.heap news) (hm : (d, o) ∈ news) (hd : DOf prog w o kvs) : s.heap.DictOf (intKind prog w) d kvs := Heap.dictOf_iff.mpr ⟨o, (N _ hm).1, hd⟩

theorem d_item {value slice : PySem.Expr} {Q : Value → Shared → Prop} (N : News h₀ L s.heap news) (hm : (d, o) ∈ news) (hd : DOf prog w o kvs) (hv : valueAt kvs k = some v)
    (h : Q v { s with toks := s.toks + 1 })
    (hs : subscripted slice false (.ref d) (.int k t) = operate [.ref d, .int k t] (getItem (.ref d) (.int k t)) := by with_unfolding_all rfl) :
    wpAny (model prog w) A (subscriptTail value slice (.ref d) (.int k t)) Q E s :=
  let D := DOf.at_ N hm hd
  tail_any D.typeIs slot_dict_getitem.lookup (wpAny_getItem_of (intKind_is prog w k t) D.mapOf hv h) hs

theorem d_item_no {value slice : PySem.Expr} {Q : Value → Shared → Prop} (N : News h₀ L s.heap news) (hm : (d, o) ∈ news) (hd : DOf prog w o kvs) (lo : (d == sysModules) = false) (hh : A.handled = none) (hv : valueAt kvs k = none)
    (h : ∀ h' e, Heap.NewExc s.heap h' e "KeyError" → E (.ref e) { s with heap := h', toks := s.toks + 1 })
    (hs : subscripted slice false (.ref d) (.int k t) = operate [.ref d, .int k t] (getItem (.ref d) (.int k t)) := by with_unfolding_all rfl) :
    wpAny (model prog w) A (subscriptTail value slice (.ref d) (.int k t)) Q E s :=
  let D := DOf.at_ N hm hd
  tail_any D.typeIs slot_dict_getitem.lookup (wpAny_getItem_missing_of (intKind_is prog w k t) lo hh D.mapOf hv h) hs

theorem d_in {Q : Value → Shared → Prop} (N : News h₀ L s.heap news) (hm : (d, o) ∈ news) (hd : DOf prog w o kvs) (lo : (d == sysModules) = false)
    (h : Q (.bool (valueAt kvs k).isSome) { s with toks := s.toks + 1 }) : wpAny (model prog w) A (compareOp .In (.int k t) (.ref d)) Q E s :=
  wpAny_in_of (intKind_is prog w k t) lo (DOf.at_ N hm hd).mapOf h
theorem d_notin {Q : Value → Shared → Prop} (N : News h₀ L s.heap news) (hm : (d, o) ∈ news) (hd : DOf prog w o kvs) (lo : (d == sysModules) = false)
    (h : Q (.bool (!(valueAt kvs k).isSome)) { s with toks := s.toks + 1 }) : wpAny (model prog w) A (compareOp .NotIn (.int k t) (.ref d)) Q E s :=
  wpAny_notIn_of (intKind_is prog w k t) lo (DOf.at_ N hm hd).mapOf h

theorem d_set {Q : Unit → Shared → Prop} (F : Fr h₀ L s.heap m) (N : News h₀ L s.heap news) (U : UpdF d o news g) (hd : DOf prog w o kvs) (hsz : kvs.length ≤ 1000)
    (h : ∀ h' o', Fr h₀ L h' m → News h₀ L h' (g o') → DOf prog w o' (stored kvs k v) → Q () { s with heap := h', toks := s.toks + 1 }) :
    wpAny (model prog w) A (setItem (.ref d) (.int k t) v) Q E s := by
  obtain ⟨pre, post, rfl, hg, a, b⟩ := U.split
  have hm : (d, o) ∈ pre ++ (d, o) :: post := List.mem_append_right _ (.head _)
  have hn := N _ hm
  refine wpAny_setItem_pairs (intKind_is prog w k t) (DOf.at_ N hm hd) (fun h' hmm hs => ?_) (by rw [sizeLine_eq]; omega)
  obtain ⟨o', ho', hd'⟩ := Heap.dictOf_iff.mp hmm
  exact h h' o' (F.change hs hn.2.1 hn.2.2) (hg o' ▸ N.setIn a b hs ho') hd'

theorem d_del {Q : Unit → Shared → Prop} (F : Fr h₀ L s.heap m) (N : News h₀ L s.heap news) (U : UpdF d o news g) (hd : DOf prog w o kvs) (hsz : kvs.length ≤ 1000) (hv : (valueAt kvs k).isSome = true)
    (h : ∀ h' o', Fr h₀ L h' m → News h₀ L h' (g o') → DOf prog w o' (without kvs k) → Q () { s with heap := h', toks := s.toks + 1 }) :
    wpAny (model prog w) A (delItem (.ref d) (.int k t)) Q E s := by
  obtain ⟨pre, post, rfl, hg, a, b⟩ := U.split
  have hm : (d, o) ∈ pre ++ (d, o) :: post := List.mem_append_right _ (.head _)
  have hn := N _ hm
  have hD := DOf.at_ N hm hd
  unfold delItem
  try with_reducible refine wpAny_holding ?_
  refine wpAny_bind (wpAny_sequenceKey hD.typeIs (by decide) ?_)
  refine wpAny_bind (wpAny_callSpecial?_slot (name := Str.ofString "__delitem__") hD.typeIs PySem.F.slot_dict_delitem
    (call_meetsIn PySem.F.slot_dict_delitem hD.typeIs PySem.F.entry_dict_delitem (PySem.F.args_dict_delitem_2 _ _) (meets_dict_delitem_pairs (intKind prog w) d (intKind_is prog w k t)) ⟨kvs, hD, (by rw [sizeLine_eq]; omega), hv, fun h' hmm hs => ?_⟩))
  obtain ⟨o', ho', hd'⟩ := Heap.dictOf_iff.mp hmm
  exact wpAny_pure (h h' o' (F.change hs hn.2.1 hn.2.2) (hg o' ▸ N.setIn a b hs ho') hd')

theorem d_pop {Q : Value → Shared → Prop} (F : Fr h₀ L s.heap m) (N : News h₀ L s.heap news) (U : UpdF d o news g) (hd : DOf prog w o kvs) (hsz : kvs.length ≤ 1000) (hv : valueAt kvs k = some v)
    (h : ∀ h' o', Fr h₀ L h' m → News h₀ L h' (g o') → DOf prog w o' (without kvs k) → Q v { s with heap := h', toks := s.toks + 1 })
    (hargs : argsOk "dict.pop" ⟨[.ref d, .int k t], []⟩ := by exact PySem.F.args_dict_pop_2 _ _) :
    wpAny (model prog w) A (call (.builtin "dict.pop") [.ref d, .int k t]) Q E s := by
  obtain ⟨pre, post, rfl, hg, a, b⟩ := U.split
  have hm : (d, o) ∈ pre ++ (d, o) :: post := List.mem_append_right _ (.head _)
  have hn := N _ hm
  have hD := DOf.at_ N hm hd
  refine call_meetsIn PySem.F.slot_dict_pop hD.typeIs PySem.F.entry_dict_pop hargs (meets_dict_pop_there (intKind prog w) d (intKind_is prog w k t) [] (.inl rfl) rfl) ⟨kvs, v, hD, (by rw [sizeLine_eq]; omega), hv, fun h' hmm hs => ?_⟩
  obtain ⟨o', ho', hd'⟩ := Heap.dictOf_iff.mp hmm
  exact h h' o' (F.change hs hn.2.1 hn.2.2) (hg o' ▸ N.setIn a b hs ho') hd'

theorem d_get1 {Q : Value → Shared → Prop} (N : News h₀ L s.heap news) (hm : (d, o) ∈ news) (hd : DOf prog w o kvs) (lo : (d == sysModules) = false)
    (h : Q ((valueAt kvs k).getD .none) { s with toks := s.toks + 1 }) : wpAny (model prog w) A (call (.builtin "dict.get") [.ref d, .int k t]) Q E s :=
  let D := DOf.at_ N hm hd
  call_meetsIn PySem.F.slot_dict_get D.typeIs PySem.F.entry_dict_get (PySem.F.args_dict_get_2 _ _) (meets_dict_get (intKind prog w) d (intKind_is prog w k t) lo) ⟨_, D.mapOf, h⟩
theorem d_get2 {Q : Value → Shared → Prop} {dflt : Value} (N : News h₀ L s.heap news) (hm : (d, o) ∈ news) (hd : DOf prog w o kvs) (lo : (d == sysModules) = false)
    (h : Q ((valueAt kvs k).getD dflt) { s with toks := s.toks + 1 }) : wpAny (model prog w) A (call (.builtin "dict.get") [.ref d, .int k t, dflt]) Q E s :=
  let D := DOf.at_ N hm hd
  call_meetsIn PySem.F.slot_dict_get D.typeIs PySem.F.entry_dict_get (PySem.F.args_dict_get_3 _ _ _) (meets_dict_get_default (intKind prog w) d (intKind_is prog w k t) lo dflt) ⟨_, D.mapOf, h⟩
theorem d_len {Q : Value → Shared → Prop} (N : News h₀ L s.heap news) (hm : (d, o) ∈ news) (hd : DOf prog w o kvs) (lo : (d == sysModules) = false) (hsz : kvs.length ≤ 1000)
    (h : Q (.int kvs.length (s.toks + 1)) { s with toks := s.toks + 1 + 1 }) : wpAny (model prog w) A (call (.builtin "len") [.ref d]) Q E s :=
  call_len_dict lo (DOf.at_ N hm hd) (by omega) h
theorem d_meth_get {pl : Sem Bool} {Q : Value × List Value → Shared → Prop} (N : News h₀ L s.heap news) (hm : (d, o) ∈ news) (hd : DOf prog w o kvs)
    (h : Q (.builtin "dict.get", [.ref d]) s) : wpAny (model prog w) A (getMethod (.ref d) "get" pl) Q E s :=
  let D := DOf.at_ N hm hd
  getMethod_builtin D.typeIs PySem.F.plainAttrs_dict PySem.F.slot_dict_get PySem.F.type_dict_get D.mapOf.noDict h
theorem d_meth_pop {pl : Sem Bool} {Q : Value × List Value → Shared → Prop} (N : News h₀ L s.heap news) (hm : (d, o) ∈ news) (hd : DOf prog w o kvs)
    (h : Q (.builtin "dict.pop", [.ref d]) s) : wpAny (model prog w) A (getMethod (.ref d) "pop" pl) Q E s :=
  let D := DOf.at_ N hm hd
  getMethod_builtin D.typeIs PySem.F.plainAttrs_dict PySem.F.slot_dict_pop PySem.F.type_dict_pop D.mapOf.noDict h
end
/-- the tail of a ledger lies below a new address -/
theorem neAll {d : Addr} : ∀ {l : List (Addr × Obj)}, AllLt d l → ∀ p ∈ l, p.1 ≠ d := by
  intro l
  induction l with
  | nil => intro _ p hp; cases hp
  | cons q r ih =>
    intro h p hp
    rcases List.mem_cons.mp hp with rfl | hp
    · exact Nat.ne_of_lt h.1
    · exact ih h.2 p hp
theorem wl {kvs : List (Int × Value)} {k : Int} {n : Nat} (h : kvs.length ≤ n) : (without kvs k).length ≤ n := Nat.le_trans (List.length_filter_le _ _) h
theorem sl {kvs : List (Int × Value)} {k : Int} {v : Value} {n : Nat} (h : kvs.length ≤ n) : (stored kvs k v).length ≤ n + 1 := Nat.le_trans (stored_length_le kvs k v) (Nat.succ_le_succ h)
section
variable {prog : Program} {w : World} {A : Around} {E : Value → Shared → Prop} {s : Shared} {h₀ : Heap} {L d : Addr} {news : List (Addr × Obj)} {its : List Value} {n : Nat} {t : Tok} {v : Value}
theorem l_item0 {value slice : PySem.Expr} {Q : Value → Shared → Prop} (N : News h₀ L s.heap news) (hm : (d, listOf (v :: its).toArray n) ∈ news)
    (h : Q v s)
    (hs : subscripted slice false (.ref d) (.int 0 t) = operate [.ref d, .int 0 t] (getItem (.ref d) (.int 0 t)) := by with_unfolding_all rfl) :
    wpAny (model prog w) A (subscriptTail value slice (.ref d) (.int 0 t)) Q E s :=
  have hl : s.heap.IsList d (v :: its).toArray := ⟨_, (N _ hm).1, rfl, by first | exact ⟨_, rfl⟩ | rfl⟩
  tail_any hl.typeIs slot_list_getitem.lookup (wpAny_getItem_list (k := 0) hl (by decide) (by decide) (by simp) h) hs
end
end Mine

namespace Mine
/-- an address apart from all of a list -/
def AllAp (d : Addr) (l : List Addr) : Prop := ∀ a ∈ l, @Ne Nat a d
theorem AllAp.ne {d a : Addr} {l : List Addr} (h : AllAp d l) (m : a ∈ l) : @Ne Nat a d := h a m
theorem AllAp.cons {d a : Addr} {l : List Addr} (h : @Ne Nat a d) (r : AllAp d l) : AllAp d (a :: l) := fun x m => by
  rcases List.mem_cons.mp m with rfl | m
  · exact h
  · exact r x m
theorem AllAp.nil {d : Addr} : AllAp d [] := fun _ m => nomatch m
theorem off1_all {d : Addr} : ∀ {l : List (Addr × Obj)}, LCg.Off1 d l → ∀ p ∈ l, p.1 ≠ d
  | [], _, _, h => nomatch h
  | _ :: _, x, p, h => by
    rcases List.mem_cons.mp h with rfl | h
    · exact x.1
    · exact off1_all x.2 p h
end Mine
namespace Mine
section
variable {prog : Program} {w : World} {A : Around} {E : Value → Shared → Prop} {s : Shared}
theorem merge_nil {d D : Addr} {od oD : Obj} {ep1 ep2 : Nat} {Q : Unit → Shared → Prop} (hd : s.heap.get? d = some od) (hdd : od.data = .dict #[] ep1) (hD : s.heap.get? D = some oD) (hDc : oD.cls = .type "dict") (hDd : oD.data = .dict #[] ep2)
    (hne : (D == sysModules) = false) (h : Q () s) : wpAny (model prog w) A (mergeMapping d (.ref D) true) Q E s := by
  have hT : s.TypeIs (.ref D) "dict" := ⟨oD, hD, hDc⟩
  unfold mergeMapping
  refine wpAny_bind (wpAny_isInstance hT isSubtype_dict_dict ?_)
  simp only [if_true]
  refine wpAny_bind (wpAny_specialOf hT F.slot_dict_iter.lookup (wpAny_bind (wpAny_pure ?_)))
  simp only [beq_self_eq_true]
  rw [hne]
  simp only [Bool.false_eq_true, if_false]
  refine wpAny_bind (wpAny_dictEntries hd hdd ?_)
  simp only [List.isEmpty_toArray, List.isEmpty_nil, if_true]
  refine wpAny_bind (wpAny_dictEntries hD hDd ?_)
  simp only [List.forIn_toArray, List.forIn_nil]
  refine wpAny_bind (wpAny_pure ?_)
  refine wpAny_bind (wpAny_dictEntries hD hDd ?_)
  refine wpAny_bind (wpAny_dictEpoch hD hDd ?_)
  simp only [List.size_toArray, List.length_nil, List.range_zero, List.forIn_nil]
  exact wpAny_bind (wpAny_pure (wpAny_pure h))
theorem merged_nil {f : Value} {x : Sem Value} {D : Addr} {Q : Addr → Shared → Prop}
    (hx : wpAny (model prog w) A x (fun v s₁ => v = .ref D ∧ ∃ oD ep, s₁.heap.get? D = some oD ∧ oD.cls = .type "dict" ∧ oD.data = .dict #[] ep ∧ s₁.heap.get? s.heap.objs.size = some { cls := .type "dict", data := .dict #[] } ∧ Q s.heap.objs.size s₁) E { s with heap := s.heap.push { cls := .type "dict", data := .dict #[] } })
    (hne : (D == sysModules) = false) : wpAny (model prog w) A (mergedKeywords f [(none, x)]) Q E s := by
  unfold mergedKeywords
  refine wpAny_bind (wpAny_alloc ?_)
  refine wpAny_bind (wpAny_holding ?_)
  refine wpAny_bind ?_
  rw [List.forIn_cons]
  refine wpAny_bind (wpAny_bind (wpAny_pure ?_))
  refine wpAny_bind (wpAny_mono hx (fun v s₁ h₁ => ?_) fun _ _ z => z)
  obtain ⟨rfl, oD, ep, h1, h2, h3, h4, h5⟩ := h₁
  refine wpAny_bind (wpAny_onRaise (wpAny_holding (wpAny_tryCatch (wpAny_onRaise (merge_nil h4 rfl h1 h2 h3 hne ?_)))))
  refine wpAny_pure ?_
  show wpAny _ _ (forIn [] _ _) _ _ _
  rw [List.forIn_nil]
  exact wpAny_pure (wpAny_pure (wpAny_pure h5))
theorem kwIn_nil {f : Value} {d : Addr} {od : Obj} {ep : Nat} {Q : List (Str × Value) → Shared → Prop} (hd : s.heap.get? d = some od) (hdd : od.data = .dict #[] ep) (h : Q [] s) :
    wpAny (model prog w) A (keywordsIn f d) Q E s := by
  unfold keywordsIn
  refine wpAny_bind (wpAny_dictEntries hd hdd ?_)
  simp only [List.forIn_toArray, List.forIn_nil]
  exact wpAny_bind (wpAny_pure (wpAny_pure h))
def KwNil (M : Model) (A : Around) (E : Value → Shared → Prop) (x : Sem Value) (Q : Shared → Prop) (s : Shared) : Prop :=
  wpAny M A x (fun v s₁ => ∃ D oD ep, v = .ref D ∧ (D == sysModules) = false ∧ s₁.heap.get? D = some oD ∧ oD.cls = .type "dict" ∧ oD.data = .dict #[] ep ∧ s₁.heap.get? s.heap.objs.size = some { cls := .type "dict", data := .dict #[] } ∧ Q s₁) E
    { s with heap := s.heap.push { cls := .type "dict", data := .dict #[] } }
theorem merged_kw {f : Value} {x : Sem Value} {Q : Shared → Prop} (h : KwNil (model prog w) A E x Q s) :
    wpAny (model prog w) A (mergedKeywords f [(none, x)]) (fun d s' => s'.heap.get? d = some { cls := .type "dict", data := .dict #[] } ∧ Q s') E s := by
  unfold mergedKeywords
  refine wpAny_bind (wpAny_alloc ?_)
  refine wpAny_bind (wpAny_holding ?_)
  refine wpAny_bind ?_
  rw [List.forIn_cons]
  refine wpAny_bind (wpAny_bind (wpAny_pure ?_))
  refine wpAny_bind (wpAny_mono h (fun v s₁ h₁ => ?_) fun _ _ z => z)
  obtain ⟨D, oD, ep, rfl, hne, h1, h2, h3, h4, h5⟩ := h₁
  refine wpAny_bind (wpAny_onRaise (wpAny_holding (wpAny_tryCatch (wpAny_onRaise (merge_nil h4 rfl h1 h2 h3 hne ?_)))))
  refine wpAny_pure ?_
  show wpAny _ _ (forIn [] _ _) _ _ _
  rw [List.forIn_nil]
  exact wpAny_pure (wpAny_pure (wpAny_pure ⟨h4, h5⟩))
theorem evalArgs_kw {f : Value} {x kx : Sem Value} {rest : List (Bool × Sem Value)} {Q : Args → Shared → Prop}
    (h : wpAny (model prog w) A (spliced ((false, x) :: rest)) (fun vs s₁ => KwNil (model prog w) A E kx (fun s₂ => Q ⟨vs, []⟩ s₂) s₁) E s) : wpAny (model prog w) A (evalArgs f true ((false, x) :: rest) [(none, kx)]) Q E s := by
  unfold evalArgs
  show wpAny _ A (spliced ((false, x) :: rest) >>= _) Q E s
  refine wpAny_bind (wpAny_mono h (fun vs s' h' => ?_) fun _ _ x => x)
  refine wpAny_holding ?_
  show wpAny _ _ (mergedKeywords f [(none, kx)] >>= _) _ _ _
  refine wpAny_bind (wpAny_mono (merged_kw h') (fun d s₂ h₂ => ?_) fun _ _ z => z)
  exact wpAny_bind (wpAny_pure (wpAny_bind (wpAny_holding (kwIn_nil h₂.1 rfl (wpAny_pure h₂.2)))))
theorem call_kwstar {f : Value} {first : List Value} {pos : Pos} {Q : Value → Shared → Prop} {P : Heap → Prop} {args : List (Bool × Sem Value)} {kw : List (Option Str × Sem Value)} (hst : (args.any (·.1) || kw.any (·.1.isNone)) = true)
    (hk : ∀ h, P h → ∃ k, (k = Keeper.frame ∨ k = Keeper.machine ∨ k = Keeper.boundFrame) ∧ Looks (model prog w) h (keeperOf f) k)
    (h : wpAny (model prog w) A (evalArgs f true args kw) (fun a s₁ => P s₁.heap ∧ wpAny (model prog w) A (call f (first ++ a.pos) a.kw) Q E s₁) E s) : wpAny (model prog w) A (callWith pos f first args kw) Q E s := by
  unfold callWith
  refine wpAny_bind (wpAny_holding (wpAny_mono h (fun a s₁ h₁ => wpAny_bind (wpAny_standAt ?_)) fun _ _ x => x))
  obtain ⟨k, hk', L⟩ := hk _ h₁.1
  simp only [hst]
  refine wpAny_bind (L.here ?_)
  have tail : ∀ {t : Sem Value}, wpAny (model prog w) A t Q E s₁ → wpAny (model prog w) A (t >>= fun r => holding [r] point >>= fun _ => pure r) Q E s₁ :=
    fun ht => wpAny_bind (wpAny_mono ht (fun r s₂ hr => wpAny_bind (wpAny_holding (wpAny_point (wpAny_pure hr)))) fun _ _ x => x)
  have marked (mk : Value) : wpAny (model prog w) A (callMarked mk f (first ++ a.pos) a.kw) Q E s₁ := by unfold callMarked; exact Calls.wpAny_keep h₁.2
  rcases hk' with rfl | rfl | rfl <;> dsimp only <;> first | exact tail (marked _) | exact tail (wpAny_operating h₁.2)
theorem callWith_SK {K : Frag} {env : Env} {pos : Pos} {f : Value} {first : List Value} {Q : Value → Shared → Prop} {h₀ : Heap} {e ek : PySem.Expr} {kp : Pos} {rest : List PySem.Expr} (_X : K.In h₀) (hk : keepIn K f = true)
    (h : wpAny (model prog w) A (spliced (backTo pos (starEach (e :: rest) env))) (fun vs s₁ => KwNil (model prog w) A E (eval ek env) (fun s₂ => K.In s₂.heap ∧ wpAny (model prog w) A (call f (first ++ vs)) Q E s₂) s₁) E s)
    (he : starEach (e :: rest) env = (false, eval e env) :: starEach rest env := by rfl) :
    wpAny (model prog w) A (callWith pos f first (backTo pos (starEach (e :: rest) env)) (backToKw pos (keywordEach [⟨none, ek, kp⟩] env))) Q E s := by
  rw [he] at h ⊢
  refine call_kwstar (P := K.In) (by show ((_ || _) || (true || _)) = true; simp) (keeps_K hk) (evalArgs_kw (wpAny_mono h (fun vs s₁ h₁ => ?_) fun _ _ z => z))
  exact wpAny_bind (wpAny_mono h₁ (fun v s₂ h₂ => wpAny_bind (wpAny_standAt (wpAny_pure h₂))) fun _ _ z => z)
theorem kwnil_K {env : Env} {x : Str} {p : Pos} {D L : Addr} {oD : Obj} {h₀ : Heap} {m : Str → Option Value} {news : List (Addr × Obj)} {Q : Shared → Prop} (F : Fr h₀ L s.heap m) (N : News h₀ L s.heap news) (hm : (D, oD) ∈ news) (hD : oD.IsDictOf (strKind prog w) []) (lo : (D == sysModules) = false)
    (hx : ∀ s' : Shared, Fr h₀ L s'.heap m → ∀ Q' : Value → Shared → Prop, Q' (.ref D) s' → wpAny (model prog w) A (eval (.Name x p) env) Q' E s')
    (h : ∀ h', Fr h₀ L h' m → News h₀ L h' ((s.heap.objs.size, dictOf [] 0) :: news) → (∀ p ∈ news, p.1 < s.heap.objs.size) → Q { s with heap := h' }) : KwNil (model prog w) A E (eval (.Name x p) env) Q s := by
  have hn := N _ hm
  obtain ⟨⟨hc, hdd, hsl⟩, ⟨es, ep, hdat, hkeys, hp, _⟩⟩ : oD.ExactDict ∧ ∃ es ep, oD.data = .dict es ep ∧ KeysOf (strKind prog w) es ∧ Pairs (strKind prog w) es.toList [] ∧ True := by
    obtain ⟨es, ep, a, b, c, d, e⟩ := hD
    first | exact ⟨a, es, ep, b, c, d, trivial⟩ | exact ⟨b, es, ep, a, c, d, trivial⟩
  have hes : es = #[] := by
    have := hp.length
    exact Array.eq_empty_of_size_eq_zero (by simpa using this)
  subst hes
  have F' := F.push { cls := .type "dict", data := .dict #[] }
  have N' := N.push F { cls := .type "dict", data := .dict #[] }
  refine hx _ F' _ ⟨D, oD, ep, rfl, lo, (N' _ (.tail _ hm)).1, hc, hdat, Heap.get?_push_size _ rfl, h _ F' N' (fun p hp => Heap.lt_size (N p hp).1)⟩
theorem methodCall_far {M : Model} {env : Env} {o : PySem.Expr} {name : Str} {apos pos : Pos} {args : List PySem.Expr} {kws : List Keyword} {Q : Value → Shared → Prop}
    (h : wpAny M A (eval o env) (fun ov s₁ => wpAny M A (getAttr ov name true) (fun f s₂ => wpAny M A (callWith pos f [] (backTo pos (starEach args env)) (backToKw pos (keywordEach kws env))) Q E s₂) E s₁) E s)
    (he : eval (.Call (.Attribute o name apos) args kws pos) env = (do
      let ov ← eval o env
      standAt apos.atName
      let (f, first) ← holding [ov] (do pure (← getAttr ov name true, []))
      let p ← pure pos
      callWith p f first (backTo pos (starEach args env)) (backToKw pos (keywordEach kws env))) := by rfl) :
    wpAny M A (eval (.Call (.Attribute o name apos) args kws pos) env) Q E s := by
  rw [he]
  refine wpAny_bind (wpAny_mono h (fun ov s₁ h₁ => wpAny_bind (wpAny_standAt (wpAny_bind (wpAny_holding (wpAny_bind (wpAny_mono h₁ (fun fx s₂ h₂ => wpAny_pure (wpAny_bind (wpAny_pure h₂))) fun _ _ x => x)))))) fun _ _ x => x)
theorem method_prop {K : Frag} {x C p : Addr} {ox : Obj} {od : Option Obj} {name : Str} {pl : Sem Bool} {Q : Value × List Value → Shared → Prop}
    (X : K.In s.heap) (I : InstAt s.heap x ox C od) (hga : findIn K (.ref C) "__getattribute__" = some (some (.builtin "object.__getattribute__"))) (hk : findIn K (.ref C) "__getattr__" = some none)
    (hf : findIn K (.ref C) name = some (some (.ref p))) (ht : typeIn K (.ref p) = some (.type "property"))
    (h : wpAny (model prog w) A (getAttr (.ref x) name) (fun v => Q (v, [])) E s) : wpAny (model prog w) A (getMethod (.ref x) name pl) Q E s :=
  method_usual X I hga hk hf (by show Option.any _ _ = true; rw [ht]; decide) h
theorem method_none {K : Frag} {x C : Addr} {ox : Obj} {od : Option Obj} {name : Str} {pl : Sem Bool} {Q : Value × List Value → Shared → Prop}
    (X : K.In s.heap) (I : InstAt s.heap x ox C od) (hga : findIn K (.ref C) "__getattribute__" = some (some (.builtin "object.__getattribute__"))) (hk : findIn K (.ref C) "__getattr__" = some none)
    (hf : findIn K (.ref C) name = some none)
    (h : wpAny (model prog w) A (getAttr (.ref x) name) (fun v => Q (v, [])) E s) : wpAny (model prog w) A (getMethod (.ref x) name pl) Q E s :=
  method_usual X I hga hk hf rfl h
end
end Mine
namespace Mine
set_option maxRecDepth 100000
theorem reg : K = K ∧ PySem.Challenge.rw_fc0039_01 = PySem.Challenge.rw_fc0039_01 := by
  k_fill
  exact ⟨rfl, rfl⟩
section
variable {prog : Program} {w : World} {p : Program} {loose : List Str} {mean : ExcName → Option Value} {mg mb : Str → Option Value} {dp un : Nat} {gd : Option (List Code)} {cn : Str} {nms : List (Str × NameKind)} {sg sc : Bool} {mo : List (Str × Const)} {a : Addr} {ccd : Value} {cl : List (Str × Addr)} {outer : List Env} {A₀ : Around} {base h₀ : Heap} {L : Addr} {m : Str → Option Value} {news : List (Addr × Obj)} {s : Shared} {Q E : Value → Shared → Prop}
local macro_rules | `(tactic| walk_at "getAttr ref") => `(tactic| (k_here; k_dflt (
  refine' get_ownA ?k1 ?k2 ?k3 ?k4 ?k5 ?k6 ?k7 ?k8 ?k9 ?_; (case k1 => k_asm); (case k2 => k_asm); (case k3 => k_inst); (case k4 => k_is); (case k5 => k_is); (case k6 => k_is); (case k7 => k_is); (case k8 => k_get); (case k9 => k_handed); k_whole)))
local macro_rules | `(tactic| walk_at "getMethod ref") => `(tactic| (k_here; k_dflt (
  refine' method_ga ?k1 ?k2 ?k3 ?k4 ?_; (case k1 => k_in); (case k2 => k_inst); (case k3 => k_is); (case k4 => k_is); k_whole)))
local macro_rules | `(tactic| walk_at "getMethod ref") => `(tactic| (k_here; k_dflt (first
  | (refine' method_prop ?k1 ?k2 ?k3 ?k4 ?k5 ?k6 ?_; (case k1 => k_in); (case k2 => k_inst); (case k3 => k_is); (case k4 => k_is); (case k5 => k_is); (case k6 => k_is); k_whole)
  | (refine' method_none ?k1 ?k2 ?k3 ?k4 ?k5 ?_; (case k1 => k_in); (case k2 => k_inst); (case k3 => k_is); (case k4 => k_is); (case k5 => k_is); k_whole))))
local macro_rules | `(tactic| walk_at "getMethod ref") => `(tactic| (k_here; (with_reducible show wpAny _ _ (getMethod (Value.ref _) (PySem.Str.ofString "get") _) _ _ _); k_dflt (refine' d_meth_get ?N ?m ?d ?_; (case N => k_asm); (case m => k_mem); (case d => k_asm); k_whole)))
local macro_rules | `(tactic| walk_at "getMethod ref") => `(tactic| (k_here; (with_reducible show wpAny _ _ (getMethod (Value.ref _) (PySem.Str.ofString "pop") _) _ _ _); k_dflt (refine' d_meth_pop ?N ?m ?d ?_; (case N => k_asm); (case m => k_mem); (case d => k_asm); k_whole)))
local macro_rules | `(tactic| walk_at "subscriptTail") => `(tactic| (k_here; (with_reducible show wpAny _ _ (subscriptTail _ _ (Value.ref _) (Value.int _ _)) _ _ _); k_dflt (first
  | (refine' d_item ?N ?m ?d ?v ?_; (case N => k_asm); (case m => k_mem); (case d => k_asm); (case v => k_asm); k_whole)
  | (refine' d_item_no ?N ?m ?d ?l ?h ?v ?_; (case N => k_asm); (case m => k_mem); (case d => k_asm); (case l => k_asm); (case h => rfl); (case v => k_asm); k_whole; intro h' e' X9))))
local macro_rules | `(tactic| walk_at "compareOp In int ref") => `(tactic| (k_here; k_dflt (refine' d_in ?N ?m ?d ?l ?_; (case N => k_asm); (case m => k_mem); (case d => k_asm); (case l => k_asm); k_whole)))
local macro_rules | `(tactic| walk_at "compareOp NotIn int ref") => `(tactic| (k_here; k_dflt (refine' d_notin ?N ?m ?d ?l ?_; (case N => k_asm); (case m => k_mem); (case d => k_asm); (case l => k_asm); k_whole)))
local macro_rules | `(tactic| walk_at "d_small") => `(tactic| first | assumption | omega | (refine wl ?_; walk_at "d_small") | (refine sl ?_; walk_at "d_small"))
local macro_rules | `(tactic| walk_at "setItem ref int") => `(tactic| (k_here; k_dflt (refine' d_set ?F ?N ?U ?d ?z ?_; (case F => k_asm); (case N => k_asm); (case U => k_updF); (case d => k_asm); (case z => walk_at "d_small"); k_whole; intro h' o' F' N' hd'; (try dsimp only at N'); (try k_sweep))))
local macro_rules | `(tactic| walk_at "delItem ref int") => `(tactic| (k_here; k_dflt (refine' d_del ?F ?N ?U ?d ?z ?v ?_; (case F => k_asm); (case N => k_asm); (case U => k_updF); (case d => k_asm); (case z => walk_at "d_small"); (case v => first | k_asm | (simp only [*]; rfl)); k_whole; intro h' o' F' N' hd'; (try dsimp only at N'); (try k_sweep))))
local macro_rules | `(tactic| walk_at "call builtin:dict.pop") => `(tactic| (k_here; k_dflt (refine' d_pop ?F ?N ?U ?d ?z ?v ?_; (case F => k_asm); (case N => k_asm); (case U => k_updF); (case d => k_asm); (case z => walk_at "d_small"); (case v => k_asm); k_whole; intro h' o' F' N' hd'; (try dsimp only at N'); (try k_sweep))))
local macro_rules | `(tactic| walk_at "call builtin:dict.get") => `(tactic| (k_here; k_dflt (first
  | (refine' d_get1 ?N ?m ?d ?l ?_; (case N => k_asm); (case m => k_mem); (case d => k_asm); (case l => k_asm); k_whole)
  | (refine' d_get2 ?N ?m ?d ?l ?_; (case N => k_asm); (case m => k_mem); (case d => k_asm); (case l => k_asm); k_whole))))
local macro_rules | `(tactic| walk_at "call builtin:len") => `(tactic| (k_here; (with_reducible show wpAny _ _ (call (Value.builtin "len") [Value.ref _]) _ _ _); k_dflt (refine' d_len ?N ?m ?d ?l ?z ?_; (case N => k_asm); (case m => k_mem); (case d => k_asm); (case l => k_asm); (case z => walk_at "d_small"); k_whole)))
local macro_rules | `(tactic| k_all) => `(tactic| ((fail_if_success (refine List.forall_mem_cons.mpr ?_)); first | with_reducible assumption | exact neAll (by with_reducible assumption) | exact off1_all (by with_reducible assumption) | fail "no tail fact"))
local macro_rules | `(tactic| k_lt $h:ident) => `(tactic| (replace $h := allLt_of $h; simp only [AllLt, and_true] at $h:ident; (try (have hT9 := $h; (repeat (replace hT9 := And.right hT9))))))
local macro_rules | `(tactic| k_room) => `(tactic| ((try simp only [depth_mark, depth_under_make, depth_under_kw, depth_in1, depth_deeper]); (try dsimp only [ktrTop] at *); omega))
local macro_rules | `(tactic| walk_at "eval Call Attribute cons cons") => `(tactic| (k_here; refine methodCall_far ?_))
local macro_rules | `(tactic| walk_at "callWith ref") => `(tactic| (k_here; kn_here; k_dflt (first | (refine' callWith_K ?k1 ?k2 ?_; (case k1 => k_asm); (case k2 => k_is); k_whole) | (refine' callWith_K0 ?k1 ?k2 ?_; (case k1 => k_in); (case k2 => k_is); k_whole))))
local macro_rules | `(tactic| walk_at "callWith ref") => `(tactic| (k_here; k_dflt (refine' callWith_SK ?X ?k ?_; (case X => k_asm); (case k => k_is); k_whole)))
local macro_rules | `(tactic| walk_at "KwNil") => `(tactic| (k_here; k_dflt (refine' kwnil_K ?F ?N ?m ?d ?l ?x ?_; (case F => k_asm); (case N => k_asm); (case m => k_mem); (case d => k_asm); (case l => k_asm); (case x => exact fun s' F9 Q9 q9 => ld F9 rfl q9); k_whole; intro h' F' N' l1; (try k_lt l1); (try k_sweep))))
local macro_rules | `(tactic| k_mem) => `(tactic| ((fail_if_success (refine List.Mem.tail _ ?_)); (show Membership.mem (γ := List (Addr × Obj)) _ _); ktr_member))
local macro_rules | `(tactic| walk_at "ite") => `(tactic| (k_here; k_dflt (first
  | (refine ite_pos (by first | omega | (refine decide_eq_true ?_; omega)) ?_)
  | (refine ite_neg (by first | omega | (refine ne_true_of_eq_false (decide_eq_false ?_); omega)) ?_))))
local macro_rules | `(tactic| walk_at "subscriptTail Name Constant ref int") => `(tactic| (k_here; (with_reducible show wpAny _ _ (subscriptTail _ _ (Value.ref _) (Value.int 0 _)) _ _ _); k_dflt (refine' l_item0 ?N ?m ?_ ?s; (case s => with_unfolding_all rfl); (case N => k_asm); (case m => k_mem); k_whole)))
local macro_rules | `(tactic| k_in) => `(tactic| first | with_reducible assumption | exact Frag.In.keeps (by with_reducible assumption) (Fr.keep (by with_reducible assumption)))
local macro_rules | `(tactic| walk_at "call builtin:len") => `(tactic| (k_here; (with_reducible show wpAny _ _ (call (Value.builtin "len") [Value.ref _]) _ _ _); k_dflt (refine' v_len ?N ?m ?z ?_; (case N => k_asm); (case m => k_mem); (case z => omega); k_whole)))
local macro_rules | `(tactic| walk_at "subscriptTail Name Constant ref int") => `(tactic| (k_here; (with_reducible show wpAny _ _ (subscriptTail _ _ (Value.ref _) (Value.int 0 _)) _ _ _); k_dflt (refine' v_item0 ?N ?m ?_ ?s; (case s => with_unfolding_all rfl); (case N => k_asm); (case m => k_mem); k_whole)))
local macro_rules | `(tactic| walk_at "truthy ref") => `(tactic| (k_here; (with_reducible show wpAny _ _ (truthy (Value.ref _)) _ _ _); k_dflt (first
  | (refine' v_truthy1 ?N ?m ?z ?_; (case N => k_asm); (case m => k_mem); (case z => omega); k_whole)
  | (refine' v_truthy0 ?N ?m ?_; (case N => k_asm); (case m => k_mem); k_whole))))
local macro_rules | `(tactic| walk_at "eval Name") => `(tactic| (k_here; (with_reducible show wpAny _ _ (eval (Expr.Name _ _) (PyProof.Rows.envOf _ _ _ _ _)) _ _ _); k_dflt (refine' ld ?k1 ?k2 ?_; (case k1 => k_asm); (case k2 => first | exact rfl | assumption); k_whole)))
local macro_rules | `(tactic| walk_at "ap_mem") => `(tactic| first | exact List.Mem.head _ | (refine List.Mem.tail _ ?_; walk_at "ap_mem"))
local macro_rules | `(tactic| k_ne) => `(tactic| (refine neN ?_; (try dsimp only); first | omega | with_reducible assumption | exact Ne.symm (by with_reducible assumption) | (refine AllAp.ne (by with_reducible assumption) ?_; first | exact List.Mem.head _ | exact List.Mem.tail _ (List.Mem.head _) | exact List.Mem.tail _ (List.Mem.tail _ (List.Mem.head _)) | exact List.Mem.tail _ (List.Mem.tail _ (List.Mem.tail _ (List.Mem.head _))) | exact List.Mem.tail _ (List.Mem.tail _ (List.Mem.tail _ (List.Mem.tail _ (List.Mem.head _)))) | exact List.Mem.tail _ (List.Mem.tail _ (List.Mem.tail _ (List.Mem.tail _ (List.Mem.tail _ (List.Mem.head _))))) | exact List.Mem.tail _ (List.Mem.tail _ (List.Mem.tail _ (List.Mem.tail _ (List.Mem.tail _ (List.Mem.tail _ (List.Mem.head _)))))) | exact List.Mem.tail _ (List.Mem.tail _ (List.Mem.tail _ (List.Mem.tail _ (List.Mem.tail _ (List.Mem.tail _ (List.Mem.tail _ (List.Mem.head _))))))) | exact List.Mem.tail _ (List.Mem.tail _ (List.Mem.tail _ (List.Mem.tail _ (List.Mem.tail _ (List.Mem.tail _ (List.Mem.tail _ (List.Mem.tail _ (List.Mem.head _)))))))) | exact List.Mem.tail _ (List.Mem.tail _ (List.Mem.tail _ (List.Mem.tail _ (List.Mem.tail _ (List.Mem.tail _ (List.Mem.tail _ (List.Mem.tail _ (List.Mem.tail _ (List.Mem.head _))))))))) | exact List.Mem.tail _ (List.Mem.tail _ (List.Mem.tail _ (List.Mem.tail _ (List.Mem.tail _ (List.Mem.tail _ (List.Mem.tail _ (List.Mem.tail _ (List.Mem.tail _ (List.Mem.tail _ (List.Mem.head _)))))))))) | exact List.Mem.tail _ (List.Mem.tail _ (List.Mem.tail _ (List.Mem.tail _ (List.Mem.tail _ (List.Mem.tail _ (List.Mem.tail _ (List.Mem.tail _ (List.Mem.tail _ (List.Mem.tail _ (List.Mem.tail _ (List.Mem.head _))))))))))) | exact List.Mem.tail _ (List.Mem.tail _ (List.Mem.tail _ (List.Mem.tail _ (List.Mem.tail _ (List.Mem.tail _ (List.Mem.tail _ (List.Mem.tail _ (List.Mem.tail _ (List.Mem.tail _ (List.Mem.tail _ (List.Mem.tail _ (List.Mem.head _)))))))))))) | exact List.Mem.tail _ (List.Mem.tail _ (List.Mem.tail _ (List.Mem.tail _ (List.Mem.tail _ (List.Mem.tail _ (List.Mem.tail _ (List.Mem.tail _ (List.Mem.tail _ (List.Mem.tail _ (List.Mem.tail _ (List.Mem.tail _ (List.Mem.tail _ (List.Mem.head _))))))))))))) | exact List.Mem.tail _ (List.Mem.tail _ (List.Mem.tail _ (List.Mem.tail _ (List.Mem.tail _ (List.Mem.tail _ (List.Mem.tail _ (List.Mem.tail _ (List.Mem.tail _ (List.Mem.tail _ (List.Mem.tail _ (List.Mem.tail _ (List.Mem.tail _ (List.Mem.tail _ (List.Mem.head _)))))))))))))) | exact List.Mem.tail _ (List.Mem.tail _ (List.Mem.tail _ (List.Mem.tail _ (List.Mem.tail _ (List.Mem.tail _ (List.Mem.tail _ (List.Mem.tail _ (List.Mem.tail _ (List.Mem.tail _ (List.Mem.tail _ (List.Mem.tail _ (List.Mem.tail _ (List.Mem.tail _ (List.Mem.tail _ (List.Mem.head _)))))))))))))))) | (refine Ne.symm (AllAp.ne (by with_reducible assumption) ?_); first | exact List.Mem.head _ | exact List.Mem.tail _ (List.Mem.head _) | exact List.Mem.tail _ (List.Mem.tail _ (List.Mem.head _)) | exact List.Mem.tail _ (List.Mem.tail _ (List.Mem.tail _ (List.Mem.head _))) | exact List.Mem.tail _ (List.Mem.tail _ (List.Mem.tail _ (List.Mem.tail _ (List.Mem.head _)))) | exact List.Mem.tail _ (List.Mem.tail _ (List.Mem.tail _ (List.Mem.tail _ (List.Mem.tail _ (List.Mem.head _))))) | exact List.Mem.tail _ (List.Mem.tail _ (List.Mem.tail _ (List.Mem.tail _ (List.Mem.tail _ (List.Mem.tail _ (List.Mem.head _)))))) | exact List.Mem.tail _ (List.Mem.tail _ (List.Mem.tail _ (List.Mem.tail _ (List.Mem.tail _ (List.Mem.tail _ (List.Mem.tail _ (List.Mem.head _))))))) | exact List.Mem.tail _ (List.Mem.tail _ (List.Mem.tail _ (List.Mem.tail _ (List.Mem.tail _ (List.Mem.tail _ (List.Mem.tail _ (List.Mem.tail _ (List.Mem.head _)))))))) | exact List.Mem.tail _ (List.Mem.tail _ (List.Mem.tail _ (List.Mem.tail _ (List.Mem.tail _ (List.Mem.tail _ (List.Mem.tail _ (List.Mem.tail _ (List.Mem.tail _ (List.Mem.head _))))))))) | exact List.Mem.tail _ (List.Mem.tail _ (List.Mem.tail _ (List.Mem.tail _ (List.Mem.tail _ (List.Mem.tail _ (List.Mem.tail _ (List.Mem.tail _ (List.Mem.tail _ (List.Mem.tail _ (List.Mem.head _)))))))))) | exact List.Mem.tail _ (List.Mem.tail _ (List.Mem.tail _ (List.Mem.tail _ (List.Mem.tail _ (List.Mem.tail _ (List.Mem.tail _ (List.Mem.tail _ (List.Mem.tail _ (List.Mem.tail _ (List.Mem.tail _ (List.Mem.head _))))))))))) | exact List.Mem.tail _ (List.Mem.tail _ (List.Mem.tail _ (List.Mem.tail _ (List.Mem.tail _ (List.Mem.tail _ (List.Mem.tail _ (List.Mem.tail _ (List.Mem.tail _ (List.Mem.tail _ (List.Mem.tail _ (List.Mem.tail _ (List.Mem.head _)))))))))))) | exact List.Mem.tail _ (List.Mem.tail _ (List.Mem.tail _ (List.Mem.tail _ (List.Mem.tail _ (List.Mem.tail _ (List.Mem.tail _ (List.Mem.tail _ (List.Mem.tail _ (List.Mem.tail _ (List.Mem.tail _ (List.Mem.tail _ (List.Mem.tail _ (List.Mem.head _))))))))))))) | exact List.Mem.tail _ (List.Mem.tail _ (List.Mem.tail _ (List.Mem.tail _ (List.Mem.tail _ (List.Mem.tail _ (List.Mem.tail _ (List.Mem.tail _ (List.Mem.tail _ (List.Mem.tail _ (List.Mem.tail _ (List.Mem.tail _ (List.Mem.tail _ (List.Mem.tail _ (List.Mem.head _)))))))))))))) | exact List.Mem.tail _ (List.Mem.tail _ (List.Mem.tail _ (List.Mem.tail _ (List.Mem.tail _ (List.Mem.tail _ (List.Mem.tail _ (List.Mem.tail _ (List.Mem.tail _ (List.Mem.tail _ (List.Mem.tail _ (List.Mem.tail _ (List.Mem.tail _ (List.Mem.tail _ (List.Mem.tail _ (List.Mem.head _))))))))))))))))))
local macro_rules | `(tactic| walk_at "sub_tail") => `(tactic| (intro p hp; repeat (first | exact hp | exact List.Mem.tail _ hp | apply List.Mem.tail)))
local macro_rules | `(tactic| walk_at "sub_mem") => `(tactic| first | (refine List.forall_mem_cons.mpr ⟨by k_mem, ?_⟩; walk_at "sub_mem") | walk_at "sub_tail")
local macro_rules | `(tactic| walk_at "call ref") => `(tactic| (k_here; kn_here; k_dflt (refine wpAny_call ?_; k_enter)))
local macro_rules | `(tactic| walk_at "getAttr ref") => `(tactic| (k_here; (with_reducible first | (show wpAny _ _ (getAttr (Value.ref _) (PySem.Str.ofString "removed") _) _ _ _) | (show wpAny _ _ (getAttr (Value.ref _) (PySem.Str.ofString "expires") _) _ _ _) | (show wpAny _ _ (getAttr (Value.ref _) (PySem.Str.ofString "key") _) _ _ _)); k_dflt (refine' get_slot ?k1 ?k2 ?k3 ?k4 ?k5 ?k6 ?k7 ?k8 ?k9 ?k10 ?k11 ?_; (case k1 => k_asm); (case k2 => k_asm); (case k3 => k_inst); (case k4 => k_is); (case k5 => k_is); (case k6 => k_is); (case k7 => k_is); (case k8 => k_is); (case k9 => k_is); (case k10 => k_slotget); (case k11 => k_handed); k_whole)))
local macro_rules | `(tactic| walk_at "setAttr ref") => `(tactic| (k_here; (with_reducible first | (show wpAny _ _ (setAttr (Value.ref _) (PySem.Str.ofString "removed") _) _ _ _) | (show wpAny _ _ (setAttr (Value.ref _) (PySem.Str.ofString "expires") _) _ _ _) | (show wpAny _ _ (setAttr (Value.ref _) (PySem.Str.ofString "key") _) _ _ _)); k_dflt (refine' set_slot ?k1 ?k2 ?k3 ?k4 ?k5 ?k6 ?k7 ?k8 ?k9 ?k10 ?k11 ?k12 ?k13 ?_; (case k1 => k_asm); (case k2 => k_asm); (case k3 => k_asm); (case k4 => k_inst); (case k5 => k_is); (case k6 => k_is); (case k7 => k_is); (case k8 => k_is); (case k9 => k_is); (case k10 => decide); (case k11 => k_slotset); (case k12 => exact rfl); (case k13 => k_upd); k_whole; intro h' F' N'; (try k_sweep))))
section
set_option maxHeartbeats 4000000 in
theorem item_lt (B : Below A₀ base outer h₀) (F : Fr h₀ L s.heap m) (X : (K w.params).In h₀) (N : News h₀ L s.heap news) (T : Top p loose mean mg mb h₀)
    (hd : dp + 10 < recursionLimit)
    {x y dx dy : Addr} {ex ey : Int} {tx ty : Tok} {kx ky rx ry : Value}
    (hx : (x, itO dx (.int ex tx) kx rx) ∈ news) (hdx : (dx, dictOf [] 0) ∈ news) (hy : (y, itO dy (.int ey ty) ky ry) ∈ news) (hdy : (dy, dictOf [] 0) ∈ news)
    (ret : ∀ h' tk', Fr h₀ L h' m → News h₀ L h' news → Q (.bool (decide (ex < ey))) { s with heap := h', toks := tk' }) :
    wpAny (model prog w) (ktrTop dp un gd cn (fsc nms sg sc mo) L a ccd cl outer) (call (.ref 1136) [.ref x, .ref y]) Q E s := by
  refine wpAny_call ?_
  k_dflt k_enter
  k_steps
  exact ret _ _ (by with_reducible assumption) (by with_reducible assumption)

end
section
local macro_rules | `(tactic| walk_at "pad") => `(tactic| fail)
/-- the swap of two places -/
def swp {α : Type} (xs : List α) (i j : Nat) : List α := match xs[i]?, xs[j]? with
  | some x, some y => (xs.set i y).set j x
  | _, _ => xs
/-- what the built-in's sift does to a list of (address, key) -/
inductive Sift : List (Addr × Int) → Bool → Nat → Nat → Int → List (Addr × Int) → Prop
  | downL {xs ys pos top after} {l : Addr × Int} : pos < xs.length / 2 → ¬ (2 * pos + 2 < xs.length) → xs[2 * pos + 1]? = some l → Sift (swp xs (2 * pos + 1) pos) true (2 * pos + 1) top after ys → Sift xs true pos top after ys
  | down2 {xs ys pos top after} {l r : Addr × Int} : pos < xs.length / 2 → 2 * pos + 2 < xs.length → xs[2 * pos + 1]? = some l → xs[2 * pos + 2]? = some r →
      Sift (swp xs (if l.2 < r.2 then 2 * pos + 1 else 2 * pos + 2) pos) true (if l.2 < r.2 then 2 * pos + 1 else 2 * pos + 2) top after ys → Sift xs true pos top after ys
  | turn {xs ys pos top after} : ¬ pos < xs.length / 2 → Sift xs false pos top after ys → Sift xs true pos top after ys
  | up {xs ys pos top after} {x q : Addr × Int} : top < pos → xs[pos]? = some x → xs[(pos - 1) / 2]? = some q → x.2 < q.2 → Sift (swp xs ((pos - 1) / 2) pos) false ((pos - 1) / 2) top after ys → Sift xs false pos top after ys
  | stopT {xs pos top after} : ¬ top < pos → after < 0 → Sift xs false pos top after xs
  | stopU {xs pos top after} {x q : Addr × Int} : top < pos → xs[pos]? = some x → xs[(pos - 1) / 2]? = some q → ¬ x.2 < q.2 → after < 0 → Sift xs false pos top after xs
  | nextT {xs ys pos top after} : ¬ top < pos → 0 ≤ after → Sift xs true after.toNat after.toNat (after - 1) ys → Sift xs false pos top after ys
  | nextU {xs ys pos top after} {x q : Addr × Int} : top < pos → xs[pos]? = some x → xs[(pos - 1) / 2]? = some q → ¬ x.2 < q.2 → 0 ≤ after → Sift xs true after.toNat after.toNat (after - 1) ys → Sift xs false pos top after ys
abbrev vals (xs : List (Addr × Int)) : Array Value := (xs.map fun p => Value.ref p.1).toArray
def ItsIn (xs : List (Addr × Int)) (news : List (Addr × Obj)) : Prop := ∀ p ∈ xs, ∃ dx te kv rv, (p.1, itO dx (.int p.2 te) kv rv) ∈ news ∧ (dx, dictOf [] 0) ∈ news
theorem swp_length {α : Type} (xs : List α) (i j : Nat) : (swp xs i j).length = xs.length := by unfold swp; split <;> simp
theorem sift_length {xs ys : List (Addr × Int)} {d : Bool} {pos top : Nat} {after : Int} (h : Sift xs d pos top after ys) : ys.length = xs.length := by
  induction h <;> simp_all [swp_length]
theorem swp_mem {α : Type} {xs : List α} {i j : Nat} {p : α} (h : p ∈ swp xs i j) : p ∈ xs := by
  unfold swp at h
  split at h
  · rename_i x y hx hy
    rcases List.mem_or_eq_of_mem_set h with h | rfl
    · rcases List.mem_or_eq_of_mem_set h with h | rfl
      · exact h
      · exact List.mem_of_getElem? hy
    · exact List.mem_of_getElem? hx
  · exact h
theorem ItsIn.swp {xs : List (Addr × Int)} {news : List (Addr × Obj)} {i j : Nat} (h : ItsIn xs news) : ItsIn (swp xs i j) news := fun p hp => h p (swp_mem hp)
theorem kind_sift : plainId "_heapq.heapify.sift" = true := by decide +kernel
theorem entry_sift : entryFor table "_heapq.heapify.sift" = some Builtin.«_heapq.heapify.sift» := entryFor_of_tree (by kernel_rfl)
theorem vals_get {xs : List (Addr × Int)} {i : Nat} {p : Addr × Int} (h : xs[i]? = some p) : (vals xs)[i]? = some (.ref p.1) := by
  simp [vals, h]
theorem vals_swap {xs : List (Addr × Int)} {i j : Nat} {x y : Addr × Int} (hi : xs[i]? = some x) (hj : xs[j]? = some y) : ((vals xs).setIfInBounds i (.ref y.1)).setIfInBounds j (.ref x.1) = vals (swp xs i j) := by
  unfold swp
  rw [hi, hj]
  simp [vals, List.map_set]
theorem swap_any {od : Addr} {n : Nat} {xs : List (Addr × Int)} {pre post : List (Addr × Obj)} {i j : Nat} {x y : Addr × Int} {A : Around} {E' : Value → Shared → Prop} {Q' : Unit → Shared → Prop} (F : Fr h₀ L s.heap m) (N : News h₀ L s.heap (pre ++ (od, listOf (vals xs) n) :: post))
    (h1 : ∀ p ∈ pre, p.1 ≠ od) (h2 : ∀ p ∈ post, p.1 ≠ od) (hi : xs[i]? = some x) (hj : xs[j]? = some y) (hz : xs.length ≤ 1000)
    (h : ∀ h', Fr h₀ L h' m → News h₀ L h' (pre ++ (od, listOf (vals (swp xs i j)) n) :: post) → Q' () { s with heap := h' }) :
    wpAny (model prog w) A (updateSeq od fun xs => (xs.setIfInBounds i (.ref y.1)).setIfInBounds j (.ref x.1)) Q' E' s := by
  have ho := (N (od, listOf (vals xs) n) (List.mem_append_right _ (.head _))).1
  have hzz : (vals xs).size ≤ sizeLine := by rw [sizeLine_eq]; simp [vals]; omega
  refine wpAny_updateSeq ho rfl ?_ hzz (by rw [sizeLine_eq]; simp [vals]; omega)
  obtain ⟨F', N'⟩ := news_upd (f := Obj.mapSeq fun xs => (xs.setIfInBounds i (.ref y.1)).setIfInBounds j (.ref x.1)) (o' := listOf (vals (swp xs i j)) n) F N h1 h2 (by
    show Obj.mapSeq _ (⟨.type "list", none, .seq (vals xs) n, #[]⟩ : Obj) = _
    unfold Obj.mapSeq
    simp only [vals_swap hi hj]
    have e : (vals (swp xs i j)).size = (vals xs).size := by simp [vals, swp_length]
    rw [e]; simp) rfl
  exact h _ F' N'

end
section
local macro_rules | `(tactic| walk_at "pad") => `(tactic| fail)
local macro_rules | `(tactic| walk_at "pad") => `(tactic| fail)
theorem inMid {pre post : List (Addr × Obj)} {p q : Addr × Obj} (h : p ∈ pre ++ post) : p ∈ pre ++ q :: post := by
  rcases List.mem_append.mp h with h | h
  · exact List.mem_append_left _ h
  · exact List.mem_append_right _ (List.mem_cons_of_mem _ h)
abbrev siftCode (od : Addr) (down : Bool) (pos top : Nat) (res : Value) (after : Int) : Code := .builtin "_heapq.heapify.sift" ⟨[.ref od, .bool false, .bool down, rawInt pos, rawInt top, res, rawInt after], []⟩
theorem item_less (B : Below A₀ base outer h₀) (F : Fr h₀ L s.heap m) (X : (K w.params).In h₀) (N : News h₀ L s.heap news) (T : Top p loose mean mg mb h₀)
    (hd : dp + 10 < recursionLimit) (hu : un + 1 < cLine)
    {x y dx dy : Addr} {ex ey : Int} {tx ty : Tok} {kx ky rx ry : Value} {Q' : Bool → Shared → Prop}
    (hx : (x, itO dx (.int ex tx) kx rx) ∈ news) (hdx : (dx, dictOf [] 0) ∈ news) (hy : (y, itO dy (.int ey ty) ky ry) ∈ news) (hdy : (dy, dictOf [] 0) ∈ news)
    (ret : ∀ h' tk', Fr h₀ L h' m → News h₀ L h' news → Q' (decide (ex < ey)) { s with heap := h', toks := tk' }) :
    wpAny (model prog w) (ktrTop dp un gd cn (fsc nms sg sc mo) L a ccd cl outer) (do truthOfDropped (← richCompare .Lt (.ref x) (.ref y))) Q' E s := by
  refine wpAny_bind ?_
  k_dflt (refine' cmp_K ?k1 ?k2 ?k3 ?k4 ?k5 ?k6 ?k7 ?k8 ?_; (case k1 => (show un < cLine; omega)); (case k2 => k_asm); (case k3 => k_asm); (case k4 => k_inst); (case k5 => k_typeOf); (case k6 => k_is); (case k7 => k_is); (case k8 => k_is); k_whole)
  refine item_lt B F X N T hd hx hdx hy hdy fun h' tk' F' N' => ?_
  show wpAny _ _ (truthy (.bool _)) _ _ _
  exact wpAny_truthy_bool (ret h' tk' F' N')

theorem at_of {f : Array Value → Nat → Sem Value} {xs : List (Addr × Int)} {i : Nat} {q : Addr × Int} {A : Around} {E' : Value → Shared → Prop} {Q' : Value → Shared → Prop} (h : xs[i]? = some q) (r : Q' (.ref q.1) s)
    (hf : f = fun ys j => match ys[j]? with | some v => pure v | none => unsupported "internal:_heapq.index") : wpAny (model prog w) A (f (vals xs) i) Q' E' s := by
  subst hf
  simp only [vals_get h]
  exact wpAny_pure r
theorem hq_lessAny {od : Addr} {n : Nat} {xs : List (Addr × Int)} {pre post : List (Addr × Obj)} {x y : Addr × Int} {Q' : Bool → Shared → Prop} (B : Below A₀ base outer h₀) (F : Fr h₀ L s.heap m) (X : (K w.params).In h₀)  (N : News h₀ L s.heap (pre ++ (od, listOf (vals xs) n) :: post)) (T : Top p loose mean mg mb h₀)
    (hd : dp + 10 < recursionLimit) (hu : un + 1 < cLine) (hI : ItsIn xs (pre ++ post)) (hx : x ∈ xs) (hy : y ∈ xs)
    (ret : ∀ h' tk', Fr h₀ L h' m → News h₀ L h' (pre ++ (od, listOf (vals xs) n) :: post) → Q' (decide (x.2 < y.2)) { s with heap := h', toks := tk' }) :
    wpAny (model prog w) (ktrTop dp un gd cn (fsc nms sg sc mo) L a ccd cl outer) (do truthOfDropped (← richCompare .Lt (.ref x.1) (.ref y.1))) Q' E s := by
  obtain ⟨dx, te, kv, rv, m1, m2⟩ := hI x hx
  obtain ⟨dy, te', kv', rv', m3, m4⟩ := hI y hy
  exact item_less B F X N T hd hu (inMid m1) (inMid m2) (inMid m3) (inMid m4) ret
set_option linter.unusedSimpArgs false in
theorem sift_any (B : Below A₀ base outer h₀) (X : (K w.params).In h₀) (T : Top p loose mean mg mb h₀)
    (hd : dp + 10 < recursionLimit) (hu : un + 3 < cLine) {od : Addr} {n : Nat} {pre post : List (Addr × Obj)} {xs ys : List (Addr × Int)} {down : Bool} {pos top : Nat} {after : Int} {res : Value} {R : Result → Shared → Prop}
    (h1 : ∀ p ∈ pre, p.1 ≠ od) (h2 : ∀ p ∈ post, p.1 ≠ od) (S : Sift xs down pos top after ys) (hz : xs.length ≤ 1000) (hI : ItsIn xs (pre ++ post)) :
    ∀ (s : Shared), Fr h₀ L s.heap m → News h₀ L s.heap (pre ++ (od, listOf (vals xs) n) :: post) →
    (∀ h' tk', Fr h₀ L h' m → News h₀ L h' (pre ++ (od, listOf (vals ys) n) :: post) → R (.ok (.ret res)) { s with heap := h', toks := tk' }) →
    codeAny (model prog w) (ktrTop dp un gd cn (fsc nms sg sc mo) L a ccd cl outer) (siftCode od down pos top res after) R s := by
  induction S with
  | @downL xs ys pos top after l c1 c2 c3 S ih =>
    intro s F N ret
    obtain ⟨x, hx⟩ : ∃ x, xs[pos]? = some x := ⟨_, List.getElem?_eq_getElem (by omega)⟩
    have ho := (N (od, listOf (vals xs) n) (List.mem_append_right _ (.head _))).1
    have hsz : (vals xs).size = xs.length := by simp [vals]
    refine codeAny_builtin entry_sift ?_
    rw [Around.under_plainId kind_sift _]
    unfold Builtin.«_heapq.heapify.sift»
    dsimp only [rawInt]
    simp only [Int.toNat_natCast]
    refine wpAny_bind ?_
    show wpAny _ _ (seqItems? (.ref _) >>= _) _ _ _
    refine wpAny_bind (wpAny_seqItems ho rfl (wpAny_pure ?_))
    simp only [if_true, Bool.false_eq_true, if_false, hsz]
    rw [if_pos c1, if_neg c2]
    refine wpAny_bind ?_
    show wpAny _ _ (_ >>= _) _ _ _
    refine wpAny_bind ?_
    show wpAny _ _ (seqItems? (.ref _) >>= _) _ _ _
    refine wpAny_bind (wpAny_seqItems (N (od, listOf (vals xs) n) (List.mem_append_right _ (.head _))).1 rfl (wpAny_pure ?_))
    refine wpAny_bind ?_
    refine at_of c3 ?_ rfl
    refine wpAny_bind ?_
    refine at_of hx ?_ rfl
    refine swap_any F N h1 h2 c3 hx hz fun h2 F2 N2 => ?_
    exact wpAny_pure ⟨plainId_quiet kind_sift _, ih (by rw [swp_length]; exact hz) hI.swp _ F2 N2 ret⟩
  | @down2 xs ys pos top after l r c1 c2 c3 c4 S ih =>
    intro s F N ret
    obtain ⟨x, hx⟩ : ∃ x, xs[pos]? = some x := ⟨_, List.getElem?_eq_getElem (by omega)⟩
    have ho := (N (od, listOf (vals xs) n) (List.mem_append_right _ (.head _))).1
    have hsz : (vals xs).size = xs.length := by simp [vals]
    refine codeAny_builtin entry_sift ?_
    rw [Around.under_plainId kind_sift _]
    unfold Builtin.«_heapq.heapify.sift»
    dsimp only [rawInt]
    simp only [Int.toNat_natCast]
    refine wpAny_bind ?_
    show wpAny _ _ (seqItems? (.ref _) >>= _) _ _ _
    refine wpAny_bind (wpAny_seqItems ho rfl (wpAny_pure ?_))
    simp only [if_true, Bool.false_eq_true, if_false, hsz]
    rw [if_pos c1, if_pos c2]
    refine wpAny_bind ?_
    refine at_of c3 ?_ rfl
    refine wpAny_bind ?_
    refine at_of c4 ?_ rfl
    refine wpAny_bind ?_
    show wpAny _ _ (_ >>= _) _ _ _
    refine wpAny_bind (wpAny_holding ?_)
    refine hq_lessAny (un := un + 1) B F X N T hd (by omega) hI (List.mem_of_getElem? c3) (List.mem_of_getElem? c4) fun h1' tk1 F1 N1 => ?_
    refine wpAny_bind ?_
    show wpAny _ _ (seqItems? (.ref _) >>= _) _ _ _
    refine wpAny_bind (wpAny_seqItems (N1 (od, listOf (vals xs) n) (List.mem_append_right _ (.head _))).1 rfl (wpAny_pure ?_))
    simp only [hsz, bne_self_eq_false, Bool.false_eq_true, if_false]
    refine wpAny_pure ?_
    by_cases hlr : l.2 < r.2
    · simp only [hlr, decide_true, Bool.not_true, Bool.false_eq_true, if_false, if_true] at S ih ⊢
      refine wpAny_bind ?_
      show wpAny _ _ (_ >>= _) _ _ _
      refine wpAny_bind ?_
      show wpAny _ _ (seqItems? (.ref _) >>= _) _ _ _
      refine wpAny_bind (wpAny_seqItems (N1 (od, listOf (vals xs) n) (List.mem_append_right _ (.head _))).1 rfl (wpAny_pure ?_))
      refine wpAny_bind ?_
      refine at_of c3 ?_ rfl
      refine wpAny_bind ?_
      refine at_of hx ?_ rfl
      refine swap_any F1 N1 h1 h2 c3 hx hz fun h2 F2 N2 => ?_
      exact wpAny_pure ⟨plainId_quiet kind_sift _, ih (by rw [swp_length]; exact hz) hI.swp _ F2 N2 ret⟩
    · simp only [hlr, decide_false, Bool.not_false, if_true, if_false] at S ih ⊢
      refine wpAny_bind ?_
      show wpAny _ _ (_ >>= _) _ _ _
      refine wpAny_bind ?_
      show wpAny _ _ (seqItems? (.ref _) >>= _) _ _ _
      refine wpAny_bind (wpAny_seqItems (N1 (od, listOf (vals xs) n) (List.mem_append_right _ (.head _))).1 rfl (wpAny_pure ?_))
      refine wpAny_bind ?_
      refine at_of c4 ?_ rfl
      refine wpAny_bind ?_
      refine at_of hx ?_ rfl
      refine swap_any F1 N1 h1 h2 c4 hx hz fun h2 F2 N2 => ?_
      exact wpAny_pure ⟨plainId_quiet kind_sift _, ih (by rw [swp_length]; exact hz) hI.swp _ F2 N2 ret⟩
  | @turn xs ys pos top after c1 S ih =>
    intro s F N ret
    have ho := (N (od, listOf (vals xs) n) (List.mem_append_right _ (.head _))).1
    have hsz : (vals xs).size = xs.length := by simp [vals]
    refine codeAny_builtin entry_sift ?_
    rw [Around.under_plainId kind_sift _]
    unfold Builtin.«_heapq.heapify.sift»
    dsimp only [rawInt]
    simp only [Int.toNat_natCast]
    refine wpAny_bind ?_
    show wpAny _ _ (seqItems? (.ref _) >>= _) _ _ _
    refine wpAny_bind (wpAny_seqItems ho rfl (wpAny_pure ?_))
    simp only [if_true, Bool.false_eq_true, if_false, hsz]
    rw [if_neg c1]
    exact wpAny_pure ⟨plainId_quiet kind_sift _, ih hz hI s F N ret⟩
  | @up xs ys pos top after x q c1 c2 c3 c4 S ih =>
    intro s F N ret
    have ho := (N (od, listOf (vals xs) n) (List.mem_append_right _ (.head _))).1
    have hsz : (vals xs).size = xs.length := by simp [vals]
    refine codeAny_builtin entry_sift ?_
    rw [Around.under_plainId kind_sift _]
    unfold Builtin.«_heapq.heapify.sift»
    dsimp only [rawInt]
    simp only [Int.toNat_natCast]
    refine wpAny_bind ?_
    show wpAny _ _ (seqItems? (.ref _) >>= _) _ _ _
    refine wpAny_bind (wpAny_seqItems ho rfl (wpAny_pure ?_))
    simp only [if_true, Bool.false_eq_true, if_false, hsz]
    rw [if_pos c1]
    refine wpAny_bind ?_
    refine at_of c2 ?_ rfl
    refine wpAny_bind ?_
    refine at_of c3 ?_ rfl
    refine wpAny_bind ?_
    show wpAny _ _ (_ >>= _) _ _ _
    refine wpAny_bind (wpAny_holding ?_)
    refine hq_lessAny (un := un + 1) B F X N T hd (by omega) hI (List.mem_of_getElem? c2) (List.mem_of_getElem? c3) fun h1' tk1 F1 N1 => ?_
    refine wpAny_bind ?_
    show wpAny _ _ (seqItems? (.ref _) >>= _) _ _ _
    refine wpAny_bind (wpAny_seqItems (N1 (od, listOf (vals xs) n) (List.mem_append_right _ (.head _))).1 rfl (wpAny_pure ?_))
    simp only [hsz, bne_self_eq_false, Bool.false_eq_true, if_false]
    refine wpAny_pure ?_
    simp only [c4, decide_true, if_true]
    refine wpAny_bind ?_
    show wpAny _ _ (_ >>= _) _ _ _
    refine wpAny_bind ?_
    show wpAny _ _ (seqItems? (.ref _) >>= _) _ _ _
    refine wpAny_bind (wpAny_seqItems (N1 (od, listOf (vals xs) n) (List.mem_append_right _ (.head _))).1 rfl (wpAny_pure ?_))
    refine wpAny_bind ?_
    refine at_of c3 ?_ rfl
    refine wpAny_bind ?_
    refine at_of c2 ?_ rfl
    refine swap_any F1 N1 h1 h2 c3 c2 hz fun h2 F2 N2 => ?_
    exact wpAny_pure ⟨plainId_quiet kind_sift _, ih (by rw [swp_length]; exact hz) hI.swp _ F2 N2 ret⟩
  | @stopT xs pos top after c1 c2 =>
    intro s F N ret
    have ho := (N (od, listOf (vals xs) n) (List.mem_append_right _ (.head _))).1
    have hsz : (vals xs).size = xs.length := by simp [vals]
    refine codeAny_builtin entry_sift ?_
    rw [Around.under_plainId kind_sift _]
    unfold Builtin.«_heapq.heapify.sift»
    dsimp only [rawInt]
    simp only [Int.toNat_natCast]
    refine wpAny_bind ?_
    show wpAny _ _ (seqItems? (.ref _) >>= _) _ _ _
    refine wpAny_bind (wpAny_seqItems ho rfl (wpAny_pure ?_))
    simp only [if_true, Bool.false_eq_true, if_false, hsz]
    rw [if_neg c1, if_pos c2]
    exact wpAny_pure (ret s.heap s.toks F N)
  | @stopU xs pos top after x q c1 c2 c3 c4 c5 =>
    intro s F N ret
    have ho := (N (od, listOf (vals xs) n) (List.mem_append_right _ (.head _))).1
    have hsz : (vals xs).size = xs.length := by simp [vals]
    refine codeAny_builtin entry_sift ?_
    rw [Around.under_plainId kind_sift _]
    unfold Builtin.«_heapq.heapify.sift»
    dsimp only [rawInt]
    simp only [Int.toNat_natCast]
    refine wpAny_bind ?_
    show wpAny _ _ (seqItems? (.ref _) >>= _) _ _ _
    refine wpAny_bind (wpAny_seqItems ho rfl (wpAny_pure ?_))
    simp only [if_true, Bool.false_eq_true, if_false, hsz]
    rw [if_pos c1]
    refine wpAny_bind ?_
    refine at_of c2 ?_ rfl
    refine wpAny_bind ?_
    refine at_of c3 ?_ rfl
    refine wpAny_bind ?_
    show wpAny _ _ (_ >>= _) _ _ _
    refine wpAny_bind (wpAny_holding ?_)
    refine hq_lessAny (un := un + 1) B F X N T hd (by omega) hI (List.mem_of_getElem? c2) (List.mem_of_getElem? c3) fun h1' tk1 F1 N1 => ?_
    refine wpAny_bind ?_
    show wpAny _ _ (seqItems? (.ref _) >>= _) _ _ _
    refine wpAny_bind (wpAny_seqItems (N1 (od, listOf (vals xs) n) (List.mem_append_right _ (.head _))).1 rfl (wpAny_pure ?_))
    simp only [hsz, bne_self_eq_false, Bool.false_eq_true, if_false]
    refine wpAny_pure ?_
    simp only [c4, decide_false, Bool.false_eq_true, if_false]
    rw [if_pos c5]
    exact wpAny_pure (ret h1' tk1 F1 N1)
  | @nextT xs ys pos top after c1 c2 S ih =>
    intro s F N ret
    have ho := (N (od, listOf (vals xs) n) (List.mem_append_right _ (.head _))).1
    have hsz : (vals xs).size = xs.length := by simp [vals]
    refine codeAny_builtin entry_sift ?_
    rw [Around.under_plainId kind_sift _]
    unfold Builtin.«_heapq.heapify.sift»
    dsimp only [rawInt]
    simp only [Int.toNat_natCast]
    refine wpAny_bind ?_
    show wpAny _ _ (seqItems? (.ref _) >>= _) _ _ _
    refine wpAny_bind (wpAny_seqItems ho rfl (wpAny_pure ?_))
    simp only [if_true, Bool.false_eq_true, if_false, hsz]
    rw [if_neg c1, if_neg (by omega)]
    exact wpAny_pure ⟨plainId_quiet kind_sift _, ih hz hI s F N ret⟩
  | @nextU xs ys pos top after x q c1 c2 c3 c4 c5 S ih =>
    intro s F N ret
    have ho := (N (od, listOf (vals xs) n) (List.mem_append_right _ (.head _))).1
    have hsz : (vals xs).size = xs.length := by simp [vals]
    refine codeAny_builtin entry_sift ?_
    rw [Around.under_plainId kind_sift _]
    unfold Builtin.«_heapq.heapify.sift»
    dsimp only [rawInt]
    simp only [Int.toNat_natCast]
    refine wpAny_bind ?_
    show wpAny _ _ (seqItems? (.ref _) >>= _) _ _ _
    refine wpAny_bind (wpAny_seqItems ho rfl (wpAny_pure ?_))
    simp only [if_true, Bool.false_eq_true, if_false, hsz]
    rw [if_pos c1]
    refine wpAny_bind ?_
    refine at_of c2 ?_ rfl
    refine wpAny_bind ?_
    refine at_of c3 ?_ rfl
    refine wpAny_bind ?_
    show wpAny _ _ (_ >>= _) _ _ _
    refine wpAny_bind (wpAny_holding ?_)
    refine hq_lessAny (un := un + 1) B F X N T hd (by omega) hI (List.mem_of_getElem? c2) (List.mem_of_getElem? c3) fun h1' tk1 F1 N1 => ?_
    refine wpAny_bind ?_
    show wpAny _ _ (seqItems? (.ref _) >>= _) _ _ _
    refine wpAny_bind (wpAny_seqItems (N1 (od, listOf (vals xs) n) (List.mem_append_right _ (.head _))).1 rfl (wpAny_pure ?_))
    simp only [hsz, bne_self_eq_false, Bool.false_eq_true, if_false]
    refine wpAny_pure ?_
    simp only [c4, decide_false, Bool.false_eq_true, if_false]
    rw [if_neg (by omega)]
    exact wpAny_pure ⟨plainId_quiet kind_sift _, ih hz hI _ F1 N1 ret⟩

end
section
local macro_rules | `(tactic| walk_at "pad") => `(tactic| fail)
local macro_rules | `(tactic| walk_at "pad") => `(tactic| fail)
local macro_rules | `(tactic| walk_at "pad") => `(tactic| fail)

/-- the key that stands at a place -/
def ky (xs : List (Addr × Int)) (i : Nat) : Int := ((xs[i]?).map (·.2)).getD 0
theorem ky_of {xs : List (Addr × Int)} {i : Nat} {x : Addr × Int} (h : xs[i]? = some x) : ky xs i = x.2 := by simp [ky, h]
theorem ky_swp {xs : List (Addr × Int)} {i j t : Nat} (hi : i < xs.length) (hj : j < xs.length) :
    ky (swp xs i j) t = if t = j then ky xs i else if t = i then ky xs j else ky xs t := by
  unfold swp
  rw [List.getElem?_eq_getElem hi, List.getElem?_eq_getElem hj]
  simp only [ky, List.getElem?_set, List.length_set]
  by_cases h1 : t = j
  · subst h1; simp [hi, hj]
  · by_cases h2 : t = i
    · subst h2; simp [h1, hi, hj, Ne.symm h1]
    · simp [h1, h2, Ne.symm h1, Ne.symm h2]
inductive Desc (top : Nat) : Nat → Prop
  | refl : Desc top top
  | l {p : Nat} : Desc top p → Desc top (2 * p + 1)
  | r {p : Nat} : Desc top p → Desc top (2 * p + 2)
theorem Desc.le {top pos : Nat} (h : Desc top pos) : top ≤ pos := by induction h <;> omega
theorem Desc.up {top pos : Nat} (h : Desc top pos) (hl : top < pos) : Desc top ((pos - 1) / 2) := by
  cases h with
  | refl => omega
  | l h => rename_i p; have : (2 * p + 1 - 1) / 2 = p := by omega
           rw [this]; exact h
  | r h => rename_i p; have : (2 * p + 2 - 1) / 2 = p := by omega
           rw [this]; exact h
def HP (xs : List (Addr × Int)) (top : Nat) : Prop := ∀ i, 0 < i → i < xs.length → top ≤ (i - 1) / 2 → ky xs ((i - 1) / 2) ≤ ky xs i
structure InvD (xs : List (Addr × Int)) (pos top : Nat) : Prop where
  lt : pos < xs.length
  desc : Desc top pos
  edge : ∀ i, 0 < i → i < xs.length → top ≤ (i - 1) / 2 → (i - 1) / 2 ≠ pos → i ≠ pos → ky xs ((i - 1) / 2) ≤ ky xs i
  grand : 0 < pos → top ≤ (pos - 1) / 2 → ∀ i, 0 < i → i < xs.length → (i - 1) / 2 = pos → ky xs ((pos - 1) / 2) ≤ ky xs i
structure InvU (xs : List (Addr × Int)) (pos top : Nat) : Prop where
  lt : pos < xs.length
  desc : Desc top pos
  edge : ∀ i, 0 < i → i < xs.length → top ≤ (i - 1) / 2 → i ≠ pos → ky xs ((i - 1) / 2) ≤ ky xs i
  grand : 0 < pos → top ≤ (pos - 1) / 2 → ∀ i, 0 < i → i < xs.length → (i - 1) / 2 = pos → ky xs ((pos - 1) / 2) ≤ ky xs i
theorem InvD.down {xs : List (Addr × Int)} {pos top c : Nat} (I : InvD xs pos top) (hc : c < xs.length) (hp : 0 < c) (hcp : (c - 1) / 2 = pos)
    (hmin : ∀ i, 0 < i → i < xs.length → (i - 1) / 2 = pos → ky xs c ≤ ky xs i) : InvD (swp xs c pos) c top := by
  have ht := I.desc.le
  have hlen : (swp xs c pos).length = xs.length := swp_length _ _ _
  refine ⟨by omega, ?_, fun i h1 h2 h3 h4 h5 => ?_, fun h1 h2 i h3 h4 h5 => ?_⟩
  · have : c = 2 * pos + 1 ∨ c = 2 * pos + 2 := by omega
    rcases this with rfl | rfl
    · exact I.desc.l
    · exact I.desc.r
  · rw [ky_swp hc I.lt, ky_swp hc I.lt]
    rw [hlen] at h2
    by_cases e : i = pos
    · subst e
      rw [if_pos rfl, if_neg (by omega), if_neg (by omega)]
      exact I.grand h1 h3 c hp hc hcp
    · by_cases e2 : (i - 1) / 2 = pos
      · rw [if_pos e2, if_neg e, if_neg h5]
        exact hmin i h1 h2 e2
      · rw [if_neg e2, if_neg h4, if_neg e, if_neg h5]
        exact I.edge i h1 h2 h3 e2 e
  · rw [ky_swp hc I.lt, ky_swp hc I.lt, hcp, if_pos rfl, if_neg (by omega), if_neg (by omega)]
    rw [hlen] at h4
    have := I.edge i h3 h4 (by omega) (by omega) (by omega)
    rw [h5] at this; exact this
theorem InvD.turn {xs : List (Addr × Int)} {pos top : Nat} (I : InvD xs pos top) (h : ¬ pos < xs.length / 2) : InvU xs pos top :=
  ⟨I.lt, I.desc, fun i h1 h2 h3 h4 => I.edge i h1 h2 h3 (by omega) h4, I.grand⟩
theorem InvU.up {xs : List (Addr × Int)} {pos top : Nat} (I : InvU xs pos top) (hl : top < pos) (hk : ky xs pos < ky xs ((pos - 1) / 2)) : InvU (swp xs ((pos - 1) / 2) pos) ((pos - 1) / 2) top := by
  have hd := I.desc.up hl
  have ht := hd.le
  have hp := I.lt
  have hlen : (swp xs ((pos - 1) / 2) pos).length = xs.length := swp_length _ _ _
  have hq : (pos - 1) / 2 < xs.length := by omega
  generalize hq' : (pos - 1) / 2 = q at *
  refine ⟨by omega, hd, fun i h1 h2 h3 h4 => ?_, fun h1 h2 i h3 h4 h5 => ?_⟩
  · rw [ky_swp hq hp, ky_swp hq hp]
    rw [hlen] at h2
    by_cases e : i = pos
    · subst e
      rw [if_neg (by omega), if_pos hq', if_pos rfl]
      omega
    · rw [if_neg e, if_neg h4]
      by_cases e2 : (i - 1) / 2 = pos
      · rw [if_pos e2]
        have := I.grand (by omega) (by omega) i h1 h2 e2
        rw [hq'] at this; exact this
      · rw [if_neg e2]
        have := I.edge i h1 h2 h3 e
        by_cases e3 : (i - 1) / 2 = q
        · rw [if_pos e3]; rw [e3] at this; omega
        · rw [if_neg e3]; exact this
  · rw [hlen] at h4
    have a1 := I.edge q h1 (by omega) h2 (by omega)
    rw [ky_swp hq hp, ky_swp hq hp]
    rw [if_neg (by omega), if_neg (by omega)]
    by_cases e : i = pos
    · subst e; rw [if_pos rfl]; exact a1
    · rw [if_neg e, if_neg (by omega)]
      have := I.edge i h3 h4 (by omega) e
      rw [h5] at this; omega
theorem InvU.stop {xs : List (Addr × Int)} {pos top : Nat} (I : InvU xs pos top) (h : top < pos → ¬ ky xs pos < ky xs ((pos - 1) / 2)) : HP xs top := fun i h1 h2 h3 => by
  by_cases e : i = pos
  · subst e
    have := h (by omega)
    omega
  · exact I.edge i h1 h2 h3 e
theorem HP.next {xs : List (Addr × Int)} {t : Nat} (h : HP xs (t + 1)) (hl : t < xs.length) : InvD xs t t :=
  ⟨hl, .refl, fun i h1 h2 h3 h4 _ => h i h1 h2 (by omega), fun h1 h2 => by omega⟩
theorem swp_perm {α : Type} {xs : List α} {i j : Nat} (hi : i < xs.length) (hj : j < xs.length) : (swp xs i j).Perm xs := by
  unfold swp
  rw [List.getElem?_eq_getElem hi, List.getElem?_eq_getElem hj]
  exact List.set_set_perm hi hj
theorem sift_ends (n : Nat) : ∀ (top : Nat) (ph : Bool) (ms : Nat) (xs : List (Addr × Int)) (pos : Nat), xs.length = n → (if ph then InvD xs pos top else InvU xs pos top) → (if ph then n - pos else pos) = ms →
    ∃ ys, Sift xs ph pos top ((top : Int) - 1) ys ∧ ys.Perm xs ∧ HP ys 0 := by
  intro top
  induction top using Nat.strongRecOn with
  | ind top ihT =>
    have up : ∀ (ms : Nat) (xs : List (Addr × Int)) (pos : Nat), xs.length = n → InvU xs pos top → pos = ms → ∃ ys, Sift xs false pos top ((top : Int) - 1) ys ∧ ys.Perm xs ∧ HP ys 0 := by
      intro ms
      induction ms using Nat.strongRecOn with
      | ind ms ih =>
        intro xs pos hn I hms
        have hlt := I.lt
        obtain ⟨x, hx⟩ : ∃ x, xs[pos]? = some x := ⟨_, List.getElem?_eq_getElem hlt⟩
        obtain ⟨q, hq⟩ : ∃ x, xs[(pos - 1) / 2]? = some x := ⟨_, List.getElem?_eq_getElem (by omega)⟩
        by_cases hl : top < pos
        · by_cases hk : x.2 < q.2
          · obtain ⟨ys, S, P, H⟩ := ih ((pos - 1) / 2) (by omega) (swp xs ((pos - 1) / 2) pos) ((pos - 1) / 2) (by rw [swp_length]; exact hn) (I.up hl (by rw [ky_of hx, ky_of hq]; exact hk)) rfl
            exact ⟨ys, .up hl hx hq hk S, P.trans (swp_perm (by omega) hlt), H⟩
          · have H := I.stop fun _ => by rw [ky_of hx, ky_of hq]; exact hk
            cases top with
            | zero => exact ⟨xs, .stopU hl hx hq hk (by omega), .refl _, H⟩
            | succ t =>
              have ht := I.desc.le
              obtain ⟨ys, S, P, H⟩ := ihT t (by omega) true (n - t) xs t hn (H.next (by omega)) rfl
              have e : ((t + 1 : Nat) : Int) - 1 = (t : Int) := by omega
              refine ⟨ys, .nextU hl hx hq hk (by omega) ?_, P, H⟩
              rw [e]; exact S
        · have H := I.stop fun h => absurd h hl
          cases top with
          | zero => exact ⟨xs, .stopT hl (by omega), .refl _, H⟩
          | succ t =>
            have ht := I.desc.le
            obtain ⟨ys, S, P, H⟩ := ihT t (by omega) true (n - t) xs t hn (H.next (by omega)) rfl
            have e : ((t + 1 : Nat) : Int) - 1 = (t : Int) := by omega
            refine ⟨ys, .nextT hl (by omega) ?_, P, H⟩
            rw [e]; exact S
    have down : ∀ (ms : Nat) (xs : List (Addr × Int)) (pos : Nat), xs.length = n → InvD xs pos top → n - pos = ms → ∃ ys, Sift xs true pos top ((top : Int) - 1) ys ∧ ys.Perm xs ∧ HP ys 0 := by
      intro ms
      induction ms using Nat.strongRecOn with
      | ind ms ih =>
        intro xs pos hn I hms
        have hlt := I.lt
        by_cases hp : pos < xs.length / 2
        · obtain ⟨l, hl⟩ : ∃ x, xs[2 * pos + 1]? = some x := ⟨_, List.getElem?_eq_getElem (by omega)⟩
          by_cases h2 : 2 * pos + 2 < xs.length
          · obtain ⟨r, hr⟩ : ∃ x, xs[2 * pos + 2]? = some x := ⟨_, List.getElem?_eq_getElem h2⟩
            have kl := ky_of hl
            have kr := ky_of hr
            have key : ∀ c, c = (if l.2 < r.2 then 2 * pos + 1 else 2 * pos + 2) → ∃ ys, Sift (swp xs c pos) true c top ((top : Int) - 1) ys ∧ ys.Perm xs ∧ HP ys 0 := by
              intro c hc
              have hcc : (c - 1) / 2 = pos ∧ 0 < c ∧ c < xs.length ∧ pos < c := by split at hc <;> omega
              obtain ⟨ys, S, P, H⟩ := ih (n - c) (by omega) (swp xs c pos) c (by rw [swp_length]; exact hn) (I.down hcc.2.2.1 hcc.2.1 hcc.1 fun i h1 h3 h4 => by
                have : i = 2 * pos + 1 ∨ i = 2 * pos + 2 := by omega
                split at hc <;> rcases this with rfl | rfl <;> subst hc <;> omega) rfl
              exact ⟨ys, S, P.trans (swp_perm hcc.2.2.1 hlt), H⟩
            obtain ⟨ys, S, P, H⟩ := key _ rfl
            exact ⟨ys, .down2 hp h2 hl hr S, P, H⟩
          · obtain ⟨ys, S, P, H⟩ := ih (n - (2 * pos + 1)) (by omega) (swp xs (2 * pos + 1) pos) (2 * pos + 1) (by rw [swp_length]; exact hn) (I.down (by omega) (by omega) (by omega) fun i h1 h3 h4 => by
              have : i = 2 * pos + 1 := by omega
              subst this; exact Int.le_refl _) rfl
            exact ⟨ys, .downL hp h2 hl S, P.trans (swp_perm (by omega) hlt), H⟩
        · obtain ⟨ys, S, P, H⟩ := up pos xs pos hn (I.turn hp) rfl
          exact ⟨ys, .turn hp S, P, H⟩
    intro ph ms xs pos hn I hms
    cases ph with
    | true => exact down _ xs pos hn I rfl
    | false => exact up _ xs pos hn I rfl

end
section
local macro_rules | `(tactic| walk_at "pad") => `(tactic| fail)
local macro_rules | `(tactic| walk_at "pad") => `(tactic| fail)
local macro_rules | `(tactic| walk_at "pad") => `(tactic| fail)
local macro_rules | `(tactic| walk_at "pad") => `(tactic| fail)
theorem Desc.zero (n : Nat) : Desc 0 n := by
  induction n using Nat.strongRecOn with
  | ind n ih =>
    rcases Nat.eq_zero_or_pos n with rfl | h
    · exact .refl
    · rcases Nat.mod_two_eq_zero_or_one n with e | e
      · have q := ih ((n - 2) / 2) (by omega)
        have : 2 * ((n - 2) / 2) + 2 = n := by omega
        exact this ▸ q.r
      · have q := ih ((n - 1) / 2) (by omega)
        have : 2 * ((n - 1) / 2) + 1 = n := by omega
        exact this ▸ q.l
theorem ky_left {xs ys : List (Addr × Int)} {i : Nat} (h : i < xs.length) : ky (xs ++ ys) i = ky xs i := by
  simp [ky, List.getElem?_append_left h]
theorem hp_push {xs : List (Addr × Int)} {e : Addr × Int} (H : HP xs 0) : ∃ ys, Sift (xs ++ [e]) false xs.length 0 (-1) ys ∧ ys.Perm (xs ++ [e]) ∧ HP ys 0 := by
  have hl : (xs ++ [e]).length = xs.length + 1 := by simp
  refine sift_ends (xs.length + 1) 0 false _ (xs ++ [e]) xs.length hl ⟨by omega, Desc.zero _, fun i h1 h2 h3 h4 => ?_, fun h1 h2 i h3 h4 h5 => ?_⟩ rfl
  · rw [ky_left (by omega), ky_left (by omega)]
    exact H i h1 (by omega) h3
  · omega
theorem ky_set {xs : List (Addr × Int)} {q : Addr × Int} {i : Nat} (h : 0 < i) : ky (xs.set 0 q) i = ky xs i := by
  simp [ky, List.getElem?_set, Nat.ne_of_lt h]
theorem ky_drop {xs : List (Addr × Int)} {i : Nat} (h : i < xs.length - 1) : ky xs.dropLast i = ky xs i := by
  simp only [ky, List.getElem?_dropLast, if_pos h]
theorem hp_pop {x l : Addr × Int} {rest : List (Addr × Int)} (hl : rest.getLast? = some l) (H : HP (x :: rest) 0) :
    ∃ ys, Sift (((x :: rest).dropLast).set 0 l) true 0 0 (-1) ys ∧ ys.Perm rest ∧ HP ys 0 := by
  obtain ⟨r, rfl⟩ : ∃ r, rest = r ++ [l] := by
    obtain ⟨r, hr⟩ := List.getLast?_eq_some_iff.mp hl; exact ⟨r, hr⟩
  have e1 : (x :: (r ++ [l])).dropLast = x :: r := by rw [← List.cons_append, List.dropLast_concat]
  have hlen : ((x :: (r ++ [l])).dropLast.set 0 l).length = r.length + 1 := by simp [e1]
  have hlen2 : (x :: (r ++ [l])).length = r.length + 2 := by simp
  obtain ⟨ys, S, P, Hy⟩ := sift_ends (r.length + 1) 0 true _ ((x :: (r ++ [l])).dropLast.set 0 l) 0 hlen ⟨by omega, .refl, fun i h1 h2 h3 h4 h5 => by
    rw [ky_set (by omega), ky_set h1, ky_drop (by omega), ky_drop (by omega)]
    exact H i h1 (by omega) h3, fun h => by omega⟩ rfl
  refine ⟨ys, S, P.trans ?_, Hy⟩
  rw [e1]
  show (l :: r).Perm (r ++ [l])
  exact (List.perm_append_singleton l r).symm
theorem hp_ify {xs : List (Addr × Int)} (h : 2 ≤ xs.length) : ∃ ys, Sift xs true (xs.length / 2 - 1) (xs.length / 2 - 1) (((xs.length / 2 : Nat) : Int) - 2) ys ∧ ys.Perm xs ∧ HP ys 0 := by
  have H : HP xs (xs.length / 2 - 1 + 1) := fun i h1 h2 h3 => by omega
  obtain ⟨ys, S, P, Hy⟩ := sift_ends xs.length (xs.length / 2 - 1) true _ xs (xs.length / 2 - 1) rfl (H.next (by omega)) rfl
  have e : ((xs.length / 2 - 1 : Nat) : Int) - 1 = ((xs.length / 2 : Nat) : Int) - 2 := by omega
  exact ⟨ys, e ▸ S, P, Hy⟩
theorem ItsIn.perm {xs ys : List (Addr × Int)} {news : List (Addr × Obj)} (h : ItsIn xs news) (P : ys.Perm xs) : ItsIn ys news := fun p hp => h p (P.mem_iff.mp hp)
theorem ItsIn.mono {xs : List (Addr × Int)} {news news' : List (Addr × Obj)} (h : ItsIn xs news) (P : ∀ p ∈ news, p ∈ news') : ItsIn xs news' := fun p hp =>
  let ⟨dx, te, kv, rv, a, b⟩ := h p hp; ⟨dx, te, kv, rv, P _ a, P _ b⟩
theorem ItsIn.mid {h : Heap} {xs : List (Addr × Int)} {pre post : List (Addr × Obj)} {od : Addr} {it : Array Value} {n : Nat} (N : News h₀ L h (pre ++ (od, listOf it n) :: post)) (hI : ItsIn xs (pre ++ (od, listOf it n) :: post)) : ItsIn xs (pre ++ post) := by
  have one : ∀ q ∈ pre ++ (od, listOf it n) :: post, q.2.cls ≠ .type "list" → q ∈ pre ++ post := fun q hq hc => by
    rcases List.mem_append.mp hq with h | h
    · exact List.mem_append_left _ h
    · rcases List.mem_cons.mp h with rfl | h
      · exact absurd rfl hc
      · exact List.mem_append_right _ h
  intro p hp
  obtain ⟨dx, te, kv, rv, a, b⟩ := hI p hp
  exact ⟨dx, te, kv, rv, one _ a (by intro e; cases e), one _ b (by intro e; revert e; show Value.type "dict" = Value.type "list" → False; intro e; simp at e)⟩
theorem kind_push : builtinKind "_heapq.heappush" = none := by decide +kernel
theorem plain_push : plainId "_heapq.heappush" = true := by decide +kernel
theorem entry_push : entryFor table "_heapq.heappush" = some Builtin.«_heapq.heappush» := entryFor_of_tree (by kernel_rfl)
theorem args_push (a b : Value) : argsOk "_heapq.heappush" ⟨[a, b], []⟩ := by unfold argsOk; kernel_rfl
theorem kind_pop : builtinKind "_heapq.heappop" = none := by decide +kernel
theorem plain_pop : plainId "_heapq.heappop" = true := by decide +kernel
theorem entry_pop : entryFor table "_heapq.heappop" = some Builtin.«_heapq.heappop» := entryFor_of_tree (by kernel_rfl)
theorem args_pop (a : Value) : argsOk "_heapq.heappop" ⟨[a], []⟩ := by unfold argsOk; kernel_rfl
theorem kind_ify : builtinKind "_heapq.heapify" = none := by decide +kernel
theorem plain_ify : plainId "_heapq.heapify" = true := by decide +kernel
theorem entry_ify : entryFor table "_heapq.heapify" = some Builtin.«_heapq.heapify» := entryFor_of_tree (by kernel_rfl)
theorem args_ify (a : Value) : argsOk "_heapq.heapify" ⟨[a], []⟩ := by unfold argsOk; kernel_rfl
theorem sub_list_list : isSubtype (.type "list") (.type "list") = pure true := by rw [isSubtype_type]; kernel_rfl
theorem seq_upd {od : Addr} {n n' : Nat} {it it' : Array Value} {f : Array Value → Array Value} {pre post : List (Addr × Obj)} {A : Around} {E' : Value → Shared → Prop} {Q' : Unit → Shared → Prop} (F : Fr h₀ L s.heap m) (N : News h₀ L s.heap (pre ++ (od, listOf it n) :: post))
    (h1 : ∀ p ∈ pre, p.1 ≠ od) (h2 : ∀ p ∈ post, p.1 ≠ od) (hf : f it = it') (hn : (if it'.size == it.size then n else n + 1) = n') (hz : it.size ≤ 2000) (hz' : it'.size ≤ 2000)
    (h : ∀ h', Fr h₀ L h' m → News h₀ L h' (pre ++ (od, listOf it' n') :: post) → Q' () { s with heap := h' }) :
    wpAny (model prog w) A (updateSeq od f) Q' E' s := by
  have ho := (N (od, listOf it n) (List.mem_append_right _ (.head _))).1
  subst hf hn
  refine wpAny_updateSeq ho rfl ?_ (by rw [sizeLine_eq]; omega) (by rw [sizeLine_eq]; omega)
  obtain ⟨F', N'⟩ := news_upd (f := Obj.mapSeq f) (o' := listOf (f it) (if (f it).size == it.size then n else n + 1)) F N h1 h2 rfl rfl
  exact h _ F' N'
theorem k_push (B : Below A₀ base outer h₀) (F : Fr h₀ L s.heap m) (X : (K w.params).In h₀) (T : Top p loose mean mg mb h₀)
    (hd : dp + 10 < recursionLimit) (hu : un + 3 < cLine) {od : Addr} {n : Nat} {xs : List (Addr × Int)} {e : Addr × Int} {g : Obj → List (Addr × Obj)} (N : News h₀ L s.heap news)
    (U : UpdF od (listOf (vals xs) n) news g) (hz : xs.length ≤ 900) (hI : ItsIn (xs ++ [e]) news) (H : HP xs 0)
    (ret : ∀ h' tk' ys, Fr h₀ L h' m → News h₀ L h' (g (listOf (vals ys) (n + 1))) → ys.Perm (xs ++ [e]) → HP ys 0 → Q .none { s with heap := h', toks := tk' }) :
    wpAny (model prog w) (ktrTop dp un gd cn (fsc nms sg sc mo) L a ccd cl outer) (call (.builtin "_heapq.heappush") [.ref od, .ref e.1]) Q E s := by
  obtain ⟨pre, post, rfl, hg, h1, h2⟩ := U.split
  have hI' := hI.mid N
  obtain ⟨ys, S, P, Hy⟩ := hp_push (e := e) H
  have ho := (N (od, listOf (vals xs) n) (List.mem_append_right _ (.head _))).1
  have hT : s.TypeIs (.ref od) "list" := ⟨_, ho, rfl⟩
  refine call_function_tree kind_push plain_push entry_push (args_push _ _) ?_
  unfold Builtin.«_heapq.heappush»
  refine wpAny_bind ?_
  show wpAny _ _ (_ >>= _) _ _ _
  refine wpAny_bind (wpAny_pure ?_)
  refine wpAny_bind (wpAny_pure ?_)
  refine wpAny_bind ?_
  show wpAny _ _ (_ >>= _) _ _ _
  refine wpAny_bind (wpAny_isInstance hT sub_list_list ?_)
  refine wpAny_pure (wpAny_pure ?_)
  refine wpAny_bind (seq_upd (it' := vals (xs ++ [e])) (n' := n + 1) F N h1 h2 (by simp [vals]) (by simp [vals]) (by simp [vals]; omega) (by simp [vals]; omega) fun h' F' N' => ?_)
  refine wpAny_bind ?_
  show wpAny _ _ (seqItems? (.ref _) >>= _) _ _ _
  refine wpAny_bind (wpAny_seqItems (N' (od, listOf (vals (xs ++ [e])) (n + 1)) (List.mem_append_right _ (.head _))).1 rfl (wpAny_pure ?_))
  have hsz : (vals (xs ++ [e])).size - 1 = xs.length := by simp [vals]
  rw [hsz]
  refine wpAny_pure ⟨plainId_quiet kind_sift _, sift_any B X T hd hu h1 h2 S (by simp; omega) hI' _ F' N' fun h' tk' F2 N2 => ret _ _ ys F2 (hg _ ▸ N2) P Hy⟩

end
section
local macro_rules | `(tactic| walk_at "pad") => `(tactic| fail)
local macro_rules | `(tactic| walk_at "pad") => `(tactic| fail)
local macro_rules | `(tactic| walk_at "pad") => `(tactic| fail)
local macro_rules | `(tactic| walk_at "pad") => `(tactic| fail)
local macro_rules | `(tactic| walk_at "pad") => `(tactic| fail)
theorem k_pop1 (F : Fr h₀ L s.heap m) {A : Around} {od : Addr} {n : Nat} {x : Addr × Int} {g : Obj → List (Addr × Obj)} (N : News h₀ L s.heap news)
    (U : UpdF od (listOf (vals [x]) n) news g)
    (ret : ∀ h', Fr h₀ L h' m → News h₀ L h' (g (listOf (vals []) (n + 1))) → Q (.ref x.1) { s with heap := h' }) :
    wpAny (model prog w) A (call (.builtin "_heapq.heappop") [.ref od]) Q E s := by
  obtain ⟨pre, post, rfl, hg, h1, h2⟩ := U.split
  have ho := (N (od, listOf (vals [x]) n) (List.mem_append_right _ (.head _))).1
  have hT : s.TypeIs (.ref od) "list" := ⟨_, ho, rfl⟩
  refine call_function_tree kind_pop plain_pop entry_pop (args_pop _) ?_
  unfold Builtin.«_heapq.heappop»
  refine wpAny_bind ?_
  show wpAny _ _ (_ >>= _) _ _ _
  refine wpAny_bind (wpAny_of_eq (show oneArg _ _ = pure (.ref od) from rfl) ?_)
  refine wpAny_bind ?_
  show wpAny _ _ (_ >>= _) _ _ _
  refine wpAny_bind (wpAny_isInstance hT sub_list_list ?_)
  refine wpAny_pure (wpAny_pure ?_)
  refine wpAny_bind ?_
  show wpAny _ _ (seqItems? (.ref _) >>= _) _ _ _
  refine wpAny_bind (wpAny_seqItems ho rfl (wpAny_pure ?_))
  show wpAny _ _ (updateSeq _ _ >>= _) _ _ _
  refine wpAny_bind (seq_upd (it' := vals []) (n' := n + 1) F N h1 h2 (by rfl) (by rfl) (by simp [vals]) (by simp [vals]) fun h' F' N' => ?_)
  exact wpAny_pure (ret _ F' (hg _ ▸ N'))
theorem vals_back {xs : List (Addr × Int)} {x l : Addr × Int} (hl : xs.getLast? = some l) : (vals (x :: xs)).back? = some (.ref l.1) := by
  have : (vals (x :: xs)).back? = ((x :: xs).map fun p => Value.ref p.1).getLast? := by simp [vals]
  rw [this, List.getLast?_map, List.getLast?_cons, hl]; rfl
theorem k_pop2 (B : Below A₀ base outer h₀) (F : Fr h₀ L s.heap m) (X : (K w.params).In h₀) (T : Top p loose mean mg mb h₀)
    (hd : dp + 10 < recursionLimit) (hu : un + 3 < cLine) {od : Addr} {n : Nat} {x l : Addr × Int} {rest : List (Addr × Int)} {g : Obj → List (Addr × Obj)} (N : News h₀ L s.heap news)
    (U : UpdF od (listOf (vals (x :: rest)) n) news g) (hz : rest.length ≤ 900) (hI : ItsIn (x :: rest) news) (hl : rest.getLast? = some l) (H : HP (x :: rest) 0)
    (ret : ∀ h' tk' ys, Fr h₀ L h' m → News h₀ L h' (g (listOf (vals ys) (n + 1))) → ys.Perm rest → HP ys 0 → Q (.ref x.1) { s with heap := h', toks := tk' }) :
    wpAny (model prog w) (ktrTop dp un gd cn (fsc nms sg sc mo) L a ccd cl outer) (call (.builtin "_heapq.heappop") [.ref od]) Q E s := by
  obtain ⟨pre, post, rfl, hg, h1, h2⟩ := U.split
  have hI' := hI.mid N
  obtain ⟨ys, S, P, Hy⟩ := hp_pop hl H
  have ho := (N (od, listOf (vals (x :: rest)) n) (List.mem_append_right _ (.head _))).1
  have hT : s.TypeIs (.ref od) "list" := ⟨_, ho, rfl⟩
  have hne : rest ≠ [] := by rintro rfl; cases hl
  have hlen : 0 < rest.length := List.length_pos_iff.mpr hne
  refine call_function_tree kind_pop plain_pop entry_pop (args_pop _) ?_
  unfold Builtin.«_heapq.heappop»
  refine wpAny_bind ?_
  show wpAny _ _ (_ >>= _) _ _ _
  refine wpAny_bind (wpAny_of_eq (show oneArg _ _ = pure (.ref od) from rfl) ?_)
  refine wpAny_bind ?_
  show wpAny _ _ (_ >>= _) _ _ _
  refine wpAny_bind (wpAny_isInstance hT sub_list_list ?_)
  refine wpAny_pure (wpAny_pure ?_)
  refine wpAny_bind ?_
  show wpAny _ _ (seqItems? (.ref _) >>= _) _ _ _
  refine wpAny_bind (wpAny_seqItems ho rfl (wpAny_pure ?_))
  rw [vals_back hl]
  show wpAny _ _ (updateSeq _ _ >>= _) _ _ _
  have es : (vals (x :: rest)).size = rest.length + 1 := by simp [vals]
  refine wpAny_bind (seq_upd (it' := vals (x :: rest).dropLast) (n' := n + 1) F N h1 h2 (by simp [vals, List.map_dropLast]) (by simp [vals]) (by simp [vals]; omega) (by simp [vals]; omega) fun h' F' N' => ?_)
  rw [es, if_neg (by simp; omega)]
  refine wpAny_bind ?_
  refine at_of (q := x) (i := 0) rfl ?_ rfl
  have hset : ((vals (x :: rest).dropLast).setIfInBounds 0 (.ref l.1)) = vals ((x :: rest).dropLast.set 0 l) := by simp [vals, List.map_set]
  refine wpAny_bind (seq_upd (it' := vals ((x :: rest).dropLast.set 0 l)) (n' := n + 1) F' N' h1 h2 hset (by simp [vals]) (by simp [vals]; omega) (by simp [vals]; omega) fun h2' F2 N2 => ?_)
  refine wpAny_pure ⟨plainId_quiet kind_sift _, sift_any B X T hd hu h1 h2 S (by simp; omega) (fun q hq => hI' q ?_) _ F2 N2 fun h' tk' F2 N2 => ret _ _ ys F2 (hg _ ▸ N2) P Hy⟩
  rcases List.mem_or_eq_of_mem_set hq with h | rfl
  · exact List.dropLast_subset _ h
  · exact .tail _ (List.mem_of_getLast? hl)
theorem k_ify (B : Below A₀ base outer h₀) (F : Fr h₀ L s.heap m) (X : (K w.params).In h₀) (T : Top p loose mean mg mb h₀)
    (hd : dp + 10 < recursionLimit) (hu : un + 3 < cLine) {od : Addr} {n : Nat} {xs : List (Addr × Int)} {g : Obj → List (Addr × Obj)} (N : News h₀ L s.heap news)
    (U : UpdF od (listOf (vals xs) n) news g) (hz : xs.length ≤ 900) (hI : ItsIn xs news)
    (ret : ∀ h' tk' ys, Fr h₀ L h' m → News h₀ L h' (g (listOf (vals ys) n)) → ys.Perm xs → HP ys 0 → Q .none { s with heap := h', toks := tk' }) :
    wpAny (model prog w) (ktrTop dp un gd cn (fsc nms sg sc mo) L a ccd cl outer) (call (.builtin "_heapq.heapify") [.ref od]) Q E s := by
  obtain ⟨pre, post, rfl, hg, h1, h2⟩ := U.split
  have hI' := hI.mid N
  have ho := (N (od, listOf (vals xs) n) (List.mem_append_right _ (.head _))).1
  have hT : s.TypeIs (.ref od) "list" := ⟨_, ho, rfl⟩
  have es : (vals xs).size = xs.length := by simp [vals]
  refine call_function_tree kind_ify plain_ify entry_ify (args_ify _) ?_
  unfold Builtin.«_heapq.heapify»
  refine wpAny_bind ?_
  show wpAny _ _ (_ >>= _) _ _ _
  refine wpAny_bind (wpAny_of_eq (show oneArg _ _ = pure (.ref od) from rfl) ?_)
  refine wpAny_bind ?_
  show wpAny _ _ (_ >>= _) _ _ _
  refine wpAny_bind (wpAny_isInstance hT sub_list_list ?_)
  refine wpAny_pure (wpAny_pure ?_)
  refine wpAny_bind ?_
  show wpAny _ _ (seqItems? (.ref _) >>= _) _ _ _
  refine wpAny_bind (wpAny_seqItems ho rfl (wpAny_pure ?_))
  dsimp only
  rw [es, if_neg (by omega)]
  by_cases h : xs.length < 2
  · rw [if_pos h]
    exact wpAny_pure (ret _ _ xs F (hg _ ▸ N) (.refl _) fun i h1 h2 h3 => by omega)
  · rw [if_neg h]
    obtain ⟨ys, S, P, Hy⟩ := hp_ify (xs := xs) (by omega)
    exact wpAny_pure ⟨plainId_quiet kind_sift _, sift_any B X T hd hu h1 h2 S (by omega) hI' _ F N fun h' tk' F2 N2 => ret _ _ ys F2 (hg _ ▸ N2) P Hy⟩

end
section
local macro_rules | `(tactic| walk_at "pad") => `(tactic| fail)
local macro_rules | `(tactic| walk_at "pad") => `(tactic| fail)
local macro_rules | `(tactic| walk_at "pad") => `(tactic| fail)
local macro_rules | `(tactic| walk_at "pad") => `(tactic| fail)
local macro_rules | `(tactic| walk_at "pad") => `(tactic| fail)
local macro_rules | `(tactic| walk_at "pad") => `(tactic| fail)
theorem v_len {A : Around} {d : Addr} {xs : List (Addr × Int)} {n : Nat} (N : News h₀ L s.heap news) (hm : (d, listOf (vals xs) n) ∈ news) (hsz : xs.length ≤ 1000)
    (h : Q (.int xs.length (s.toks + 1)) { s with toks := s.toks + 1 + 1 }) : wpAny (model prog w) A (call (.builtin "len") [.ref d]) Q E s := by
  have e : ((vals xs).size : Int) = xs.length := by simp [vals]
  refine Calls.call_len_list ⟨_, (N _ hm).1, rfl, _, rfl⟩ (by rw [e]; omega) ?_
  rw [e]; exact h
theorem v_item0 {A : Around} {d : Addr} {x : Addr × Int} {xs : List (Addr × Int)} {n : Nat} {t : Tok} {value slice : PySem.Expr} (N : News h₀ L s.heap news) (hm : (d, listOf (vals (x :: xs)) n) ∈ news)
    (h : Q (.ref x.1) s)
    (hs : subscripted slice false (.ref d) (.int 0 t) = operate [.ref d, .int 0 t] (getItem (.ref d) (.int 0 t)) := by with_unfolding_all rfl) :
    wpAny (model prog w) A (subscriptTail value slice (.ref d) (.int 0 t)) Q E s := l_item0 (its := xs.map fun p => Value.ref p.1) N (by rw [show vals (x :: xs) = (Value.ref x.1 :: xs.map fun p => Value.ref p.1).toArray from rfl] at hm; exact hm) h hs
theorem v_truthy1 {A : Around} {d : Addr} {x : Addr × Int} {xs : List (Addr × Int)} {n : Nat} {Q' : Bool → Shared → Prop} (N : News h₀ L s.heap news) (hm : (d, listOf (vals (x :: xs)) n) ∈ news) (hsz : xs.length ≤ 1000)
    (h : Q' true { s with toks := s.toks + 1 + 1 }) : wpAny (model prog w) A (truthy (.ref d)) Q' E s := by
  have e : (vals (x :: xs)).size = xs.length + 1 := by simp [vals]
  refine wpAny_truthy_list ⟨_, (N _ hm).1, rfl, _, rfl⟩ (by rw [e]; omega) ?_
  have e2 : (vals (x :: xs)).isEmpty = false := by simp [vals]
  rw [e2]; exact h
theorem v_truthy0 {A : Around} {d : Addr} {n : Nat} {Q' : Bool → Shared → Prop} (N : News h₀ L s.heap news) (hm : (d, listOf (vals []) n) ∈ news)
    (h : Q' false { s with toks := s.toks + 1 + 1 }) : wpAny (model prog w) A (truthy (.ref d)) Q' E s :=
  wpAny_truthy_list (items := vals []) ⟨_, (N _ hm).1, rfl, _, rfl⟩ (by decide) h
theorem cut_execs {A : Around} {env : Env} {st : Stmt} {rest : List Stmt} {Q' : Flow → Shared → Prop} (J : Shared → Prop) (h1 : wpAny (model prog w) A (exec st env) (fun f s' => f = .next ∧ J s') E s)
    (h2 : ∀ s', J s' → wpAny (model prog w) A (execs rest env) Q' E s') : wpAny (model prog w) A (execs (st :: rest) env) Q' E s := by
  refine wpAny_execs_cons (wpAny_mono h1 (fun f s' h => ?_) fun _ _ e => e)
  obtain ⟨rfl, hJ⟩ := h
  exact h2 _ hJ

end
end
section
variable {prog : Program} {w : World} {p : Program} {loose : List Str} {mean : ExcName → Option Value} {mg mb : Str → Option Value} {dp un : Nat} {gd : Option (List Code)} {cn : Str} {nms : List (Str × NameKind)} {sg sc : Bool} {mo : List (Str × Const)} {a : Addr} {ccd : Value} {cl : List (Str × Addr)} {outer : List Env} {A₀ : Around} {base h₀ : Heap} {L : Addr} {m : Str → Option Value} {news : List (Addr × Obj)} {s : Shared} {Q E : Value → Shared → Prop}
local macro_rules | `(tactic| walk_at "getAttr ref") => `(tactic| (k_here; k_dflt (
  refine' get_ownA ?k1 ?k2 ?k3 ?k4 ?k5 ?k6 ?k7 ?k8 ?k9 ?_; (case k1 => k_asm); (case k2 => k_asm); (case k3 => k_inst); (case k4 => k_is); (case k5 => k_is); (case k6 => k_is); (case k7 => k_is); (case k8 => k_get); (case k9 => k_handed); k_whole)))
local macro_rules | `(tactic| walk_at "getMethod ref") => `(tactic| (k_here; k_dflt (
  refine' method_ga ?k1 ?k2 ?k3 ?k4 ?_; (case k1 => k_in); (case k2 => k_inst); (case k3 => k_is); (case k4 => k_is); k_whole)))
local macro_rules | `(tactic| walk_at "getMethod ref") => `(tactic| (k_here; k_dflt (first
  | (refine' method_prop ?k1 ?k2 ?k3 ?k4 ?k5 ?k6 ?_; (case k1 => k_in); (case k2 => k_inst); (case k3 => k_is); (case k4 => k_is); (case k5 => k_is); (case k6 => k_is); k_whole)
  | (refine' method_none ?k1 ?k2 ?k3 ?k4 ?k5 ?_; (case k1 => k_in); (case k2 => k_inst); (case k3 => k_is); (case k4 => k_is); (case k5 => k_is); k_whole))))
local macro_rules | `(tactic| walk_at "getMethod ref") => `(tactic| (k_here; (with_reducible show wpAny _ _ (getMethod (Value.ref _) (PySem.Str.ofString "get") _) _ _ _); k_dflt (refine' d_meth_get ?N ?m ?d ?_; (case N => k_asm); (case m => k_mem); (case d => k_asm); k_whole)))
local macro_rules | `(tactic| walk_at "getMethod ref") => `(tactic| (k_here; (with_reducible show wpAny _ _ (getMethod (Value.ref _) (PySem.Str.ofString "pop") _) _ _ _); k_dflt (refine' d_meth_pop ?N ?m ?d ?_; (case N => k_asm); (case m => k_mem); (case d => k_asm); k_whole)))
local macro_rules | `(tactic| walk_at "subscriptTail") => `(tactic| (k_here; (with_reducible show wpAny _ _ (subscriptTail _ _ (Value.ref _) (Value.int _ _)) _ _ _); k_dflt (first
  | (refine' d_item ?N ?m ?d ?v ?_; (case N => k_asm); (case m => k_mem); (case d => k_asm); (case v => k_asm); k_whole)
  | (refine' d_item_no ?N ?m ?d ?l ?h ?v ?_; (case N => k_asm); (case m => k_mem); (case d => k_asm); (case l => k_asm); (case h => rfl); (case v => k_asm); k_whole; intro h' e' X9))))
local macro_rules | `(tactic| walk_at "compareOp In int ref") => `(tactic| (k_here; k_dflt (refine' d_in ?N ?m ?d ?l ?_; (case N => k_asm); (case m => k_mem); (case d => k_asm); (case l => k_asm); k_whole)))
local macro_rules | `(tactic| walk_at "compareOp NotIn int ref") => `(tactic| (k_here; k_dflt (refine' d_notin ?N ?m ?d ?l ?_; (case N => k_asm); (case m => k_mem); (case d => k_asm); (case l => k_asm); k_whole)))
local macro_rules | `(tactic| walk_at "d_small") => `(tactic| first | assumption | omega | (refine wl ?_; walk_at "d_small") | (refine sl ?_; walk_at "d_small"))
local macro_rules | `(tactic| walk_at "setItem ref int") => `(tactic| (k_here; k_dflt (refine' d_set ?F ?N ?U ?d ?z ?_; (case F => k_asm); (case N => k_asm); (case U => k_updF); (case d => k_asm); (case z => walk_at "d_small"); k_whole; intro h' o' F' N' hd'; (try dsimp only at N'); (try k_sweep))))
local macro_rules | `(tactic| walk_at "delItem ref int") => `(tactic| (k_here; k_dflt (refine' d_del ?F ?N ?U ?d ?z ?v ?_; (case F => k_asm); (case N => k_asm); (case U => k_updF); (case d => k_asm); (case z => walk_at "d_small"); (case v => first | k_asm | (simp only [*]; rfl)); k_whole; intro h' o' F' N' hd'; (try dsimp only at N'); (try k_sweep))))
local macro_rules | `(tactic| walk_at "call builtin:dict.pop") => `(tactic| (k_here; k_dflt (refine' d_pop ?F ?N ?U ?d ?z ?v ?_; (case F => k_asm); (case N => k_asm); (case U => k_updF); (case d => k_asm); (case z => walk_at "d_small"); (case v => k_asm); k_whole; intro h' o' F' N' hd'; (try dsimp only at N'); (try k_sweep))))
local macro_rules | `(tactic| walk_at "call builtin:dict.get") => `(tactic| (k_here; k_dflt (first
  | (refine' d_get1 ?N ?m ?d ?l ?_; (case N => k_asm); (case m => k_mem); (case d => k_asm); (case l => k_asm); k_whole)
  | (refine' d_get2 ?N ?m ?d ?l ?_; (case N => k_asm); (case m => k_mem); (case d => k_asm); (case l => k_asm); k_whole))))
local macro_rules | `(tactic| walk_at "call builtin:len") => `(tactic| (k_here; (with_reducible show wpAny _ _ (call (Value.builtin "len") [Value.ref _]) _ _ _); k_dflt (refine' d_len ?N ?m ?d ?l ?z ?_; (case N => k_asm); (case m => k_mem); (case d => k_asm); (case l => k_asm); (case z => walk_at "d_small"); k_whole)))
local macro_rules | `(tactic| k_all) => `(tactic| ((fail_if_success (refine List.forall_mem_cons.mpr ?_)); first | with_reducible assumption | exact neAll (by with_reducible assumption) | exact off1_all (by with_reducible assumption) | fail "no tail fact"))
local macro_rules | `(tactic| k_lt $h:ident) => `(tactic| (replace $h := allLt_of $h; simp only [AllLt, and_true] at $h:ident; (try (have hT9 := $h; (repeat (replace hT9 := And.right hT9))))))
local macro_rules | `(tactic| k_room) => `(tactic| ((try simp only [depth_mark, depth_under_make, depth_under_kw, depth_in1, depth_deeper]); (try dsimp only [ktrTop] at *); omega))
local macro_rules | `(tactic| walk_at "eval Call Attribute cons cons") => `(tactic| (k_here; refine methodCall_far ?_))
local macro_rules | `(tactic| walk_at "callWith ref") => `(tactic| (k_here; kn_here; k_dflt (first | (refine' callWith_K ?k1 ?k2 ?_; (case k1 => k_asm); (case k2 => k_is); k_whole) | (refine' callWith_K0 ?k1 ?k2 ?_; (case k1 => k_in); (case k2 => k_is); k_whole))))
local macro_rules | `(tactic| walk_at "callWith ref") => `(tactic| (k_here; k_dflt (refine' callWith_SK ?X ?k ?_; (case X => k_asm); (case k => k_is); k_whole)))
local macro_rules | `(tactic| walk_at "KwNil") => `(tactic| (k_here; k_dflt (refine' kwnil_K ?F ?N ?m ?d ?l ?x ?_; (case F => k_asm); (case N => k_asm); (case m => k_mem); (case d => k_asm); (case l => k_asm); (case x => exact fun s' F9 Q9 q9 => ld F9 rfl q9); k_whole; intro h' F' N' l1; (try k_lt l1); (try k_sweep))))
local macro_rules | `(tactic| k_mem) => `(tactic| ((fail_if_success (refine List.Mem.tail _ ?_)); (show Membership.mem (γ := List (Addr × Obj)) _ _); ktr_member))
local macro_rules | `(tactic| walk_at "ite") => `(tactic| (k_here; k_dflt (first
  | (refine ite_pos (by first | omega | (refine decide_eq_true ?_; omega)) ?_)
  | (refine ite_neg (by first | omega | (refine ne_true_of_eq_false (decide_eq_false ?_); omega)) ?_))))
local macro_rules | `(tactic| walk_at "subscriptTail Name Constant ref int") => `(tactic| (k_here; (with_reducible show wpAny _ _ (subscriptTail _ _ (Value.ref _) (Value.int 0 _)) _ _ _); k_dflt (refine' l_item0 ?N ?m ?_ ?s; (case s => with_unfolding_all rfl); (case N => k_asm); (case m => k_mem); k_whole)))
local macro_rules | `(tactic| k_in) => `(tactic| first | with_reducible assumption | exact Frag.In.keeps (by with_reducible assumption) (Fr.keep (by with_reducible assumption)))
local macro_rules | `(tactic| walk_at "call builtin:len") => `(tactic| (k_here; (with_reducible show wpAny _ _ (call (Value.builtin "len") [Value.ref _]) _ _ _); k_dflt (refine' v_len ?N ?m ?z ?_; (case N => k_asm); (case m => k_mem); (case z => omega); k_whole)))
local macro_rules | `(tactic| walk_at "subscriptTail Name Constant ref int") => `(tactic| (k_here; (with_reducible show wpAny _ _ (subscriptTail _ _ (Value.ref _) (Value.int 0 _)) _ _ _); k_dflt (refine' v_item0 ?N ?m ?_ ?s; (case s => with_unfolding_all rfl); (case N => k_asm); (case m => k_mem); k_whole)))
local macro_rules | `(tactic| walk_at "truthy ref") => `(tactic| (k_here; (with_reducible show wpAny _ _ (truthy (Value.ref _)) _ _ _); k_dflt (first
  | (refine' v_truthy1 ?N ?m ?z ?_; (case N => k_asm); (case m => k_mem); (case z => omega); k_whole)
  | (refine' v_truthy0 ?N ?m ?_; (case N => k_asm); (case m => k_mem); k_whole))))
local macro_rules | `(tactic| walk_at "eval Name") => `(tactic| (k_here; (with_reducible show wpAny _ _ (eval (Expr.Name _ _) (PyProof.Rows.envOf _ _ _ _ _)) _ _ _); k_dflt (refine' ld ?k1 ?k2 ?_; (case k1 => k_asm); (case k2 => first | exact rfl | assumption); k_whole)))
local macro_rules | `(tactic| walk_at "ap_mem") => `(tactic| first | exact List.Mem.head _ | (refine List.Mem.tail _ ?_; walk_at "ap_mem"))
local macro_rules | `(tactic| k_ne) => `(tactic| (refine neN ?_; (try dsimp only); first | omega | with_reducible assumption | exact Ne.symm (by with_reducible assumption) | (refine AllAp.ne (by with_reducible assumption) ?_; first | exact List.Mem.head _ | exact List.Mem.tail _ (List.Mem.head _) | exact List.Mem.tail _ (List.Mem.tail _ (List.Mem.head _)) | exact List.Mem.tail _ (List.Mem.tail _ (List.Mem.tail _ (List.Mem.head _))) | exact List.Mem.tail _ (List.Mem.tail _ (List.Mem.tail _ (List.Mem.tail _ (List.Mem.head _)))) | exact List.Mem.tail _ (List.Mem.tail _ (List.Mem.tail _ (List.Mem.tail _ (List.Mem.tail _ (List.Mem.head _))))) | exact List.Mem.tail _ (List.Mem.tail _ (List.Mem.tail _ (List.Mem.tail _ (List.Mem.tail _ (List.Mem.tail _ (List.Mem.head _)))))) | exact List.Mem.tail _ (List.Mem.tail _ (List.Mem.tail _ (List.Mem.tail _ (List.Mem.tail _ (List.Mem.tail _ (List.Mem.tail _ (List.Mem.head _))))))) | exact List.Mem.tail _ (List.Mem.tail _ (List.Mem.tail _ (List.Mem.tail _ (List.Mem.tail _ (List.Mem.tail _ (List.Mem.tail _ (List.Mem.tail _ (List.Mem.head _)))))))) | exact List.Mem.tail _ (List.Mem.tail _ (List.Mem.tail _ (List.Mem.tail _ (List.Mem.tail _ (List.Mem.tail _ (List.Mem.tail _ (List.Mem.tail _ (List.Mem.tail _ (List.Mem.head _))))))))) | exact List.Mem.tail _ (List.Mem.tail _ (List.Mem.tail _ (List.Mem.tail _ (List.Mem.tail _ (List.Mem.tail _ (List.Mem.tail _ (List.Mem.tail _ (List.Mem.tail _ (List.Mem.tail _ (List.Mem.head _)))))))))) | exact List.Mem.tail _ (List.Mem.tail _ (List.Mem.tail _ (List.Mem.tail _ (List.Mem.tail _ (List.Mem.tail _ (List.Mem.tail _ (List.Mem.tail _ (List.Mem.tail _ (List.Mem.tail _ (List.Mem.tail _ (List.Mem.head _))))))))))) | exact List.Mem.tail _ (List.Mem.tail _ (List.Mem.tail _ (List.Mem.tail _ (List.Mem.tail _ (List.Mem.tail _ (List.Mem.tail _ (List.Mem.tail _ (List.Mem.tail _ (List.Mem.tail _ (List.Mem.tail _ (List.Mem.tail _ (List.Mem.head _)))))))))))) | exact List.Mem.tail _ (List.Mem.tail _ (List.Mem.tail _ (List.Mem.tail _ (List.Mem.tail _ (List.Mem.tail _ (List.Mem.tail _ (List.Mem.tail _ (List.Mem.tail _ (List.Mem.tail _ (List.Mem.tail _ (List.Mem.tail _ (List.Mem.tail _ (List.Mem.head _))))))))))))) | exact List.Mem.tail _ (List.Mem.tail _ (List.Mem.tail _ (List.Mem.tail _ (List.Mem.tail _ (List.Mem.tail _ (List.Mem.tail _ (List.Mem.tail _ (List.Mem.tail _ (List.Mem.tail _ (List.Mem.tail _ (List.Mem.tail _ (List.Mem.tail _ (List.Mem.tail _ (List.Mem.head _)))))))))))))) | exact List.Mem.tail _ (List.Mem.tail _ (List.Mem.tail _ (List.Mem.tail _ (List.Mem.tail _ (List.Mem.tail _ (List.Mem.tail _ (List.Mem.tail _ (List.Mem.tail _ (List.Mem.tail _ (List.Mem.tail _ (List.Mem.tail _ (List.Mem.tail _ (List.Mem.tail _ (List.Mem.tail _ (List.Mem.head _)))))))))))))))) | (refine Ne.symm (AllAp.ne (by with_reducible assumption) ?_); first | exact List.Mem.head _ | exact List.Mem.tail _ (List.Mem.head _) | exact List.Mem.tail _ (List.Mem.tail _ (List.Mem.head _)) | exact List.Mem.tail _ (List.Mem.tail _ (List.Mem.tail _ (List.Mem.head _))) | exact List.Mem.tail _ (List.Mem.tail _ (List.Mem.tail _ (List.Mem.tail _ (List.Mem.head _)))) | exact List.Mem.tail _ (List.Mem.tail _ (List.Mem.tail _ (List.Mem.tail _ (List.Mem.tail _ (List.Mem.head _))))) | exact List.Mem.tail _ (List.Mem.tail _ (List.Mem.tail _ (List.Mem.tail _ (List.Mem.tail _ (List.Mem.tail _ (List.Mem.head _)))))) | exact List.Mem.tail _ (List.Mem.tail _ (List.Mem.tail _ (List.Mem.tail _ (List.Mem.tail _ (List.Mem.tail _ (List.Mem.tail _ (List.Mem.head _))))))) | exact List.Mem.tail _ (List.Mem.tail _ (List.Mem.tail _ (List.Mem.tail _ (List.Mem.tail _ (List.Mem.tail _ (List.Mem.tail _ (List.Mem.tail _ (List.Mem.head _)))))))) | exact List.Mem.tail _ (List.Mem.tail _ (List.Mem.tail _ (List.Mem.tail _ (List.Mem.tail _ (List.Mem.tail _ (List.Mem.tail _ (List.Mem.tail _ (List.Mem.tail _ (List.Mem.head _))))))))) | exact List.Mem.tail _ (List.Mem.tail _ (List.Mem.tail _ (List.Mem.tail _ (List.Mem.tail _ (List.Mem.tail _ (List.Mem.tail _ (List.Mem.tail _ (List.Mem.tail _ (List.Mem.tail _ (List.Mem.head _)))))))))) | exact List.Mem.tail _ (List.Mem.tail _ (List.Mem.tail _ (List.Mem.tail _ (List.Mem.tail _ (List.Mem.tail _ (List.Mem.tail _ (List.Mem.tail _ (List.Mem.tail _ (List.Mem.tail _ (List.Mem.tail _ (List.Mem.head _))))))))))) | exact List.Mem.tail _ (List.Mem.tail _ (List.Mem.tail _ (List.Mem.tail _ (List.Mem.tail _ (List.Mem.tail _ (List.Mem.tail _ (List.Mem.tail _ (List.Mem.tail _ (List.Mem.tail _ (List.Mem.tail _ (List.Mem.tail _ (List.Mem.head _)))))))))))) | exact List.Mem.tail _ (List.Mem.tail _ (List.Mem.tail _ (List.Mem.tail _ (List.Mem.tail _ (List.Mem.tail _ (List.Mem.tail _ (List.Mem.tail _ (List.Mem.tail _ (List.Mem.tail _ (List.Mem.tail _ (List.Mem.tail _ (List.Mem.tail _ (List.Mem.head _))))))))))))) | exact List.Mem.tail _ (List.Mem.tail _ (List.Mem.tail _ (List.Mem.tail _ (List.Mem.tail _ (List.Mem.tail _ (List.Mem.tail _ (List.Mem.tail _ (List.Mem.tail _ (List.Mem.tail _ (List.Mem.tail _ (List.Mem.tail _ (List.Mem.tail _ (List.Mem.tail _ (List.Mem.head _)))))))))))))) | exact List.Mem.tail _ (List.Mem.tail _ (List.Mem.tail _ (List.Mem.tail _ (List.Mem.tail _ (List.Mem.tail _ (List.Mem.tail _ (List.Mem.tail _ (List.Mem.tail _ (List.Mem.tail _ (List.Mem.tail _ (List.Mem.tail _ (List.Mem.tail _ (List.Mem.tail _ (List.Mem.tail _ (List.Mem.head _))))))))))))))))))
local macro_rules | `(tactic| walk_at "sub_tail") => `(tactic| (intro p hp; repeat (first | exact hp | exact List.Mem.tail _ hp | apply List.Mem.tail)))
local macro_rules | `(tactic| walk_at "sub_mem") => `(tactic| first | (refine List.forall_mem_cons.mpr ⟨by k_mem, ?_⟩; walk_at "sub_mem") | walk_at "sub_tail")
local macro_rules | `(tactic| walk_at "call ref") => `(tactic| (k_here; kn_here; k_dflt (refine wpAny_call ?_; k_enter)))
local macro_rules | `(tactic| walk_at "getAttr ref") => `(tactic| (k_here; (with_reducible first | (show wpAny _ _ (getAttr (Value.ref _) (PySem.Str.ofString "removed") _) _ _ _) | (show wpAny _ _ (getAttr (Value.ref _) (PySem.Str.ofString "expires") _) _ _ _) | (show wpAny _ _ (getAttr (Value.ref _) (PySem.Str.ofString "key") _) _ _ _)); k_dflt (refine' get_slot ?k1 ?k2 ?k3 ?k4 ?k5 ?k6 ?k7 ?k8 ?k9 ?k10 ?k11 ?_; (case k1 => k_asm); (case k2 => k_asm); (case k3 => k_inst); (case k4 => k_is); (case k5 => k_is); (case k6 => k_is); (case k7 => k_is); (case k8 => k_is); (case k9 => k_is); (case k10 => k_slotget); (case k11 => k_handed); k_whole)))
local macro_rules | `(tactic| walk_at "setAttr ref") => `(tactic| (k_here; (with_reducible first | (show wpAny _ _ (setAttr (Value.ref _) (PySem.Str.ofString "removed") _) _ _ _) | (show wpAny _ _ (setAttr (Value.ref _) (PySem.Str.ofString "expires") _) _ _ _) | (show wpAny _ _ (setAttr (Value.ref _) (PySem.Str.ofString "key") _) _ _ _)); k_dflt (refine' set_slot ?k1 ?k2 ?k3 ?k4 ?k5 ?k6 ?k7 ?k8 ?k9 ?k10 ?k11 ?k12 ?k13 ?_; (case k1 => k_asm); (case k2 => k_asm); (case k3 => k_asm); (case k4 => k_inst); (case k5 => k_is); (case k6 => k_is); (case k7 => k_is); (case k8 => k_is); (case k9 => k_is); (case k10 => decide); (case k11 => k_slotset); (case k12 => exact rfl); (case k13 => k_upd); k_whole; intro h' F' N'; (try k_sweep))))
section
local macro_rules | `(tactic| walk_at "pad") => `(tactic| fail)
local macro_rules | `(tactic| walk_at "pad") => `(tactic| fail)
local macro_rules | `(tactic| walk_at "pad") => `(tactic| fail)
local macro_rules | `(tactic| walk_at "pad") => `(tactic| fail)
local macro_rules | `(tactic| walk_at "pad") => `(tactic| fail)
def Its (kf : Addr → Int) (rf : Addr → Bool) (xs : List (Addr × Int)) (news : List (Addr × Obj)) : Prop :=
  ∀ p ∈ xs, ∃ dx te tk, (p.1, itO dx (.int p.2 te) (.int (kf p.1) tk) (.bool (rf p.1))) ∈ news ∧ (dx, dictOf [] 0) ∈ news
theorem Its.itsIn {kf : Addr → Int} {rf : Addr → Bool} {xs : List (Addr × Int)} {news : List (Addr × Obj)} (h : Its kf rf xs news) : ItsIn xs news := fun p hp =>
  let ⟨dx, te, tk, a, b⟩ := h p hp; ⟨dx, te, _, _, a, b⟩
theorem Its.mono {kf : Addr → Int} {rf : Addr → Bool} {xs : List (Addr × Int)} {news news' : List (Addr × Obj)} (h : Its kf rf xs news) (P : ∀ p ∈ news, p ∈ news') : Its kf rf xs news' := fun p hp =>
  let ⟨dx, te, tk, a, b⟩ := h p hp; ⟨dx, te, tk, P _ a, P _ b⟩
theorem Its.sub {kf : Addr → Int} {rf : Addr → Bool} {xs ys : List (Addr × Int)} {news : List (Addr × Obj)} (h : Its kf rf xs news) (P : ∀ p ∈ ys, p ∈ xs) : Its kf rf ys news := fun p hp => h p (P p hp)
abbrev exA (dp un : Nat) (gd : Option (List Code)) (L : Addr) (outer : List Env) : Around := ktrTop dp un gd "TLRUCache.expire" Fn.f_TLRUCache_expire.scope L 1206 (.ref 1205) [] outer
abbrev exE (L : Addr) : Env := envOf "TLRUCache.expire" Fn.f_TLRUCache_expire.scope L 1206 (.ref 1205)
local macro_rules | `(tactic| walk_at "eval ListComp") => `(tactic| (k_here; k_dflt (refine LCt.ListComp_T (F₀ := by k_asm) (by with_unfolding_all rfl) (by decide) (by rfl) (by decide) (by rfl) ?_)))
local macro_rules | `(tactic| walk_at "CompSrcT") => `(tactic| fail "stop here")
theorem k_ifyL (B : Below A₀ base outer h₀) (F : Fr h₀ L s.heap m) (X : (K w.params).In h₀) (T : Top p loose mean mg mb h₀)
    (hd : dp + 10 < recursionLimit) (hu : un + 3 < cLine) {D : Addr} {xs : List (Addr × Int)} {rest : List (Addr × Obj)} (N : News h₀ L s.heap ((D, LCg.lst (xs.map fun p => Value.ref p.1)) :: rest))
    (hne : ∀ p ∈ rest, p.1 ≠ D) (hz : xs.length ≤ 900) (hI : ItsIn xs rest)
    (ret : ∀ h' tk' ys n, Fr h₀ L h' m → News h₀ L h' ((D, listOf (vals ys) n) :: rest) → ys.Perm xs → HP ys 0 → Q .none { s with heap := h', toks := tk' }) :
    wpAny (model prog w) (ktrTop dp un gd cn (fsc nms sg sc mo) L a ccd cl outer) (call (.builtin "_heapq.heapify") [.ref D]) Q E s :=
  k_ify (n := (xs.map fun p => Value.ref p.1).length) (g := fun o => (D, o) :: rest) B F X T hd hu (xs := xs) N (UpdF.head hne) hz (hI.mono fun p hp => .tail _ hp) fun h' tk' ys F' N' P H => ret h' tk' ys _ F' N' P H
abbrev itC : Scope := { kind := .function, names := [(".0", .local), ("item", .local)], isGenerator := false, isCoroutine := false }
abbrev keptO (rf : Addr → Bool) (xs : List (Addr × Int)) : List (Addr × Int) := xs.filter fun p => !(rf p.1)
theorem kept_step {rf : Addr → Bool} {xs : List (Addr × Int)} {i : Nat} {p : Addr × Int} (h : xs[i]? = some p) : keptO rf (xs.take (i + 1)) = keptO rf (xs.take i) ++ (if rf p.1 then [] else [p]) := by
  unfold keptO
  rw [List.take_add_one, h, List.filter_append]
  cases hp : rf p.1 <;> simp [hp]
set_option maxHeartbeats 4000000 in
theorem rest_order (B : Below A₀ base outer h₀) (X : (K w.params).In h₀) (T : Top p loose mean mg mb h₀) {p1 p2 p3 p4 : Pos} {xs : List (Addr × Int)} {kf : Addr → Int} {rf : Addr → Bool} {led : List (Addr × Obj)} {od : Addr} {Fin : List Value → List (Addr × Obj) → Prop} {s' : Shared}
    (hI : Its kf rf xs led) (hS : LCg.SrcAt h₀ od (vals xs) led) (fin : Fin ((keptO rf xs).map fun p => Value.ref p.1) led) :
    ∀ (k i : Nat), i + k = xs.length → LCt.CompRestT prog w (exA dp un gd L outer) h₀ L m (exE L) (.UnaryOp .Not (.Attribute (.Name "item" p1) "removed" p2) p3) (.Name "item" p4) "item" itC [] s' (LCg.SrcAt h₀ od (vals xs)) (fun i v => (vals xs)[i]? = some v) Fin k i ((keptO rf (xs.take i)).map fun p => Value.ref p.1) led := by
  intro k
  induction k with
  | zero =>
    intro i hi
    have : xs.take i = xs := List.take_of_length_le (by omega)
    rw [this]
    exact LCt.CompRestT.zero fin
  | succ k ih =>
    intro i hi
    refine LCt.CompRestT.succ ?_
    intro v' I' oI' C' oC' D' m' h' tk' E' hv' hC' hx' F' N' off' ne'
    obtain ⟨q, hq⟩ : ∃ q, xs[i]? = some q := ⟨_, List.getElem?_eq_getElem (by omega)⟩
    have e : v' = .ref q.1 := by
      have hv2 : (vals xs)[i]? = some v' := hv'
      rw [vals_get hq] at hv2; exact (Option.some.inj hv2).symm
    subst e
    have ih' := ih (i + 1) (by omega)
    rw [kept_step hq, List.map_append] at ih'
    obtain ⟨dx, te, tkk, m1, m2⟩ := hI q (List.mem_of_getElem? hq)
    cases hr : rf q.1 with
    | true =>
      rw [hr] at m1 ih'
      simp only [if_true, List.map_nil, List.append_nil] at ih'
      clear hr hI hv' ih
      k_steps
      exact LCg.CompEnd.intro (by assumption) (by assumption) led (fun p hp => hp) off' hS ih'
    | false =>
      rw [hr] at m1 ih'
      simp only [Bool.false_eq_true, if_false, List.map_cons, List.map_nil] at ih'
      clear hr hI hv' ih
      k_steps
      exact LCg.CompEnd.intro (by assumption) (by assumption) led (fun p hp => hp) off' hS ih'
/-- what is left of the order list -/
abbrev Kept (rf : Addr → Bool) (xs xs' : List (Addr × Int)) : Prop := xs' = xs ∨ xs'.Perm (keptO rf xs)
set_option maxHeartbeats 4000000 in
theorem ex_clean (B : Below A₀ base outer h₀) (F : Fr h₀ L s.heap m) (X : (K w.params).In h₀) {c dc tm dt da di od clk cc hc hl ttu tc : Addr} {t1 t2 t3 t4 t5 t6 t7 u1 u2 u3 tk0 tH tv1 tv2 : Tok} {cur mx nst time doc1 pm1 ct1 doc2 pm2 ct2 : Value} {oda odi oor occ och otc : Obj} {H : Int} {nh : Nat} {vs1 vs2 : Array Value} {cN pN : Addr} {ik : List (Int × Value)}
    {xs : List (Addr × Int)} {no : Nat} {kf : Addr → Int} {rf : Addr → Bool}
    (N : News h₀ L s.heap ((c, instObj 1231 dc) :: (dc, calD w.params t1 t2 t3 t4 t5 t6 t7 (.ref da) cur mx (.ref tm) (.ref di) (.ref od) (.ref ttu)) :: (tm, instObj 922 dt) ::
      (dt, tmD w.params u1 u2 u3 (.ref clk) nst time) :: (da, oda) :: (di, odi) :: (od, (listOf (vals xs) no)) :: (clk, clkO hc doc1 pm1 cc ct1) :: (cc, occ) :: (hc, och) :: (hl, listOf #[.int H tH] nh) :: (ttu, endO doc2 pm2 tc ct2) :: (tc, otc) :: news)) (T : Top p loose mean mg mb h₀)
    (hd : dp + 20 < recursionLimit) (hu : un + 60 < cLine) (hoc : occ.data = .fields vs1) (hoc1 : vs1[1]? = some (.str "law.<locals>.clock" tv1)) (hch : och.data = .cell (some (.ref hl))) (hot : otc.data = .fields vs2) (hot1 : vs2[1]? = some (.str "law.<locals>.end" tv2)) (hCd : CodeHd h₀ cN pN) (o1 : @LT.lt Nat instLTNat hc hl) (o2 : @LT.lt Nat instLTNat hl cc) (o3 : @LT.lt Nat instLTNat cc clk) (o4 : @LT.lt Nat instLTNat clk tc) (o5 : @LT.lt Nat instLTNat tc ttu) (o6 : @LT.lt Nat instLTNat ttu dc) (o7 : @LT.lt Nat instLTNat dc c) (o8 : @LT.lt Nat instLTNat c da) (o9 : @LT.lt Nat instLTNat da dt) (o10 : @LT.lt Nat instLTNat dt tm) (o11 : @LT.lt Nat instLTNat tm di) (q : AllAp od [c, dc, tm, dt, da, di, clk, cc, hc, hl, ttu, tc]) (n1 : ∀ p ∈ news, p.1 ≠ dc) (n2 : ∀ p ∈ news, p.1 ≠ da) (n3 : ∀ p ∈ news, p.1 ≠ dt) (n4 : ∀ p ∈ news, p.1 ≠ di) (n5 : ∀ p ∈ news, p.1 ≠ od) (lda : (da == sysModules) = false) (ldi : (di == sysModules) = false)
    (hdi : DOf prog w odi ik) (hil : ik.length ≤ 100) (hxl : xs.length ≤ 900) (hI : Its kf rf xs news) (hH : HP xs 0)
    (ms : m "self" = some (.ref c)) (mi : m "items" = some (.ref di)) (mo : m "order" = some (.ref od)) {Q' : Flow → Shared → Prop}
    (ret : ∀ h' tk' od' no' xs' m' tl, Fr h₀ L h' m' → News h₀ L h' ((c, instObj 1231 dc) :: (dc, calD w.params t1 t2 t3 t4 t5 t6 t7 (.ref da) cur mx (.ref tm) (.ref di) (.ref od') (.ref ttu)) :: (tm, instObj 922 dt) ::
      (dt, tmD w.params u1 u2 u3 (.ref clk) nst time) :: (da, oda) :: (di, odi) :: (od', (listOf (vals xs') no')) :: (clk, clkO hc doc1 pm1 cc ct1) :: (cc, occ) :: (hc, och) :: (hl, listOf #[.int H tH] nh) :: (ttu, endO doc2 pm2 tc ct2) :: (tc, otc) :: tl) → Kept rf xs xs' → HP xs' 0 → (∀ p ∈ news, p ∈ tl) →
      (∀ z : Str, z ≠ "order" → m' z = m z) → m' "order" = some (.ref od') → AllAp od' [c, dc, tm, dt, da, di, clk, cc, hc, hl, ttu, tc] → (∀ p ∈ tl, p.1 ≠ dc) → (∀ p ∈ tl, p.1 ≠ da) → (∀ p ∈ tl, p.1 ≠ dt) → (∀ p ∈ tl, p.1 ≠ di) → (∀ p ∈ tl, p.1 ≠ od') →
      Q' .next { s with heap := h', toks := tk' }) :
    wpAny (model prog w) (exA dp un gd L outer) (exec (at_ Fn.f_TLRUCache_expire.body 3) (exE L)) Q' E s := by
  k_dflt (show wpAny _ _ (exec (Stmt.If _ _ _ _) _) _ _ _)
  by_cases hc : (ik.length : Int) * 2 < xs.length
  · k_steps
    k_dflt (refine LCt.CompSrcT.ledger (by rfl) (by k_asm) (by k_asm) (by k_mem) (by rw [sizeLine_eq]; simp [vals]; omega) ?_; intro g')
    have e0 : (vals xs).size = xs.length := by simp [vals]
    rw [e0]
    refine rest_order B X T (kf := kf) (rf := rf) (hI.mono fun p hp => by repeat (first | exact hp | apply List.Mem.tail)) (.inr ⟨_, by k_mem, rfl, _, rfl⟩) ?_ xs.length 0 (by omega)
    k_steps
    with_reducible rename News h₀ _ _ _ => N9
    with_reducible rename Fr h₀ _ _ _ => F9
    rename (@Ne Nat c _ ∧ _) => o9
    obtain ⟨z1, z2, z3, z4, z5, z6, z7, z8, z9, z10, z11, z12, z13, zn⟩ := o9
    refine k_ifyL (xs := keptO rf xs) B F9 X T (by omega) (by omega) N9 (by repeat (first | exact off1_all (by with_reducible assumption) | (refine List.forall_mem_cons.mpr ⟨by with_reducible assumption, ?_⟩))) (Nat.le_trans (List.length_filter_le _ _) (by omega)) (((hI.sub fun p hp => (List.mem_filter.mp hp).1).itsIn).mono fun p hp => by repeat (first | exact hp | apply List.Mem.tail)) ?_
    intro h5 tk5 ys n5 F5 N5 P5 H5
    k_steps
    have sub : ∀ l : List (Addr × Obj), (∀ p ∈ l, p ∈ _) → News h₀ L h5 l := fun l hl p hp => N5 p (hl p hp)
    exact ret _ _ _ _ ys _ ((od, listOf (vals xs) no) :: news) F5 (sub _ (by walk_at "sub_mem")) (.inr P5) H5 (fun p hp => .tail _ hp) (fun z hz => if_neg hz) (if_pos rfl)
      (.cons z1 (.cons z2 (.cons z3 (.cons z4 (.cons z5 (.cons z6 (.cons z8 (.cons z9 (.cons z10 (.cons z11 (.cons z12 (.cons z13 .nil))))))))))))
      (List.forall_mem_cons.mpr ⟨by k_ne, n1⟩) (List.forall_mem_cons.mpr ⟨by k_ne, n2⟩) (List.forall_mem_cons.mpr ⟨by k_ne, n3⟩) (List.forall_mem_cons.mpr ⟨by k_ne, n4⟩) (List.forall_mem_cons.mpr ⟨by k_ne, off1_all zn⟩)
  · k_steps
    with_reducible rename News h₀ _ _ _ => N9
    with_reducible rename Fr h₀ _ _ _ => F9
    exact ret _ _ _ _ xs _ news F9 N9 (.inl rfl) hH (fun p hp => hp) (fun z _ => rfl) mo q n1 n2 n3 n4 n5

end
section
local macro_rules | `(tactic| walk_at "pad") => `(tactic| fail)
local macro_rules | `(tactic| walk_at "pad") => `(tactic| fail)
local macro_rules | `(tactic| walk_at "pad") => `(tactic| fail)
local macro_rules | `(tactic| walk_at "pad") => `(tactic| fail)
local macro_rules | `(tactic| walk_at "pad") => `(tactic| fail)
local macro_rules | `(tactic| walk_at "pad") => `(tactic| fail)
local macro_rules | `(tactic| walk_at "pad") => `(tactic| fail)
local macro_rules | `(tactic| walk_at "pad") => `(tactic| fail)
theorem va_without {kvs : List (Int × Value)} {k j : Int} : valueAt (without kvs k) j = if j = k then none else valueAt kvs j := by
  induction kvs with
  | nil => simp [without, valueAt]
  | cons kv r ih =>
    have h0 : valueAt (kv :: r) j = if kv.1 = j then some kv.2 else valueAt r j := by
      unfold valueAt; rw [List.find?_cons]; by_cases h : kv.1 = j <;> simp [h]
    have e1 : without (kv :: r) k = if kv.1 = k then without r k else kv :: without r k := by
      unfold without; rw [List.filter_cons]; by_cases h : kv.1 = k <;> simp [h]
    have h1 : valueAt (kv :: without r k) j = if kv.1 = j then some kv.2 else valueAt (without r k) j := by
      unfold valueAt; rw [List.find?_cons]; by_cases h : kv.1 = j <;> simp [h]
    rw [e1, h0]
    by_cases hk : kv.1 = k
    · rw [if_pos hk, ih]
      by_cases hj : j = k
      · rw [if_pos hj, if_pos hj]
      · rw [if_neg hj, if_neg hj, if_neg (by omega)]
    · rw [if_neg hk, h1, ih]
      by_cases hj : kv.1 = j
      · rw [if_pos hj, if_pos hj, if_neg (by omega)]
      · rw [if_neg hj, if_neg hj]
theorem va_stored {kvs : List (Int × Value)} {k j : Int} {v : Value} : valueAt (stored kvs k v) j = if j = k then some v else valueAt kvs j := by
  have cons : ∀ (kv : Int × Value) (r : List (Int × Value)), valueAt (kv :: r) j = if kv.1 = j then some kv.2 else valueAt r j := fun kv r => by
    unfold valueAt; rw [List.find?_cons]; by_cases h : kv.1 = j <;> simp [h]
  unfold stored
  split
  · rename_i h
    induction kvs with
    | nil => simp at h
    | cons kv r ih =>
      rw [List.map_cons, cons, cons]
      by_cases hk : kv.1 = k
      · rw [if_pos hk]
        by_cases hj : j = k
        · rw [if_pos (by show kv.1 = j; omega), if_pos hj]
        · rw [if_neg (by show ¬ kv.1 = j; omega), if_neg hj, if_neg (by omega)]
          clear ih h cons
          induction r with
          | nil => rfl
          | cons kv' r ih =>
            have cons : ∀ (kv : Int × Value) (r : List (Int × Value)), valueAt (kv :: r) j = if kv.1 = j then some kv.2 else valueAt r j := fun kv r => by
              unfold valueAt; rw [List.find?_cons]; by_cases h : kv.1 = j <;> simp [h]
            rw [List.map_cons, cons, cons, ih]
            by_cases hk' : kv'.1 = k
            · rw [if_pos hk', if_neg (by show ¬ kv'.1 = j; omega), if_neg (by omega)]
            · rw [if_neg hk']
      · rw [if_neg hk]
        have h' : (r.any fun kv => decide (kv.1 = k)) = true := by
          simp only [List.any_cons, hk, decide_false, Bool.false_or] at h; exact h
        rw [ih h']
        by_cases hj : kv.1 = j
        · rw [if_pos hj, if_neg (by omega), if_pos hj]
        · rw [if_neg hj, if_neg hj]
  · rename_i h
    induction kvs with
    | nil =>
      show valueAt [(k, v)] j = _
      rw [cons]
      by_cases hj : j = k
      · rw [if_pos hj.symm, if_pos hj]
      · rw [if_neg (fun e => hj e.symm), if_neg hj]
    | cons kv r ih =>
      rw [List.cons_append, cons, cons]
      have h2 : ¬ kv.1 = k ∧ ¬ (r.any fun kv => decide (kv.1 = k)) = true := by
        simp only [List.any_cons, Bool.or_eq_true, decide_eq_true_eq, not_or] at h; exact h
      rw [ih h2.2]
      by_cases hj : kv.1 = j
      · rw [if_pos hj, if_neg (fun e => h2.1 (hj.trans e)), if_pos hj]
      · rw [if_neg hj, if_neg hj]
theorem va_mem {kvs : List (Int × Value)} {k : Int} : (valueAt kvs k).isSome = true ↔ k ∈ kvs.map (·.1) := by
  unfold valueAt
  rw [Option.isSome_map, List.find?_isSome]
  simp
theorem without_len {kvs : List (Int × Value)} {k : Int} {v : Value} (hn : (kvs.map (·.1)).Nodup) (h : valueAt kvs k = some v) : (without kvs k).length + 1 = kvs.length := by
  induction kvs with
  | nil => simp [valueAt] at h
  | cons kv r ih =>
    rw [List.map_cons, List.nodup_cons] at hn
    have cons : valueAt (kv :: r) k = if kv.1 = k then some kv.2 else valueAt r k := by
      unfold valueAt; rw [List.find?_cons]; by_cases h : kv.1 = k <;> simp [h]
    rw [cons] at h
    by_cases hk : kv.1 = k
    · subst hk
      have : without (kv :: r) kv.1 = r := by
        unfold without; rw [List.filter_cons, if_neg (by simp)]
        exact without_of_not_mem r _ hn.1
      rw [this]; rfl
    · rw [if_neg hk] at h
      have : without (kv :: r) k = kv :: without r k := by
        unfold without; rw [List.filter_cons, if_pos (by simp [hk])]
      rw [this, List.length_cons, List.length_cons, ih hn.2 h]
/-- the live items: a place's item and its end -/
abbrev Lv := Int → Option (Addr × Int)
abbrev Lv.off (lv : Lv) (k : Int) : Lv := fun j => if j = k then none else lv j
structure Book (kf : Addr → Int) (rf : Addr → Bool) (lv : Lv) (xs : List (Addr × Int)) (ik dk : List (Int × Value)) : Prop where
  nd : (xs.map (·.1)).Nodup
  ins : ∀ k, valueAt ik k = (lv k).map fun p => Value.ref p.1
  dat : ∀ k p, lv k = some p → ∃ t, valueAt dk k = some (.int p.2 t)
  dat0 : ∀ k, lv k = none → valueAt dk k = none
  mem : ∀ k p, lv k = some p → p ∈ xs ∧ kf p.1 = k ∧ rf p.1 = false
  live : ∀ p ∈ xs, rf p.1 = false → lv (kf p.1) = some p
section
variable {kf : Addr → Int} {rf : Addr → Bool} {lv : Lv} {xs ys rest : List (Addr × Int)} {x : Addr × Int} {ik dk : List (Int × Value)}
theorem Book.perm (b : Book kf rf lv xs ik dk) (P : ys.Perm xs) : Book kf rf lv ys ik dk :=
  ⟨(P.map _).nodup_iff.mpr b.nd, b.ins, b.dat, b.dat0, fun k p h => ⟨P.mem_iff.mpr (b.mem k p h).1, (b.mem k p h).2⟩, fun p hp => b.live p (P.mem_iff.mp hp)⟩
theorem Book.kept (b : Book kf rf lv xs ik dk) (h : Kept rf xs ys) : Book kf rf lv ys ik dk := by
  rcases h with rfl | h
  · exact b
  · refine Book.perm (xs := keptO rf xs) ⟨(List.Sublist.map _ List.filter_sublist).nodup b.nd, b.ins, b.dat, b.dat0, fun k p h => ⟨List.mem_filter.mpr ⟨(b.mem k p h).1, by rw [(b.mem k p h).2.2]; rfl⟩, (b.mem k p h).2⟩, fun p hp => b.live p (List.mem_filter.mp hp).1⟩ h
theorem Book.dead (b : Book kf rf lv (x :: rest) ik dk) (hr : rf x.1 = true) : Book kf rf lv rest ik dk :=
  ⟨(List.nodup_cons.mp b.nd).2, b.ins, b.dat, b.dat0, fun k p h => by
    refine ⟨?_, (b.mem k p h).2⟩
    rcases List.mem_cons.mp (b.mem k p h).1 with rfl | h'
    · have := (b.mem k _ h).2.2; rw [hr] at this; cases this
    · exact h', fun p hp => b.live p (.tail _ hp)⟩
theorem Book.pop (b : Book kf rf lv (x :: rest) ik dk) (hr : rf x.1 = false) : Book kf rf (lv.off (kf x.1)) rest (without ik (kf x.1)) (without dk (kf x.1)) := by
  have hx := b.live x (.head _) hr
  refine ⟨(List.nodup_cons.mp b.nd).2, fun k => ?_, fun k p h => ?_, fun k h => ?_, fun k p h => ?_, fun p hp hp' => ?_⟩
  · rw [va_without, b.ins]
    by_cases hk : k = kf x.1 <;> simp [hk, Lv.off]
  · by_cases hk : k = kf x.1
    · simp [Lv.off, hk] at h
    · simp only [Lv.off, hk, if_false] at h
      rw [va_without, if_neg hk]; exact b.dat k p h
  · rw [va_without]
    by_cases hk : k = kf x.1
    · rw [if_pos hk]
    · rw [if_neg hk]
      simp only [Lv.off, hk, if_false] at h
      exact b.dat0 k h
  · by_cases hk : k = kf x.1
    · simp [Lv.off, hk] at h
    · simp only [Lv.off, hk, if_false] at h
      have m := b.mem k p h
      refine ⟨?_, m.2⟩
      rcases List.mem_cons.mp m.1 with rfl | h'
      · exact absurd m.2.1.symm hk
      · exact h'
  · have l := b.live p (.tail _ hp) hp'
    have : kf p.1 ≠ kf x.1 := fun e => by
      rw [e, hx] at l
      have e2 : p = x := (Option.some.inj l).symm
      exact (List.nodup_cons.mp b.nd).1 (List.mem_map.mpr ⟨p, hp, by rw [e2]⟩)
    simp only [Lv.off, this, if_false]; exact l
end
theorem hp_at {xs : List (Addr × Int)} (H : HP xs 0) : ∀ i, i < xs.length → ky xs 0 ≤ ky xs i := by
  intro i
  induction i using Nat.strongRecOn with
  | ind i ih =>
    intro h
    rcases Nat.eq_zero_or_pos i with rfl | h0
    · exact Int.le_refl _
    · exact Int.le_trans (ih ((i - 1) / 2) (by omega) (by omega)) (H i h0 h (Nat.zero_le _))
theorem hp_min {x : Addr × Int} {rest : List (Addr × Int)} (H : HP (x :: rest) 0) : ∀ p ∈ x :: rest, x.2 ≤ p.2 := fun p hp => by
  obtain ⟨i, hi⟩ := List.getElem?_of_mem hp
  have h := hp_at H i (List.getElem?_eq_some_iff.mp hi).1
  rw [ky_of hi] at h
  exact h
/-- what has been told so far, of the live items lv0 ahead -/
structure Told (lv0 lv : Lv) (H : Int) (told : List (Int × Int)) : Prop where
  nd : (told.map (·.1)).Nodup
  is : ∀ q ∈ told, lv q.1 = none ∧ ∃ a, lv0 q.1 = some (a, q.2) ∧ q.2 ≤ H
  or : ∀ k, lv k = lv0 k ∨ ∃ q ∈ told, q.1 = k
theorem Told.start (lv : Lv) (H : Int) : Told lv lv H [] := ⟨.nil, (fun _ h => (nomatch h)), fun _ => .inl rfl⟩
theorem Told.pop {lv0 lv : Lv} {H : Int} {told : List (Int × Int)} {k : Int} {p : Addr × Int} (t : Told lv0 lv H told) (h : lv k = some p) (hH : p.2 ≤ H) : Told lv0 (lv.off k) H (told ++ [(k, p.2)]) := by
  have hk : ∀ q ∈ told, q.1 ≠ k := fun q hq e => by
    have := (t.is q hq).1; rw [e, h] at this; cases this
  refine ⟨?_, fun q hq => ?_, fun j => ?_⟩
  · rw [List.map_append, List.nodup_append]
    refine ⟨t.nd, by simp, fun a ha b hb => ?_⟩
    simp only [List.map_cons, List.map_nil, List.mem_singleton] at hb
    obtain ⟨q, hq, rfl⟩ := List.mem_map.mp ha
    rw [hb]; exact hk q hq
  · rcases List.mem_append.mp hq with hq | hq
    · refine ⟨?_, (t.is q hq).2⟩
      simp only [Lv.off]; split
      · rfl
      · exact (t.is q hq).1
    · rw [List.mem_singleton.mp hq]
      refine ⟨by simp [Lv.off], p.1, ?_, hH⟩
      rcases t.or k with e | ⟨q, hq, e⟩
      · rw [← e]; exact h
      · exact absurd e (hk q hq)
  · by_cases hj : j = k
    · exact .inr ⟨(k, p.2), List.mem_append_right _ (.head _), hj.symm⟩
    · rcases t.or j with e | ⟨q, hq, e⟩
      · exact .inl (by simp [Lv.off, hj, e])
      · exact .inr ⟨q, List.mem_append_left _ hq, e⟩

end
section

theorem k_pop (B : Below A₀ base outer h₀) (F : Fr h₀ L s.heap m) (X : (K w.params).In h₀) (T : Top p loose mean mg mb h₀)
    (hd : dp + 10 < recursionLimit) (hu : un + 3 < cLine) {od : Addr} {n : Nat} {x : Addr × Int} {rest : List (Addr × Int)} {g : Obj → List (Addr × Obj)} (N : News h₀ L s.heap news)
    (U : UpdF od (listOf (vals (x :: rest)) n) news g) (hz : rest.length ≤ 900) (hI : ItsIn (x :: rest) news) (H : HP (x :: rest) 0)
    (ret : ∀ h' tk' ys, Fr h₀ L h' m → News h₀ L h' (g (listOf (vals ys) (n + 1))) → ys.Perm rest → HP ys 0 → Q (.ref x.1) { s with heap := h', toks := tk' }) :
    wpAny (model prog w) (ktrTop dp un gd cn (fsc nms sg sc mo) L a ccd cl outer) (call (.builtin "_heapq.heappop") [.ref od]) Q E s := by
  cases hl : rest.getLast? with
  | none =>
    have : rest = [] := List.getLast?_eq_none_iff.mp hl
    subst this
    exact k_pop1 F N U fun h' F' N' => ret h' _ [] F' N' (.refl _) (fun i h1 h2 => by simp at h2)
  | some l => exact k_pop2 B F X T hd hu N U hz hI hl H ret
abbrev tup2 (k v : Value) : Obj := { cls := .type "tuple", data := .seq #[k, v] }
def TupsIn (ts : List (Addr × (Int × Int))) (news : List (Addr × Obj)) : Prop := ∀ q ∈ ts, ∃ t t', (q.1, tup2 (.int q.2.1 t) (.int q.2.2 t')) ∈ news
abbrev tupRefs (ts : List (Addr × (Int × Int))) : Array Value := (ts.map fun q => Value.ref q.1).toArray

set_option maxHeartbeats 4000000 in
theorem ex_loop (B : Below A₀ base outer h₀) (F : Fr h₀ L s.heap m) (X : (K w.params).In h₀) {c dc tm dt da di od clk cc hc hl ttu tc : Addr} {t1 t2 t3 t4 t5 t6 t7 u1 u2 u3 tk0 tH tv1 tv2 : Tok} {cur mx nst time doc1 pm1 ct1 doc2 pm2 ct2 : Value} {oda odi oor occ och otc : Obj} {H : Int} {nh : Nat} {vs1 vs2 : Array Value} {cN pN : Addr} {ik₀ dk₀ : List (Int × Value)}
    {xs₀ : List (Addr × Int)} {no₀ : Nat} {kf : Addr → Int} {rf : Addr → Bool} {lv₀ : Lv} {tcur₀ tt : Tok} {le : Addr} {ne₀ : Nat} {Q' : Flow → Shared → Prop}
    (N : News h₀ L s.heap ((le, listOf #[] ne₀) :: (c, instObj 1231 dc) :: (dc, calD w.params t1 t2 t3 t4 t5 t6 t7 (.ref da) (.int dk₀.length tcur₀) mx (.ref tm) (.ref di) (.ref od) (.ref ttu)) :: (tm, instObj 922 dt) ::
      (dt, tmD w.params u1 u2 u3 (.ref clk) nst time) :: (da, oda) :: (di, odi) :: (od, (listOf (vals xs₀) no₀)) :: (clk, clkO hc doc1 pm1 cc ct1) :: (cc, occ) :: (hc, och) :: (hl, listOf #[.int H tH] nh) :: (ttu, endO doc2 pm2 tc ct2) :: (tc, otc) :: news)) (T : Top p loose mean mg mb h₀)
    (hd : dp + 20 < recursionLimit) (hu : un + 60 < cLine) (hoc : occ.data = .fields vs1) (hoc1 : vs1[1]? = some (.str "law.<locals>.clock" tv1)) (hch : och.data = .cell (some (.ref hl))) (hot : otc.data = .fields vs2) (hot1 : vs2[1]? = some (.str "law.<locals>.end" tv2)) (hCd : CodeHd h₀ cN pN) (o1 : @LT.lt Nat instLTNat hc hl) (o2 : @LT.lt Nat instLTNat hl cc) (o3 : @LT.lt Nat instLTNat cc clk) (o4 : @LT.lt Nat instLTNat clk tc) (o5 : @LT.lt Nat instLTNat tc ttu) (o6 : @LT.lt Nat instLTNat ttu dc) (o7 : @LT.lt Nat instLTNat dc c) (o8 : @LT.lt Nat instLTNat c da) (o9 : @LT.lt Nat instLTNat da dt) (o10 : @LT.lt Nat instLTNat dt tm) (o11 : @LT.lt Nat instLTNat tm di) (q : AllAp od [c, dc, tm, dt, da, di, clk, cc, hc, hl, ttu, tc]) (n1 : ∀ p ∈ news, p.1 ≠ dc) (n2 : ∀ p ∈ news, p.1 ≠ da) (n3 : ∀ p ∈ news, p.1 ≠ dt) (n4 : ∀ p ∈ news, p.1 ≠ di) (n5 : ∀ p ∈ news, p.1 ≠ od) (lda : (da == sysModules) = false) (ldi : (di == sysModules) = false) (qe : AllAp le [c, dc, tm, dt, da, di, od, clk, cc, hc, hl, ttu, tc]) (ne1 : ∀ p ∈ news, p.1 ≠ le)
    (hda₀ : DOf prog w oda dk₀) (hdi₀ : DOf prog w odi ik₀) (hil₀ : ik₀.length ≤ 100) (hdl₀ : dk₀.length ≤ 100) {xz : Nat} (hxz : xz ≤ 900) (hxl₀ : xs₀.length ≤ xz) (hI₀ : Its kf rf xs₀ news) (hH₀ : HP xs₀ 0) (hb₀ : Book kf rf lv₀ xs₀ ik₀ dk₀)
    (ms : m "self" = some (.ref c)) (mi : m "items" = some (.ref di)) (mo : m "order" = some (.ref od)) (mt : m "time" = some (.int H tt)) (me : m "expired" = some (.ref le)) (md : m "cache_delitem" = some (.ref 770)) (mg' : m "cache_getitem" = some (.ref 756))
    (hE : PassesOwn (model prog w) (exA dp un gd L outer) (exE L) E)
    (ret : ∀ h' tk' (xs : List (Addr × Int)) (no : Nat) (oda odi : Obj) (ik dk : List (Int × Value)) (tcur : Tok) (ts : List (Addr × (Int × Int))) (ne : Nat) (lv : Lv) (tl : List (Addr × Obj)) (m' : Str → Option Value),
      Fr h₀ L h' m' → News h₀ L h' ((le, listOf (tupRefs ts) ne) :: (c, instObj 1231 dc) :: (dc, calD w.params t1 t2 t3 t4 t5 t6 t7 (.ref da) (.int dk.length tcur) mx (.ref tm) (.ref di) (.ref od) (.ref ttu)) :: (tm, instObj 922 dt) ::
      (dt, tmD w.params u1 u2 u3 (.ref clk) nst time) :: (da, oda) :: (di, odi) :: (od, (listOf (vals xs) no)) :: (clk, clkO hc doc1 pm1 cc ct1) :: (cc, occ) :: (hc, och) :: (hl, listOf #[.int H tH] nh) :: (ttu, endO doc2 pm2 tc ct2) :: (tc, otc) :: tl) → HP xs 0 → Book kf rf lv xs ik dk → DOf prog w oda dk → DOf prog w odi ik → Told lv₀ lv H (ts.map (·.2)) → TupsIn ts tl → Its kf rf xs tl → (∀ p ∈ news, p ∈ tl) →
      (∀ p ∈ tl, p.1 ≠ dc) → (∀ p ∈ tl, p.1 ≠ da) → (∀ p ∈ tl, p.1 ≠ dt) → (∀ p ∈ tl, p.1 ≠ di) → (∀ p ∈ tl, p.1 ≠ od) → (∀ p ∈ tl, p.1 ≠ le) → ik.length ≤ 100 → dk.length ≤ 100 → xs.length ≤ xz → ts.length + xs.length ≤ xz → (∀ z : Str, z ≠ "item" → m' z = m z) →
      (∀ k p, lv k = some p → H < p.2) → Q' .next { s with heap := h', toks := tk' }) :
    wpAny (model prog w) (exA dp un gd L outer) (exec (at_ Fn.f_TLRUCache_expire.body 8) (exE L)) Q' E s := by
  k_dflt (show wpAny _ _ (exec (Stmt.While _ _ [] _) _) _ _ _)
  refine While_inv2 (fun n m' nx => ∃ (xs : List (Addr × Int)) (no : Nat) (oda odi : Obj) (ik dk : List (Int × Value)) (tcur : Tok) (ts : List (Addr × (Int × Int))) (ne : Nat) (lv : Lv) (tl : List (Addr × Obj)),
    nx = ((le, listOf (tupRefs ts) ne) :: (c, instObj 1231 dc) :: (dc, calD w.params t1 t2 t3 t4 t5 t6 t7 (.ref da) (.int dk.length tcur) mx (.ref tm) (.ref di) (.ref od) (.ref ttu)) :: (tm, instObj 922 dt) ::
      (dt, tmD w.params u1 u2 u3 (.ref clk) nst time) :: (da, oda) :: (di, odi) :: (od, (listOf (vals xs) no)) :: (clk, clkO hc doc1 pm1 cc ct1) :: (cc, occ) :: (hc, och) :: (hl, listOf #[.int H tH] nh) :: (ttu, endO doc2 pm2 tc ct2) :: (tc, otc) :: tl) ∧ n = xs.length ∧ (HP xs 0 ∧ Book kf rf lv xs ik dk ∧ DOf prog w oda dk ∧ DOf prog w odi ik ∧ Told lv₀ lv H (ts.map (·.2)) ∧ TupsIn ts tl ∧ Its kf rf xs tl) ∧ (∀ p ∈ news, p ∈ tl) ∧
    ((∀ p ∈ tl, p.1 ≠ dc) ∧ (∀ p ∈ tl, p.1 ≠ da) ∧ (∀ p ∈ tl, p.1 ≠ dt) ∧ (∀ p ∈ tl, p.1 ≠ di) ∧ (∀ p ∈ tl, p.1 ≠ od) ∧ (∀ p ∈ tl, p.1 ≠ le)) ∧ (ik.length ≤ 100 ∧ dk.length ≤ 100 ∧ xs.length ≤ xz ∧ ts.length + xs.length ≤ xz) ∧ ∀ z : Str, z ≠ "item" → m' z = m z)
    F N ⟨xs₀, no₀, oda, odi, ik₀, dk₀, tcur₀, [], ne₀, lv₀, news, rfl, rfl, ⟨hH₀, hb₀, hda₀, hdi₀, .start _ _, fun _ h => (nomatch h), hI₀⟩, fun _ h => h, ⟨n1, n2, n3, n4, n5, ne1⟩, ⟨hil₀, hdl₀, hxl₀, by simpa using hxl₀⟩, fun _ _ => rfl⟩ ?_ hE
  clear N F n1 n2 n3 n4 n5 ne1 hda₀ hdi₀ hil₀ hdl₀ hxl₀ hI₀ hH₀ hb₀
  rintro n m₁ news₁ h₁ tk₁ F N ⟨xs, no, oda, odi, ik, dk, tcur, ts, ne, lv, tl, rfl, rfl, ⟨hH, hb, hda, hdi, hT, htu, hI⟩, hsub, ⟨n1, n2, n3, n4, n5, n6⟩, ⟨hil, hdl, hxl, htl⟩, hm⟩
  replace ms := (hm "self" (by decide)).trans ms
  replace mi := (hm "items" (by decide)).trans mi
  replace mo := (hm "order" (by decide)).trans mo
  replace mt := (hm "time" (by decide)).trans mt
  replace me := (hm "expired" (by decide)).trans me
  replace md := (hm "cache_delitem" (by decide)).trans md
  replace mg' := (hm "cache_getitem" (by decide)).trans mg'
  cases xs with
  | nil =>
    k_steps
    exact ret _ _ [] _ _ _ _ _ _ _ _ _ _ _ F N hH hb hda hdi hT htu hI hsub n1 n2 n3 n4 n5 n6 hil hdl hxl (by omega) hm (fun k p h => by have := (hb.mem k p h).1; cases this)
  | cons x rest =>
    obtain ⟨dx, te, tk, hx, hdx⟩ := hI x (.head _)
    have hlen : rest.length + 1 = (x :: rest).length := rfl
    cases hr : rf x.1 with
    | true =>
      rw [hr] at hx
      k_steps
      refine k_pop B F X T (by omega) (by omega) N (by k_updF) (by omega) (hI.itsIn.mono (by walk_at "sub_tail")) hH ?_
      intro h5 tk5 ys F5 N5 P5 H5
      (try dsimp only at N5)
      clear N F
      k_steps
      with_reducible rename News h₀ L _ _ => N9
      with_reducible rename Fr h₀ L _ _ => F9
      have hys : ys.length = rest.length := P5.length_eq
      exact ⟨_, _, _, _, ys.length, rfl, F9, N9, by omega, ys, no + 1, oda, odi, ik, dk, tcur, ts, ne, lv, tl, rfl, rfl, ⟨H5, (hb.dead hr).perm P5, hda, hdi, hT, htu, hI.sub fun p hp => .tail _ (P5.mem_iff.mp hp)⟩, hsub, ⟨n1, n2, n3, n4, n5, n6⟩, ⟨hil, hdl, by omega, by omega⟩, fun z hz => (if_neg hz).trans (hm z hz)⟩
    | false =>
      rw [hr] at hx
      by_cases hle : H < x.2
      · k_steps
        exact ret _ _ (x :: rest) _ _ _ _ _ _ _ _ _ _ _ F N hH hb hda hdi hT htu hI hsub n1 n2 n3 n4 n5 n6 hil hdl hxl htl hm (fun k p h => Int.lt_of_lt_of_le hle (hp_min hH p (hb.mem k p h).1))
      · k_steps
        refine k_pop B F X T (by omega) (by omega) N (by k_updF) (by omega) (hI.itsIn.mono (by walk_at "sub_tail")) hH ?_
        intro h5 tk5 ys F5 N5 P5 H5
        (try dsimp only at N5)
        clear N F
        obtain ⟨t9, hdat⟩ := hb.dat _ _ (hb.live x (.head _) hr)
        have hins : (valueAt ik (kf x.1)).isSome = true := by rw [hb.ins, hb.live x (.head _) hr]; rfl
        have hins2 : (valueAt dk (kf x.1)).isSome = true := by rw [hdat]; rfl
        k_steps
        with_reducible rename News h₀ L _ _ => N9
        with_reducible rename Fr h₀ L _ _ => F9
        rename (AllLt _ tl) => hlt
        rename Addr => Z9
        rename_i D9 _ _ _ _ _ _ _ _ _ _ _ _ _ _ _ _ _ _ _ h9 o9 hd9
        have hys : ys.length = rest.length := P5.length_eq
        have e1 : tupRefs (ts ++ [(D9, (kf x.1, x.2))]) = (tupRefs ts).push (.ref D9) := by simp [tupRefs]
        have hnd : (dk.map (·.1)).Nodup := by obtain ⟨es, ep, _, _, _, _, h⟩ := hda; exact h
        have hle2 := without_len hnd hdat
        have e2 : (((without dk (kf x.1)).length : Nat) : Int) = dk.length - 1 := by omega
        obtain ⟨tq, tz, oda', odi', hda', hdi', N10⟩ : ∃ (tq tz : Tok) (oda' odi' : Obj), DOf prog w oda' (without dk (kf x.1)) ∧ DOf prog w odi' (without ik (kf x.1)) ∧ News h₀ L h9 ((le, listOf (tupRefs (ts ++ [(D9, (kf x.1, x.2))])) (ne + 1)) :: (c, instObj 1231 dc) :: (dc, calD w.params t1 t2 t3 t4 t5 t6 t7 (.ref da) (.int (without dk (kf x.1)).length tz) mx (.ref tm) (.ref di) (.ref od) (.ref ttu)) :: (tm, instObj 922 dt) ::
      (dt, tmD w.params u1 u2 u3 (.ref clk) nst time) :: (da, oda') :: (di, odi') :: (od, (listOf (vals ys) (no + 1))) :: (clk, clkO hc doc1 pm1 cc ct1) :: (cc, occ) :: (hc, och) :: (hl, listOf #[.int H tH] nh) :: (ttu, endO doc2 pm2 tc ct2) :: (tc, otc) :: ((D9, tup2 (.int (kf x.1) tq) (.int x.2 t9)) :: tl)) := by
          have sub : ∀ l : List (Addr × Obj), (∀ p ∈ l, p ∈ _) → News h₀ L h9 l := fun l hl p hp => N9 p (hl p hp)
          exact ⟨_, _, _, _, by assumption, by assumption, by rw [e1, e2]; exact sub _ (by walk_at "sub_mem")⟩
        refine ⟨_, _, _, _, ys.length, rfl, F9, N10, by omega, ys, no + 1, oda', odi', without ik (kf x.1), without dk (kf x.1), tz, ts ++ [(D9, (kf x.1, x.2))], ne + 1, lv.off (kf x.1), (D9, tup2 (.int (kf x.1) tq) (.int x.2 t9)) :: tl, rfl, rfl, ⟨H5, ((hb.pop hr).perm P5), hda', hdi', ?_, ?_, ?_⟩, fun p hp => .tail _ (hsub p hp), ⟨List.forall_mem_cons.mpr ⟨by k_ne, n1⟩, List.forall_mem_cons.mpr ⟨by k_ne, n2⟩, List.forall_mem_cons.mpr ⟨by k_ne, n3⟩, List.forall_mem_cons.mpr ⟨by k_ne, n4⟩, List.forall_mem_cons.mpr ⟨by k_ne, n5⟩, List.forall_mem_cons.mpr ⟨by k_ne, n6⟩⟩, ⟨wl hil, wl hdl, by omega, by simp; omega⟩, fun z hz => (if_neg hz).trans (hm z hz)⟩
        · rw [List.map_append]
          exact hT.pop (hb.live x (.head _) hr) (by omega)
        · intro q hq
          rcases List.mem_append.mp hq with hq | hq
          · obtain ⟨t, t', h⟩ := htu q hq; exact ⟨t, t', .tail _ h⟩
          · rw [List.mem_singleton.mp hq]; exact ⟨_, _, .head _⟩
        · exact (hI.sub fun p hp => .tail _ (P5.mem_iff.mp hp)).mono fun p hp => .tail _ hp

end
section
local macro_rules | `(tactic| walk_at "pad") => `(tactic| fail)
local macro_rules | `(tactic| walk_at "pad") => `(tactic| fail)
local macro_rules | `(tactic| walk_at "pad") => `(tactic| fail)
local macro_rules | `(tactic| walk_at "pad") => `(tactic| fail)
local macro_rules | `(tactic| walk_at "pad") => `(tactic| fail)
local macro_rules | `(tactic| walk_at "pad") => `(tactic| fail)

def Stop (P : Prop) : Prop := P
theorem stop_here {P : Prop} (h : Stop P) : P := h
theorem Stop.go {P : Prop} (h : P) : Stop P := h
local macro_rules | `(tactic| walk_at "exec While") => `(tactic| (k_here; refine stop_here ?_))
local macro_rules | `(tactic| walk_at "exec While BoolOp") => `(tactic| (k_here; refine stop_here ?_))
local macro_rules | `(tactic| walk_at "last exec While") => `(tactic| (k_here; refine stop_here ?_))

set_option maxHeartbeats 4000000 in
theorem ex_rest (B : Below A₀ base outer h₀) (F : Fr h₀ L s.heap m) (X : (K w.params).In h₀) {c dc tm dt da di od clk cc hc hl ttu tc : Addr} {t1 t2 t3 t4 t5 t6 t7 u1 u2 u3 tk0 tH tv1 tv2 : Tok} {cur mx nst time doc1 pm1 ct1 doc2 pm2 ct2 : Value} {oda odi oor occ och otc : Obj} {H : Int} {nh : Nat} {vs1 vs2 : Array Value} {cN pN : Addr} {ik₀ dk₀ : List (Int × Value)}
    {xs₀ : List (Addr × Int)} {no₀ : Nat} {kf : Addr → Int} {rf : Addr → Bool} {lv₀ : Lv} {tcur₀ tt : Tok} {Q' : Flow → Shared → Prop}
    (N : News h₀ L s.heap ((c, instObj 1231 dc) :: (dc, calD w.params t1 t2 t3 t4 t5 t6 t7 (.ref da) (.int dk₀.length tcur₀) mx (.ref tm) (.ref di) (.ref od) (.ref ttu)) :: (tm, instObj 922 dt) ::
      (dt, tmD w.params u1 u2 u3 (.ref clk) nst time) :: (da, oda) :: (di, odi) :: (od, (listOf (vals xs₀) no₀)) :: (clk, clkO hc doc1 pm1 cc ct1) :: (cc, occ) :: (hc, och) :: (hl, listOf #[.int H tH] nh) :: (ttu, endO doc2 pm2 tc ct2) :: (tc, otc) :: news)) (T : Top p loose mean mg mb h₀)
    (hd : dp + 20 < recursionLimit) (hu : un + 60 < cLine) (hoc : occ.data = .fields vs1) (hoc1 : vs1[1]? = some (.str "law.<locals>.clock" tv1)) (hch : och.data = .cell (some (.ref hl))) (hot : otc.data = .fields vs2) (hot1 : vs2[1]? = some (.str "law.<locals>.end" tv2)) (hCd : CodeHd h₀ cN pN) (o1 : @LT.lt Nat instLTNat hc hl) (o2 : @LT.lt Nat instLTNat hl cc) (o3 : @LT.lt Nat instLTNat cc clk) (o4 : @LT.lt Nat instLTNat clk tc) (o5 : @LT.lt Nat instLTNat tc ttu) (o6 : @LT.lt Nat instLTNat ttu dc) (o7 : @LT.lt Nat instLTNat dc c) (o8 : @LT.lt Nat instLTNat c da) (o9 : @LT.lt Nat instLTNat da dt) (o10 : @LT.lt Nat instLTNat dt tm) (o11 : @LT.lt Nat instLTNat tm di) (q : AllAp od [c, dc, tm, dt, da, di, clk, cc, hc, hl, ttu, tc]) (n1 : ∀ p ∈ news, p.1 ≠ dc) (n2 : ∀ p ∈ news, p.1 ≠ da) (n3 : ∀ p ∈ news, p.1 ≠ dt) (n4 : ∀ p ∈ news, p.1 ≠ di) (n5 : ∀ p ∈ news, p.1 ≠ od) (lda : (da == sysModules) = false) (ldi : (di == sysModules) = false)
    (hda₀ : DOf prog w oda dk₀) (hdi₀ : DOf prog w odi ik₀) (hil₀ : ik₀.length ≤ 100) (hdl₀ : dk₀.length ≤ 100) {xz : Nat} (hxz : xz ≤ 900) (hxl₀ : xs₀.length ≤ xz) (hI₀ : Its kf rf xs₀ news) (hH₀ : HP xs₀ 0) (hb₀ : Book kf rf lv₀ xs₀ ik₀ dk₀)
    (ms : m "self" = some (.ref c)) (mi : m "items" = some (.ref di)) (mo : m "order" = some (.ref od)) (mt : m "time" = some (.int H tt))
    (hE : PassesOwn (model prog w) (exA dp un gd L outer) (exE L) E)
    (ret : ∀ h' tk' (xs : List (Addr × Int)) (no : Nat) (oda odi : Obj) (ik dk : List (Int × Value)) (tcur : Tok) (ts : List (Addr × (Int × Int))) (ne : Nat) (lv : Lv) (tl : List (Addr × Obj)) (m' : Str → Option Value) (od' le : Addr),
      Fr h₀ L h' m' → News h₀ L h' ((le, listOf (tupRefs ts) ne) :: (c, instObj 1231 dc) :: (dc, calD w.params t1 t2 t3 t4 t5 t6 t7 (.ref da) (.int dk.length tcur) mx (.ref tm) (.ref di) (.ref od') (.ref ttu)) :: (tm, instObj 922 dt) ::
      (dt, tmD w.params u1 u2 u3 (.ref clk) nst time) :: (da, oda) :: (di, odi) :: (od', (listOf (vals xs) no)) :: (clk, clkO hc doc1 pm1 cc ct1) :: (cc, occ) :: (hc, och) :: (hl, listOf #[.int H tH] nh) :: (ttu, endO doc2 pm2 tc ct2) :: (tc, otc) :: tl) → HP xs 0 → Book kf rf lv xs ik dk → DOf prog w oda dk → DOf prog w odi ik → Told lv₀ lv H (ts.map (·.2)) → TupsIn ts tl → Its kf rf xs tl → (∀ p ∈ news, p ∈ tl) →
      (∀ p ∈ tl, p.1 ≠ dc) → (∀ p ∈ tl, p.1 ≠ da) → (∀ p ∈ tl, p.1 ≠ dt) → (∀ p ∈ tl, p.1 ≠ di) → (∀ p ∈ tl, p.1 ≠ od') → (∀ p ∈ tl, p.1 ≠ le) → AllAp od' [c, dc, tm, dt, da, di, clk, cc, hc, hl, ttu, tc] → AllAp le [c, dc, tm, dt, da, di, od', clk, cc, hc, hl, ttu, tc] →
      ik.length ≤ 100 → dk.length ≤ 100 → xs.length ≤ xz → ts.length + xs.length ≤ xz →
      (∀ k p, lv k = some p → H < p.2) → Q' (.ret (.ref le)) { s with heap := h', toks := tk' }) :
    wpAny (model prog w) (exA dp un gd L outer) (execs (Fn.f_TLRUCache_expire.body.drop 5) (exE L)) Q' E s := by
  k_dflt (show wpAny _ _ (execs (_ :: _ :: _ :: _ :: [_]) _) _ _ _)
  k_steps
  refine Stop.go ?_
  with_reducible rename News h₀ L _ _ => N9
  with_reducible rename Fr h₀ L _ _ => F9
  rename (AllLt _ news) => hlt
  k_dflt (refine ex_loop (ne₀ := 0) (oor := oor) (cur := cur) (tk0 := tk0) B F9 X N9 T hd hu hoc hoc1 hch hot hot1 hCd o1 o2 o3 o4 o5 o6 o7 o8 o9 o10 o11 q n1 n2 n3 n4 n5 lda ldi ?_ (neAll hlt) hda₀ hdi₀ hil₀ hdl₀ hxz hxl₀ hI₀ hH₀ hb₀ (by exact ms) (by exact mi) (by exact mo) (by exact mt) (by exact rfl) (by exact rfl) (by exact rfl) hE ?_)
  · repeat (first | exact AllAp.nil | refine AllAp.cons (by k_ne) ?_)
  · intro h' tk' xs no oda' odi' ik dk tcur ts ne lv tl m' F5 N5 H5 b5 hda5 hdi5 T5 tu5 I5 sub5 z1 z2 z3 z4 z5 z6 w1 w2 w3 w4 hm5 fin5
    have me5 : m' "expired" = some _ := hm5 "expired" (by decide)
    k_steps
    with_reducible rename News h₀ L _ _ => N9
    with_reducible rename Fr h₀ L _ _ => F9
    exact ret _ _ xs no oda' odi' ik dk tcur ts ne lv tl _ od _ F9 N9 H5 b5 hda5 hdi5 T5 tu5 I5 sub5 z1 z2 z3 z4 z5 z6 q (by repeat (first | exact AllAp.nil | refine AllAp.cons (by k_ne) ?_)) w1 w2 w3 w4 fin5

end
section

local macro_rules | `(tactic| walk_at "exec If") => `(tactic| (k_here; (with_reducible show wpAny _ _ (exec (Stmt.If (Expr.Compare (Expr.Call _ _ _ _) _ _ _) _ _ _) _) _ _ _); refine stop_here ?_))
local macro_rules | `(tactic| walk_at "execs cons") => `(tactic| (k_here; (with_reducible show wpAny _ _ (execs (Stmt.Assign [Expr.Name (PySem.Str.ofString "expired") _] _ _ :: _) _) _ _ _); refine stop_here ?_))
set_option maxHeartbeats 4000000 in
theorem ex_main (B : Below A₀ base outer h₀) (F : Fr h₀ L s.heap m) (X : (K w.params).In h₀) {c dc tm dt da di od clk cc hc hl ttu tc : Addr} {t1 t2 t3 t4 t5 t6 t7 u1 u2 u3 tk0 tH tv1 tv2 : Tok} {cur mx nst time doc1 pm1 ct1 doc2 pm2 ct2 : Value} {oda odi oor occ och otc : Obj} {H : Int} {nh : Nat} {vs1 vs2 : Array Value} {cN pN : Addr} {ik₀ dk₀ : List (Int × Value)}
    {xs₀ : List (Addr × Int)} {no₀ : Nat} {kf : Addr → Int} {rf : Addr → Bool} {lv₀ : Lv} {tcur₀ tt : Tok} {Q' : Flow → Shared → Prop}
    (N : News h₀ L s.heap ((c, instObj 1231 dc) :: (dc, calD w.params t1 t2 t3 t4 t5 t6 t7 (.ref da) (.int dk₀.length tcur₀) mx (.ref tm) (.ref di) (.ref od) (.ref ttu)) :: (tm, instObj 922 dt) ::
      (dt, tmD w.params u1 u2 u3 (.ref clk) nst time) :: (da, oda) :: (di, odi) :: (od, (listOf (vals xs₀) no₀)) :: (clk, clkO hc doc1 pm1 cc ct1) :: (cc, occ) :: (hc, och) :: (hl, listOf #[.int H tH] nh) :: (ttu, endO doc2 pm2 tc ct2) :: (tc, otc) :: news)) (T : Top p loose mean mg mb h₀)
    (hd : dp + 20 < recursionLimit) (hu : un + 60 < cLine) (hoc : occ.data = .fields vs1) (hoc1 : vs1[1]? = some (.str "law.<locals>.clock" tv1)) (hch : och.data = .cell (some (.ref hl))) (hot : otc.data = .fields vs2) (hot1 : vs2[1]? = some (.str "law.<locals>.end" tv2)) (hCd : CodeHd h₀ cN pN) (o1 : @LT.lt Nat instLTNat hc hl) (o2 : @LT.lt Nat instLTNat hl cc) (o3 : @LT.lt Nat instLTNat cc clk) (o4 : @LT.lt Nat instLTNat clk tc) (o5 : @LT.lt Nat instLTNat tc ttu) (o6 : @LT.lt Nat instLTNat ttu dc) (o7 : @LT.lt Nat instLTNat dc c) (o8 : @LT.lt Nat instLTNat c da) (o9 : @LT.lt Nat instLTNat da dt) (o10 : @LT.lt Nat instLTNat dt tm) (o11 : @LT.lt Nat instLTNat tm di) (q : AllAp od [c, dc, tm, dt, da, di, clk, cc, hc, hl, ttu, tc]) (n1 : ∀ p ∈ news, p.1 ≠ dc) (n2 : ∀ p ∈ news, p.1 ≠ da) (n3 : ∀ p ∈ news, p.1 ≠ dt) (n4 : ∀ p ∈ news, p.1 ≠ di) (n5 : ∀ p ∈ news, p.1 ≠ od) (lda : (da == sysModules) = false) (ldi : (di == sysModules) = false)
    (hda₀ : DOf prog w oda dk₀) (hdi₀ : DOf prog w odi ik₀) (hil₀ : ik₀.length ≤ 100) (hdl₀ : dk₀.length ≤ 100) {xz : Nat} (hxz : xz ≤ 900) (hxl₀ : xs₀.length ≤ xz) (hI₀ : Its kf rf xs₀ news) (hH₀ : HP xs₀ 0) (hb₀ : Book kf rf lv₀ xs₀ ik₀ dk₀)
    (ms : m "self" = some (.ref c)) (mt : m "time" = some (.int H tt))
    (hE : PassesOwn (model prog w) (exA dp un gd L outer) (exE L) E)
    (ret : ∀ h' tk' (xs : List (Addr × Int)) (no : Nat) (oda odi : Obj) (ik dk : List (Int × Value)) (tcur : Tok) (ts : List (Addr × (Int × Int))) (ne : Nat) (lv : Lv) (tl : List (Addr × Obj)) (m' : Str → Option Value) (od' le : Addr),
      Fr h₀ L h' m' → News h₀ L h' ((le, listOf (tupRefs ts) ne) :: (c, instObj 1231 dc) :: (dc, calD w.params t1 t2 t3 t4 t5 t6 t7 (.ref da) (.int dk.length tcur) mx (.ref tm) (.ref di) (.ref od') (.ref ttu)) :: (tm, instObj 922 dt) ::
      (dt, tmD w.params u1 u2 u3 (.ref clk) nst time) :: (da, oda) :: (di, odi) :: (od', (listOf (vals xs) no)) :: (clk, clkO hc doc1 pm1 cc ct1) :: (cc, occ) :: (hc, och) :: (hl, listOf #[.int H tH] nh) :: (ttu, endO doc2 pm2 tc ct2) :: (tc, otc) :: tl) → HP xs 0 → Book kf rf lv xs ik dk → DOf prog w oda dk → DOf prog w odi ik → Told lv₀ lv H (ts.map (·.2)) → TupsIn ts tl → Its kf rf xs tl → (∀ p ∈ news, p ∈ tl) →
      (∀ p ∈ tl, p.1 ≠ dc) → (∀ p ∈ tl, p.1 ≠ da) → (∀ p ∈ tl, p.1 ≠ dt) → (∀ p ∈ tl, p.1 ≠ di) → (∀ p ∈ tl, p.1 ≠ od') → (∀ p ∈ tl, p.1 ≠ le) → AllAp od' [c, dc, tm, dt, da, di, clk, cc, hc, hl, ttu, tc] → AllAp le [c, dc, tm, dt, da, di, od', clk, cc, hc, hl, ttu, tc] →
      ik.length ≤ 100 → dk.length ≤ 100 → xs.length ≤ xz → ts.length + xs.length ≤ xz →
      (∀ k p, lv k = some p → H < p.2) → Q' (.ret (.ref le)) { s with heap := h', toks := tk' }) :
    wpAny (model prog w) (exA dp un gd L outer) (execs (Fn.f_TLRUCache_expire.body.drop 1) (exE L)) Q' E s := by
  k_dflt (show wpAny _ _ (execs (_ :: _ :: _ :: _ :: _ :: _ :: _ :: _ :: [_]) _) _ _ _)
  k_steps
  refine Stop.go ?_
  with_reducible rename News h₀ L _ _ => N9
  with_reducible rename Fr h₀ L _ _ => F9
  k_dflt (refine ex_clean (oor := oor) (tk0 := tk0) B F9 X N9 T hd hu hoc hoc1 hch hot hot1 hCd o1 o2 o3 o4 o5 o6 o7 o8 o9 o10 o11 q n1 n2 n3 n4 n5 lda ldi hdi₀ hil₀ (Nat.le_trans hxl₀ hxz) hI₀ hH₀ (by exact ms) (by exact rfl) (by exact rfl) ?_)
  intro h' tk' od' no' xs m' tl F5 N5 kp hH sub5 hm5 mo q5 z1 z2 z3 z4 z5
  have hsubx : ∀ p ∈ xs, p ∈ xs₀ := fun p hp => by
    rcases kp with rfl | kp
    · exact hp
    · exact (List.mem_filter.mp (kp.mem_iff.mp hp)).1
  have hxs : xs.length ≤ xz := by
    rcases kp with rfl | kp
    · exact hxl₀
    · rw [kp.length_eq]; exact Nat.le_trans (List.length_filter_le _ _) hxl₀
  have hI : Its kf rf xs tl := (hI₀.sub hsubx).mono sub5
  have hb := hb₀.kept kp
  have ms5 : m' "self" = some (.ref c) := (hm5 "self" (by decide)).trans ms
  have mi5 : m' "items" = some (.ref di) := (hm5 "items" (by decide)).trans rfl
  have mt5 : m' "time" = some (.int H tt) := (hm5 "time" (by decide)).trans mt
  clear N9 F9 n1 n2 n3 n4 n5 q kp hsubx hb₀ hH₀ hI₀ hxl₀
  cases xs with
  | nil =>
    k_steps
    with_reducible rename News h₀ L _ _ => N9
    with_reducible rename Fr h₀ L _ _ => F9
    rename (AllLt _ tl) => hlt
    exact ret _ _ [] no' oda odi ik₀ dk₀ tcur₀ [] _ lv₀ tl _ od' _ F9 N9 hH hb hda₀ hdi₀ (.start _ _) (fun _ h => (nomatch h)) hI sub5 z1 z2 z3 z4 z5 (neAll hlt) q5 (by repeat (first | exact AllAp.nil | refine AllAp.cons (by k_ne) ?_)) hil₀ hdl₀ hxs (by simp only [List.length_nil]; omega) (fun k p h => by have := (hb.mem k p h).1; cases this)
  | cons x rest =>
    obtain ⟨dx, te, tk, hx, hdx⟩ := hI x (.head _)
    have hlen : rest.length + 1 = (x :: rest).length := rfl
    cases hr : rf x.1 with
    | true =>
      rw [hr] at hx
      k_steps
      refine Stop.go ?_
      with_reducible rename News h₀ L _ _ => N9
      with_reducible rename Fr h₀ L _ _ => F9
      k_dflt (refine ex_rest (oor := oor) (cur := cur) (tk0 := tk0) B F9 X N9 T hd hu hoc hoc1 hch hot hot1 hCd o1 o2 o3 o4 o5 o6 o7 o8 o9 o10 o11 q5 z1 z2 z3 z4 z5 lda ldi hda₀ hdi₀ hil₀ hdl₀ hxz hxs hI hH hb (by exact ms5) (by exact mi5) (by exact mo) (by exact mt5) hE ?_)
      intro h' tk' xs no oda' odi' ik dk tcur ts ne lv tl' m' od2 le F5 N5 H5 b5 hda5 hdi5 T5 tu5 I5 sub6
      exact ret _ _ xs no oda' odi' ik dk tcur ts ne lv tl' m' od2 le F5 N5 H5 b5 hda5 hdi5 T5 tu5 I5 (fun p hp => sub6 p (sub5 p hp))
    | false =>
      rw [hr] at hx
      by_cases hle : H < x.2
      · k_steps
        with_reducible rename News h₀ L _ _ => N9
        with_reducible rename Fr h₀ L _ _ => F9
        rename (AllLt _ tl) => hlt
        exact ret _ _ (x :: rest) no' oda odi ik₀ dk₀ tcur₀ [] _ lv₀ tl _ od' _ F9 N9 hH hb hda₀ hdi₀ (.start _ _) (fun _ h => (nomatch h)) hI sub5 z1 z2 z3 z4 z5 (neAll hlt) q5 (by repeat (first | exact AllAp.nil | refine AllAp.cons (by k_ne) ?_)) hil₀ hdl₀ hxs (by simp only [List.length_nil]; omega) (fun k p h => Int.lt_of_lt_of_le hle (hp_min hH p (hb.mem k p h).1))
      · k_steps
        refine Stop.go ?_
        with_reducible rename News h₀ L _ _ => N9
        with_reducible rename Fr h₀ L _ _ => F9
        k_dflt (refine ex_rest (oor := oor) (cur := cur) (tk0 := tk0) B F9 X N9 T hd hu hoc hoc1 hch hot hot1 hCd o1 o2 o3 o4 o5 o6 o7 o8 o9 o10 o11 q5 z1 z2 z3 z4 z5 lda ldi hda₀ hdi₀ hil₀ hdl₀ hxz hxs hI hH hb (by exact ms5) (by exact mi5) (by exact mo) (by exact mt5) hE ?_)
        intro h' tk' xs no oda' odi' ik dk tcur ts ne lv tl' m' od2 le F5 N5 H5 b5 hda5 hdi5 T5 tu5 I5 sub6
        exact ret _ _ xs no oda' odi' ik dk tcur ts ne lv tl' m' od2 le F5 N5 H5 b5 hda5 hdi5 T5 tu5 I5 (fun p hp => sub6 p (sub5 p hp))

end
section

local macro_rules | `(tactic| walk_at "execs cons") => `(tactic| (k_here; (with_reducible show wpAny _ _ (execs (Stmt.Assign [Expr.Name (PySem.Str.ofString "items") _] _ _ :: _) _) _ _ _); refine stop_here ?_))
set_option maxHeartbeats 4000000 in
theorem expire_int (B : Below A₀ base outer h₀) (F : Fr h₀ L s.heap m) (X : (K w.params).In h₀) {c dc tm dt da di od clk cc hc hl ttu tc : Addr} {t1 t2 t3 t4 t5 t6 t7 u1 u2 u3 tk0 tH tv1 tv2 : Tok} {cur mx nst time doc1 pm1 ct1 doc2 pm2 ct2 : Value} {oda odi oor occ och otc : Obj} {H : Int} {nh : Nat} {vs1 vs2 : Array Value} {cN pN : Addr} {ik₀ dk₀ : List (Int × Value)}
    {xs₀ : List (Addr × Int)} {no₀ : Nat} {kf : Addr → Int} {rf : Addr → Bool} {lv₀ : Lv} {tcur₀ tt : Tok} 
    (N : News h₀ L s.heap ((c, instObj 1231 dc) :: (dc, calD w.params t1 t2 t3 t4 t5 t6 t7 (.ref da) (.int dk₀.length tcur₀) mx (.ref tm) (.ref di) (.ref od) (.ref ttu)) :: (tm, instObj 922 dt) ::
      (dt, tmD w.params u1 u2 u3 (.ref clk) nst time) :: (da, oda) :: (di, odi) :: (od, (listOf (vals xs₀) no₀)) :: (clk, clkO hc doc1 pm1 cc ct1) :: (cc, occ) :: (hc, och) :: (hl, listOf #[.int H tH] nh) :: (ttu, endO doc2 pm2 tc ct2) :: (tc, otc) :: news)) (T : Top p loose mean mg mb h₀)
    (hd : dp + 30 < recursionLimit) (hu : un + 90 < cLine) (hoc : occ.data = .fields vs1) (hoc1 : vs1[1]? = some (.str "law.<locals>.clock" tv1)) (hch : och.data = .cell (some (.ref hl))) (hot : otc.data = .fields vs2) (hot1 : vs2[1]? = some (.str "law.<locals>.end" tv2)) (hCd : CodeHd h₀ cN pN) (o1 : @LT.lt Nat instLTNat hc hl) (o2 : @LT.lt Nat instLTNat hl cc) (o3 : @LT.lt Nat instLTNat cc clk) (o4 : @LT.lt Nat instLTNat clk tc) (o5 : @LT.lt Nat instLTNat tc ttu) (o6 : @LT.lt Nat instLTNat ttu dc) (o7 : @LT.lt Nat instLTNat dc c) (o8 : @LT.lt Nat instLTNat c da) (o9 : @LT.lt Nat instLTNat da dt) (o10 : @LT.lt Nat instLTNat dt tm) (o11 : @LT.lt Nat instLTNat tm di) (q : AllAp od [c, dc, tm, dt, da, di, clk, cc, hc, hl, ttu, tc]) (n1 : ∀ p ∈ news, p.1 ≠ dc) (n2 : ∀ p ∈ news, p.1 ≠ da) (n3 : ∀ p ∈ news, p.1 ≠ dt) (n4 : ∀ p ∈ news, p.1 ≠ di) (n5 : ∀ p ∈ news, p.1 ≠ od) (lda : (da == sysModules) = false) (ldi : (di == sysModules) = false)
    (hda₀ : DOf prog w oda dk₀) (hdi₀ : DOf prog w odi ik₀) (hil₀ : ik₀.length ≤ 100) (hdl₀ : dk₀.length ≤ 100) {xz : Nat} (hxz : xz ≤ 900) (hxl₀ : xs₀.length ≤ xz) (hI₀ : Its kf rf xs₀ news) (hH₀ : HP xs₀ 0) (hb₀ : Book kf rf lv₀ xs₀ ik₀ dk₀)
    (ret : ∀ h' tk' (xs : List (Addr × Int)) (no : Nat) (oda odi : Obj) (ik dk : List (Int × Value)) (tcur : Tok) (ts : List (Addr × (Int × Int))) (ne : Nat) (lv : Lv) (tl : List (Addr × Obj)) (od' le : Addr),
      Fr h₀ L h' m → News h₀ L h' ((le, listOf (tupRefs ts) ne) :: (c, instObj 1231 dc) :: (dc, calD w.params t1 t2 t3 t4 t5 t6 t7 (.ref da) (.int dk.length tcur) mx (.ref tm) (.ref di) (.ref od') (.ref ttu)) :: (tm, instObj 922 dt) ::
      (dt, tmD w.params u1 u2 u3 (.ref clk) nst time) :: (da, oda) :: (di, odi) :: (od', (listOf (vals xs) no)) :: (clk, clkO hc doc1 pm1 cc ct1) :: (cc, occ) :: (hc, och) :: (hl, listOf #[.int H tH] nh) :: (ttu, endO doc2 pm2 tc ct2) :: (tc, otc) :: tl) → HP xs 0 → Book kf rf lv xs ik dk → DOf prog w oda dk → DOf prog w odi ik → Told lv₀ lv H (ts.map (·.2)) → TupsIn ts tl → Its kf rf xs tl → (∀ p ∈ news, p ∈ tl) →
      (∀ p ∈ tl, p.1 ≠ dc) → (∀ p ∈ tl, p.1 ≠ da) → (∀ p ∈ tl, p.1 ≠ dt) → (∀ p ∈ tl, p.1 ≠ di) → (∀ p ∈ tl, p.1 ≠ od') → (∀ p ∈ tl, p.1 ≠ le) → AllAp od' [c, dc, tm, dt, da, di, clk, cc, hc, hl, ttu, tc] → AllAp le [c, dc, tm, dt, da, di, od', clk, cc, hc, hl, ttu, tc] →
      ik.length ≤ 100 → dk.length ≤ 100 → xs.length ≤ xz → ts.length + xs.length ≤ xz →
      (∀ k p, lv k = some p → H < p.2) → Q (.ref le) { s with heap := h', toks := tk' }) :
    wpAny (model prog w) (ktrTop dp un gd cn (fsc nms sg sc mo) L a ccd cl outer) (call (.ref 1206) [.ref c, .int H tt]) Q E s := by
  refine wpAny_call ?_
  k_dflt k_enter
  k_steps
  refine Stop.go ?_
  with_reducible rename News _ _ _ _ => N9
  with_reducible rename Fr _ _ _ _ => F9
  with_reducible rename Below (ktrTop dp un gd cn _ L a ccd cl outer) _ _ _ => B9
  rename Fr h₀ L _ m => FG9
  k_dflt (refine ex_main (oor := oor) (cur := cur) (tk0 := tk0) B9 F9 (by assumption) N9 (by assumption) (by show dp + 1 + 20 < recursionLimit; omega) (by show un + 3 + 60 < cLine; omega) hoc hoc1 hch hot hot1 (hCd.keeps FG9.keep) o1 o2 o3 o4 o5 o6 o7 o8 o9 o10 o11 q n1 n2 n3 n4 n5 lda ldi hda₀ hdi₀ hil₀ hdl₀ hxz hxl₀ hI₀ hH₀ hb₀ (by exact rfl) (by exact rfl) (by passes_own) ?_)
  intro h' tk' xs no oda' odi' ik dk tcur ts ne lv tl m' od' le F5 N5 H5 b5 hda5 hdi5 T5 tu5 I5 sub6 z1 z2 z3 z4 z5 z6 q5 q6 w1 w2 w3 w4 fin5
  k_steps
  with_reducible rename News _ _ _ _ => N8
  with_reducible rename Fr _ _ _ _ => F8
  exact ret _ _ xs no oda' odi' ik dk tcur ts ne lv tl od' le F8 N8 H5 b5 hda5 hdi5 T5 tu5 I5 sub6 z1 z2 z3 z4 z5 z6 q5 q6 w1 w2 w3 w4 fin5

set_option maxHeartbeats 4000000 in
theorem expire_none (B : Below A₀ base outer h₀) (F : Fr h₀ L s.heap m) (X : (K w.params).In h₀) {c dc tm dt da di od clk cc hc hl ttu tc : Addr} {t1 t2 t3 t4 t5 t6 t7 u1 u2 u3 tk0 tH tv1 tv2 : Tok} {cur mx nst time doc1 pm1 ct1 doc2 pm2 ct2 : Value} {oda odi oor occ och otc : Obj} {H : Int} {nh : Nat} {vs1 vs2 : Array Value} {cN pN : Addr} {ik₀ dk₀ : List (Int × Value)}
    {xs₀ : List (Addr × Int)} {no₀ : Nat} {kf : Addr → Int} {rf : Addr → Bool} {lv₀ : Lv} {tcur₀ tt : Tok} 
    (N : News h₀ L s.heap ((c, instObj 1231 dc) :: (dc, calD w.params t1 t2 t3 t4 t5 t6 t7 (.ref da) (.int dk₀.length tcur₀) mx (.ref tm) (.ref di) (.ref od) (.ref ttu)) :: (tm, instObj 922 dt) ::
      (dt, tmD w.params u1 u2 u3 (.ref clk) (.int 0 tk0) time) :: (da, oda) :: (di, odi) :: (od, (listOf (vals xs₀) no₀)) :: (clk, clkO hc doc1 pm1 cc ct1) :: (cc, occ) :: (hc, och) :: (hl, listOf #[.int H tH] nh) :: (ttu, endO doc2 pm2 tc ct2) :: (tc, otc) :: news)) (T : Top p loose mean mg mb h₀)
    (hd : dp + 30 < recursionLimit) (hu : un + 90 < cLine) (hoc : occ.data = .fields vs1) (hoc1 : vs1[1]? = some (.str "law.<locals>.clock" tv1)) (hch : och.data = .cell (some (.ref hl))) (hot : otc.data = .fields vs2) (hot1 : vs2[1]? = some (.str "law.<locals>.end" tv2)) (hCd : CodeHd h₀ cN pN) (o1 : @LT.lt Nat instLTNat hc hl) (o2 : @LT.lt Nat instLTNat hl cc) (o3 : @LT.lt Nat instLTNat cc clk) (o4 : @LT.lt Nat instLTNat clk tc) (o5 : @LT.lt Nat instLTNat tc ttu) (o6 : @LT.lt Nat instLTNat ttu dc) (o7 : @LT.lt Nat instLTNat dc c) (o8 : @LT.lt Nat instLTNat c da) (o9 : @LT.lt Nat instLTNat da dt) (o10 : @LT.lt Nat instLTNat dt tm) (o11 : @LT.lt Nat instLTNat tm di) (q : AllAp od [c, dc, tm, dt, da, di, clk, cc, hc, hl, ttu, tc]) (n1 : ∀ p ∈ news, p.1 ≠ dc) (n2 : ∀ p ∈ news, p.1 ≠ da) (n3 : ∀ p ∈ news, p.1 ≠ dt) (n4 : ∀ p ∈ news, p.1 ≠ di) (n5 : ∀ p ∈ news, p.1 ≠ od) (lda : (da == sysModules) = false) (ldi : (di == sysModules) = false)
    (hda₀ : DOf prog w oda dk₀) (hdi₀ : DOf prog w odi ik₀) (hil₀ : ik₀.length ≤ 100) (hdl₀ : dk₀.length ≤ 100) {xz : Nat} (hxz : xz ≤ 900) (hxl₀ : xs₀.length ≤ xz) (hI₀ : Its kf rf xs₀ news) (hH₀ : HP xs₀ 0) (hb₀ : Book kf rf lv₀ xs₀ ik₀ dk₀)
    (ret : ∀ h' tk' (xs : List (Addr × Int)) (no : Nat) (oda odi : Obj) (ik dk : List (Int × Value)) (tcur : Tok) (ts : List (Addr × (Int × Int))) (ne : Nat) (lv : Lv) (tl : List (Addr × Obj)) (od' le : Addr),
      Fr h₀ L h' m → News h₀ L h' ((le, listOf (tupRefs ts) ne) :: (c, instObj 1231 dc) :: (dc, calD w.params t1 t2 t3 t4 t5 t6 t7 (.ref da) (.int dk.length tcur) mx (.ref tm) (.ref di) (.ref od') (.ref ttu)) :: (tm, instObj 922 dt) ::
      (dt, tmD w.params u1 u2 u3 (.ref clk) (.int 0 tk0) time) :: (da, oda) :: (di, odi) :: (od', (listOf (vals xs) no)) :: (clk, clkO hc doc1 pm1 cc ct1) :: (cc, occ) :: (hc, och) :: (hl, listOf #[.int H tH] nh) :: (ttu, endO doc2 pm2 tc ct2) :: (tc, otc) :: tl) → HP xs 0 → Book kf rf lv xs ik dk → DOf prog w oda dk → DOf prog w odi ik → Told lv₀ lv H (ts.map (·.2)) → TupsIn ts tl → Its kf rf xs tl → (∀ p ∈ news, p ∈ tl) →
      (∀ p ∈ tl, p.1 ≠ dc) → (∀ p ∈ tl, p.1 ≠ da) → (∀ p ∈ tl, p.1 ≠ dt) → (∀ p ∈ tl, p.1 ≠ di) → (∀ p ∈ tl, p.1 ≠ od') → (∀ p ∈ tl, p.1 ≠ le) → AllAp od' [c, dc, tm, dt, da, di, clk, cc, hc, hl, ttu, tc] → AllAp le [c, dc, tm, dt, da, di, od', clk, cc, hc, hl, ttu, tc] →
      ik.length ≤ 100 → dk.length ≤ 100 → xs.length ≤ xz → ts.length + xs.length ≤ xz →
      (∀ k p, lv k = some p → H < p.2) → Q (.ref le) { s with heap := h', toks := tk' }) :
    wpAny (model prog w) (ktrTop dp un gd cn (fsc nms sg sc mo) L a ccd cl outer) (call (.ref 1206) [.ref c]) Q E s := by
  refine wpAny_call ?_
  k_dflt k_enter
  k_steps
  refine Stop.go ?_
  with_reducible rename News _ _ _ _ => N9
  with_reducible rename Fr _ _ _ _ => F9
  with_reducible rename Below (ktrTop dp un gd cn _ L a ccd cl outer) _ _ _ => B9
  rename Fr h₀ L _ m => FG9
  k_dflt (refine ex_main (oor := oor) (cur := cur) (tk0 := tk0) B9 F9 (by assumption) N9 (by assumption) (by show dp + 1 + 20 < recursionLimit; omega) (by show un + 3 + 60 < cLine; omega) hoc hoc1 hch hot hot1 (hCd.keeps FG9.keep) o1 o2 o3 o4 o5 o6 o7 o8 o9 o10 o11 q n1 n2 n3 n4 n5 lda ldi hda₀ hdi₀ hil₀ hdl₀ hxz hxl₀ hI₀ hH₀ hb₀ (by exact rfl) (by exact rfl) (by passes_own) ?_)
  intro h' tk' xs no oda' odi' ik dk tcur ts ne lv tl m' od' le F5 N5 H5 b5 hda5 hdi5 T5 tu5 I5 sub6 z1 z2 z3 z4 z5 z6 q5 q6 w1 w2 w3 w4 fin5
  k_steps
  with_reducible rename News _ _ _ _ => N8
  with_reducible rename Fr _ _ _ _ => F8
  exact ret _ _ xs no oda' odi' ik dk tcur ts ne lv tl od' le F8 N8 H5 b5 hda5 hdi5 T5 tu5 I5 sub6 z1 z2 z3 z4 z5 z6 q5 q6 w1 w2 w3 w4 fin5

end
section
local macro_rules | `(tactic| walk_at "pad") => `(tactic| fail)
local macro_rules | `(tactic| walk_at "pad") => `(tactic| fail)
local macro_rules | `(tactic| walk_at "pad") => `(tactic| fail)
theorem va_len_eq {a b : List (Int × Value)} (ha : (a.map (·.1)).Nodup) (hb : (b.map (·.1)).Nodup) (h : ∀ k, (valueAt a k).isSome = (valueAt b k).isSome) : a.length = b.length := by
  have P : (a.map (·.1)).Perm (b.map (·.1)) := (List.perm_ext_iff_of_nodup ha hb).mpr fun k => by rw [← va_mem, ← va_mem, h k]
  simpa using P.length_eq
theorem dof_nodup {o : Obj} {kvs : List (Int × Value)} (h : DOf prog w o kvs) : (kvs.map (·.1)).Nodup := by
  obtain ⟨es, ep, _, _, _, _, h⟩ := h; exact h
theorem Book.dsome {kf : Addr → Int} {rf : Addr → Bool} {lv : Lv} {xs : List (Addr × Int)} {ik dk : List (Int × Value)} (b : Book kf rf lv xs ik dk) (k : Int) : (valueAt dk k).isSome = (lv k).isSome := by
  cases h : lv k with
  | none => rw [b.dat0 k h]; rfl
  | some p => obtain ⟨t, e⟩ := b.dat k p h; rw [e]; rfl
theorem Told.nil_of {lv0 lv : Lv} {H : Int} {told : List (Int × Int)} (t : Told lv0 lv H told) (h : ∀ k p, lv0 k = some p → H < p.2) : told = [] ∧ lv = lv0 := by
  have e : told = [] := by
    cases told with
    | nil => rfl
    | cons q r =>
      obtain ⟨_, a, e, hq⟩ := t.is q (.head _)
      have := h _ _ e
      simp only at this; omega
  refine ⟨e, funext fun k => ?_⟩
  rcases t.or k with h | ⟨q, hq, _⟩
  · exact h
  · rw [e] at hq; cases hq
theorem Book.len_eq {kf kf' : Addr → Int} {rf rf' : Addr → Bool} {lv : Lv} {xs xs' : List (Addr × Int)} {ik dk ik' dk' : List (Int × Value)} {o o' : Obj} (b : Book kf rf lv xs ik dk) (b' : Book kf' rf' lv xs' ik' dk') (h : DOf prog w o dk) (h' : DOf prog w o' dk') : dk'.length = dk.length :=
  va_len_eq (dof_nodup h') (dof_nodup h) fun k => by rw [b.dsome, b'.dsome]
theorem d_in_no {A : Around} {d : Addr} {o : Obj} {kvs : List (Int × Value)} {k : Int} {t : Tok} (hv : valueAt kvs k = none) (N : News h₀ L s.heap news) (hm : (d, o) ∈ news) (hd : DOf prog w o kvs) (lo : (d == sysModules) = false)
    (h : Q (.bool false) { s with toks := s.toks + 1 }) : wpAny (model prog w) A (compareOp .In (.int k t) (.ref d)) Q E s := d_in N hm hd lo (by rw [hv]; exact h)
theorem d_in_yes {A : Around} {d : Addr} {o : Obj} {kvs : List (Int × Value)} {k : Int} {t : Tok} {v : Value} (hv : valueAt kvs k = some v) (N : News h₀ L s.heap news) (hm : (d, o) ∈ news) (hd : DOf prog w o kvs) (lo : (d == sysModules) = false)
    (h : Q (.bool true) { s with toks := s.toks + 1 }) : wpAny (model prog w) A (compareOp .In (.int k t) (.ref d)) Q E s := d_in N hm hd lo (by rw [hv]; exact h)
theorem d_get1_no {A : Around} {d : Addr} {o : Obj} {kvs : List (Int × Value)} {k : Int} {t : Tok} (hv : valueAt kvs k = none) (N : News h₀ L s.heap news) (hm : (d, o) ∈ news) (hd : DOf prog w o kvs) (lo : (d == sysModules) = false)
    (h : Q .none { s with toks := s.toks + 1 }) : wpAny (model prog w) A (call (.builtin "dict.get") [.ref d, .int k t]) Q E s := d_get1 N hm hd lo (by rw [hv]; exact h)
theorem d_get1_yes {A : Around} {d : Addr} {o : Obj} {kvs : List (Int × Value)} {k : Int} {t : Tok} {v : Value} (hv : valueAt kvs k = some v) (N : News h₀ L s.heap news) (hm : (d, o) ∈ news) (hd : DOf prog w o kvs) (lo : (d == sysModules) = false)
    (h : Q v { s with toks := s.toks + 1 }) : wpAny (model prog w) A (call (.builtin "dict.get") [.ref d, .int k t]) Q E s := d_get1 N hm hd lo (by rw [hv]; exact h)
theorem neAll_up {d x : Nat} : ∀ {l : List (Addr × Obj)}, AllLt d l → d < x → ∀ p ∈ l, p.1 ≠ x
  | [], _, _ => fun _ h => nomatch h
  | q :: r, h, z => fun p hp => by
    rcases List.mem_cons.mp hp with rfl | hp
    · have h1 : @LT.lt Nat _ p.1 d := h.1
      exact Nat.ne_of_lt (Nat.lt_trans h1 z)
    · exact neAll_up h.2 z p hp
abbrev Lv.on (lv : Lv) (k : Int) (p : Addr × Int) : Lv := fun j => if j = k then some p else lv j
abbrev upF {α : Type} (f : Addr → α) (x : Addr) (v : α) : Addr → α := fun y => if y = x then v else f y
theorem Book.ext {kf : Addr → Int} {rf : Addr → Bool} {lv : Lv} {xs : List (Addr × Int)} {ik dk ik' dk' : List (Int × Value)} (b : Book kf rf lv xs ik dk)
    (hi : ∀ j, valueAt ik' j = valueAt ik j) (hd : ∀ j, valueAt dk' j = valueAt dk j) : Book kf rf lv xs ik' dk' :=
  ⟨b.nd, fun k => by rw [hi]; exact b.ins k, fun k p h => by rw [hd]; exact b.dat k p h, fun k h => by rw [hd]; exact b.dat0 k h, b.mem, b.live⟩
theorem Book.push {kf : Addr → Int} {rf : Addr → Bool} {lv : Lv} {xs ys : List (Addr × Int)} {ik dk : List (Int × Value)} {k v : Int} {x : Addr} {t : Tok} (b : Book kf rf lv xs ik dk) (hx : ∀ p ∈ xs, p.1 ≠ x) (hk : lv k = none) (P : ys.Perm (xs ++ [(x, v)])) :
    Book (upF kf x k) (upF rf x false) (lv.on k (x, v)) ys (stored ik k (.ref x)) (stored dk k (.int v t)) := by
  refine Book.perm (xs := xs ++ [(x, v)]) ⟨?_, fun j => ?_, fun j q h => ?_, fun j h => ?_, fun j q h => ?_, fun q hq hr => ?_⟩ P
  · rw [List.map_append, List.nodup_append]
    refine ⟨b.nd, by simp, fun a ha c hc => ?_⟩
    obtain ⟨q, hq, rfl⟩ := List.mem_map.mp ha
    simp only [List.map_cons, List.map_nil, List.mem_singleton] at hc
    rw [hc]; exact hx q hq
  · rw [va_stored]; simp only [Lv.on]
    by_cases hj : j = k
    · rw [if_pos hj, if_pos hj]; rfl
    · rw [if_neg hj, if_neg hj]; exact b.ins j
  · rw [va_stored]; simp only [Lv.on] at h
    by_cases hj : j = k
    · rw [if_pos hj] at h ⊢; cases h; exact ⟨t, rfl⟩
    · rw [if_neg hj] at h ⊢; exact b.dat j q h
  · rw [va_stored]; simp only [Lv.on] at h
    by_cases hj : j = k
    · rw [if_pos hj] at h; cases h
    · rw [if_neg hj] at h ⊢; exact b.dat0 j h
  · simp only [Lv.on] at h
    by_cases hj : j = k
    · rw [if_pos hj] at h; cases h
      exact ⟨List.mem_append_right _ (.head _), by simp [upF, hj], by simp [upF]⟩
    · rw [if_neg hj] at h
      have m := b.mem j q h
      have ne := hx q m.1
      exact ⟨List.mem_append_left _ m.1, by simp only [upF, if_neg ne]; exact m.2.1, by simp only [upF, if_neg ne]; exact m.2.2⟩
  · rcases List.mem_append.mp hq with hq | hq
    · have ne := hx q hq
      simp only [upF, if_neg ne] at hr ⊢
      have l := b.live q hq hr
      have : kf q.1 ≠ k := fun e => by rw [e, hk] at l; cases l
      simp only [Lv.on, if_neg this]; exact l
    · rw [List.mem_singleton.mp hq]; simp [upF, Lv.on]
theorem Book.mark {kf : Addr → Int} {rf : Addr → Bool} {lv : Lv} {xs : List (Addr × Int)} {ik dk : List (Int × Value)} {k : Int} {p : Addr × Int} (b : Book kf rf lv xs ik dk) (hp : lv k = some p) :
    Book kf (upF rf p.1 true) (lv.off k) xs (without ik k) (without dk k) := by
  have hm := b.mem k p hp
  have uniq : ∀ j q, lv j = some q → q.1 = p.1 → j = k := fun j q h e => by
    rw [← (b.mem j q h).2.1, e, hm.2.1]
  refine ⟨b.nd, fun j => ?_, fun j q h => ?_, fun j h => ?_, fun j q h => ?_, fun q hq hr => ?_⟩
  · rw [va_without, b.ins]
    by_cases hj : j = k <;> simp [hj, Lv.off]
  · by_cases hj : j = k
    · simp [Lv.off, hj] at h
    · simp only [Lv.off, hj, if_false] at h
      rw [va_without, if_neg hj]; exact b.dat j q h
  · rw [va_without]
    by_cases hj : j = k
    · rw [if_pos hj]
    · rw [if_neg hj]
      simp only [Lv.off, hj, if_false] at h
      exact b.dat0 j h
  · by_cases hj : j = k
    · simp [Lv.off, hj] at h
    · simp only [Lv.off, hj, if_false] at h
      have m := b.mem j q h
      have ne : q.1 ≠ p.1 := fun e => hj (uniq j q h e)
      exact ⟨m.1, m.2.1, by simp only [upF, if_neg ne]; exact m.2.2⟩
  · by_cases e : q.1 = p.1
    · simp [upF, e] at hr
    · simp only [upF, if_neg e] at hr
      have l := b.live q hq hr
      have : kf q.1 ≠ k := fun e2 => by
        rw [e2, hp] at l
        exact e (congrArg Prod.fst (Option.some.inj l)).symm
      simp only [Lv.off, if_neg this]; exact l
theorem Its.push {kf : Addr → Int} {rf : Addr → Bool} {xs ys : List (Addr × Int)} {tl tl' : List (Addr × Obj)} {x d : Addr} {k v : Int} {tq tv : Tok} (h : Its kf rf xs tl) (hx : ∀ p ∈ xs, p.1 ≠ x) (S : ∀ p ∈ tl, p ∈ tl') (P : ys.Perm (xs ++ [(x, v)]))
    (h1 : (x, itO d (.int v tv) (.int k tq) (.bool false)) ∈ tl') (h2 : (d, dictOf [] 0) ∈ tl') : Its (upF kf x k) (upF rf x false) ys tl' := fun p hp => by
  rcases List.mem_append.mp (P.mem_iff.mp hp) with hp | hp
  · obtain ⟨dx, te, tk, a, b⟩ := h p hp
    have ne := hx p hp
    refine ⟨dx, te, tk, ?_, S _ b⟩
    simp only [upF, if_neg ne]; exact S _ a
  · rw [List.mem_singleton.mp hp]
    refine ⟨d, tv, tq, ?_, h2⟩
    simp only [upF, if_pos]; exact h1
theorem Its.apart {kf : Addr → Int} {rf : Addr → Bool} {xs : List (Addr × Int)} {tl : List (Addr × Obj)} {x : Nat} (h : Its kf rf xs tl) (hx : ∀ p ∈ tl, p.1 ≠ x) : ∀ p ∈ xs, p.1 ≠ x := fun p hp => by
  obtain ⟨dx, te, tk, a, b⟩ := h p hp
  exact hx _ a
theorem stored_len_new {kvs : List (Int × Value)} {k : Int} {v : Value} (h : valueAt kvs k = none) : (stored kvs k v).length = kvs.length + 1 := by
  have : (kvs.any fun kv => decide (kv.1 = k)) = false := by
    cases h2 : kvs.any fun kv => decide (kv.1 = k) with
    | false => rfl
    | true =>
      obtain ⟨kv, hm, he⟩ := List.any_eq_true.mp h2
      have : k ∈ kvs.map (·.1) := List.mem_map.mpr ⟨kv, hm, of_decide_eq_true he⟩
      rw [← va_mem, h] at this; cases this
  unfold stored
  rw [this]; simp
theorem led_rot4 {h : Heap} {x1 x2 x3 x4 a1 a2 a3 a4 a5 a6 a7 a8 a9 b1 b2 b3 b4 : Addr × Obj} {tl : List (Addr × Obj)} (N : News h₀ L h (x1 :: x2 :: x3 :: x4 :: a1 :: a2 :: a3 :: a4 :: a5 :: a6 :: a7 :: a8 :: a9 :: b1 :: b2 :: b3 :: b4 :: tl)) :
    News h₀ L h (a1 :: a2 :: a3 :: a4 :: a5 :: a6 :: a7 :: a8 :: a9 :: b1 :: b2 :: b3 :: b4 :: x1 :: x2 :: x3 :: x4 :: tl) := fun p hp => N p (by
  simp only [List.mem_cons] at hp ⊢
  rcases hp with h | h | h | h | h | h | h | h | h | h | h | h | h | h | h | h | h | h <;> simp only [h, true_or, or_true])
theorem led_rot5 {h : Heap} {x0 x1 x2 x3 x4 a1 a2 a3 a4 a5 a6 a7 a8 a9 b1 b2 b3 b4 : Addr × Obj} {tl : List (Addr × Obj)} (N : News h₀ L h (x0 :: x1 :: x2 :: x3 :: x4 :: a1 :: a2 :: a3 :: a4 :: a5 :: a6 :: a7 :: a8 :: a9 :: b1 :: b2 :: b3 :: b4 :: tl)) :
    News h₀ L h (a1 :: a2 :: a3 :: a4 :: a5 :: a6 :: a7 :: a8 :: a9 :: b1 :: b2 :: b3 :: b4 :: x0 :: x1 :: x2 :: x3 :: x4 :: tl) := fun p hp => N p (by
  simp only [List.mem_cons] at hp ⊢
  rcases hp with h | h | h | h | h | h | h | h | h | h | h | h | h | h | h | h | h | h | h <;> simp only [h, true_or, or_true])
theorem stored_len_old {kvs : List (Int × Value)} {k : Int} {v u : Value} (h : valueAt kvs k = some u) : (stored kvs k v).length = kvs.length := by
  have : (kvs.any fun kv => decide (kv.1 = k)) = true := by
    have h1 : (valueAt kvs k).isSome = true := by rw [h]; rfl
    obtain ⟨kv, hm, he⟩ := List.mem_map.mp (va_mem.mp h1)
    exact List.any_eq_true.mpr ⟨kv, hm, decide_eq_true he⟩
  unfold stored
  rw [this]; simp
/-- the tail without one address -/
abbrev offL (x : Addr) (tl : List (Addr × Obj)) : List (Addr × Obj) := tl.filter fun p => decide (p.1 ≠ x)
theorem offL_mem {x : Addr} {tl : List (Addr × Obj)} {p : Addr × Obj} (h : p ∈ tl) (hx : p.1 ≠ x) : p ∈ offL x tl := List.mem_filter.mpr ⟨h, decide_eq_true hx⟩
theorem offL_sub {x : Addr} {tl : List (Addr × Obj)} : ∀ p ∈ offL x tl, p ∈ tl := fun _ h => (List.mem_filter.mp h).1
theorem offL_ne {x : Addr} {tl : List (Addr × Obj)} : ∀ p ∈ offL x tl, p.1 ≠ x := fun _ h => of_decide_eq_true (List.mem_filter.mp h).2
theorem it_ne {h : Heap} {led : List (Addr × Obj)} {x y : Addr} {o o' : Obj} (N : News h₀ L h led) (h1 : (x, o) ∈ led) (h2 : (y, o') ∈ led) (hne : o'.cls ≠ o.cls ∨ o'.data ≠ o.data) : y ≠ x := fun e => by
  subst e
  have : o' = o := Option.some.inj ((N _ h2).1.symm.trans (N _ h1).1)
  subst this
  rcases hne with h | h <;> exact h rfl
theorem Its.mark {kf : Addr → Int} {rf : Addr → Bool} {xs : List (Addr × Int)} {tl : List (Addr × Obj)} {x dx : Addr} {te tk : Tok} {e : Int} {h : Heap} {led : List (Addr × Obj)} (I : Its kf rf xs tl) (N : News h₀ L h led) (S : ∀ p ∈ tl, p ∈ led)
    (h1 : (x, itO dx (.int e te) (.int (kf x) tk) (.bool false)) ∈ tl) (h2 : (dx, dictOf [] 0) ∈ tl) (hx : (x, e) ∈ xs) (hn : (xs.map (·.1)).Nodup) : Its kf (upF rf x true) xs ((x, itO dx (.int e te) (.int (kf x) tk) (.bool true)) :: offL x tl) := fun p hp => by
  have dne : ∀ d, (d, dictOf [] 0) ∈ tl → d ≠ x := fun d hd => it_ne N (S _ h1) (S _ hd) (.inl (fun e => by cases e))
  by_cases hpx : p.1 = x
  · have e2 : p = (x, e) := by
      have := List.nodup_iff_pairwise_ne.mp hn
      clear this
      obtain ⟨i, hi⟩ := List.getElem?_of_mem hp
      obtain ⟨j, hj⟩ := List.getElem?_of_mem hx
      have hi' : (xs.map (·.1))[i]? = some x := by rw [List.getElem?_map, hi]; simp [hpx]
      have hj' : (xs.map (·.1))[j]? = some x := by rw [List.getElem?_map, hj]; rfl
      obtain ⟨li, _⟩ := List.getElem?_eq_some_iff.mp hi'
      have : i = j := (List.getElem?_inj li hn).mp (hi'.trans hj'.symm)
      rw [this, hj] at hi
      exact (Option.some.inj hi).symm
    rw [e2]
    refine ⟨dx, te, tk, ?_, .tail _ (offL_mem h2 (dne _ h2))⟩
    simp only [upF, if_pos]; exact .head _
  · obtain ⟨d, te', tk', a, b⟩ := I p hp
    refine ⟨d, te', tk', ?_, .tail _ (offL_mem b (dne _ b))⟩
    simp only [upF, if_neg hpx]
    exact .tail _ (offL_mem a hpx)
theorem led_pick {h : Heap} {x : Addr} {o : Obj} {x4 a1 a2 a3 a4 a5 a6 a7 a8 a9 b1 b2 b3 b4 : Addr × Obj} {tl : List (Addr × Obj)} (N : News h₀ L h (x4 :: a1 :: a2 :: a3 :: a4 :: a5 :: a6 :: a7 :: a8 :: a9 :: b1 :: b2 :: b3 :: b4 :: tl)) (hx : (x, o) ∈ tl) :
    News h₀ L h ((x, o) :: x4 :: a1 :: a2 :: a3 :: a4 :: a5 :: a6 :: a7 :: a8 :: a9 :: b1 :: b2 :: b3 :: b4 :: offL x tl) := fun p hp => N p (by
  simp only [List.mem_cons] at hp ⊢
  rcases hp with h | h | h | h | h | h | h | h | h | h | h | h | h | h | h | h
  · rw [h]; simp only [hx, or_true]
  all_goals first | simp only [h, true_or, or_true] | simp only [offL_sub p h, or_true])
theorem fields_ne {o : Obj} {vs : Array Value} (h : o.data = .fields vs) : o.data ≠ .plain := by rw [h]; intro e; cases e
theorem cell_ne {o : Obj} {v : Option Value} (h : o.data = .cell v) : o.data ≠ .plain := by rw [h]; intro e; cases e
theorem mem14 {p x4 a1 a2 a3 a4 a5 a6 a7 a8 a9 b1 b2 b3 b4 : Addr × Obj} {tl : List (Addr × Obj)} (h : p ∈ tl) : p ∈ x4 :: a1 :: a2 :: a3 :: a4 :: a5 :: a6 :: a7 :: a8 :: a9 :: b1 :: b2 :: b3 :: b4 :: tl := by
  simp only [List.mem_cons, h, or_true]
theorem push_led4 (B : Below A₀ base outer h₀) (F : Fr h₀ L s.heap m) (X : (K w.params).In h₀) (T : Top p loose mean mg mb h₀)
    (hd : dp + 10 < recursionLimit) (hu : un + 3 < cLine) {c dc tm dt da di od clk cc hc hl ttu tc : Addr} {oc odc otm odt oda odi oclk occ och ohl ottu otc : Obj} {x0 x1 x2 x3 : Addr × Obj} {tl : List (Addr × Obj)} {n : Nat} {xs : List (Addr × Int)} {e : Addr × Int}
    (N : News h₀ L s.heap (x0 :: x1 :: x2 :: x3 :: (c, oc) :: (dc, odc) :: (tm, otm) :: (dt, odt) :: (da, oda) :: (di, odi) :: (od, listOf (vals xs) n) :: (clk, oclk) :: (cc, occ) :: (hc, och) :: (hl, ohl) :: (ttu, ottu) :: (tc, otc) :: tl)) (e0 : @Ne Nat x0.1 od) (e1 : @Ne Nat x1.1 od) (e2 : @Ne Nat x2.1 od) (e3 : @Ne Nat x3.1 od) (q : AllAp od [c, dc, tm, dt, da, di, clk, cc, hc, hl, ttu, tc]) (z : ∀ p ∈ tl, p.1 ≠ od)
    (hz : xs.length ≤ 900) (hI : ItsIn (xs ++ [e]) (x0 :: x1 :: x2 :: x3 :: (c, oc) :: (dc, odc) :: (tm, otm) :: (dt, odt) :: (da, oda) :: (di, odi) :: (od, listOf (vals xs) n) :: (clk, oclk) :: (cc, occ) :: (hc, och) :: (hl, ohl) :: (ttu, ottu) :: (tc, otc) :: tl)) (H : HP xs 0)
    (ret : ∀ h' tk' ys, Fr h₀ L h' m → News h₀ L h' (x0 :: x1 :: x2 :: x3 :: (c, oc) :: (dc, odc) :: (tm, otm) :: (dt, odt) :: (da, oda) :: (di, odi) :: (od, listOf (vals ys) (n + 1)) :: (clk, oclk) :: (cc, occ) :: (hc, och) :: (hl, ohl) :: (ttu, ottu) :: (tc, otc) :: tl) → ys.Perm (xs ++ [e]) → HP ys 0 → Q .none { s with heap := h', toks := tk' }) :
    wpAny (model prog w) (ktrTop dp un gd cn (fsc nms sg sc mo) L a ccd cl outer) (call (.builtin "_heapq.heappush") [.ref od, .ref e.1]) Q E s := by
  have hrest : ∀ p ∈ ((clk, oclk) :: (cc, occ) :: (hc, och) :: (hl, ohl) :: (ttu, ottu) :: (tc, otc) :: tl : List (Addr × Obj)), p.1 ≠ od := by
    refine List.forall_mem_cons.mpr ⟨q _ (.tail _ (.tail _ (.tail _ (.tail _ (.tail _ (.tail _ (.head _))))))), List.forall_mem_cons.mpr ⟨q _ (.tail _ (.tail _ (.tail _ (.tail _ (.tail _ (.tail _ (.tail _ (.head _)))))))), List.forall_mem_cons.mpr ⟨q _ (.tail _ (.tail _ (.tail _ (.tail _ (.tail _ (.tail _ (.tail _ (.tail _ (.head _))))))))), List.forall_mem_cons.mpr ⟨q _ (.tail _ (.tail _ (.tail _ (.tail _ (.tail _ (.tail _ (.tail _ (.tail _ (.tail _ (.head _)))))))))), List.forall_mem_cons.mpr ⟨q _ (.tail _ (.tail _ (.tail _ (.tail _ (.tail _ (.tail _ (.tail _ (.tail _ (.tail _ (.tail _ (.head _))))))))))), List.forall_mem_cons.mpr ⟨q _ (.tail _ (.tail _ (.tail _ (.tail _ (.tail _ (.tail _ (.tail _ (.tail _ (.tail _ (.tail _ (.tail _ (.head _)))))))))))), z⟩⟩⟩⟩⟩⟩
  exact k_push B F X T hd hu (g := fun o => x0 :: x1 :: x2 :: x3 :: (c, oc) :: (dc, odc) :: (tm, otm) :: (dt, odt) :: (da, oda) :: (di, odi) :: (od, o) :: (clk, oclk) :: (cc, occ) :: (hc, och) :: (hl, ohl) :: (ttu, ottu) :: (tc, otc) :: tl) N (.tail e0 (.tail e1 (.tail e2 (.tail e3 (.tail (q _ (.head _)) (.tail (q _ (.tail _ (.head _))) (.tail (q _ (.tail _ (.tail _ (.head _)))) (.tail (q _ (.tail _ (.tail _ (.tail _ (.head _))))) (.tail (q _ (.tail _ (.tail _ (.tail _ (.tail _ (.head _)))))) (.tail (q _ (.tail _ (.tail _ (.tail _ (.tail _ (.tail _ (.head _))))))) (.head hrest))))))))))) hz hI H ret
theorem push_led5 (B : Below A₀ base outer h₀) (F : Fr h₀ L s.heap m) (X : (K w.params).In h₀) (T : Top p loose mean mg mb h₀)
    (hd : dp + 10 < recursionLimit) (hu : un + 3 < cLine) {c dc tm dt da di od clk cc hc hl ttu tc : Addr} {oc odc otm odt oda odi oclk occ och ohl ottu otc : Obj} {x0 x1 x2 x3 x4 : Addr × Obj} {tl : List (Addr × Obj)} {n : Nat} {xs : List (Addr × Int)} {e : Addr × Int}
    (N : News h₀ L s.heap (x0 :: x1 :: x2 :: x3 :: x4 :: (c, oc) :: (dc, odc) :: (tm, otm) :: (dt, odt) :: (da, oda) :: (di, odi) :: (od, listOf (vals xs) n) :: (clk, oclk) :: (cc, occ) :: (hc, och) :: (hl, ohl) :: (ttu, ottu) :: (tc, otc) :: tl)) (e0 : @Ne Nat x0.1 od) (e1 : @Ne Nat x1.1 od) (e2 : @Ne Nat x2.1 od) (e3 : @Ne Nat x3.1 od) (e4 : @Ne Nat x4.1 od) (q : AllAp od [c, dc, tm, dt, da, di, clk, cc, hc, hl, ttu, tc]) (z : ∀ p ∈ tl, p.1 ≠ od)
    (hz : xs.length ≤ 900) (hI : ItsIn (xs ++ [e]) (x0 :: x1 :: x2 :: x3 :: x4 :: (c, oc) :: (dc, odc) :: (tm, otm) :: (dt, odt) :: (da, oda) :: (di, odi) :: (od, listOf (vals xs) n) :: (clk, oclk) :: (cc, occ) :: (hc, och) :: (hl, ohl) :: (ttu, ottu) :: (tc, otc) :: tl)) (H : HP xs 0)
    (ret : ∀ h' tk' ys, Fr h₀ L h' m → News h₀ L h' (x0 :: x1 :: x2 :: x3 :: x4 :: (c, oc) :: (dc, odc) :: (tm, otm) :: (dt, odt) :: (da, oda) :: (di, odi) :: (od, listOf (vals ys) (n + 1)) :: (clk, oclk) :: (cc, occ) :: (hc, och) :: (hl, ohl) :: (ttu, ottu) :: (tc, otc) :: tl) → ys.Perm (xs ++ [e]) → HP ys 0 → Q .none { s with heap := h', toks := tk' }) :
    wpAny (model prog w) (ktrTop dp un gd cn (fsc nms sg sc mo) L a ccd cl outer) (call (.builtin "_heapq.heappush") [.ref od, .ref e.1]) Q E s := by
  have hrest : ∀ p ∈ ((clk, oclk) :: (cc, occ) :: (hc, och) :: (hl, ohl) :: (ttu, ottu) :: (tc, otc) :: tl : List (Addr × Obj)), p.1 ≠ od := by
    refine List.forall_mem_cons.mpr ⟨q _ (.tail _ (.tail _ (.tail _ (.tail _ (.tail _ (.tail _ (.head _))))))), List.forall_mem_cons.mpr ⟨q _ (.tail _ (.tail _ (.tail _ (.tail _ (.tail _ (.tail _ (.tail _ (.head _)))))))), List.forall_mem_cons.mpr ⟨q _ (.tail _ (.tail _ (.tail _ (.tail _ (.tail _ (.tail _ (.tail _ (.tail _ (.head _))))))))), List.forall_mem_cons.mpr ⟨q _ (.tail _ (.tail _ (.tail _ (.tail _ (.tail _ (.tail _ (.tail _ (.tail _ (.tail _ (.head _)))))))))), List.forall_mem_cons.mpr ⟨q _ (.tail _ (.tail _ (.tail _ (.tail _ (.tail _ (.tail _ (.tail _ (.tail _ (.tail _ (.tail _ (.head _))))))))))), List.forall_mem_cons.mpr ⟨q _ (.tail _ (.tail _ (.tail _ (.tail _ (.tail _ (.tail _ (.tail _ (.tail _ (.tail _ (.tail _ (.tail _ (.head _)))))))))))), z⟩⟩⟩⟩⟩⟩
  exact k_push B F X T hd hu (g := fun o => x0 :: x1 :: x2 :: x3 :: x4 :: (c, oc) :: (dc, odc) :: (tm, otm) :: (dt, odt) :: (da, oda) :: (di, odi) :: (od, o) :: (clk, oclk) :: (cc, occ) :: (hc, och) :: (hl, ohl) :: (ttu, ottu) :: (tc, otc) :: tl) N (.tail e0 (.tail e1 (.tail e2 (.tail e3 (.tail e4 (.tail (q _ (.head _)) (.tail (q _ (.tail _ (.head _))) (.tail (q _ (.tail _ (.tail _ (.head _)))) (.tail (q _ (.tail _ (.tail _ (.tail _ (.head _))))) (.tail (q _ (.tail _ (.tail _ (.tail _ (.tail _ (.head _)))))) (.tail (q _ (.tail _ (.tail _ (.tail _ (.tail _ (.tail _ (.head _))))))) (.head hrest)))))))))))) hz hI H ret
theorem Its.apartP {kf : Addr → Int} {rf : Addr → Bool} {xs ys : List (Addr × Int)} {tl : List (Addr × Obj)} {x : Nat} {v : Int} (_P : ys.Perm (xs ++ [(x, v)])) (h : Its kf rf xs tl) (hx : ∀ p ∈ tl, p.1 ≠ x) : ∀ p ∈ xs, p.1 ≠ x := h.apart hx
theorem Book.renew {kf : Addr → Int} {rf : Addr → Bool} {lv : Lv} {xs ys : List (Addr × Int)} {ik dk : List (Int × Value)} {k v e₀ : Int} {x x₀ : Addr} {t : Tok} (b : Book kf rf lv xs ik dk) (hk : lv k = some (x₀, e₀)) (P : ys.Perm (xs ++ [(x, v)])) (hx : ∀ p ∈ xs, p.1 ≠ x) :
    Book (upF kf x k) (upF (upF rf x₀ true) x false) ((lv.off k).on k (x, v)) ys (stored (stored (without ik k) k (.ref x₀)) k (.ref x)) (stored dk k (.int v t)) :=
  ((b.mark hk).push (k := k) (v := v) (t := t) hx (if_pos rfl) P).ext (fun j => by simp only [va_stored, va_without]; by_cases hj : j = k <;> simp [hj]) (fun j => by simp only [va_stored, va_without]; by_cases hj : j = k <;> simp [hj])
theorem led_rot2 {h : Heap} {x3 x4 a1 a2 a3 a4 a5 a6 a7 a8 a9 b1 b2 b3 b4 : Addr × Obj} {tl : List (Addr × Obj)} (N : News h₀ L h (x3 :: x4 :: a1 :: a2 :: a3 :: a4 :: a5 :: a6 :: a7 :: a8 :: a9 :: b1 :: b2 :: b3 :: b4 :: tl)) :
    News h₀ L h (a1 :: a2 :: a3 :: a4 :: a5 :: a6 :: a7 :: a8 :: a9 :: b1 :: b2 :: b3 :: b4 :: x3 :: x4 :: tl) := fun p hp => N p (by
  simp only [List.mem_cons] at hp ⊢
  rcases hp with h | h | h | h | h | h | h | h | h | h | h | h | h | h | h | h <;> simp only [h, true_or, or_true])
theorem Its.push2 {kf : Addr → Int} {rf : Addr → Bool} {xs ys : List (Addr × Int)} {tl : List (Addr × Obj)} {x d : Addr} {k v : Int} {tq tv : Tok} {y z : Addr × Obj} (h : Its kf rf xs tl) (hx : ∀ p ∈ xs, p.1 ≠ x) (P : ys.Perm (xs ++ [(x, v)])) :
    Its (upF kf x k) (upF rf x false) ys ((x, itO d (.int v tv) (.int k tq) (.bool false)) :: (d, dictOf [] 0) :: y :: z :: tl) :=
  h.push hx (fun _ h => .tail _ (.tail _ (.tail _ (.tail _ h)))) P (.head _) (.tail _ (.head _))
theorem Its.push3 {kf : Addr → Int} {rf : Addr → Bool} {xs ys : List (Addr × Int)} {tl : List (Addr × Obj)} {x d : Addr} {k v : Int} {tq tv : Tok} {y z u : Addr × Obj} (h : Its kf rf xs (u :: tl)) (hx : ∀ p ∈ xs, p.1 ≠ x) (P : ys.Perm (xs ++ [(x, v)])) :
    Its (upF kf x k) (upF rf x false) ys ((x, itO d (.int v tv) (.int k tq) (.bool false)) :: (d, dictOf [] 0) :: y :: u :: z :: tl) :=
  h.push hx (fun p h => by simp only [List.mem_cons] at h ⊢; rcases h with h | h <;> simp only [h, true_or, or_true]) P (.head _) (.tail _ (.head _))
theorem tail4 {x1 x2 x3 x4 : Addr × Obj} {tl : List (Addr × Obj)} {d : Nat} (h1 : @Ne Nat x1.1 d) (h2 : @Ne Nat x2.1 d) (h3 : @Ne Nat x3.1 d) (h4 : @Ne Nat x4.1 d) (h : ∀ p ∈ tl, p.1 ≠ d) : ∀ p ∈ x1 :: x2 :: x3 :: x4 :: tl, p.1 ≠ d :=
  List.forall_mem_cons.mpr ⟨h1, List.forall_mem_cons.mpr ⟨h2, List.forall_mem_cons.mpr ⟨h3, List.forall_mem_cons.mpr ⟨h4, h⟩⟩⟩⟩
theorem tail5 {x1 x2 x3 x4 x5 : Addr × Obj} {tl : List (Addr × Obj)} {d : Nat} (h1 : @Ne Nat x1.1 d) (h2 : @Ne Nat x2.1 d) (h3 : @Ne Nat x3.1 d) (h4 : @Ne Nat x4.1 d) (h5 : @Ne Nat x5.1 d) (h : ∀ p ∈ tl, p.1 ≠ d) : ∀ p ∈ x1 :: x2 :: x3 :: x4 :: x5 :: tl, p.1 ≠ d :=
  List.forall_mem_cons.mpr ⟨h1, List.forall_mem_cons.mpr ⟨h2, List.forall_mem_cons.mpr ⟨h3, List.forall_mem_cons.mpr ⟨h4, List.forall_mem_cons.mpr ⟨h5, h⟩⟩⟩⟩⟩
theorem tail2 {x1 x2 : Addr × Obj} {tl : List (Addr × Obj)} {d : Nat} (h1 : @Ne Nat x1.1 d) (h2 : @Ne Nat x2.1 d) (h : ∀ p ∈ tl, p.1 ≠ d) : ∀ p ∈ x1 :: x2 :: tl, p.1 ≠ d :=
  List.forall_mem_cons.mpr ⟨h1, List.forall_mem_cons.mpr ⟨h2, h⟩⟩
theorem mem17 {p x0 x1 x2 x3 x4 x5 x6 x7 x8 x9 x10 x11 x12 x13 x14 x15 x16 : Addr × Obj} {tl : List (Addr × Obj)} (h : p ∈ tl) : p ∈ x0 :: x1 :: x2 :: x3 :: x4 :: x5 :: x6 :: x7 :: x8 :: x9 :: x10 :: x11 :: x12 :: x13 :: x14 :: x15 :: x16 :: tl := by
  simp only [List.mem_cons, h, or_true]
theorem mem18 {p u x1 x2 x3 x4 y0 y1 y2 y3 y4 y5 y6 y7 y8 y9 y10 y11 y12 : Addr × Obj} {tl : List (Addr × Obj)} (h : p ∈ u :: tl) : p ∈ x1 :: x2 :: x3 :: u :: x4 :: y0 :: y1 :: y2 :: y3 :: y4 :: y5 :: y6 :: y7 :: y8 :: y9 :: y10 :: y11 :: y12 :: tl := by
  simp only [List.mem_cons] at h ⊢
  rcases h with h | h <;> simp only [h, true_or, or_true]

end
section
local macro_rules | `(tactic| walk_at "pad") => `(tactic| fail)
local macro_rules | `(tactic| walk_at "pad") => `(tactic| fail)
local macro_rules | `(tactic| walk_at "pad") => `(tactic| fail)
local macro_rules | `(tactic| walk_at "pad") => `(tactic| fail)
theorem frameS0 {A : Around} {env : Env} {R : Result → Shared → Prop} {qual : Str} {scope : Scope} {f : Addr} {cdv : Value} {body : List Stmt} {binds : List (Str × Value)} {E : Value → Shared → Prop} (B : Below A₀ base [] h₀) (F : Fr h₀ L s.heap m) (N : News h₀ L s.heap news) (hlim : h₀.NoLimit) (hA : A.frames = some [env]) (hf : env.frame = some L) (hke : env.scope.kind = .function)
    (hloc : ∀ y ∈ binds, scope.names.lookup y.1 = some .local)
    (h : ∀ g L' h₁, Fr h₀ L g m → Fr g L' h₁ (fun y => binds.reverse.lookup y) → News g L' h₁ news → Below A base [env] g → h₀.StaysIn g → KtsDicts ([env].filterMap (·.frame)) g →
      wpAny (model prog w) (A.deeper (envX qual scope L' f cdv [])) (execs body (envX qual scope L' f cdv []))
        (fun fl s' => LeaveS0 ([env].filterMap (·.frame)) h₀ L m g R (match fl with | .ret v => v | _ => .none) s')
        (fun e s' => wpAny (model prog w) (A.deeper (envX qual scope L' f cdv [])) (leaving (envX qual scope L' f cdv []) e) (fun _ s'' => R (.error e) s'') (fun e' s'' => R (.error e') s'') s')
        { s with heap := h₁, toks := s.toks + binds.length })
    (hcell : ∀ x ∈ scope.names, x.2 ≠ .cell) (hk : scope.kind = .function) :
    wpAny (model prog w) A.in1 (newFunctionEnv scope mainGlobals [] binds (qual ++ ".<locals>.") (some f) cdv none builtinsNs) (fun env' s₂ => s₂.heap.NoLimit ∧ codeAny (model prog w) A (.func body env') R s₂) E s := by
  obtain ⟨FG, BG, st, _⟩ := groundX (R := R) B F N hA hf hke
  have nL₀ : h₀.get? L = none := by
    cases q : h₀.get? L with
    | none => rfl
    | some o => exact absurd (Nat.lt_of_lt_of_le (Heap.lt_size q) F.above) (Nat.lt_irrefl _)
  have one : ∀ b, b ∈ [env].filterMap (·.frame) → b = L := fun b hb => by
    obtain ⟨e, he, hb⟩ := List.mem_filterMap.mp hb
    rw [List.mem_singleton.mp he, hf] at hb
    exact (Option.some.inj hb).symm
  obtain ⟨oL, es, ep, hLg, hLd, hLk, hLf⟩ := FG.ns
  refine wpAny_newFunctionEnv hcell hloc (fun h₁ hns hsb => ⟨(hlim.keeps F.keep).fresh _ hsb, codeAny_func ?_⟩) hk
  have up : ∀ b o, s.heap.get? b = some o → h₁.get? b = some o := fun b o e => hsb.extBut b o (Nat.ne_of_lt (Heap.lt_size e)) (Heap.get?_push_of_some _ e)
  show wpAny (model prog w) (A.deeper (envX qual scope s.heap.objs.size f cdv [])) (execs body (envX qual scope s.heap.objs.size f cdv [])) _ _ _
  refine wpAny_mono (h _ s.heap.objs.size h₁ FG ⟨hns, fun b o e => up b o (of_hideAll _ e), Nat.le_of_eq (hideAll_size _ _)⟩
    (fun p hp => ⟨up _ _ (N p hp).1, Nat.ne_of_lt (Heap.lt_size (N p hp).1), hideAll_none _ (List.mem_map_of_mem hp)⟩) BG st fun b hb => by rw [one b hb]; exact ⟨oL, es, ep, hLg, hLd⟩) (fun fl s' hl => ?_) fun _ _ y => y
  obtain ⟨g', L', m', news', T', F', N', k⟩ := hl
  obtain ⟨sl, hs⟩ := T'.up hLg
  refine k ⟨⟨_, es, ep, F'.keep _ _ hs, hLd, hLk, hLf⟩, fun b o e => F'.keep b o (T'.other b o (st b o e) fun q => ?_), F.above⟩ fun p hp => ⟨(N' p hp).1, fun q => ?_, ?_⟩
  · rw [one b q, nL₀] at e; cases e
  · have z := (N' p hp).2.2
    rw [q, hs] at z; cases z
  · cases q : h₀.get? p.1 with
    | none => rfl
    | some o =>
      obtain ⟨sl', hs'⟩ := T'.up (st _ _ q)
      have z := (N' p hp).2.2
      rw [hs'] at z; cases z
theorem bothS0 {A : Around} {env : Env} {K : Frag} {R : Result → Shared → Prop} {name qual : Str} {params : Arguments} {body : List Stmt} {scope : Scope} {dV kV doc pm cdv ct oc : Value} {an od : Option Addr} {osl : Array (Option Value)} {f : Addr} {args : Args} {vs : List Value} {nm nr : Str} {front : List (Str × Value)} {g₁ : Addr → Sem (List (Str × Value))} {g₂ : Addr → Addr → Sem (List (Str × Value))}
    (B : Below A₀ base [] h₀) (F : Fr h₀ L s.heap m) (X₀ : K.In h₀) (N : News h₀ L s.heap news) (T : Top p loose mean mg mb h₀) (hA : A.frames = some [env]) (hf : env.frame = some L) (hke : env.scope.kind = .function)
    (ho : K.lookup f = some ⟨oc, od, .func (fnOf name qual params body scope dV kV doc pm an cdv ct), osl⟩) (hcd : codeIn K cdv qual = true) (hroom : A.depth < recursionLimit)
    (hp : peekA K ⟨prog, w.params⟩ (bindArgs (fnOf name qual params body scope dV kV doc pm an cdv ct) args) = some (({ cls := .type "tuple", data := .seq vs.toArray } : Obj), g₁))
    (hp₂ : ∀ D, peekA K ⟨prog, w.params⟩ (g₁ D) = some (dictOf [] 0, g₂ D))
    (hk₂ : ∀ C D, g₂ C D = pure (front ++ [(nr, Value.ref C)] ++ [(nm, Value.ref D)]))
    (hloc : ∀ C D, ∀ y ∈ front ++ [(nr, Value.ref C)] ++ [(nm, Value.ref D)], scope.names.lookup y.1 = some .local)
    (h : ∀ C D g L' h₁ tk, (∀ p ∈ news, p.1 < C) → C < D → (D == sysModules) = false → Fr h₀ L g m → Fr g L' h₁ (fun y => (front ++ [(nr, Value.ref C)] ++ [(nm, Value.ref D)]).reverse.lookup y) →
      News g L' h₁ ((D, dictOf [] 0) :: (C, ({ cls := .type "tuple", data := .seq vs.toArray } : Obj)) :: news) → Below A base [env] g → K.In g → Top p loose mean mg mb g → KtsDicts ([env].filterMap (·.frame)) g →
      wpAny (model prog w) (A.deeper (envOf qual scope L' f cdv)) (execs body (envOf qual scope L' f cdv))
        (fun fl s' => LeaveS0 ([env].filterMap (·.frame)) h₀ L m g R (match fl with | .ret v => v | _ => .none) s')
        (fun e s' => wpAny (model prog w) (A.deeper (envOf qual scope L' f cdv)) (leaving (envOf qual scope L' f cdv) e) (fun _ s'' => R (.error e) s'') (fun e' s'' => R (.error e') s'') s')
        { s with heap := h₁, toks := tk })
    (hco : scope.isCoroutine = false) (hgen : scope.isGenerator = false) (hk : scope.kind = .function)
    (hcell : ∀ x ∈ scope.names, x.2 ≠ .cell) : codeAny (model prog w) A (.call (.ref f) args) R s := by
  refine codeAny_call_function (fd := fnOf name qual params body scope dV kV doc pm an cdv ct) (body := body) hroom ((X₀.keeps F.keep) _ _ ho) rfl hco hgen rfl (codeRec_of (X₀.keeps F.keep) hcd) ?_
  refine wp_of_peekA (o := ({ cls := .type "tuple", data := .seq vs.toArray } : Obj)) F N (X₀.keeps F.keep) rfl _ g₁ hp fun h' F' N' l => ?_
  refine wp_of_peekA (s := { s with heap := h' }) (o := dictOf [] 0) F' N' (X₀.keeps F'.keep) rfl _ (g₂ s.heap.objs.size) (hp₂ _) fun h'' F'' N'' l' => ?_
  rw [hk₂]
  exact wpAny_pure (frameS0 (s := { s with heap := h'' }) B F'' N'' T.nolimit hA hf hke (hloc _ _)
    (fun g L' h₁ FG FL NG BG st D => h _ _ g L' h₁ _ l (l' _ (.head _)) (F'.notModules (modules_low T.nolimit)) FG FL NG BG (X₀.keeps st) (T.keeps st) D) hcell hk)
theorem looks_new {M : Model} {A : Around} {B₀ : Heap} {env : Env} {os : List Env} {L e : Addr} {oe : Obj} {vs : Array Value} {a0 : Value} {Q : Unit → Shared → Prop}
    (hfr : A.frames = some (env :: os)) (hl : s.heap.FunFrames B₀ (env :: os)) (hf : env.frame = some L) (he : s.heap.get? e = some oe) (hkb : B₀.StaysIn s.heap) (hen : B₀.get? e = none) (hd : oe.data = .fields vs) (h1 : vs[1]? = some .none) (h0 : vs[0]? = some a0)
    (h : ∀ h', Heap.NotedW B₀ (env :: os) e oe.cls a0 (rawInt L) s.heap h' → Q () { s with heap := h' }) : wpAny M A (noteFrame (.ref e) env) Q E s := by
  unfold noteFrame
  simp only [hf]
  refine wpAny_bind (wpAny_field he hd h1 ?_)
  rw [if_neg (by decide)]
  exact wpAny_entryW hfr hl hf he hkb hen hd (Array.getElem?_eq_some_iff.mp h1).1 h0 h
section
variable {g g₀ h : Heap} {e : Addr} {name : Str} {scope : Scope} {cd : Value} {b₀ : Stmt} {suite : List Stmt} {pos np : Pos} {rest : List ExceptHandler} {KF : Frag} {x : Str} {X T' : String}
theorem own_caught {Q : Flow → Shared → Prop} (K : Below A₀ base outer g) (hx : Heap.NewExc h s.heap e X) (F : Fr g L h m) (N : News g L h news) (XB : KF.In base) (TB : Top p loose mean mg mb base)
    (D : KtsDicts (outer.filterMap (·.frame)) g) (T0 : KtsTurn (outer.filterMap (·.frame)) g₀ g)
    (ex : nsIn KF mainGlobals x = some none) (hv : bootBuiltins x = some (.type T')) (hn' : x ≠ "__name__")
    (hexc : isSubtype (.type T') (.type "BaseException") = pure true) (hnt : isSubtype (.type ((Manifest.find? T').elim "type" fun y => y.metatype)) (.type "tuple") = pure false) (hsub : isSubtype (.type X) (.type T') = pure true)
    (k : ∀ h' g', KtsTurn (outer.filterMap (·.frame)) g₀ g' → Fr g' L h' m → News g' L h' news → Below A₀ base outer g' → KF.In g' → Top p loose mean mg mb g' → KtsDicts (outer.filterMap (·.frame)) g' →
      wpAny (model prog w) ((A₀.deeper (envOf name scope L a cd)).mark (some (.ref e))) (execs (b₀ :: suite) (envOf name scope L a cd)) Q E { s with heap := h' })
    (hk : scope.kind = .function := by rfl) (hx' : (envOf name scope L a cd).kindOf x = some .globalImplicit := by rfl) (hd : (x == ("__debug__" : Str)) = false := by decide)
    (hE : PassesOwnAt (model prog w) ((A₀.deeper (envOf name scope L a cd)).mark (some (.ref e))) (A₀.deeper (envOf name scope L a cd)) (envOf name scope L a cd) E := by passes_own) :
    wpAny (model prog w) (A₀.deeper (envOf name scope L a cd)) (noteFrame (.ref e) (envOf name scope L a cd))
      (fun _ s₂ => wpAny (model prog w) (A₀.deeper (envOf name scope L a cd)) (setFlight (.ref e) none) (fun _ s₃ =>
        wpAny (model prog w) (A₀.deeper (envOf name scope L a cd)) (handleBy (.ref e) (envOf name scope L a cd) (.ExceptHandler (some (.Name x np)) none (b₀ :: suite) pos :: rest)) Q E s₃) E s₂) E s := by
  have K' := K.push (name := name) (a := a) (cd := cd) F hk
  have hin : ∀ env ∈ (envOf name scope L a cd :: outer), ∀ b, env.frame = some b → b ∈ (envOf name scope L a cd :: outer).filterMap (·.frame) := fun env he b hb => List.mem_filterMap.mpr ⟨env, he, hb⟩
  generalize hB : hideAll h ((envOf name scope L a cd :: outer).filterMap (·.frame)) = B
  have hBh : ∀ b o, B.get? b = some o → h.get? b = some o := fun b o q => of_hideAll _ (hB ▸ q)
  have hBG : ∀ b o, h.get? b = some o → b ∉ (envOf name scope L a cd :: outer).filterMap (·.frame) → B.get? b = some o := fun b o q nm => by rw [← hB]; exact hideAll_get _ q nm
  have hfr : h.FunFrames B (envOf name scope L a cd :: outer) := by rw [← hB]; exact funFrames_hide K'.frames hin
  have hl : ∀ q ∈ news, B.get? q.1 = some q.2 ∧ g.get? q.1 = none := fun q hq => by
    refine ⟨hBG _ _ (N q hq).1 fun hm => ?_, (N q hq).2.2⟩
    obtain ⟨env, he, hf⟩ := List.mem_filterMap.mp hm
    rcases List.mem_cons.mp he with rfl | he
    · exact (N q hq).2.1 (Option.some.inj hf).symm
    · obtain ⟨o, ho, _⟩ := (K.frames.mem (List.mem_filterMap.mpr ⟨env, he, hf⟩)).2
      rw [(N q hq).2.2] at ho; cases ho
  have hL : B.get? L = none := by
    obtain ⟨_, ⟨L', _, hf, hn', _⟩, _⟩ := hfr
    obtain rfl : L = L' := Option.some.inj hf
    exact hn'
  obtain ⟨ob, tp, he, hcls, hdat⟩ := hx.there
  have hen : B.get? e = none := by
    cases q : B.get? e with
    | none => rfl
    | some o => have z := hBh _ _ q; rw [hx.new] at z; cases z
  have hst : B.StaysIn s.heap := fun b o hb => hx.keeps b o (hBh b o hb)
  have sm0 : h.UpToSlots s.heap := .of_keeps hx.keeps
  refine looks_new (a0 := tp) K'.stack (hfr.of_keeps fun b o hb _ => ⟨o, hx.keeps b o hb, rfl⟩) rfl he hst hen hdat rfl rfl fun h₄ ⟨a1, a2, a3, a4⟩ => ?_
  rw [hcls] at a3
  refine wpAny_landsW ⟨a1, hen, a2, a3⟩ fun h₅ hfl₅ sm₅ => ?_
  have sm := (sm0.trans a4).trans sm₅
  obtain ⟨g₅, T₅, F₅, K₅⟩ := kts_ground K F hBG hfl₅.1 sm
  obtain ⟨ob', hob, hobc⟩ := hfl₅.there
  refine wpAny_handleBy_builtin (X := X) (T := T') (b := true) hexc hnt hsub (name_B F₅ (XB.keeps K₅.stays) (topRead_of (TB.keeps K₅.stays)) ex hv hn' ⟨rfl, ⟨ob', hob, hobc⟩, ?_⟩ hk hx' hd)
  refine lands_againW hfl₅ fun h₆ hfl₆ sm₆ => ?_
  obtain ⟨g₆, T₆, F₆, K₆⟩ := kts_ground K F hBG hfl₆.1 (sm.trans sm₆)
  exact wpAny_passesOwnAt hE (k h₆ g₆ (T0.trans T₆) F₆ (fun q hq => ⟨hfl₆.1 _ _ (hl q hq).1, (fun z => by have z2 := (hl q hq).1; rw [z, hL] at z2; cases z2), T₆.none_ _ (hl q hq).2⟩) K₆ (XB.keeps K₆.stays) (TB.keeps K₆.stays) (D.turn T₆))
end
theorem get_smA {K : Frag} {A : Around} {x C q : Addr} {ox : Obj} {es : List DictEntry} {n : Nat} {name : Str} {expr : Bool} {fv : Value} {rest : List Value} {Q : Value → Shared → Prop} (F : Fr h₀ L s.heap m) (X₀ : K.In h₀) (I : InstAt s.heap x ox C (some (dictOf es n))) (hg : plainGet K C name = true) (hh : hasDictIn K C = true) (ha : findIn K (.ref C) name = some (some (.ref q)))
    (hgf : specialIn K (.ref q) "__get__" = some (some (.builtin "staticmethod.__get__"))) (hts : takesIn K (.ref q) = some false) (hc : copiedNames.contains name = false) (hl : getL name es = some none) (hp : recIn K q "staticmethod" = some (fv :: rest)) (hv : handedIn fv = true)
    (h : Q fv { s with toks := s.toks + 1 }) : wpAny (model prog w) A (getAttr (.ref x) name expr) Q E s :=
  get_bind (X₀.keeps F.keep) I (plainGet_of hg).1 (findObj_fn hh ha hgf hts hc (by show lookIn name (dictOf es n) = _; rw [lookIn_dict, hl])) (plainGet_of hg).2
      (wpAny_call (sm_get (s := { s with toks := s.toks + 1 }) (X₀.keeps F.keep) hp (handed_on hv h)))
theorem led_new {h : Heap} {od di tm dt da c dc ttu tc clk cc hl hc : Addr × Obj} {tl : List (Addr × Obj)} (N : News h₀ L h (od :: di :: tm :: dt :: da :: c :: dc :: ttu :: tc :: clk :: cc :: hl :: hc :: tl)) :
    News h₀ L h (c :: dc :: tm :: dt :: da :: di :: od :: clk :: cc :: hc :: hl :: ttu :: tc :: tl) := fun p hp => N p (by
  simp only [List.mem_cons] at hp ⊢
  rcases hp with h | h | h | h | h | h | h | h | h | h | h | h | h | h <;> simp only [h, true_or, or_true])

end
section
local macro_rules | `(tactic| walk_at "pad") => `(tactic| fail)
local macro_rules | `(tactic| walk_at "pad") => `(tactic| fail)
local macro_rules | `(tactic| walk_at "pad") => `(tactic| fail)
local macro_rules | `(tactic| walk_at "pad") => `(tactic| fail)
local macro_rules | `(tactic| walk_at "pad") => `(tactic| fail)
theorem len_le_of_range : ∀ (n : Nat) (l : List Int), l.Nodup → (∀ x ∈ l, 0 ≤ x ∧ x < n) → l.length ≤ n
  | 0, l, _, h => by
    cases l with
    | nil => simp
    | cons x r => have := h x (.head _); omega
  | n + 1, l, hn, h => by
    have hl : (l.erase (n : Int)).length ≤ n := len_le_of_range n _ (hn.erase _) fun x hx => by
      have h1 := hn.mem_erase_iff.mp hx
      have h2 := h x h1.2
      have h3 : x ≠ (n : Int) := h1.1
      omega
    have := List.length_erase (a := (n : Int)) (l := l)
    split at this <;> omega
structure Ords (c dc tm dt da di clk cc hc hl ttu tc : Addr) : Prop where
  o1 : @LT.lt Nat instLTNat hc hl
  o2 : @LT.lt Nat instLTNat hl cc
  o3 : @LT.lt Nat instLTNat cc clk
  o4 : @LT.lt Nat instLTNat clk tc
  o5 : @LT.lt Nat instLTNat tc ttu
  o6 : @LT.lt Nat instLTNat ttu dc
  o7 : @LT.lt Nat instLTNat dc c
  o8 : @LT.lt Nat instLTNat c da
  o9 : @LT.lt Nat instLTNat da dt
  o10 : @LT.lt Nat instLTNat dt tm
  o11 : @LT.lt Nat instLTNat tm di
  lda : (da == sysModules) = false
  ldi : (di == sysModules) = false
/-- the calendar's part of a ledger; ce: the places in the calendar, with their ends -/
inductive CalL (prog : Program) (w : World) (h₀ : Heap) (c dc tm dt da di clk cc hc hl ttu tc : Addr) (M H : Int) (ce : Int → Option Int) (cl : Prop) (xz : Nat) (own led : List (Addr × Obj)) : Prop
  | mk (od : Addr) (t1 t2 t3 t4 t5 t6 t7 u1 u2 u3 tk0 tH tv1 tv2 tM tcur tT0 : Tok) (T0 : Int) (doc1 pm1 ct1 doc2 pm2 ct2 : Value) (oda odi occ och otc : Obj) (nh no : Nat) (vs1 vs2 : Array Value) (cN pN : Addr) (xs : List (Addr × Int)) (ik dk : List (Int × Value)) (kf : Addr → Int) (rf : Addr → Bool) (lv : Lv) (tl : List (Addr × Obj))
    (sub : ∀ p ∈ ((c, instObj 1231 dc) :: (dc, calD w.params t1 t2 t3 t4 t5 t6 t7 (.ref da) (.int dk.length tcur) (.int M tM) (.ref tm) (.ref di) (.ref od) (.ref ttu)) :: (tm, instObj 922 dt) ::
      (dt, tmD w.params u1 u2 u3 (.ref clk) (.int 0 tk0) (.int T0 tT0)) :: (da, oda) :: (di, odi) :: (od, (listOf (vals xs) no)) :: (clk, clkO hc doc1 pm1 cc ct1) :: (cc, occ) :: (hc, och) :: (hl, listOf #[.int H tH] nh) :: (ttu, endO doc2 pm2 tc ct2) :: (tc, otc) :: tl : List (Addr × Obj)), p ∈ led)
    (hoc : occ.data = .fields vs1) (hoc1 : vs1[1]? = some (.str "law.<locals>.clock" tv1)) (hch : och.data = .cell (some (.ref hl))) (hot : otc.data = .fields vs2) (hot1 : vs2[1]? = some (.str "law.<locals>.end" tv2)) (hCd : CodeHd h₀ cN pN) (q : AllAp od [c, dc, tm, dt, da, di, clk, cc, hc, hl, ttu, tc]) (n1 : ∀ p ∈ tl, p.1 ≠ dc) (n2 : ∀ p ∈ tl, p.1 ≠ da) (n3 : ∀ p ∈ tl, p.1 ≠ dt) (n4 : ∀ p ∈ tl, p.1 ≠ di) (n5 : ∀ p ∈ tl, p.1 ≠ od)
    (hda : DOf prog w oda dk) (hdi : DOf prog w odi ik) (hxl : xs.length ≤ xz) (hI : Its kf rf xs tl) (hH : HP xs 0) (hb : Book kf rf lv xs ik dk) (hce : ∀ k, (lv k).map (·.2) = ce k) (hcl : cl → ∀ a, rf a = false)
    (sup : ∀ k, (ce k).isSome = true → 0 ≤ k ∧ k < M) (hown : ∀ p ∈ own, p ∈ tl) : CalL prog w h₀ c dc tm dt da di clk cc hc hl ttu tc M H ce cl xz own led
def Apart (mu rest : List (Addr × Obj)) : Prop := ∀ q ∈ mu, ∀ p ∈ rest, p.1 ≠ q.1
def Safe (mu : List (Addr × Obj)) : Prop := ∀ q ∈ mu, q.2.cls ≠ .ref 1140 ∧ q.2 ≠ dictOf [] 0
def NotIt (l : List (Addr × Obj)) : Prop := ∀ q ∈ l, q.2.cls = .ref 1140 → q.2.data ≠ .plain
theorem Safe.notIt {mu : List (Addr × Obj)} (S : Safe mu) : NotIt mu := fun q hq h => absurd h (S q hq).1
abbrev offM (mu tl : List (Addr × Obj)) : List (Addr × Obj) := tl.filter fun p => mu.all fun q => decide (p.1 ≠ q.1)
theorem offM_sub {mu tl : List (Addr × Obj)} {p : Addr × Obj} (h : p ∈ offM mu tl) : p ∈ tl := (List.mem_filter.mp h).1
theorem offM_ne {mu tl : List (Addr × Obj)} {p q : Addr × Obj} (h : p ∈ offM mu tl) (hq : q ∈ mu) : p.1 ≠ q.1 := of_decide_eq_true (List.all_eq_true.mp (List.mem_filter.mp h).2 q hq)
theorem offM_mem {mu tl : List (Addr × Obj)} {p : Addr × Obj} (h : p ∈ tl) (hne : ∀ q ∈ mu, p.1 ≠ q.1) : p ∈ offM mu tl := List.mem_filter.mpr ⟨h, List.all_eq_true.mpr fun q hq => decide_eq_true (hne q hq)⟩
theorem Its.offM {h : Heap} {led mu tl : List (Addr × Obj)} {kf : Addr → Int} {rf : Addr → Bool} {xs : List (Addr × Int)} (I : Its kf rf xs tl) (N : News h₀ L h led) (St : ∀ p ∈ tl, p ∈ led) (Sm : ∀ q ∈ mu, q ∈ led) (S : NotIt mu) (S2 : xs = [] ∨ ∀ q ∈ mu, q.2 ≠ dictOf [] 0) : Its kf rf xs (offM mu tl) := fun p hp => by
  rcases S2 with e | S2
  · rw [e] at hp; cases hp
  obtain ⟨dx, te, tk, a, b⟩ := I p hp
  refine ⟨dx, te, tk, offM_mem a fun q hq e => ?_, offM_mem b fun q hq e => ?_⟩
  · have h1 := (N _ (St _ a)).1
    have h2 := (N _ (Sm q hq)).1
    rw [show q.1 = p.1 from e.symm, h1] at h2
    exact S q hq (by rw [← Option.some.inj h2]) (by rw [← Option.some.inj h2])
  · have h1 := (N _ (St _ b)).1
    have h2 := (N _ (Sm q hq)).1
    rw [show q.1 = dx from e.symm, h1] at h2
    exact S2 q hq (Option.some.inj h2).symm
section
variable {c dc tm dt da di clk cc hc hl ttu tc : Addr} {M H : Int} {ce ce' : Int → Option Int} {cl cl' : Prop} {xz : Nat} {own led mu rest : List (Addr × Obj)}
theorem CalL.mono {led' : List (Addr × Obj)} (C : CalL prog w h₀ c dc tm dt da di clk cc hc hl ttu tc M H ce cl xz own led) (hs : ∀ p ∈ led, p ∈ led') : CalL prog w h₀ c dc tm dt da di clk cc hc hl ttu tc M H ce cl xz own led' := by
  cases C with
  | mk od t1 t2 t3 t4 t5 t6 t7 u1 u2 u3 tk0 tH tv1 tv2 tM tcur tT0 T0 doc1 pm1 ct1 doc2 pm2 ct2 oda odi occ och otc nh no vs1 vs2 cN pN xs ik dk kf rf lv tl sub hoc hoc1 hch hot hot1 hCd q n1 n2 n3 n4 n5 hda hdi hxl hI hH hb hce hcl sup hown =>
    exact .mk od t1 t2 t3 t4 t5 t6 t7 u1 u2 u3 tk0 tH tv1 tv2 tM tcur tT0 T0 doc1 pm1 ct1 doc2 pm2 ct2 oda odi occ och otc nh no vs1 vs2 cN pN xs ik dk kf rf lv tl (fun p hp => hs _ (sub p hp)) hoc hoc1 hch hot hot1 hCd q n1 n2 n3 n4 n5 hda hdi hxl hI hH hb hce hcl sup hown
theorem CalL.addrs (C : CalL prog w h₀ c dc tm dt da di clk cc hc hl ttu tc M H ce cl xz own led) (d : Addr) (hd : d ∈ [c, dc, tm, dt, da, di, clk, cc, hc, hl, ttu, tc]) : ∃ o, (d, o) ∈ led := by
  cases C with
  | mk od t1 t2 t3 t4 t5 t6 t7 u1 u2 u3 tk0 tH tv1 tv2 tM tcur tT0 T0 doc1 pm1 ct1 doc2 pm2 ct2 oda odi occ och otc nh no vs1 vs2 cN pN xs ik dk kf rf lv tl sub =>
    simp only [List.mem_cons, List.not_mem_nil, or_false] at hd
    rcases hd with rfl | rfl | rfl | rfl | rfl | rfl | rfl | rfl | rfl | rfl | rfl | rfl
    all_goals first | exact ⟨_, sub _ (.head _)⟩ | exact ⟨_, sub _ (.tail _ (.head _))⟩ | exact ⟨_, sub _ (.tail _ (.tail _ (.head _)))⟩ | exact ⟨_, sub _ (.tail _ (.tail _ (.tail _ (.head _))))⟩ | exact ⟨_, sub _ (.tail _ (.tail _ (.tail _ (.tail _ (.head _)))))⟩ | exact ⟨_, sub _ (.tail _ (.tail _ (.tail _ (.tail _ (.tail _ (.head _))))))⟩ | exact ⟨_, sub _ (.tail _ (.tail _ (.tail _ (.tail _ (.tail _ (.tail _ (.head _)))))))⟩ | exact ⟨_, sub _ (.tail _ (.tail _ (.tail _ (.tail _ (.tail _ (.tail _ (.tail _ (.head _))))))))⟩ | exact ⟨_, sub _ (.tail _ (.tail _ (.tail _ (.tail _ (.tail _ (.tail _ (.tail _ (.tail _ (.head _)))))))))⟩ | exact ⟨_, sub _ (.tail _ (.tail _ (.tail _ (.tail _ (.tail _ (.tail _ (.tail _ (.tail _ (.tail _ (.head _))))))))))⟩ | exact ⟨_, sub _ (.tail _ (.tail _ (.tail _ (.tail _ (.tail _ (.tail _ (.tail _ (.tail _ (.tail _ (.tail _ (.head _)))))))))))⟩ | exact ⟨_, sub _ (.tail _ (.tail _ (.tail _ (.tail _ (.tail _ (.tail _ (.tail _ (.tail _ (.tail _ (.tail _ (.tail _ (.head _))))))))))))⟩ | exact ⟨_, sub _ (.tail _ (.tail _ (.tail _ (.tail _ (.tail _ (.tail _ (.tail _ (.tail _ (.tail _ (.tail _ (.tail _ (.tail _ (.head _)))))))))))))⟩
theorem CalL.ownIn (C : CalL prog w h₀ c dc tm dt da di clk cc hc hl ttu tc M H ce cl xz own led) : ∀ p ∈ own, p ∈ led := by
  cases C with
  | mk od t1 t2 t3 t4 t5 t6 t7 u1 u2 u3 tk0 tH tv1 tv2 tM tcur tT0 T0 doc1 pm1 ct1 doc2 pm2 ct2 oda odi occ och otc nh no vs1 vs2 cN pN xs ik dk kf rf lv tl sub hoc hoc1 hch hot hot1 hCd q n1 n2 n3 n4 n5 hda hdi hxl hI hH hb hce hcl sup hown =>
    exact fun p hp => sub p (by simp only [List.mem_cons, hown p hp, or_true])
end

end
section
local macro_rules | `(tactic| walk_at "pad") => `(tactic| fail)
local macro_rules | `(tactic| walk_at "pad") => `(tactic| fail)
local macro_rules | `(tactic| walk_at "pad") => `(tactic| fail)
local macro_rules | `(tactic| walk_at "pad") => `(tactic| fail)
local macro_rules | `(tactic| walk_at "pad") => `(tactic| fail)
local macro_rules | `(tactic| walk_at "pad") => `(tactic| fail)
set_option maxHeartbeats 4000000 in
theorem cal_get (B : Below A₀ base outer h₀) (F : Fr h₀ L s.heap m) (X : (K w.params).In h₀) {c dc tm dt da di od clk cc hc hl ttu tc : Addr} {t1 t2 t3 t4 t5 t6 t7 u1 u2 u3 tk0 tH tv1 tv2 : Tok} {cur mx nst time doc1 pm1 ct1 doc2 pm2 ct2 : Value} {oda odi oor occ och otc : Obj} {H : Int} {nh : Nat} {vs1 vs2 : Array Value} {cN pN : Addr} {k e v : Int} {tq tk9 te tv tkk : Tok} {x dx : Addr} {ik dk : List (Int × Value)} {T0 : Int} {tT0 : Tok} (htime : time = .int T0 tT0)
    (N : News h₀ L s.heap ((c, instObj 1231 dc) :: (dc, calD w.params t1 t2 t3 t4 t5 t6 t7 (.ref da) cur mx (.ref tm) (.ref di) (.ref od) (.ref ttu)) :: (tm, instObj 922 dt) ::
      (dt, tmD w.params u1 u2 u3 (.ref clk) (.int 0 tk0) time) :: (da, oda) :: (di, odi) :: (od, oor) :: (clk, clkO hc doc1 pm1 cc ct1) :: (cc, occ) :: (hc, och) :: (hl, listOf #[.int H tH] nh) :: (ttu, endO doc2 pm2 tc ct2) :: (tc, otc) :: news)) (T : Top p loose mean mg mb h₀)
    (hd : dp + 20 < recursionLimit) (hu : un + 60 < cLine) (hoc : occ.data = .fields vs1) (hoc1 : vs1[1]? = some (.str "law.<locals>.clock" tv1)) (hch : och.data = .cell (some (.ref hl))) (hot : otc.data = .fields vs2) (hot1 : vs2[1]? = some (.str "law.<locals>.end" tv2)) (hCd : CodeHd h₀ cN pN) (o1 : @LT.lt Nat instLTNat hc hl) (o2 : @LT.lt Nat instLTNat hl cc) (o3 : @LT.lt Nat instLTNat cc clk) (o4 : @LT.lt Nat instLTNat clk tc) (o5 : @LT.lt Nat instLTNat tc ttu) (o6 : @LT.lt Nat instLTNat ttu dc) (o7 : @LT.lt Nat instLTNat dc c) (o8 : @LT.lt Nat instLTNat c da) (o9 : @LT.lt Nat instLTNat da dt) (o10 : @LT.lt Nat instLTNat dt tm) (o11 : @LT.lt Nat instLTNat tm di) (q : AllAp od [c, dc, tm, dt, da, di, clk, cc, hc, hl, ttu, tc]) (n1 : ∀ p ∈ news, p.1 ≠ dc) (n2 : ∀ p ∈ news, p.1 ≠ da) (n3 : ∀ p ∈ news, p.1 ≠ dt) (n4 : ∀ p ∈ news, p.1 ≠ di) (n5 : ∀ p ∈ news, p.1 ≠ od) (lda : (da == sysModules) = false) (ldi : (di == sysModules) = false)
    (hda : DOf prog w oda dk) (hdi : DOf prog w odi ik) (hik : valueAt ik k = some (.ref x)) (hdk : valueAt dk k = some (.int v tv)) (hx : (x, itO dx (.int e te) (.int k tkk) (.bool false)) ∈ news) (hdx : (dx, dictOf [] 0) ∈ news) (hHe : H < e) (hil : ik.length ≤ 100)
    (ret : ∀ h' tk' odi' tz, Fr h₀ L h' m → News h₀ L h' ((c, instObj 1231 dc) :: (dc, calD w.params t1 t2 t3 t4 t5 t6 t7 (.ref da) cur mx (.ref tm) (.ref di) (.ref od) (.ref ttu)) :: (tm, instObj 922 dt) ::
      (dt, tmD w.params u1 u2 u3 (.ref clk) (.int 0 tz) (.int H tH)) :: (da, oda) :: (di, odi') :: (od, oor) :: (clk, clkO hc doc1 pm1 cc ct1) :: (cc, occ) :: (hc, och) :: (hl, listOf #[.int H tH] nh) :: (ttu, endO doc2 pm2 tc ct2) :: (tc, otc) :: news) → DOf prog w odi' (stored (without ik k) k (.ref x)) → Q (.int v tv) { s with heap := h', toks := tk' }) :
    wpAny (model prog w) (ktrTop dp un gd cn (fsc nms sg sc mo) L a ccd cl outer) (call (.ref 974) [.ref c, .int k tq, .int 99 tk9]) Q E s := by
  subst htime
  refine wpAny_call ?_
  k_dflt k_enter
  k_steps
  with_reducible rename News h₀ _ _ _ => N9
  exact ret _ _ _ _ (by with_reducible assumption) (fun p hp => N9 p (by repeat (first | exact hp | apply List.Mem.tail))) (by with_reducible assumption)

end
section
local macro_rules | `(tactic| walk_at "pad") => `(tactic| fail)
local macro_rules | `(tactic| walk_at "pad") => `(tactic| fail)
local macro_rules | `(tactic| walk_at "pad") => `(tactic| fail)
local macro_rules | `(tactic| walk_at "pad") => `(tactic| fail)
local macro_rules | `(tactic| walk_at "pad") => `(tactic| fail)
local macro_rules | `(tactic| walk_at "pad") => `(tactic| fail)
local macro_rules | `(tactic| walk_at "pad") => `(tactic| fail)
set_option maxHeartbeats 4000000 in
theorem cal_get1 (B : Below A₀ base outer h₀) (F : Fr h₀ L s.heap m) (X : (K w.params).In h₀) {c dc tm dt da di od clk cc hc hl ttu tc : Addr} {t1 t2 t3 t4 t5 t6 t7 u1 u2 u3 tk0 tH tv1 tv2 : Tok} {cur mx nst time doc1 pm1 ct1 doc2 pm2 ct2 : Value} {oda odi oor occ och otc : Obj} {H : Int} {nh : Nat} {vs1 vs2 : Array Value} {cN pN : Addr} {k e v : Int} {tq tk9 te tv tkk : Tok} {x dx : Addr} {ik dk : List (Int × Value)} {T0 : Int} {tT0 : Tok} (htime : time = .int T0 tT0)
    (N : News h₀ L s.heap ((c, instObj 1231 dc) :: (dc, calD w.params t1 t2 t3 t4 t5 t6 t7 (.ref da) cur mx (.ref tm) (.ref di) (.ref od) (.ref ttu)) :: (tm, instObj 922 dt) ::
      (dt, tmD w.params u1 u2 u3 (.ref clk) (.int 0 tk0) time) :: (da, oda) :: (di, odi) :: (od, oor) :: (clk, clkO hc doc1 pm1 cc ct1) :: (cc, occ) :: (hc, och) :: (hl, listOf #[.int H tH] nh) :: (ttu, endO doc2 pm2 tc ct2) :: (tc, otc) :: news)) (T : Top p loose mean mg mb h₀)
    (hd : dp + 20 < recursionLimit) (hu : un + 60 < cLine) (hoc : occ.data = .fields vs1) (hoc1 : vs1[1]? = some (.str "law.<locals>.clock" tv1)) (hch : och.data = .cell (some (.ref hl))) (hot : otc.data = .fields vs2) (hot1 : vs2[1]? = some (.str "law.<locals>.end" tv2)) (hCd : CodeHd h₀ cN pN) (o1 : @LT.lt Nat instLTNat hc hl) (o2 : @LT.lt Nat instLTNat hl cc) (o3 : @LT.lt Nat instLTNat cc clk) (o4 : @LT.lt Nat instLTNat clk tc) (o5 : @LT.lt Nat instLTNat tc ttu) (o6 : @LT.lt Nat instLTNat ttu dc) (o7 : @LT.lt Nat instLTNat dc c) (o8 : @LT.lt Nat instLTNat c da) (o9 : @LT.lt Nat instLTNat da dt) (o10 : @LT.lt Nat instLTNat dt tm) (o11 : @LT.lt Nat instLTNat tm di) (q : AllAp od [c, dc, tm, dt, da, di, clk, cc, hc, hl, ttu, tc]) (n1 : ∀ p ∈ news, p.1 ≠ dc) (n2 : ∀ p ∈ news, p.1 ≠ da) (n3 : ∀ p ∈ news, p.1 ≠ dt) (n4 : ∀ p ∈ news, p.1 ≠ di) (n5 : ∀ p ∈ news, p.1 ≠ od) (lda : (da == sysModules) = false) (ldi : (di == sysModules) = false)
    (hda : DOf prog w oda dk) (hdi : DOf prog w odi ik) (hik : valueAt ik k = some (.ref x)) (hdk : valueAt dk k = some (.int v tv)) (hx : (x, itO dx (.int e te) (.int k tkk) (.bool false)) ∈ news) (hdx : (dx, dictOf [] 0) ∈ news) (hHe : H < e) (hil : ik.length ≤ 100)
    (ret : ∀ h' tk' odi' tz, Fr h₀ L h' m → News h₀ L h' ((c, instObj 1231 dc) :: (dc, calD w.params t1 t2 t3 t4 t5 t6 t7 (.ref da) cur mx (.ref tm) (.ref di) (.ref od) (.ref ttu)) :: (tm, instObj 922 dt) ::
      (dt, tmD w.params u1 u2 u3 (.ref clk) (.int 0 tz) (.int H tH)) :: (da, oda) :: (di, odi') :: (od, oor) :: (clk, clkO hc doc1 pm1 cc ct1) :: (cc, occ) :: (hc, och) :: (hl, listOf #[.int H tH] nh) :: (ttu, endO doc2 pm2 tc ct2) :: (tc, otc) :: news) → DOf prog w odi' (stored (without ik k) k (.ref x)) → Q (.int v tv) { s with heap := h', toks := tk' }) :
    wpAny (model prog w) (ktrTop dp un gd cn (fsc nms sg sc mo) L a ccd cl outer) (call (.ref 974) [.ref c, .int k tq]) Q E s := by
  subst htime
  refine wpAny_call ?_
  k_dflt k_enter
  k_steps
  with_reducible rename News h₀ _ _ _ => N9
  exact ret _ _ _ _ (by with_reducible assumption) (fun p hp => N9 p (by repeat (first | exact hp | apply List.Mem.tail))) (by with_reducible assumption)

end
section
local macro_rules | `(tactic| walk_at "pad") => `(tactic| fail)
local macro_rules | `(tactic| walk_at "pad") => `(tactic| fail)
local macro_rules | `(tactic| walk_at "pad") => `(tactic| fail)
local macro_rules | `(tactic| walk_at "pad") => `(tactic| fail)
local macro_rules | `(tactic| walk_at "pad") => `(tactic| fail)
local macro_rules | `(tactic| walk_at "pad") => `(tactic| fail)
local macro_rules | `(tactic| walk_at "pad") => `(tactic| fail)
local macro_rules | `(tactic| walk_at "noteFrame ref") => `(tactic| (k_here; (with_reducible rename Heap.NewExc _ _ _ _ => rsX); k_dflt (refine' own_caught (T' := "KeyError") ?K ?R ?F ?N ?XB ?TB ?D ?T0 ?ex PyProof.Rows.Boot.«KeyError» ?hn kr_isExc_KeyError kr_notTuple_KeyError ?hs ?_; (case R => assumption); (case F => assumption); (case N => assumption); (case K => assumption); (case XB => assumption); (case TB => assumption); (case D => assumption); (case T0 => first | assumption | exact KtsTurn.refl); (case hs => kts_sub); (case ex => k_is); (case hn => decide); k_whole); intro h' g' T' F' N' K' X' P' D'; (try k_lift K'); (try k_sweep)))
set_option maxHeartbeats 4000000 in
theorem cal_get_no (B : Below A₀ base [] h₀) (F : Fr h₀ L s.heap m) (X : (K w.params).In h₀) (XB : (K w.params).In base) (TB : Top p loose mean mg mb base) {c dc tm dt da di od clk cc hc hl ttu tc : Addr} {t1 t2 t3 t4 t5 t6 t7 u1 u2 u3 tk0 tH tv1 tv2 : Tok} {cur mx nst time doc1 pm1 ct1 doc2 pm2 ct2 : Value} {oda odi oor occ och otc : Obj} {H : Int} {nh : Nat} {vs1 vs2 : Array Value} {cN pN : Addr} {k : Int} {tq tk9 : Tok} {ik : List (Int × Value)} {T0 : Int} {tT0 : Tok} (htime : time = .int T0 tT0)
    (N : News h₀ L s.heap ((c, instObj 1231 dc) :: (dc, calD w.params t1 t2 t3 t4 t5 t6 t7 (.ref da) cur mx (.ref tm) (.ref di) (.ref od) (.ref ttu)) :: (tm, instObj 922 dt) ::
      (dt, tmD w.params u1 u2 u3 (.ref clk) (.int 0 tk0) time) :: (da, oda) :: (di, odi) :: (od, oor) :: (clk, clkO hc doc1 pm1 cc ct1) :: (cc, occ) :: (hc, och) :: (hl, listOf #[.int H tH] nh) :: (ttu, endO doc2 pm2 tc ct2) :: (tc, otc) :: news)) (T : Top p loose mean mg mb h₀)
    (hd : dp + 20 < recursionLimit) (hu : un + 60 < cLine) (hoc : occ.data = .fields vs1) (hoc1 : vs1[1]? = some (.str "law.<locals>.clock" tv1)) (hch : och.data = .cell (some (.ref hl))) (hot : otc.data = .fields vs2) (hot1 : vs2[1]? = some (.str "law.<locals>.end" tv2)) (hCd : CodeHd h₀ cN pN) (o1 : @LT.lt Nat instLTNat hc hl) (o2 : @LT.lt Nat instLTNat hl cc) (o3 : @LT.lt Nat instLTNat cc clk) (o4 : @LT.lt Nat instLTNat clk tc) (o5 : @LT.lt Nat instLTNat tc ttu) (o6 : @LT.lt Nat instLTNat ttu dc) (o7 : @LT.lt Nat instLTNat dc c) (o8 : @LT.lt Nat instLTNat c da) (o9 : @LT.lt Nat instLTNat da dt) (o10 : @LT.lt Nat instLTNat dt tm) (o11 : @LT.lt Nat instLTNat tm di) (q : AllAp od [c, dc, tm, dt, da, di, clk, cc, hc, hl, ttu, tc]) (n1 : ∀ p ∈ news, p.1 ≠ dc) (n2 : ∀ p ∈ news, p.1 ≠ da) (n3 : ∀ p ∈ news, p.1 ≠ dt) (n4 : ∀ p ∈ news, p.1 ≠ di) (n5 : ∀ p ∈ news, p.1 ≠ od) (lda : (da == sysModules) = false) (ldi : (di == sysModules) = false)
    (hdi : DOf prog w odi ik) (hik : valueAt ik k = none) (hil : ik.length ≤ 100)
    (ret : ∀ h' tk' tz, Fr h₀ L h' m → News h₀ L h' ((c, instObj 1231 dc) :: (dc, calD w.params t1 t2 t3 t4 t5 t6 t7 (.ref da) cur mx (.ref tm) (.ref di) (.ref od) (.ref ttu)) :: (tm, instObj 922 dt) ::
      (dt, tmD w.params u1 u2 u3 (.ref clk) (.int 0 tz) (.int H tH)) :: (da, oda) :: (di, odi) :: (od, oor) :: (clk, clkO hc doc1 pm1 cc ct1) :: (cc, occ) :: (hc, och) :: (hl, listOf #[.int H tH] nh) :: (ttu, endO doc2 pm2 tc ct2) :: (tc, otc) :: news) → Q (.int 99 tk9) { s with heap := h', toks := tk' }) :
    wpAny (model prog w) (ktrTop dp un gd cn (fsc nms sg sc mo) L a ccd cl []) (call (.ref 974) [.ref c, .int k tq, .int 99 tk9]) Q E s := by
  subst htime
  refine wpAny_call ?_
  k_dflt (refine' bothS0 ?k1 ?k2 ?k3 ?k4 ?k5 ?kA ?kF ?kK ?k6 ?k7 ?k8 ?kP ?kS ?kT ?kB ?_ ?c2 ?c3 ?c4 ?c5; (case kA => exact rfl); (case kF => exact rfl); (case kK => exact rfl); (case k1 => k_asm); (case k2 => k_asm); (case k3 => k_asm); (case k4 => k_asm); (case k5 => k_asm); (case k6 => k_is); (case k7 => k_is); (case k8 => k_room); (case kP => exact rfl); (case kS => exact fun _ => rfl); (case kT => exact fun _ _ => rfl); (case kB => exact fun _ _ => locs rfl); (case c5 => decide); (case c2 => exact rfl); (case c3 => exact rfl); (case c4 => exact rfl); k_whole; intro C' D' g' L' h' tk' l1 l2 lo' FG' F' N' B' X' T' D7; (try k_lt l1); (try k_lt2 l2); (try dsimp only); (try k_lift B'); (try k_fold))
  have hs7 : (dictOf [] 0).IsDictOf (strKind prog w) [] := kp_isDict (ex := []) 0 0 List.nodup_nil
  k_steps
  with_reducible rename News h₀ _ _ _ => N9
  with_reducible rename Fr h₀ _ _ _ => F9
  exact ret _ _ _ F9 (fun p hp => N9 p (by repeat (first | exact hp | apply List.Mem.tail)))

end
section
local macro_rules | `(tactic| walk_at "pad") => `(tactic| fail)
local macro_rules | `(tactic| walk_at "pad") => `(tactic| fail)
local macro_rules | `(tactic| walk_at "compareOp In int ref") => `(tactic| (k_here; k_dflt (first
  | (refine' d_in_no ?v ?N ?m ?d ?l ?_; (case N => k_asm); (case m => k_mem); (case d => k_asm); (case v => k_asm); (case l => k_asm); k_whole)
  | (refine' d_in_yes ?v ?N ?m ?d ?l ?_; (case N => k_asm); (case m => k_mem); (case d => k_asm); (case v => k_asm); (case l => k_asm); k_whole))))
local macro_rules | `(tactic| walk_at "call builtin:dict.get") => `(tactic| (k_here; k_dflt (first
  | (refine' d_get1_no ?v ?N ?m ?d ?l ?_; (case N => k_asm); (case m => k_mem); (case d => k_asm); (case v => k_asm); (case l => k_asm); k_whole)
  | (refine' d_get1_yes ?v ?N ?m ?d ?l ?_; (case N => k_asm); (case m => k_mem); (case d => k_asm); (case v => k_asm); (case l => k_asm); k_whole))))
local macro_rules | `(tactic| k_lt2 $h:ident) => `(tactic| (replace $h := ltN $h; (try have hT8 := neAll_up (by with_reducible assumption) $h)))
local macro_rules | `(tactic| walk_at "x_mem") => `(tactic| first | with_reducible assumption | (refine List.Mem.tail _ ?_; walk_at "x_mem"))
local macro_rules | `(tactic| walk_at "exec While Compare") => `(tactic| (k_here; k_dflt (refine whl_start 100 ?_)))

local macro_rules | `(tactic| walk_at "call ref") => `(tactic| (k_here; (with_reducible show wpAny _ _ (call (Value.ref 1206) [Value.ref _, Value.int _ _]) _ _ _); refine stop_here ?_))
local macro_rules | `(tactic| walk_at "compareOp In int ref") => `(tactic| (k_here; k_dflt (first
  | (refine' d_in_no ?v ?N ?m ?d ?l ?_; (case N => k_asm); (case m => k_mem); (case d => k_asm); (case v => k_asm); (case l => k_asm); k_whole)
  | (refine' d_in_yes ?v ?N ?m ?d ?l ?_; (case N => k_asm); (case m => k_mem); (case d => k_asm); (case v => k_asm); (case l => k_asm); k_whole))))
local macro_rules | `(tactic| walk_at "call builtin:dict.get") => `(tactic| (k_here; k_dflt (first
  | (refine' d_get1_no ?v ?N ?m ?d ?l ?_; (case N => k_asm); (case m => k_mem); (case d => k_asm); (case v => k_asm); (case l => k_asm); k_whole)
  | (refine' d_get1_yes ?v ?N ?m ?d ?l ?_; (case N => k_asm); (case m => k_mem); (case d => k_asm); (case v => k_asm); (case l => k_asm); k_whole))))
set_option maxHeartbeats 4000000 in
theorem cal_set_new (B : Below A₀ base outer h₀) (F : Fr h₀ L s.heap m) (X : (K w.params).In h₀) {c dc tm dt da di od clk cc hc hl ttu tc : Addr} {t1 t2 t3 t4 t5 t6 t7 u1 u2 u3 tk0 tH tv1 tv2 : Tok} {cur mx nst time doc1 pm1 ct1 doc2 pm2 ct2 : Value} {oda odi oor occ och otc : Obj} {H : Int} {nh : Nat} {vs1 vs2 : Array Value} {cN pN : Addr} {ik₀ dk₀ : List (Int × Value)}
    {xs₀ : List (Addr × Int)} {no₀ : Nat} {kf : Addr → Int} {rf : Addr → Bool} {lv₀ : Lv} {tcur₀ tt tM tv tq : Tok} {M v k : Int} {T0 : Int} {tT0 : Tok} 
    (N : News h₀ L s.heap ((c, instObj 1231 dc) :: (dc, calD w.params t1 t2 t3 t4 t5 t6 t7 (.ref da) (.int dk₀.length tcur₀) (.int M tM) (.ref tm) (.ref di) (.ref od) (.ref ttu)) :: (tm, instObj 922 dt) ::
      (dt, tmD w.params u1 u2 u3 (.ref clk) (.int 0 tk0) time) :: (da, oda) :: (di, odi) :: (od, (listOf (vals xs₀) no₀)) :: (clk, clkO hc doc1 pm1 cc ct1) :: (cc, occ) :: (hc, och) :: (hl, listOf #[.int H tH] nh) :: (ttu, endO doc2 pm2 tc ct2) :: (tc, otc) :: news)) (T : Top p loose mean mg mb h₀)
    (hd : dp + 40 < recursionLimit) (hu : un + 120 < cLine) (hoc : occ.data = .fields vs1) (hoc1 : vs1[1]? = some (.str "law.<locals>.clock" tv1)) (hch : och.data = .cell (some (.ref hl))) (hot : otc.data = .fields vs2) (hot1 : vs2[1]? = some (.str "law.<locals>.end" tv2)) (hCd : CodeHd h₀ cN pN) (o1 : @LT.lt Nat instLTNat hc hl) (o2 : @LT.lt Nat instLTNat hl cc) (o3 : @LT.lt Nat instLTNat cc clk) (o4 : @LT.lt Nat instLTNat clk tc) (o5 : @LT.lt Nat instLTNat tc ttu) (o6 : @LT.lt Nat instLTNat ttu dc) (o7 : @LT.lt Nat instLTNat dc c) (o8 : @LT.lt Nat instLTNat c da) (o9 : @LT.lt Nat instLTNat da dt) (o10 : @LT.lt Nat instLTNat dt tm) (o11 : @LT.lt Nat instLTNat tm di) (q : AllAp od [c, dc, tm, dt, da, di, clk, cc, hc, hl, ttu, tc]) (n1 : ∀ p ∈ news, p.1 ≠ dc) (n2 : ∀ p ∈ news, p.1 ≠ da) (n3 : ∀ p ∈ news, p.1 ≠ dt) (n4 : ∀ p ∈ news, p.1 ≠ di) (n5 : ∀ p ∈ news, p.1 ≠ od) (lda : (da == sysModules) = false) (ldi : (di == sysModules) = false)
    (hda₀ : DOf prog w oda dk₀) (hdi₀ : DOf prog w odi ik₀) (hil₀ : ik₀.length ≤ 100) (hdl₀ : dk₀.length ≤ 100) {xz : Nat} (hxz : xz ≤ 900) (hxl₀ : xs₀.length ≤ xz) (hI₀ : Its kf rf xs₀ news) (hH₀ : HP xs₀ 0) (hb₀ : Book kf rf lv₀ xs₀ ik₀ dk₀)
    (hM : (dk₀.length : Int) + 1 ≤ M) (hv : H < v) (hk : lv₀ k = none) (hlive : ∀ k p, lv₀ k = some p → H < p.2) 
    (ret : ∀ h' tk' (xs : List (Addr × Int)) (no : Nat) (oda odi : Obj) (ik dk : List (Int × Value)) (tcur tz : Tok) (tl : List (Addr × Obj)) (od' x : Addr),
      Fr h₀ L h' m → News h₀ L h' ((c, instObj 1231 dc) :: (dc, calD w.params t1 t2 t3 t4 t5 t6 t7 (.ref da) (.int dk.length tcur) (.int M tM) (.ref tm) (.ref di) (.ref od') (.ref ttu)) :: (tm, instObj 922 dt) ::
      (dt, tmD w.params u1 u2 u3 (.ref clk) (.int 0 tz) (.int H tH)) :: (da, oda) :: (di, odi) :: (od', (listOf (vals xs) no)) :: (clk, clkO hc doc1 pm1 cc ct1) :: (cc, occ) :: (hc, och) :: (hl, listOf #[.int H tH] nh) :: (ttu, endO doc2 pm2 tc ct2) :: (tc, otc) :: tl) → HP xs 0 → Book (upF kf x k) (upF rf x false) (lv₀.on k (x, v)) xs ik dk → DOf prog w oda dk → DOf prog w odi ik → Its (upF kf x k) (upF rf x false) xs tl → (∀ p ∈ news, p ∈ tl) →
      (∀ p ∈ tl, p.1 ≠ dc) → (∀ p ∈ tl, p.1 ≠ da) → (∀ p ∈ tl, p.1 ≠ dt) → (∀ p ∈ tl, p.1 ≠ di) → (∀ p ∈ tl, p.1 ≠ od') → AllAp od' [c, dc, tm, dt, da, di, clk, cc, hc, hl, ttu, tc] → xs.length ≤ xz + 1 → Q .none { s with heap := h', toks := tk' }) :
    wpAny (model prog w) (ktrTop dp un gd cn (fsc nms sg sc mo) L a ccd cl outer) (call (.ref 1177) [.ref c, .int k tq, .int v tv]) Q E s := by
  refine wpAny_call ?_
  k_dflt k_enter
  k_steps
  refine Stop.go ?_
  with_reducible rename News _ _ _ _ => N9
  with_reducible rename Fr _ _ _ _ => F9
  with_reducible rename Below (ktrTop dp un gd cn _ L a ccd cl outer) _ _ _ => B9
  rename Fr h₀ L _ m => FG9
  k_dflt (refine expire_int (oor := oor) (cur := cur) (tk0 := tk0) B9 F9 (by assumption) N9 (by assumption) (by show dp + 1 + 30 < recursionLimit; omega) (by show un + 3 + 90 < cLine; omega) hoc hoc1 hch hot hot1 (hCd.keeps FG9.keep) o1 o2 o3 o4 o5 o6 o7 o8 o9 o10 o11 q n1 n2 n3 n4 n5 lda ldi hda₀ hdi₀ hil₀ hdl₀ hxz hxl₀ hI₀ hH₀ hb₀ ?_)
  intro h' tk' xs no oda' odi' ik dk tcur ts ne lv tl od' le F5 N5 H5 b5 hda5 hdi5 T5 tu5 I5 sub6 z1 z2 z3 z4 z5 z6 q5 q6 w1 w2 w3 w4 fin5
  obtain ⟨te5, e5⟩ := T5.nil_of hlive
  subst e5
  have hdl5 := hb₀.len_eq b5 hda₀ hda5
  have hdk5 : valueAt dk k = none := b5.dat0 k hk
  have hik5 : valueAt ik k = none := by rw [b5.ins, hk]; rfl
  k_steps
  rw [show decide (M < (dk.length : Int) + 1) = false from decide_eq_false (by omega)]
  k_steps
  with_reducible rename News _ _ _ _ => N8
  with_reducible rename Fr _ _ _ _ => F8
  k_dflt (refine push_led4 (xs := xs) (e := (_, v)) B9 F8 (by assumption) (by assumption) (by show dp + 1 + 10 < recursionLimit; omega) (by show un + 3 + 3 < cLine; omega) N8 ?_ ?_ ?_ ?_ q5 z5 (by omega) ?_ H5 ?_)
  · exact Ne.symm (Nat.ne_of_lt (by omega))
  · exact Ne.symm (Nat.ne_of_lt (by omega))
  · exact Ne.symm (Nat.ne_of_lt (by omega))
  · exact Ne.symm (q6 _ (by walk_at "ap_mem"))
  · intro p hp
    rcases List.mem_append.mp hp with hp | hp
    · exact (I5.itsIn.mono fun p hp => mem17 hp) p hp
    · rw [List.mem_singleton.mp hp]
      exact ⟨_, _, _, _, .head _, .tail _ (.head _)⟩
  intro h9 tk9 ys F7 N7 P7 H7
  have ax := Its.apartP P7 I5 (by k_all)
  k_steps
  with_reducible rename News h₀ _ _ _ => N6
  with_reducible rename Fr h₀ _ _ _ => F6
  have hlen : ((stored dk k (.int v tv)).length : Int) = (dk.length : Int) + 1 := by rw [stored_len_new hdk5]; rfl
  rw [← hlen] at N6
  have b6 := b5.push (x := _) (v := v) (t := tv) ax hk P7
  k_dflt (refine ret _ _ ys (no + 1) _ _ _ (stored dk k (.int v tv)) _ _ _ _ _ F6 (led_rot4 N6) H7 b6 (by assumption) (by assumption) (I5.push2 ax P7) (fun p hp => .tail _ (.tail _ (.tail _ (.tail _ (sub6 p hp))))) ?_ ?_ ?_ ?_ ?_ q5 ?_)
  iterate 5 (refine tail4 (Ne.symm (Nat.ne_of_lt (by omega))) (Ne.symm (Nat.ne_of_lt (by omega))) (Ne.symm (Nat.ne_of_lt (by omega))) (by k_ne) (by with_reducible assumption))
  have := P7.length_eq
  rw [List.length_append] at this
  simp only [List.length_cons, List.length_nil] at this
  omega

end
section
local macro_rules | `(tactic| walk_at "pad") => `(tactic| fail)
local macro_rules | `(tactic| walk_at "pad") => `(tactic| fail)
local macro_rules | `(tactic| walk_at "pad") => `(tactic| fail)
local macro_rules | `(tactic| walk_at "compareOp In int ref") => `(tactic| (k_here; k_dflt (first
  | (refine' d_in_no ?v ?N ?m ?d ?l ?_; (case N => k_asm); (case m => k_mem); (case d => k_asm); (case v => k_asm); (case l => k_asm); k_whole)
  | (refine' d_in_yes ?v ?N ?m ?d ?l ?_; (case N => k_asm); (case m => k_mem); (case d => k_asm); (case v => k_asm); (case l => k_asm); k_whole))))
local macro_rules | `(tactic| walk_at "call builtin:dict.get") => `(tactic| (k_here; k_dflt (first
  | (refine' d_get1_no ?v ?N ?m ?d ?l ?_; (case N => k_asm); (case m => k_mem); (case d => k_asm); (case v => k_asm); (case l => k_asm); k_whole)
  | (refine' d_get1_yes ?v ?N ?m ?d ?l ?_; (case N => k_asm); (case m => k_mem); (case d => k_asm); (case v => k_asm); (case l => k_asm); k_whole))))
local macro_rules | `(tactic| k_lt2 $h:ident) => `(tactic| (replace $h := ltN $h; (try have hT8 := neAll_up (by with_reducible assumption) $h)))
local macro_rules | `(tactic| walk_at "x_mem") => `(tactic| first | with_reducible assumption | (refine List.Mem.tail _ ?_; walk_at "x_mem"))
local macro_rules | `(tactic| walk_at "exec While Compare") => `(tactic| (k_here; k_dflt (refine whl_start 100 ?_)))

local macro_rules | `(tactic| walk_at "call ref") => `(tactic| (k_here; (with_reducible show wpAny _ _ (call (Value.ref 1206) [Value.ref _, Value.int _ _]) _ _ _); refine stop_here ?_))
local macro_rules | `(tactic| walk_at "compareOp In int ref") => `(tactic| (k_here; k_dflt (first
  | (refine' d_in_no ?v ?N ?m ?d ?l ?_; (case N => k_asm); (case m => k_mem); (case d => k_asm); (case v => k_asm); (case l => k_asm); k_whole)
  | (refine' d_in_yes ?v ?N ?m ?d ?l ?_; (case N => k_asm); (case m => k_mem); (case d => k_asm); (case v => k_asm); (case l => k_asm); k_whole))))
local macro_rules | `(tactic| walk_at "call builtin:dict.get") => `(tactic| (k_here; k_dflt (first
  | (refine' d_get1_no ?v ?N ?m ?d ?l ?_; (case N => k_asm); (case m => k_mem); (case d => k_asm); (case v => k_asm); (case l => k_asm); k_whole)
  | (refine' d_get1_yes ?v ?N ?m ?d ?l ?_; (case N => k_asm); (case m => k_mem); (case d => k_asm); (case v => k_asm); (case l => k_asm); k_whole))))
set_option maxHeartbeats 4000000 in
theorem cal_set_known (B : Below A₀ base outer h₀) (F : Fr h₀ L s.heap m) (X : (K w.params).In h₀) {c dc tm dt da di od clk cc hc hl ttu tc : Addr} {t1 t2 t3 t4 t5 t6 t7 u1 u2 u3 tk0 tH tv1 tv2 : Tok} {cur mx nst time doc1 pm1 ct1 doc2 pm2 ct2 : Value} {oda odi oor occ och otc : Obj} {H : Int} {nh : Nat} {vs1 vs2 : Array Value} {cN pN : Addr} {ik₀ dk₀ : List (Int × Value)}
    {xs₀ : List (Addr × Int)} {no₀ : Nat} {kf : Addr → Int} {rf : Addr → Bool} {lv₀ : Lv} {tcur₀ tt tM tv tq : Tok} {M v k : Int} {T0 : Int} {tT0 : Tok} 
    (N : News h₀ L s.heap ((c, instObj 1231 dc) :: (dc, calD w.params t1 t2 t3 t4 t5 t6 t7 (.ref da) (.int dk₀.length tcur₀) (.int M tM) (.ref tm) (.ref di) (.ref od) (.ref ttu)) :: (tm, instObj 922 dt) ::
      (dt, tmD w.params u1 u2 u3 (.ref clk) (.int 0 tk0) time) :: (da, oda) :: (di, odi) :: (od, (listOf (vals xs₀) no₀)) :: (clk, clkO hc doc1 pm1 cc ct1) :: (cc, occ) :: (hc, och) :: (hl, listOf #[.int H tH] nh) :: (ttu, endO doc2 pm2 tc ct2) :: (tc, otc) :: news)) (T : Top p loose mean mg mb h₀)
    (hd : dp + 40 < recursionLimit) (hu : un + 120 < cLine) (hoc : occ.data = .fields vs1) (hoc1 : vs1[1]? = some (.str "law.<locals>.clock" tv1)) (hch : och.data = .cell (some (.ref hl))) (hot : otc.data = .fields vs2) (hot1 : vs2[1]? = some (.str "law.<locals>.end" tv2)) (hCd : CodeHd h₀ cN pN) (o1 : @LT.lt Nat instLTNat hc hl) (o2 : @LT.lt Nat instLTNat hl cc) (o3 : @LT.lt Nat instLTNat cc clk) (o4 : @LT.lt Nat instLTNat clk tc) (o5 : @LT.lt Nat instLTNat tc ttu) (o6 : @LT.lt Nat instLTNat ttu dc) (o7 : @LT.lt Nat instLTNat dc c) (o8 : @LT.lt Nat instLTNat c da) (o9 : @LT.lt Nat instLTNat da dt) (o10 : @LT.lt Nat instLTNat dt tm) (o11 : @LT.lt Nat instLTNat tm di) (q : AllAp od [c, dc, tm, dt, da, di, clk, cc, hc, hl, ttu, tc]) (n1 : ∀ p ∈ news, p.1 ≠ dc) (n2 : ∀ p ∈ news, p.1 ≠ da) (n3 : ∀ p ∈ news, p.1 ≠ dt) (n4 : ∀ p ∈ news, p.1 ≠ di) (n5 : ∀ p ∈ news, p.1 ≠ od) (lda : (da == sysModules) = false) (ldi : (di == sysModules) = false)
    (hda₀ : DOf prog w oda dk₀) (hdi₀ : DOf prog w odi ik₀) (hil₀ : ik₀.length ≤ 100) (hdl₀ : dk₀.length ≤ 100) {xz : Nat} (hxz : xz ≤ 900) (hxl₀ : xs₀.length ≤ xz) (hI₀ : Its kf rf xs₀ news) (hH₀ : HP xs₀ 0) (hb₀ : Book kf rf lv₀ xs₀ ik₀ dk₀)
    (hM : 1 ≤ M) (hv : H < v) {x₀ : Addr} {e₀ : Int} (hk : lv₀ k = some (x₀, e₀)) (hlive : ∀ k p, lv₀ k = some p → H < p.2) 
    (ret : ∀ h' tk' (xs : List (Addr × Int)) (no : Nat) (oda odi : Obj) (ik dk : List (Int × Value)) (tcur tz : Tok) (tl : List (Addr × Obj)) (od' x : Addr),
      Fr h₀ L h' m → News h₀ L h' ((c, instObj 1231 dc) :: (dc, calD w.params t1 t2 t3 t4 t5 t6 t7 (.ref da) (.int dk.length tcur) (.int M tM) (.ref tm) (.ref di) (.ref od') (.ref ttu)) :: (tm, instObj 922 dt) ::
      (dt, tmD w.params u1 u2 u3 (.ref clk) (.int 0 tz) (.int H tH)) :: (da, oda) :: (di, odi) :: (od', (listOf (vals xs) no)) :: (clk, clkO hc doc1 pm1 cc ct1) :: (cc, occ) :: (hc, och) :: (hl, listOf #[.int H tH] nh) :: (ttu, endO doc2 pm2 tc ct2) :: (tc, otc) :: tl) → HP xs 0 → Book (upF kf x k) (upF (upF rf x₀ true) x false) ((lv₀.off k).on k (x, v)) xs ik dk → DOf prog w oda dk → DOf prog w odi ik → Its (upF kf x k) (upF (upF rf x₀ true) x false) xs tl → (∀ p ∈ news, p.1 ≠ x₀ → p ∈ tl) →
      (∀ p ∈ tl, p.1 ≠ dc) → (∀ p ∈ tl, p.1 ≠ da) → (∀ p ∈ tl, p.1 ≠ dt) → (∀ p ∈ tl, p.1 ≠ di) → (∀ p ∈ tl, p.1 ≠ od') → AllAp od' [c, dc, tm, dt, da, di, clk, cc, hc, hl, ttu, tc] → xs.length ≤ xz + 1 → Q .none { s with heap := h', toks := tk' }) :
    wpAny (model prog w) (ktrTop dp un gd cn (fsc nms sg sc mo) L a ccd cl outer) (call (.ref 1177) [.ref c, .int k tq, .int v tv]) Q E s := by
  refine wpAny_call ?_
  k_dflt k_enter
  k_steps
  refine Stop.go ?_
  with_reducible rename News _ _ _ _ => N9
  with_reducible rename Fr _ _ _ _ => F9
  with_reducible rename Below (ktrTop dp un gd cn _ L a ccd cl outer) _ _ _ => B9
  rename Fr h₀ L _ m => FG9
  k_dflt (refine expire_int (oor := oor) (cur := cur) (tk0 := tk0) B9 F9 (by assumption) N9 (by assumption) (by show dp + 1 + 30 < recursionLimit; omega) (by show un + 3 + 90 < cLine; omega) hoc hoc1 hch hot hot1 (hCd.keeps FG9.keep) o1 o2 o3 o4 o5 o6 o7 o8 o9 o10 o11 q n1 n2 n3 n4 n5 lda ldi hda₀ hdi₀ hil₀ hdl₀ hxz hxl₀ hI₀ hH₀ hb₀ ?_)
  intro h' tk' xs no oda' odi' ik dk tcur ts ne lv tl od' le F5 N5 H5 b5 hda5 hdi5 T5 tu5 I5 sub6 z1 z2 z3 z4 z5 z6 q5 q6 w1 w2 w3 w4 fin5
  obtain ⟨te5, e5⟩ := T5.nil_of hlive
  subst e5
  have hm5 := b5.mem k _ hk
  obtain ⟨dx₀, te₀, tk₀, hx5, hdx5⟩ := I5 _ hm5.1
  rw [hm5.2.2] at hx5
  dsimp only at hx5
  obtain ⟨td₀, hdk5⟩ := b5.dat k _ hk
  have hik5 : valueAt ik k = some (.ref x₀) := by rw [b5.ins, hk]; rfl
  have q7 : AllAp x₀ [c, dc, tm, dt, da, di, od', le, clk, cc, hc, hl, ttu, tc] := by
    have ne := fun (y : Addr) (o' : Obj) => @it_ne _ _ _ _ x₀ y _ o' N5 (mem14 hx5)
    refine AllAp.cons (ne _ _ (by k_mem) (.inl (fun e => by cases e))) ?_
    refine AllAp.cons (Ne.symm (z1 _ hx5)) ?_
    refine AllAp.cons (ne _ _ (by k_mem) (.inl (fun e => by cases e))) ?_
    refine AllAp.cons (Ne.symm (z3 _ hx5)) ?_
    refine AllAp.cons (Ne.symm (z2 _ hx5)) ?_
    refine AllAp.cons (Ne.symm (z4 _ hx5)) ?_
    refine AllAp.cons (Ne.symm (z5 _ hx5)) ?_
    refine AllAp.cons (Ne.symm (z6 _ hx5)) ?_
    refine AllAp.cons (ne _ _ (by k_mem) (.inl (fun e => by cases e))) ?_
    refine AllAp.cons (ne _ _ (by k_mem) (.inr (fields_ne hoc))) ?_
    refine AllAp.cons (ne _ _ (by k_mem) (.inr (cell_ne hch))) ?_
    refine AllAp.cons (ne _ _ (by k_mem) (.inl (fun e => by cases e))) ?_
    refine AllAp.cons (ne _ _ (by k_mem) (.inl (fun e => by cases e))) ?_
    refine AllAp.cons (ne _ _ (by k_mem) (.inr (fields_ne hot))) ?_
    exact AllAp.nil
  have I6 := I5.mark N5 (by walk_at "sub_tail") hx5 hdx5 hm5.1 b5.nd
  have N6 := led_pick N5 hx5
  have z0 : ∀ p ∈ offL x₀ tl, p.1 ≠ x₀ := offL_ne
  have sub7 : ∀ p ∈ news, p.1 ≠ x₀ → p ∈ offL x₀ tl := fun p hp hx => offL_mem (sub6 p hp) hx
  replace z1 : ∀ p ∈ offL x₀ tl, p.1 ≠ dc := fun p hp => z1 p (offL_sub p hp)
  replace z2 : ∀ p ∈ offL x₀ tl, p.1 ≠ da := fun p hp => z2 p (offL_sub p hp)
  replace z3 : ∀ p ∈ offL x₀ tl, p.1 ≠ dt := fun p hp => z3 p (offL_sub p hp)
  replace z4 : ∀ p ∈ offL x₀ tl, p.1 ≠ di := fun p hp => z4 p (offL_sub p hp)
  replace z5 : ∀ p ∈ offL x₀ tl, p.1 ≠ od' := fun p hp => z5 p (offL_sub p hp)
  replace z6 : ∀ p ∈ offL x₀ tl, p.1 ≠ le := fun p hp => z6 p (offL_sub p hp)
  have hdx6 := offL_mem hdx5 (show dx₀ ≠ x₀ from it_ne N5 (mem14 hx5) (mem14 hdx5) (.inl (fun e => by cases e)))
  generalize offL x₀ tl = tl2 at *
  clear N5 sub6 T5 tu5 I5 hx5 hdx5
  k_steps
  with_reducible rename News _ _ _ _ => N8
  with_reducible rename Fr _ _ _ _ => F8
  k_dflt (refine push_led5 (xs := xs) (e := (_, v)) B9 F8 (by assumption) (by assumption) (by show dp + 1 + 10 < recursionLimit; omega) (by show un + 3 + 3 < cLine; omega) N8 ?_ ?_ ?_ ?_ ?_ q5 z5 (by omega) ?_ H5 ?_)
  · exact Ne.symm (Nat.ne_of_lt (by omega))
  · exact Ne.symm (Nat.ne_of_lt (by omega))
  · exact Ne.symm (Nat.ne_of_lt (by omega))
  · exact Ne.symm (q7 _ (by walk_at "ap_mem"))
  · exact Ne.symm (q6 _ (by walk_at "ap_mem"))
  · intro p hp
    rcases List.mem_append.mp hp with hp | hp
    · exact (I6.itsIn.mono fun p hp => mem18 hp) p hp
    · rw [List.mem_singleton.mp hp]
      exact ⟨_, _, _, _, .head _, .tail _ (.head _)⟩
  intro h9 tk9 ys F7 N7 P7 H7
  have ax := Its.apartP P7 I6 (List.forall_mem_cons.mpr ⟨Nat.ne_of_lt (by omega), by k_all⟩)
  k_steps
  with_reducible rename News h₀ _ _ _ => N6
  with_reducible rename Fr h₀ _ _ _ => F6
  have hlen : ((stored dk k (.int v tv)).length : Int) = (dk.length : Int) := by rw [stored_len_old hdk5]
  rw [← hlen] at N6
  have b8 := b5.renew (v := v) (t := tv) hk P7 ax
  k_dflt (refine ret _ _ ys (no + 1) _ _ _ (stored dk k (.int v tv)) _ _ _ _ _ F6 (led_rot5 N6) H7 b8 (by assumption) (by assumption) (I6.push3 ax P7) (fun p hp hx => .tail _ (.tail _ (.tail _ (.tail _ (.tail _ (sub7 p hp hx)))))) ?_ ?_ ?_ ?_ ?_ q5 ?_)
  iterate 5 (refine tail5 (Ne.symm (Nat.ne_of_lt (by omega))) (Ne.symm (Nat.ne_of_lt (by omega))) (Ne.symm (Nat.ne_of_lt (by omega))) (by k_ne) (by k_ne) (by with_reducible assumption))
  have := P7.length_eq
  rw [List.length_append] at this
  simp only [List.length_cons, List.length_nil] at this
  omega

end
section
local macro_rules | `(tactic| walk_at "pad") => `(tactic| fail)
local macro_rules | `(tactic| walk_at "pad") => `(tactic| fail)
local macro_rules | `(tactic| walk_at "pad") => `(tactic| fail)
local macro_rules | `(tactic| walk_at "pad") => `(tactic| fail)
local macro_rules | `(tactic| walk_at "compareOp In int ref") => `(tactic| (k_here; k_dflt (first
  | (refine' d_in_no ?v ?N ?m ?d ?l ?_; (case N => k_asm); (case m => k_mem); (case d => k_asm); (case v => k_asm); (case l => k_asm); k_whole)
  | (refine' d_in_yes ?v ?N ?m ?d ?l ?_; (case N => k_asm); (case m => k_mem); (case d => k_asm); (case v => k_asm); (case l => k_asm); k_whole))))
local macro_rules | `(tactic| walk_at "call builtin:dict.get") => `(tactic| (k_here; k_dflt (first
  | (refine' d_get1_no ?v ?N ?m ?d ?l ?_; (case N => k_asm); (case m => k_mem); (case d => k_asm); (case v => k_asm); (case l => k_asm); k_whole)
  | (refine' d_get1_yes ?v ?N ?m ?d ?l ?_; (case N => k_asm); (case m => k_mem); (case d => k_asm); (case v => k_asm); (case l => k_asm); k_whole))))
local macro_rules | `(tactic| k_lt2 $h:ident) => `(tactic| (replace $h := ltN $h; (try have hT8 := neAll_up (by with_reducible assumption) $h)))
local macro_rules | `(tactic| walk_at "x_mem") => `(tactic| first | with_reducible assumption | (refine List.Mem.tail _ ?_; walk_at "x_mem"))
local macro_rules | `(tactic| walk_at "exec While Compare") => `(tactic| (k_here; k_dflt (refine whl_start 100 ?_)))

local macro_rules | `(tactic| walk_at "call ref") => `(tactic| (k_here; (with_reducible show wpAny _ _ (call (Value.ref 1206) [Value.ref _, Value.int _ _]) _ _ _); refine stop_here ?_))
local macro_rules | `(tactic| walk_at "compareOp In int ref") => `(tactic| (k_here; k_dflt (first
  | (refine' d_in_no ?v ?N ?m ?d ?l ?_; (case N => k_asm); (case m => k_mem); (case d => k_asm); (case v => k_asm); (case l => k_asm); k_whole)
  | (refine' d_in_yes ?v ?N ?m ?d ?l ?_; (case N => k_asm); (case m => k_mem); (case d => k_asm); (case v => k_asm); (case l => k_asm); k_whole))))
local macro_rules | `(tactic| walk_at "call builtin:dict.get") => `(tactic| (k_here; k_dflt (first
  | (refine' d_get1_no ?v ?N ?m ?d ?l ?_; (case N => k_asm); (case m => k_mem); (case d => k_asm); (case v => k_asm); (case l => k_asm); k_whole)
  | (refine' d_get1_yes ?v ?N ?m ?d ?l ?_; (case N => k_asm); (case m => k_mem); (case d => k_asm); (case v => k_asm); (case l => k_asm); k_whole))))
set_option maxHeartbeats 4000000 in
theorem cal_set_first (B : Below A₀ base outer h₀) (F : Fr h₀ L s.heap m) (X : (K w.params).In h₀) {c dc tm dt da di od clk cc hc hl ttu tc : Addr} {t1 t2 t3 t4 t5 t6 t7 u1 u2 u3 tk0 tH tv1 tv2 : Tok} {cur mx nst time doc1 pm1 ct1 doc2 pm2 ct2 : Value} {oda odi oor occ och otc : Obj} {H : Int} {nh : Nat} {vs1 vs2 : Array Value} {cN pN : Addr} {ik₀ dk₀ : List (Int × Value)}
    {xs₀ : List (Addr × Int)} {no₀ : Nat} {kf : Addr → Int} {rf : Addr → Bool} {lv₀ : Lv} {tcur₀ tt tM tv tq : Tok} {M v k : Int} {T0 : Int} {tT0 : Tok} 
    (N : News h₀ L s.heap ((c, instObj 1231 dc) :: (dc, calD w.params t1 t2 t3 t4 t5 t6 t7 (.ref da) (.int dk₀.length tcur₀) (.int M tM) (.ref tm) (.ref di) (.ref od) (.ref ttu)) :: (tm, instObj 922 dt) ::
      (dt, dictOf [sE w.params "_Timer__timer" u1 (.ref clk), sE w.params "_Timer__nesting" u2 (.int 0 tk0)] 2) :: (da, oda) :: (di, odi) :: (od, listOf (vals xs₀) no₀) :: (clk, clkO hc doc1 pm1 cc ct1) :: (cc, occ) :: (hc, och) :: (hl, listOf #[.int H tH] nh) :: (ttu, endO doc2 pm2 tc ct2) :: (tc, otc) :: news)) (T : Top p loose mean mg mb h₀)
    (hd : dp + 40 < recursionLimit) (hu : un + 120 < cLine) (hoc : occ.data = .fields vs1) (hoc1 : vs1[1]? = some (.str "law.<locals>.clock" tv1)) (hch : och.data = .cell (some (.ref hl))) (hot : otc.data = .fields vs2) (hot1 : vs2[1]? = some (.str "law.<locals>.end" tv2)) (hCd : CodeHd h₀ cN pN) (o1 : @LT.lt Nat instLTNat hc hl) (o2 : @LT.lt Nat instLTNat hl cc) (o3 : @LT.lt Nat instLTNat cc clk) (o4 : @LT.lt Nat instLTNat clk tc) (o5 : @LT.lt Nat instLTNat tc ttu) (o6 : @LT.lt Nat instLTNat ttu dc) (o7 : @LT.lt Nat instLTNat dc c) (o8 : @LT.lt Nat instLTNat c da) (o9 : @LT.lt Nat instLTNat da dt) (o10 : @LT.lt Nat instLTNat dt tm) (o11 : @LT.lt Nat instLTNat tm di) (q : AllAp od [c, dc, tm, dt, da, di, clk, cc, hc, hl, ttu, tc]) (n1 : ∀ p ∈ news, p.1 ≠ dc) (n2 : ∀ p ∈ news, p.1 ≠ da) (n3 : ∀ p ∈ news, p.1 ≠ dt) (n4 : ∀ p ∈ news, p.1 ≠ di) (n5 : ∀ p ∈ news, p.1 ≠ od) (lda : (da == sysModules) = false) (ldi : (di == sysModules) = false)
    (hda₀ : DOf prog w oda dk₀) (hdi₀ : DOf prog w odi ik₀) (hil₀ : ik₀.length ≤ 100) (hdl₀ : dk₀.length ≤ 100) {xz : Nat} (hxz : xz ≤ 900) (hxl₀ : xs₀.length ≤ xz) (hI₀ : Its kf rf xs₀ news) (hH₀ : HP xs₀ 0) (hb₀ : Book kf rf lv₀ xs₀ ik₀ dk₀)
    (hM : (dk₀.length : Int) + 1 ≤ M) (hv : H < v) (hk : lv₀ k = none) (hlive : ∀ k p, lv₀ k = some p → H < p.2) 
    (ret : ∀ h' tk' (xs : List (Addr × Int)) (no : Nat) (oda odi : Obj) (ik dk : List (Int × Value)) (tcur tz u3 : Tok) (tl : List (Addr × Obj)) (od' x : Addr),
      Fr h₀ L h' m → News h₀ L h' ((c, instObj 1231 dc) :: (dc, calD w.params t1 t2 t3 t4 t5 t6 t7 (.ref da) (.int dk.length tcur) (.int M tM) (.ref tm) (.ref di) (.ref od') (.ref ttu)) :: (tm, instObj 922 dt) ::
      (dt, tmD w.params u1 u2 u3 (.ref clk) (.int 0 tz) (.int H tH)) :: (da, oda) :: (di, odi) :: (od', (listOf (vals xs) no)) :: (clk, clkO hc doc1 pm1 cc ct1) :: (cc, occ) :: (hc, och) :: (hl, listOf #[.int H tH] nh) :: (ttu, endO doc2 pm2 tc ct2) :: (tc, otc) :: tl) → HP xs 0 → Book (upF kf x k) (upF rf x false) (lv₀.on k (x, v)) xs ik dk → DOf prog w oda dk → DOf prog w odi ik → Its (upF kf x k) (upF rf x false) xs tl → (∀ p ∈ news, p ∈ tl) →
      (∀ p ∈ tl, p.1 ≠ dc) → (∀ p ∈ tl, p.1 ≠ da) → (∀ p ∈ tl, p.1 ≠ dt) → (∀ p ∈ tl, p.1 ≠ di) → (∀ p ∈ tl, p.1 ≠ od') → AllAp od' [c, dc, tm, dt, da, di, clk, cc, hc, hl, ttu, tc] → xs.length ≤ xz + 1 → Q .none { s with heap := h', toks := tk' }) :
    wpAny (model prog w) (ktrTop dp un gd cn (fsc nms sg sc mo) L a ccd cl outer) (call (.ref 1177) [.ref c, .int k tq, .int v tv]) Q E s := by
  refine wpAny_call ?_
  k_dflt k_enter
  k_steps
  refine Stop.go ?_
  with_reducible rename News _ _ _ _ => N9
  with_reducible rename Fr _ _ _ _ => F9
  with_reducible rename Below (ktrTop dp un gd cn _ L a ccd cl outer) _ _ _ => B9
  rename Fr h₀ L _ m => FG9
  k_dflt (refine expire_int (oor := oor) (cur := cur) (tk0 := tk0) B9 F9 (by assumption) N9 (by assumption) (by show dp + 1 + 30 < recursionLimit; omega) (by show un + 3 + 90 < cLine; omega) hoc hoc1 hch hot hot1 (hCd.keeps FG9.keep) o1 o2 o3 o4 o5 o6 o7 o8 o9 o10 o11 q n1 n2 n3 n4 n5 lda ldi hda₀ hdi₀ hil₀ hdl₀ hxz hxl₀ hI₀ hH₀ hb₀ ?_)
  intro h' tk' xs no oda' odi' ik dk tcur ts ne lv tl od' le F5 N5 H5 b5 hda5 hdi5 T5 tu5 I5 sub6 z1 z2 z3 z4 z5 z6 q5 q6 w1 w2 w3 w4 fin5
  obtain ⟨te5, e5⟩ := T5.nil_of hlive
  subst e5
  have hdl5 := hb₀.len_eq b5 hda₀ hda5
  have hdk5 : valueAt dk k = none := b5.dat0 k hk
  have hik5 : valueAt ik k = none := by rw [b5.ins, hk]; rfl
  k_steps
  rw [show decide (M < (dk.length : Int) + 1) = false from decide_eq_false (by omega)]
  k_steps
  with_reducible rename News _ _ _ _ => N8
  with_reducible rename Fr _ _ _ _ => F8
  k_dflt (refine push_led4 (xs := xs) (e := (_, v)) B9 F8 (by assumption) (by assumption) (by show dp + 1 + 10 < recursionLimit; omega) (by show un + 3 + 3 < cLine; omega) N8 ?_ ?_ ?_ ?_ q5 z5 (by omega) ?_ H5 ?_)
  · exact Ne.symm (Nat.ne_of_lt (by omega))
  · exact Ne.symm (Nat.ne_of_lt (by omega))
  · exact Ne.symm (Nat.ne_of_lt (by omega))
  · exact Ne.symm (q6 _ (by walk_at "ap_mem"))
  · intro p hp
    rcases List.mem_append.mp hp with hp | hp
    · exact (I5.itsIn.mono fun p hp => mem17 hp) p hp
    · rw [List.mem_singleton.mp hp]
      exact ⟨_, _, _, _, .head _, .tail _ (.head _)⟩
  intro h9 tk9 ys F7 N7 P7 H7
  have ax := Its.apartP P7 I5 (by k_all)
  k_steps
  with_reducible rename News h₀ _ _ _ => N6
  with_reducible rename Fr h₀ _ _ _ => F6
  have hlen : ((stored dk k (.int v tv)).length : Int) = (dk.length : Int) + 1 := by rw [stored_len_new hdk5]; rfl
  rw [← hlen] at N6
  have b6 := b5.push (x := _) (v := v) (t := tv) ax hk P7
  k_dflt (refine ret _ _ ys (no + 1) _ _ _ (stored dk k (.int v tv)) _ _ _ _ _ _ F6 (led_rot4 N6) H7 b6 (by assumption) (by assumption) (I5.push2 ax P7) (fun p hp => .tail _ (.tail _ (.tail _ (.tail _ (sub6 p hp))))) ?_ ?_ ?_ ?_ ?_ q5 ?_)
  iterate 5 (refine tail4 (Ne.symm (Nat.ne_of_lt (by omega))) (Ne.symm (Nat.ne_of_lt (by omega))) (Ne.symm (Nat.ne_of_lt (by omega))) (by k_ne) (by with_reducible assumption))
  have := P7.length_eq
  rw [List.length_append] at this
  simp only [List.length_cons, List.length_nil] at this
  omega

end
section

local macro_rules | `(tactic| walk_at "call ref") => `(tactic| (k_here; (with_reducible show wpAny _ _ (call (Value.ref 1206) [Value.ref _, Value.int _ _]) _ _ _); refine stop_here ?_))
set_option maxHeartbeats 4000000 in
theorem cal_len (B : Below A₀ base outer h₀) (F : Fr h₀ L s.heap m) (X : (K w.params).In h₀) {c dc tm dt da di od clk cc hc hl ttu tc : Addr} {t1 t2 t3 t4 t5 t6 t7 u1 u2 u3 tk0 tH tv1 tv2 : Tok} {cur mx nst time doc1 pm1 ct1 doc2 pm2 ct2 : Value} {oda odi oor occ och otc : Obj} {H : Int} {nh : Nat} {vs1 vs2 : Array Value} {cN pN : Addr} {ik₀ dk₀ : List (Int × Value)}
    {xs₀ : List (Addr × Int)} {no₀ : Nat} {kf : Addr → Int} {rf : Addr → Bool} {lv₀ : Lv} {tcur₀ : Tok}
    (N : News h₀ L s.heap ((c, instObj 1231 dc) :: (dc, calD w.params t1 t2 t3 t4 t5 t6 t7 (.ref da) (.int dk₀.length tcur₀) mx (.ref tm) (.ref di) (.ref od) (.ref ttu)) :: (tm, instObj 922 dt) ::
      (dt, tmD w.params u1 u2 u3 (.ref clk) (.int 0 tk0) time) :: (da, oda) :: (di, odi) :: (od, (listOf (vals xs₀) no₀)) :: (clk, clkO hc doc1 pm1 cc ct1) :: (cc, occ) :: (hc, och) :: (hl, listOf #[.int H tH] nh) :: (ttu, endO doc2 pm2 tc ct2) :: (tc, otc) :: news)) (T : Top p loose mean mg mb h₀)
    (hd : dp + 40 < recursionLimit) (hu : un + 120 < cLine) (hoc : occ.data = .fields vs1) (hoc1 : vs1[1]? = some (.str "law.<locals>.clock" tv1)) (hch : och.data = .cell (some (.ref hl))) (hot : otc.data = .fields vs2) (hot1 : vs2[1]? = some (.str "law.<locals>.end" tv2)) (hCd : CodeHd h₀ cN pN) (o1 : @LT.lt Nat instLTNat hc hl) (o2 : @LT.lt Nat instLTNat hl cc) (o3 : @LT.lt Nat instLTNat cc clk) (o4 : @LT.lt Nat instLTNat clk tc) (o5 : @LT.lt Nat instLTNat tc ttu) (o6 : @LT.lt Nat instLTNat ttu dc) (o7 : @LT.lt Nat instLTNat dc c) (o8 : @LT.lt Nat instLTNat c da) (o9 : @LT.lt Nat instLTNat da dt) (o10 : @LT.lt Nat instLTNat dt tm) (o11 : @LT.lt Nat instLTNat tm di) (q : AllAp od [c, dc, tm, dt, da, di, clk, cc, hc, hl, ttu, tc]) (n1 : ∀ p ∈ news, p.1 ≠ dc) (n2 : ∀ p ∈ news, p.1 ≠ da) (n3 : ∀ p ∈ news, p.1 ≠ dt) (n4 : ∀ p ∈ news, p.1 ≠ di) (n5 : ∀ p ∈ news, p.1 ≠ od) (lda : (da == sysModules) = false) (ldi : (di == sysModules) = false)
    (hda₀ : DOf prog w oda dk₀) (hdi₀ : DOf prog w odi ik₀) (hil₀ : ik₀.length ≤ 100) (hdl₀ : dk₀.length ≤ 100) {xz : Nat} (hxz : xz ≤ 900) (hxl₀ : xs₀.length ≤ xz) (hI₀ : Its kf rf xs₀ news) (hH₀ : HP xs₀ 0) (hb₀ : Book kf rf lv₀ xs₀ ik₀ dk₀)
    (hlive : ∀ k p, lv₀ k = some p → H < p.2)
    (ret : ∀ h' tk' (xs : List (Addr × Int)) (no : Nat) (oda odi : Obj) (ik dk : List (Int × Value)) (tcur tz tl' : Tok) (tl : List (Addr × Obj)) (od' : Addr),
      Fr h₀ L h' m → News h₀ L h' ((c, instObj 1231 dc) :: (dc, calD w.params t1 t2 t3 t4 t5 t6 t7 (.ref da) (.int dk.length tcur) mx (.ref tm) (.ref di) (.ref od') (.ref ttu)) :: (tm, instObj 922 dt) ::
      (dt, tmD w.params u1 u2 u3 (.ref clk) (.int 0 tz) (.int H tH)) :: (da, oda) :: (di, odi) :: (od', (listOf (vals xs) no)) :: (clk, clkO hc doc1 pm1 cc ct1) :: (cc, occ) :: (hc, och) :: (hl, listOf #[.int H tH] nh) :: (ttu, endO doc2 pm2 tc ct2) :: (tc, otc) :: tl) → HP xs 0 → Book kf rf lv₀ xs ik dk → DOf prog w oda dk → DOf prog w odi ik → Its kf rf xs tl → (∀ p ∈ news, p ∈ tl) →
      (∀ p ∈ tl, p.1 ≠ dc) → (∀ p ∈ tl, p.1 ≠ da) → (∀ p ∈ tl, p.1 ≠ dt) → (∀ p ∈ tl, p.1 ≠ di) → (∀ p ∈ tl, p.1 ≠ od') → AllAp od' [c, dc, tm, dt, da, di, clk, cc, hc, hl, ttu, tc] → xs.length ≤ xz → Q (.int dk.length tl') { s with heap := h', toks := tk' }) :
    wpAny (model prog w) (ktrTop dp un gd cn (fsc nms sg sc mo) L a ccd cl outer) (call (.ref 950) [.ref c]) Q E s := by
  refine wpAny_call ?_
  k_dflt k_enter
  k_steps
  refine Stop.go ?_
  with_reducible rename News _ _ _ _ => N9
  with_reducible rename Fr _ _ _ _ => F9
  with_reducible rename Below (ktrTop dp un gd cn _ L a ccd cl outer) _ _ _ => B9
  rename Fr h₀ L _ m => FG9
  k_dflt (refine expire_int (oor := oor) (cur := cur) (tk0 := tk0) B9 F9 (by assumption) N9 (by assumption) (by show dp + 1 + 30 < recursionLimit; omega) (by show un + 3 + 90 < cLine; omega) hoc hoc1 hch hot hot1 (hCd.keeps FG9.keep) o1 o2 o3 o4 o5 o6 o7 o8 o9 o10 o11 q n1 n2 n3 n4 n5 lda ldi hda₀ hdi₀ hil₀ hdl₀ hxz hxl₀ hI₀ hH₀ hb₀ ?_)
  intro h' tk' xs no oda' odi' ik dk tcur ts ne lv tl od' le F5 N5 H5 b5 hda5 hdi5 T5 tu5 I5 sub6 z1 z2 z3 z4 z5 z6 q5 q6 w1 w2 w3 w4 fin5
  obtain ⟨te5, e5⟩ := T5.nil_of hlive
  subst e5
  k_steps
  with_reducible rename News h₀ _ _ _ => N6
  with_reducible rename Fr h₀ _ _ _ => F6
  k_dflt (refine ret _ _ xs no _ _ _ _ _ _ _ _ _ F6 (led_rot2 N6) H5 b5 hda5 hdi5 (I5.mono (by walk_at "sub_tail")) (fun p hp => .tail _ (.tail _ (sub6 p hp))) ?_ ?_ ?_ ?_ ?_ q5 w3)
  all_goals exact tail2 (Ne.symm (Nat.ne_of_lt (by omega))) (by k_ne) (by with_reducible assumption)

end
section
local macro_rules | `(tactic| walk_at "pad") => `(tactic| fail)
local macro_rules | `(tactic| walk_at "getAttr ref") => `(tactic| (k_here; (with_reducible show wpAny _ _ (getAttr (Value.ref _) (PySem.Str.ofString "getsizeof") _) _ _ _); k_dflt (refine' get_smA ?k1 ?k2 ?k4 ?k5 ?k6 ?k7 ?k8 ?k9 ?k11 ?k12 ?k13 ?k14 ?_; (case k1 => k_asm); (case k2 => k_asm); (case k4 => k_inst); (case k5 => k_is); (case k6 => k_is); (case k7 => k_is); (case k8 => k_is); (case k9 => k_is); (case k11 => decide +kernel); (case k12 => k_get); (case k13 => k_is); (case k14 => k_handed); k_whole)))
set_option maxHeartbeats 4000000 in
theorem cal_new (B : Below A₀ base outer h₀) (F : Fr h₀ L s.heap m) (X : (K w.params).In h₀) {hc hl cc clk tc ttu : Addr} {doc1 pm1 ct1 doc2 pm2 ct2 : Value} {occ och otc : Obj} {H M : Int} {tH tM : Tok} {nh : Nat}
    (N : News h₀ L s.heap ((ttu, endO doc2 pm2 tc ct2) :: (tc, otc) :: (clk, clkO hc doc1 pm1 cc ct1) :: (cc, occ) :: (hl, listOf #[.int H tH] nh) :: (hc, och) :: news)) (T : Top p loose mean mg mb h₀)
    (hd : dp + 40 < recursionLimit) (hu : un + 120 < cLine) (o1 : @LT.lt Nat instLTNat hc hl) (o2 : @LT.lt Nat instLTNat hl cc) (o3 : @LT.lt Nat instLTNat cc clk) (o4 : @LT.lt Nat instLTNat clk tc) (o5 : @LT.lt Nat instLTNat tc ttu)
    (hM : 1 ≤ M) 
    (ret : ∀ h' tk' (c dc da dt tm di od : Addr) (t1 t2 t3 t4 t5 t6 t7 u1 u2 tcur tk0 : Tok) (oda odi : Obj), Fr h₀ L h' m →
      News h₀ L h' ((c, instObj 1231 dc) :: (dc, calD w.params t1 t2 t3 t4 t5 t6 t7 (.ref da) (.int 0 tcur) (.int M tM) (.ref tm) (.ref di) (.ref od) (.ref ttu)) :: (tm, instObj 922 dt) ::
        (dt, dictOf [sE w.params "_Timer__timer" u1 (.ref clk), sE w.params "_Timer__nesting" u2 (.int 0 tk0)] 2) :: (da, oda) :: (di, odi) :: (od, listOf #[] 0) :: (clk, clkO hc doc1 pm1 cc ct1) :: (cc, occ) :: (hc, och) :: (hl, listOf #[.int H tH] nh) :: (ttu, endO doc2 pm2 tc ct2) :: (tc, otc) :: news) →
      @LT.lt Nat instLTNat ttu dc → @LT.lt Nat instLTNat dc c → @LT.lt Nat instLTNat c da → @LT.lt Nat instLTNat da dt → @LT.lt Nat instLTNat dt tm → @LT.lt Nat instLTNat tm di → @LT.lt Nat instLTNat di od → AllLt dc news → (da == sysModules) = false → (di == sysModules) = false → DOf prog w oda [] → DOf prog w odi [] → Q (.ref c) { s with heap := h', toks := tk' }) :
    wpAny (model prog w) (ktrTop dp un gd cn (fsc nms sg sc mo) L a ccd cl outer) (call (.ref 1231) [.int M tM, .ref ttu, .ref clk]) Q E s := by
  k_steps
  with_reducible rename News h₀ _ _ _ => N6
  with_reducible rename Fr h₀ _ _ _ => F6
  k_dflt (refine ret _ _ _ _ _ _ _ _ _ _ _ _ _ _ _ _ _ _ _ _ _ _ F6 (led_new N6) ?_ ?_ ?_ ?_ ?_ ?_ ?_ ?_ ?_ ?_ ?_ ?_)
  all_goals first | omega | with_reducible assumption | (refine And.right ?_; assumption)

end
section
section
variable {c dc tm dt da di clk cc hc hl ttu tc : Addr} {M H : Int} {ce ce' : Int → Option Int} {cl cl' : Prop} {xz : Nat} {own led mu rest : List (Addr × Obj)}
theorem rebundle {h' : Heap} {od : Addr} {t1 t2 t3 t4 t5 t6 t7 u1 u2 u3 tk0 tH tv1 tv2 tM tcur tT0 : Tok} {T0 : Int} {doc1 pm1 ct1 doc2 pm2 ct2 : Value} {oda odi occ och otc : Obj} {nh no : Nat} {vs1 vs2 : Array Value} {cN pN : Addr} {xs : List (Addr × Int)} {ik dk : List (Int × Value)} {kf : Addr → Int} {rf : Addr → Bool} {lv : Lv} {tl : List (Addr × Obj)}
    (N : News h₀ L h' ((c, instObj 1231 dc) :: (dc, calD w.params t1 t2 t3 t4 t5 t6 t7 (.ref da) (.int dk.length tcur) (.int M tM) (.ref tm) (.ref di) (.ref od) (.ref ttu)) :: (tm, instObj 922 dt) ::
      (dt, tmD w.params u1 u2 u3 (.ref clk) (.int 0 tk0) (.int T0 tT0)) :: (da, oda) :: (di, odi) :: (od, (listOf (vals xs) no)) :: (clk, clkO hc doc1 pm1 cc ct1) :: (cc, occ) :: (hc, och) :: (hl, listOf #[.int H tH] nh) :: (ttu, endO doc2 pm2 tc ct2) :: (tc, otc) :: tl)) (hoc : occ.data = .fields vs1) (hoc1 : vs1[1]? = some (.str "law.<locals>.clock" tv1)) (hch : och.data = .cell (some (.ref hl))) (hot : otc.data = .fields vs2) (hot1 : vs2[1]? = some (.str "law.<locals>.end" tv2)) (hCd : CodeHd h₀ cN pN) (q : AllAp od [c, dc, tm, dt, da, di, clk, cc, hc, hl, ttu, tc]) (n1 : ∀ p ∈ tl, p.1 ≠ dc) (n2 : ∀ p ∈ tl, p.1 ≠ da) (n3 : ∀ p ∈ tl, p.1 ≠ dt) (n4 : ∀ p ∈ tl, p.1 ≠ di) (n5 : ∀ p ∈ tl, p.1 ≠ od)
    (hda : DOf prog w oda dk) (hdi : DOf prog w odi ik) (hxl : xs.length ≤ xz) (hI : Its kf rf xs tl) (hH : HP xs 0) (hb : Book kf rf lv xs ik dk) (hce : ∀ k, (lv k).map (·.2) = ce k) (hcl : cl → ∀ a, rf a = false)
    (sup : ∀ k, (ce k).isSome = true → 0 ≤ k ∧ k < M) (hmu : ∀ q ∈ mu, q ∈ tl) (hown : ∀ p ∈ own, p ∈ tl) (hoa : Apart mu own) (S : NotIt mu) (S2 : xs = [] ∨ ∀ q ∈ mu, q.2 ≠ dictOf [] 0)
    (ax : ∀ q ∈ mu, ∀ d ∈ ([c, dc, tm, dt, da, di, clk, cc, hc, hl, ttu, tc] : List Addr), d ≠ q.1) :
    ∃ rest', News h₀ L h' (mu ++ rest') ∧ Apart mu rest' ∧ CalL prog w h₀ c dc tm dt da di clk cc hc hl ttu tc M H ce cl xz own rest' := by
  have St : ∀ p ∈ tl, p ∈ ((c, instObj 1231 dc) :: (dc, calD w.params t1 t2 t3 t4 t5 t6 t7 (.ref da) (.int dk.length tcur) (.int M tM) (.ref tm) (.ref di) (.ref od) (.ref ttu)) :: (tm, instObj 922 dt) ::
      (dt, tmD w.params u1 u2 u3 (.ref clk) (.int 0 tk0) (.int T0 tT0)) :: (da, oda) :: (di, odi) :: (od, (listOf (vals xs) no)) :: (clk, clkO hc doc1 pm1 cc ct1) :: (cc, occ) :: (hc, och) :: (hl, listOf #[.int H tH] nh) :: (ttu, endO doc2 pm2 tc ct2) :: (tc, otc) :: tl : List (Addr × Obj)) := fun p hp => by simp only [List.mem_cons, hp, or_true]
  have I2 := hI.offM N St (fun q hq => St _ (hmu q hq)) S S2
  refine ⟨(c, instObj 1231 dc) :: (dc, calD w.params t1 t2 t3 t4 t5 t6 t7 (.ref da) (.int dk.length tcur) (.int M tM) (.ref tm) (.ref di) (.ref od) (.ref ttu)) :: (tm, instObj 922 dt) ::
      (dt, tmD w.params u1 u2 u3 (.ref clk) (.int 0 tk0) (.int T0 tT0)) :: (da, oda) :: (di, odi) :: (od, (listOf (vals xs) no)) :: (clk, clkO hc doc1 pm1 cc ct1) :: (cc, occ) :: (hc, och) :: (hl, listOf #[.int H tH] nh) :: (ttu, endO doc2 pm2 tc ct2) :: (tc, otc) :: (offM mu tl), fun p hp => ?_, fun q hq p hp => ?_, .mk od t1 t2 t3 t4 t5 t6 t7 u1 u2 u3 tk0 tH tv1 tv2 tM tcur tT0 T0 doc1 pm1 ct1 doc2 pm2 ct2 oda odi occ och otc nh no vs1 vs2 cN pN xs ik dk kf rf lv _ (fun _ h => h) hoc hoc1 hch hot hot1 hCd q (fun p hp => n1 p (offM_sub hp)) (fun p hp => n2 p (offM_sub hp)) (fun p hp => n3 p (offM_sub hp)) (fun p hp => n4 p (offM_sub hp)) (fun p hp => n5 p (offM_sub hp)) hda hdi hxl I2 hH hb hce hcl sup (fun p hp => offM_mem (hown p hp) fun q hq => hoa q hq p hp)⟩
  · rcases List.mem_append.mp hp with hp | hp
    · exact N p (St _ (hmu p hp))
    · refine N p ?_
      simp only [List.mem_cons] at hp ⊢
      rcases hp with h | h | h | h | h | h | h | h | h | h | h | h | h | h <;> first | (simp only [offM_sub h, or_true]; done) | simp only [h, true_or, or_true]
  · have a := ax q hq
    simp only [List.mem_cons] at hp
    rcases hp with rfl | rfl | rfl | rfl | rfl | rfl | rfl | rfl | rfl | rfl | rfl | rfl | rfl | h
    · exact a _ (.head _)
    · exact a _ (.tail _ (.head _))
    · exact a _ (.tail _ (.tail _ (.head _)))
    · exact a _ (.tail _ (.tail _ (.tail _ (.head _))))
    · exact a _ (.tail _ (.tail _ (.tail _ (.tail _ (.head _)))))
    · exact a _ (.tail _ (.tail _ (.tail _ (.tail _ (.tail _ (.head _))))))
    · exact (n5 _ (hmu q hq)).symm
    · exact a _ (.tail _ (.tail _ (.tail _ (.tail _ (.tail _ (.tail _ (.head _)))))))
    · exact a _ (.tail _ (.tail _ (.tail _ (.tail _ (.tail _ (.tail _ (.tail _ (.head _))))))))
    · exact a _ (.tail _ (.tail _ (.tail _ (.tail _ (.tail _ (.tail _ (.tail _ (.tail _ (.head _)))))))))
    · exact a _ (.tail _ (.tail _ (.tail _ (.tail _ (.tail _ (.tail _ (.tail _ (.tail _ (.tail _ (.head _))))))))))
    · exact a _ (.tail _ (.tail _ (.tail _ (.tail _ (.tail _ (.tail _ (.tail _ (.tail _ (.tail _ (.tail _ (.head _)))))))))))
    · exact a _ (.tail _ (.tail _ (.tail _ (.tail _ (.tail _ (.tail _ (.tail _ (.tail _ (.tail _ (.tail _ (.tail _ (.head _))))))))))))
    · exact offM_ne h hq
theorem Book.dk_le {o : Obj} {kf : Addr → Int} {rf : Addr → Bool} {lv : Lv} {xs : List (Addr × Int)} {ik dk : List (Int × Value)} (b : Book kf rf lv xs ik dk) (hd : DOf prog w o dk) (hce : ∀ k, (lv k).map (·.2) = ce k) (sup : ∀ k, (ce k).isSome = true → 0 ≤ k ∧ k < M) (hM : M ≤ 5) : dk.length ≤ 100 := by
  have := len_le_of_range 5 (dk.map (·.1)) (dof_nodup hd) fun x hx => by
    have h1 := va_mem.mpr hx
    rw [b.dsome] at h1
    have h2 := sup x (by rw [← hce, Option.isSome_map]; exact h1)
    omega
  rw [List.length_map] at this; omega
theorem Book.ik_le {o : Obj} {kf : Addr → Int} {rf : Addr → Bool} {lv : Lv} {xs : List (Addr × Int)} {ik dk : List (Int × Value)} (b : Book kf rf lv xs ik dk) (hd : DOf prog w o ik) (hce : ∀ k, (lv k).map (·.2) = ce k) (sup : ∀ k, (ce k).isSome = true → 0 ≤ k ∧ k < M) (hM : M ≤ 5) : ik.length ≤ 100 := by
  have := len_le_of_range 5 (ik.map (·.1)) (dof_nodup hd) fun x hx => by
    have h1 := va_mem.mpr hx
    rw [b.ins, Option.isSome_map] at h1
    have h2 := sup x (by rw [← hce, Option.isSome_map]; exact h1)
    omega
  rw [List.length_map] at this; omega
variable {cll : List (Str × Addr)}
theorem law_get_no {k : Int} {tq tk9 : Tok} (B : Below A₀ base [] h₀) (F : Fr h₀ L s.heap m) (X : (K w.params).In h₀) (T : Top p loose mean mg mb h₀) (hd : dp + 40 < recursionLimit) (hu : un + 120 < cLine) (O : Ords c dc tm dt da di clk cc hc hl ttu tc)
    (N : News h₀ L s.heap (mu ++ rest)) (Ap : Apart mu rest) (S : NotIt mu) (Ni : NotIt own) (C : CalL prog w h₀ c dc tm dt da di clk cc hc hl ttu tc M H ce cl xz own rest) (hM5 : M ≤ 5) (hxz : xz ≤ 800) (XB : (K w.params).In base) (TB : Top p loose mean mg mb base) (S2 : ∀ q ∈ mu, q.2 ≠ dictOf [] 0) (hk : ce k = none)
    (ret : ∀ h' tk' rest', Fr h₀ L h' m → News h₀ L h' (mu ++ rest') → Apart mu rest' → CalL prog w h₀ c dc tm dt da di clk cc hc hl ttu tc M H ce cl xz own rest' → Q (.int 99 tk9) { s with heap := h', toks := tk' }) :
    wpAny (model prog w) (ktrTop dp un gd cn (fsc nms sg sc mo) L a ccd cll []) (call (.ref 974) [.ref c, .int k tq, .int 99 tk9]) Q E s := by
  have adr := C.addrs
  have hoa : Apart mu own := fun q hq p hp => Ap q hq p (C.ownIn p hp)
  cases C with
  | mk od t1 t2 t3 t4 t5 t6 t7 u1 u2 u3 tk0 tH tv1 tv2 tM tcur tT0 T0 doc1 pm1 ct1 doc2 pm2 ct2 oda odi occ och otc nh no vs1 vs2 cN pN xs ik dk kf rf lv tl sub hoc hoc1 hch hot hot1 hCd q n1 n2 n3 n4 n5 hda hdi hxl hI hH hb hce hcl sup hown =>
  have ax : ∀ q ∈ mu, ∀ d ∈ ([c, dc, tm, dt, da, di, clk, cc, hc, hl, ttu, tc] : List Addr), d ≠ q.1 := fun q hq d hd => by
    obtain ⟨o, ho⟩ := adr d hd
    exact Ap q hq _ ho
  have hdl := hb.dk_le hda hce sup hM5
  have hil := hb.ik_le hdi hce sup hM5
  have both : ∀ d, (∀ p ∈ tl, p.1 ≠ d) → (∀ q ∈ mu, d ≠ q.1) → ∀ p ∈ mu ++ tl, p.1 ≠ d := fun d h1 h2 p hp => by
    rcases List.mem_append.mp hp with hp | hp
    · exact (h2 p hp).symm
    · exact h1 p hp
  have m1 := both dc n1 fun q hq => ax q hq _ (.tail _ (.head _))
  have m2 := both da n2 fun q hq => ax q hq _ (.tail _ (.tail _ (.tail _ (.tail _ (.head _)))))
  have m3 := both dt n3 fun q hq => ax q hq _ (.tail _ (.tail _ (.tail _ (.head _))))
  have m4 := both di n4 fun q hq => ax q hq _ (.tail _ (.tail _ (.tail _ (.tail _ (.tail _ (.head _))))))
  have m5 := both od n5 fun q hq => Ap q hq _ (sub _ (.tail _ (.tail _ (.tail _ (.tail _ (.tail _ (.tail _ (.head _))))))))
  have hI2 : Its kf rf xs (mu ++ tl) := hI.mono fun p hp => List.mem_append_right _ hp
  have N1 : News h₀ L s.heap ((c, instObj 1231 dc) :: (dc, calD w.params t1 t2 t3 t4 t5 t6 t7 (.ref da) (.int dk.length tcur) (.int M tM) (.ref tm) (.ref di) (.ref od) (.ref ttu)) :: (tm, instObj 922 dt) ::
      (dt, tmD w.params u1 u2 u3 (.ref clk) (.int 0 tk0) (.int T0 tT0)) :: (da, oda) :: (di, odi) :: (od, (listOf (vals xs) no)) :: (clk, clkO hc doc1 pm1 cc ct1) :: (cc, occ) :: (hc, och) :: (hl, listOf #[.int H tH] nh) :: (ttu, endO doc2 pm2 tc ct2) :: (tc, otc) :: (mu ++ tl)) := fun p hp => by
    simp only [List.mem_cons, List.mem_append] at hp
    rcases hp with h | h | h | h | h | h | h | h | h | h | h | h | h | h | h
    all_goals first | exact N p (List.mem_append_left _ h) | exact N p (List.mem_append_right _ (sub p (by simp only [h, List.mem_cons, true_or, or_true])))
  have hik : valueAt ik k = none := by
    have := hce k
    rw [hk] at this
    rw [hb.ins]; cases h : lv k with
    | none => rfl
    | some p => rw [h] at this; cases this
  refine cal_get_no (oor := listOf (vals xs) no) (nst := .none) (cur := .int dk.length tcur) B F X XB TB rfl N1 T (by omega) (by omega) hoc hoc1 hch hot hot1 hCd O.o1 O.o2 O.o3 O.o4 O.o5 O.o6 O.o7 O.o8 O.o9 O.o10 O.o11 q m1 m2 m3 m4 m5 O.lda O.ldi hdi hik hil fun h' tk' tz F' N' => ?_
  obtain ⟨rest', R1, R2, R3⟩ := rebundle (mu := mu) (own := own) N' hoc hoc1 hch hot hot1 hCd q m1 m2 m3 m4 m5 hda hdi hxl hI2 hH hb hce hcl sup (fun q hq => List.mem_append_left _ hq) (fun p hp => List.mem_append_right _ (hown p hp)) hoa S (.inr S2) ax
  exact ret _ _ _ F' R1 R2 R3
theorem law_get {k e : Int} {tq tk9 : Tok} (B : Below A₀ base [] h₀) (F : Fr h₀ L s.heap m) (X : (K w.params).In h₀) (T : Top p loose mean mg mb h₀) (hd : dp + 40 < recursionLimit) (hu : un + 120 < cLine) (O : Ords c dc tm dt da di clk cc hc hl ttu tc)
    (N : News h₀ L s.heap (mu ++ rest)) (Ap : Apart mu rest) (S : NotIt mu) (Ni : NotIt own) (C : CalL prog w h₀ c dc tm dt da di clk cc hc hl ttu tc M H ce cl xz own rest) (hM5 : M ≤ 5) (hxz : xz ≤ 800) (S2 : ∀ q ∈ mu, q.2 ≠ dictOf [] 0) (hk : ce k = some e) (hHe : H < e)
    (ret : ∀ h' tk' rest' te, Fr h₀ L h' m → News h₀ L h' (mu ++ rest') → Apart mu rest' → CalL prog w h₀ c dc tm dt da di clk cc hc hl ttu tc M H ce cl xz own rest' → Q (.int e te) { s with heap := h', toks := tk' }) :
    wpAny (model prog w) (ktrTop dp un gd cn (fsc nms sg sc mo) L a ccd cll []) (call (.ref 974) [.ref c, .int k tq, .int 99 tk9]) Q E s := by
  have adr := C.addrs
  have hoa : Apart mu own := fun q hq p hp => Ap q hq p (C.ownIn p hp)
  cases C with
  | mk od t1 t2 t3 t4 t5 t6 t7 u1 u2 u3 tk0 tH tv1 tv2 tM tcur tT0 T0 doc1 pm1 ct1 doc2 pm2 ct2 oda odi occ och otc nh no vs1 vs2 cN pN xs ik dk kf rf lv tl sub hoc hoc1 hch hot hot1 hCd q n1 n2 n3 n4 n5 hda hdi hxl hI hH hb hce hcl sup hown =>
  have ax : ∀ q ∈ mu, ∀ d ∈ ([c, dc, tm, dt, da, di, clk, cc, hc, hl, ttu, tc] : List Addr), d ≠ q.1 := fun q hq d hd => by
    obtain ⟨o, ho⟩ := adr d hd
    exact Ap q hq _ ho
  have hdl := hb.dk_le hda hce sup hM5
  have hil := hb.ik_le hdi hce sup hM5
  have both : ∀ d, (∀ p ∈ tl, p.1 ≠ d) → (∀ q ∈ mu, d ≠ q.1) → ∀ p ∈ mu ++ tl, p.1 ≠ d := fun d h1 h2 p hp => by
    rcases List.mem_append.mp hp with hp | hp
    · exact (h2 p hp).symm
    · exact h1 p hp
  have m1 := both dc n1 fun q hq => ax q hq _ (.tail _ (.head _))
  have m2 := both da n2 fun q hq => ax q hq _ (.tail _ (.tail _ (.tail _ (.tail _ (.head _)))))
  have m3 := both dt n3 fun q hq => ax q hq _ (.tail _ (.tail _ (.tail _ (.head _))))
  have m4 := both di n4 fun q hq => ax q hq _ (.tail _ (.tail _ (.tail _ (.tail _ (.tail _ (.head _))))))
  have m5 := both od n5 fun q hq => Ap q hq _ (sub _ (.tail _ (.tail _ (.tail _ (.tail _ (.tail _ (.tail _ (.head _))))))))
  have hI2 : Its kf rf xs (mu ++ tl) := hI.mono fun p hp => List.mem_append_right _ hp
  have N1 : News h₀ L s.heap ((c, instObj 1231 dc) :: (dc, calD w.params t1 t2 t3 t4 t5 t6 t7 (.ref da) (.int dk.length tcur) (.int M tM) (.ref tm) (.ref di) (.ref od) (.ref ttu)) :: (tm, instObj 922 dt) ::
      (dt, tmD w.params u1 u2 u3 (.ref clk) (.int 0 tk0) (.int T0 tT0)) :: (da, oda) :: (di, odi) :: (od, (listOf (vals xs) no)) :: (clk, clkO hc doc1 pm1 cc ct1) :: (cc, occ) :: (hc, och) :: (hl, listOf #[.int H tH] nh) :: (ttu, endO doc2 pm2 tc ct2) :: (tc, otc) :: (mu ++ tl)) := fun p hp => by
    simp only [List.mem_cons, List.mem_append] at hp
    rcases hp with h | h | h | h | h | h | h | h | h | h | h | h | h | h | h
    all_goals first | exact N p (List.mem_append_left _ h) | exact N p (List.mem_append_right _ (sub p (by simp only [h, List.mem_cons, true_or, or_true])))
  obtain ⟨⟨x, e'⟩, hx⟩ : ∃ p, lv k = some p := by
    have := hce k
    rw [hk] at this
    cases h : lv k with
    | none => rw [h] at this; cases this
    | some p => exact ⟨p, rfl⟩
  obtain rfl : e' = e := by have := hce k; rw [hk, hx] at this; exact Option.some.inj this
  have hik : valueAt ik k = some (.ref x) := by rw [hb.ins, hx]; rfl
  obtain ⟨td, hdk⟩ := hb.dat k _ hx
  have hm := hb.mem k _ hx
  obtain ⟨dx, te, tk, a1, a2⟩ := hI2 _ hm.1
  rw [hm.2.2, hm.2.1] at a1
  refine cal_get (oor := listOf (vals xs) no) (nst := .none) (cur := .int dk.length tcur) (tk9 := tk9) B F X rfl N1 T (by omega) (by omega) hoc hoc1 hch hot hot1 hCd O.o1 O.o2 O.o3 O.o4 O.o5 O.o6 O.o7 O.o8 O.o9 O.o10 O.o11 q m1 m2 m3 m4 m5 O.lda O.ldi hda hdi hik hdk a1 a2 hHe hil fun h' tk' odi' tz F' N' hdi' => ?_
  have hb2 := hb.ext (ik' := stored (without ik k) k (.ref x)) (dk' := dk) (fun j => by simp only [va_stored, va_without]; by_cases hj : j = k <;> simp [hj, hik]) (fun _ => rfl)
  obtain ⟨rest', R1, R2, R3⟩ := rebundle (mu := mu) (own := own) N' hoc hoc1 hch hot hot1 hCd q m1 m2 m3 m4 m5 hda hdi' hxl hI2 hH hb2 hce hcl sup (fun q hq => List.mem_append_left _ hq) (fun p hp => List.mem_append_right _ (hown p hp)) hoa S (.inr S2) ax
  exact ret _ _ _ _ F' R1 R2 R3
theorem law_get1 {k e : Int} {tq tk9 : Tok} (B : Below A₀ base [] h₀) (F : Fr h₀ L s.heap m) (X : (K w.params).In h₀) (T : Top p loose mean mg mb h₀) (hd : dp + 40 < recursionLimit) (hu : un + 120 < cLine) (O : Ords c dc tm dt da di clk cc hc hl ttu tc)
    (N : News h₀ L s.heap (mu ++ rest)) (Ap : Apart mu rest) (S : NotIt mu) (Ni : NotIt own) (C : CalL prog w h₀ c dc tm dt da di clk cc hc hl ttu tc M H ce cl xz own rest) (hM5 : M ≤ 5) (hxz : xz ≤ 800) (S2 : ∀ q ∈ mu, q.2 ≠ dictOf [] 0) (hk : ce k = some e) (hHe : H < e)
    (ret : ∀ h' tk' rest' te, Fr h₀ L h' m → News h₀ L h' (mu ++ rest') → Apart mu rest' → CalL prog w h₀ c dc tm dt da di clk cc hc hl ttu tc M H ce cl xz own rest' → Q (.int e te) { s with heap := h', toks := tk' }) :
    wpAny (model prog w) (ktrTop dp un gd cn (fsc nms sg sc mo) L a ccd cll []) (call (.ref 974) [.ref c, .int k tq]) Q E s := by
  have adr := C.addrs
  have hoa : Apart mu own := fun q hq p hp => Ap q hq p (C.ownIn p hp)
  cases C with
  | mk od t1 t2 t3 t4 t5 t6 t7 u1 u2 u3 tk0 tH tv1 tv2 tM tcur tT0 T0 doc1 pm1 ct1 doc2 pm2 ct2 oda odi occ och otc nh no vs1 vs2 cN pN xs ik dk kf rf lv tl sub hoc hoc1 hch hot hot1 hCd q n1 n2 n3 n4 n5 hda hdi hxl hI hH hb hce hcl sup hown =>
  have ax : ∀ q ∈ mu, ∀ d ∈ ([c, dc, tm, dt, da, di, clk, cc, hc, hl, ttu, tc] : List Addr), d ≠ q.1 := fun q hq d hd => by
    obtain ⟨o, ho⟩ := adr d hd
    exact Ap q hq _ ho
  have hdl := hb.dk_le hda hce sup hM5
  have hil := hb.ik_le hdi hce sup hM5
  have both : ∀ d, (∀ p ∈ tl, p.1 ≠ d) → (∀ q ∈ mu, d ≠ q.1) → ∀ p ∈ mu ++ tl, p.1 ≠ d := fun d h1 h2 p hp => by
    rcases List.mem_append.mp hp with hp | hp
    · exact (h2 p hp).symm
    · exact h1 p hp
  have m1 := both dc n1 fun q hq => ax q hq _ (.tail _ (.head _))
  have m2 := both da n2 fun q hq => ax q hq _ (.tail _ (.tail _ (.tail _ (.tail _ (.head _)))))
  have m3 := both dt n3 fun q hq => ax q hq _ (.tail _ (.tail _ (.tail _ (.head _))))
  have m4 := both di n4 fun q hq => ax q hq _ (.tail _ (.tail _ (.tail _ (.tail _ (.tail _ (.head _))))))
  have m5 := both od n5 fun q hq => Ap q hq _ (sub _ (.tail _ (.tail _ (.tail _ (.tail _ (.tail _ (.tail _ (.head _))))))))
  have hI2 : Its kf rf xs (mu ++ tl) := hI.mono fun p hp => List.mem_append_right _ hp
  have N1 : News h₀ L s.heap ((c, instObj 1231 dc) :: (dc, calD w.params t1 t2 t3 t4 t5 t6 t7 (.ref da) (.int dk.length tcur) (.int M tM) (.ref tm) (.ref di) (.ref od) (.ref ttu)) :: (tm, instObj 922 dt) ::
      (dt, tmD w.params u1 u2 u3 (.ref clk) (.int 0 tk0) (.int T0 tT0)) :: (da, oda) :: (di, odi) :: (od, (listOf (vals xs) no)) :: (clk, clkO hc doc1 pm1 cc ct1) :: (cc, occ) :: (hc, och) :: (hl, listOf #[.int H tH] nh) :: (ttu, endO doc2 pm2 tc ct2) :: (tc, otc) :: (mu ++ tl)) := fun p hp => by
    simp only [List.mem_cons, List.mem_append] at hp
    rcases hp with h | h | h | h | h | h | h | h | h | h | h | h | h | h | h
    all_goals first | exact N p (List.mem_append_left _ h) | exact N p (List.mem_append_right _ (sub p (by simp only [h, List.mem_cons, true_or, or_true])))
  obtain ⟨⟨x, e'⟩, hx⟩ : ∃ p, lv k = some p := by
    have := hce k
    rw [hk] at this
    cases h : lv k with
    | none => rw [h] at this; cases this
    | some p => exact ⟨p, rfl⟩
  obtain rfl : e' = e := by have := hce k; rw [hk, hx] at this; exact Option.some.inj this
  have hik : valueAt ik k = some (.ref x) := by rw [hb.ins, hx]; rfl
  obtain ⟨td, hdk⟩ := hb.dat k _ hx
  have hm := hb.mem k _ hx
  obtain ⟨dx, te, tk, a1, a2⟩ := hI2 _ hm.1
  rw [hm.2.2, hm.2.1] at a1
  refine cal_get1 (oor := listOf (vals xs) no) (nst := .none) (cur := .int dk.length tcur) (tk9 := tk9) B F X rfl N1 T (by omega) (by omega) hoc hoc1 hch hot hot1 hCd O.o1 O.o2 O.o3 O.o4 O.o5 O.o6 O.o7 O.o8 O.o9 O.o10 O.o11 q m1 m2 m3 m4 m5 O.lda O.ldi hda hdi hik hdk a1 a2 hHe hil fun h' tk' odi' tz F' N' hdi' => ?_
  have hb2 := hb.ext (ik' := stored (without ik k) k (.ref x)) (dk' := dk) (fun j => by simp only [va_stored, va_without]; by_cases hj : j = k <;> simp [hj, hik]) (fun _ => rfl)
  obtain ⟨rest', R1, R2, R3⟩ := rebundle (mu := mu) (own := own) N' hoc hoc1 hch hot hot1 hCd q m1 m2 m3 m4 m5 hda hdi' hxl hI2 hH hb2 hce hcl sup (fun q hq => List.mem_append_left _ hq) (fun p hp => List.mem_append_right _ (hown p hp)) hoa S (.inr S2) ax
  exact ret _ _ _ _ F' R1 R2 R3
end

end
section
local macro_rules | `(tactic| walk_at "pad") => `(tactic| fail)
local macro_rules | `(tactic| walk_at "pad") => `(tactic| fail)
local macro_rules | `(tactic| walk_at "pad") => `(tactic| fail)
section
variable {c dc tm dt da di clk cc hc hl ttu tc : Addr} {M H : Int} {ce ce' : Int → Option Int} {cl cl' : Prop} {xz : Nat} {own led mu rest : List (Addr × Obj)} {cll : List (Str × Addr)}
theorem law_len (B : Below A₀ base [] h₀) (F : Fr h₀ L s.heap m) (X : (K w.params).In h₀) (T : Top p loose mean mg mb h₀) (hd : dp + 40 < recursionLimit) (hu : un + 120 < cLine) (O : Ords c dc tm dt da di clk cc hc hl ttu tc)
    (N : News h₀ L s.heap (mu ++ rest)) (Ap : Apart mu rest) (S : NotIt mu) (Ni : NotIt own) (C : CalL prog w h₀ c dc tm dt da di clk cc hc hl ttu tc M H ce cl xz own rest) (hM5 : M ≤ 5) (hxz : xz ≤ 800) (S2 : ∀ q ∈ mu, q.2 ≠ dictOf [] 0) (hlive : ∀ k e, ce k = some e → H < e)
    (ret : ∀ h' tk' rest' te (ks : List Int), Fr h₀ L h' m → News h₀ L h' (mu ++ rest') → Apart mu rest' → CalL prog w h₀ c dc tm dt da di clk cc hc hl ttu tc M H ce cl xz own rest' → ks.Nodup → (∀ k, k ∈ ks ↔ (ce k).isSome = true) → Q (.int ks.length te) { s with heap := h', toks := tk' }) :
    wpAny (model prog w) (ktrTop dp un gd cn (fsc nms sg sc mo) L a ccd cll []) (call (.ref 950) [.ref c]) Q E s := by
  have adr := C.addrs
  have hoa : Apart mu own := fun q hq p hp => Ap q hq p (C.ownIn p hp)
  cases C with
  | mk od t1 t2 t3 t4 t5 t6 t7 u1 u2 u3 tk0 tH tv1 tv2 tM tcur tT0 T0 doc1 pm1 ct1 doc2 pm2 ct2 oda odi occ och otc nh no vs1 vs2 cN pN xs ik dk kf rf lv tl sub hoc hoc1 hch hot hot1 hCd q n1 n2 n3 n4 n5 hda hdi hxl hI hH hb hce hcl sup hown =>
  have ax : ∀ q ∈ mu, ∀ d ∈ ([c, dc, tm, dt, da, di, clk, cc, hc, hl, ttu, tc] : List Addr), d ≠ q.1 := fun q hq d hd => by
    obtain ⟨o, ho⟩ := adr d hd
    exact Ap q hq _ ho
  have hdl := hb.dk_le hda hce sup hM5
  have hil := hb.ik_le hdi hce sup hM5
  have both : ∀ d, (∀ p ∈ tl, p.1 ≠ d) → (∀ q ∈ mu, d ≠ q.1) → ∀ p ∈ mu ++ tl, p.1 ≠ d := fun d h1 h2 p hp => by
    rcases List.mem_append.mp hp with hp | hp
    · exact (h2 p hp).symm
    · exact h1 p hp
  have m1 := both dc n1 fun q hq => ax q hq _ (.tail _ (.head _))
  have m2 := both da n2 fun q hq => ax q hq _ (.tail _ (.tail _ (.tail _ (.tail _ (.head _)))))
  have m3 := both dt n3 fun q hq => ax q hq _ (.tail _ (.tail _ (.tail _ (.head _))))
  have m4 := both di n4 fun q hq => ax q hq _ (.tail _ (.tail _ (.tail _ (.tail _ (.tail _ (.head _))))))
  have m5 := both od n5 fun q hq => Ap q hq _ (sub _ (.tail _ (.tail _ (.tail _ (.tail _ (.tail _ (.tail _ (.head _))))))))
  have hI2 : Its kf rf xs (mu ++ tl) := hI.mono fun p hp => List.mem_append_right _ hp
  have N1 : News h₀ L s.heap ((c, instObj 1231 dc) :: (dc, calD w.params t1 t2 t3 t4 t5 t6 t7 (.ref da) (.int dk.length tcur) (.int M tM) (.ref tm) (.ref di) (.ref od) (.ref ttu)) :: (tm, instObj 922 dt) ::
      (dt, tmD w.params u1 u2 u3 (.ref clk) (.int 0 tk0) (.int T0 tT0)) :: (da, oda) :: (di, odi) :: (od, (listOf (vals xs) no)) :: (clk, clkO hc doc1 pm1 cc ct1) :: (cc, occ) :: (hc, och) :: (hl, listOf #[.int H tH] nh) :: (ttu, endO doc2 pm2 tc ct2) :: (tc, otc) :: (mu ++ tl)) := fun p hp => by
    simp only [List.mem_cons, List.mem_append] at hp
    rcases hp with h | h | h | h | h | h | h | h | h | h | h | h | h | h | h
    all_goals first | exact N p (List.mem_append_left _ h) | exact N p (List.mem_append_right _ (sub p (by simp only [h, List.mem_cons, true_or, or_true])))
  have hlive2 : ∀ k p, lv k = some p → H < p.2 := fun k p hp => hlive k p.2 (by rw [← hce, hp]; rfl)
  refine cal_len (oor := listOf (vals xs) no) (nst := .none) (cur := .int dk.length tcur) B F X N1 T (by omega) (by omega) hoc hoc1 hch hot hot1 hCd O.o1 O.o2 O.o3 O.o4 O.o5 O.o6 O.o7 O.o8 O.o9 O.o10 O.o11 q m1 m2 m3 m4 m5 O.lda O.ldi hda hdi hil hdl (xz := xz) (by omega) hxl hI2 hH hb hlive2 fun h' tk' xs' no' oda' odi' ik' dk' tcur' tz tl9 tl' od' F' N' H' b' hda' hdi' I' sub' z1 z2 z3 z4 z5 q' w' => ?_
  obtain ⟨rest', R1, R2, R3⟩ := rebundle (mu := mu) (own := own) N' hoc hoc1 hch hot hot1 hCd q' z1 z2 z3 z4 z5 hda' hdi' w' I' H' b' hce hcl sup (fun q hq => sub' _ (List.mem_append_left _ hq)) (fun p hp => sub' _ (List.mem_append_right _ (hown p hp))) hoa S (.inr S2) ax
  have := ret h' tk' rest' tl9 (dk'.map (·.1)) F' R1 R2 R3 (dof_nodup hda') fun k => by rw [← va_mem, b'.dsome, ← hce, Option.isSome_map]
  rwa [List.length_map] at this
abbrev ceOn (ce : Int → Option Int) (k v : Int) : Int → Option Int := fun j => if j = k then some v else ce j
theorem law_set {k v : Int} {tq tv : Tok} (B : Below A₀ base [] h₀) (F : Fr h₀ L s.heap m) (X : (K w.params).In h₀) (T : Top p loose mean mg mb h₀) (hd : dp + 40 < recursionLimit) (hu : un + 120 < cLine) (O : Ords c dc tm dt da di clk cc hc hl ttu tc)
    (N : News h₀ L s.heap (mu ++ rest)) (Ap : Apart mu rest) (S : NotIt mu) (Ni : NotIt own) (C : CalL prog w h₀ c dc tm dt da di clk cc hc hl ttu tc M H ce cl xz own rest) (hM5 : M ≤ 5) (hxz : xz ≤ 800) (S2 : ∀ q ∈ mu, q.2 ≠ dictOf [] 0) (hlive : ∀ k e, ce k = some e → H < e) (hv : H < v) (hk0 : 0 ≤ k) (hkM : k < M)
    (ret : ∀ h' tk' rest', Fr h₀ L h' m → News h₀ L h' (mu ++ rest') → Apart mu rest' → CalL prog w h₀ c dc tm dt da di clk cc hc hl ttu tc M H (ceOn ce k v) False (xz + 1) own rest' → Q .none { s with heap := h', toks := tk' }) :
    wpAny (model prog w) (ktrTop dp un gd cn (fsc nms sg sc mo) L a ccd cll []) (call (.ref 1177) [.ref c, .int k tq, .int v tv]) Q E s := by
  have adr := C.addrs
  have hoa : Apart mu own := fun q hq p hp => Ap q hq p (C.ownIn p hp)
  cases C with
  | mk od t1 t2 t3 t4 t5 t6 t7 u1 u2 u3 tk0 tH tv1 tv2 tM tcur tT0 T0 doc1 pm1 ct1 doc2 pm2 ct2 oda odi occ och otc nh no vs1 vs2 cN pN xs ik dk kf rf lv tl sub hoc hoc1 hch hot hot1 hCd q n1 n2 n3 n4 n5 hda hdi hxl hI hH hb hce hcl sup hown =>
  have ax : ∀ q ∈ mu, ∀ d ∈ ([c, dc, tm, dt, da, di, clk, cc, hc, hl, ttu, tc] : List Addr), d ≠ q.1 := fun q hq d hd => by
    obtain ⟨o, ho⟩ := adr d hd
    exact Ap q hq _ ho
  have hdl := hb.dk_le hda hce sup hM5
  have hil := hb.ik_le hdi hce sup hM5
  have both : ∀ d, (∀ p ∈ tl, p.1 ≠ d) → (∀ q ∈ mu, d ≠ q.1) → ∀ p ∈ mu ++ tl, p.1 ≠ d := fun d h1 h2 p hp => by
    rcases List.mem_append.mp hp with hp | hp
    · exact (h2 p hp).symm
    · exact h1 p hp
  have m1 := both dc n1 fun q hq => ax q hq _ (.tail _ (.head _))
  have m2 := both da n2 fun q hq => ax q hq _ (.tail _ (.tail _ (.tail _ (.tail _ (.head _)))))
  have m3 := both dt n3 fun q hq => ax q hq _ (.tail _ (.tail _ (.tail _ (.head _))))
  have m4 := both di n4 fun q hq => ax q hq _ (.tail _ (.tail _ (.tail _ (.tail _ (.tail _ (.head _))))))
  have m5 := both od n5 fun q hq => Ap q hq _ (sub _ (.tail _ (.tail _ (.tail _ (.tail _ (.tail _ (.tail _ (.head _))))))))
  have hI2 : Its kf rf xs (mu ++ tl) := hI.mono fun p hp => List.mem_append_right _ hp
  have N1 : News h₀ L s.heap ((c, instObj 1231 dc) :: (dc, calD w.params t1 t2 t3 t4 t5 t6 t7 (.ref da) (.int dk.length tcur) (.int M tM) (.ref tm) (.ref di) (.ref od) (.ref ttu)) :: (tm, instObj 922 dt) ::
      (dt, tmD w.params u1 u2 u3 (.ref clk) (.int 0 tk0) (.int T0 tT0)) :: (da, oda) :: (di, odi) :: (od, (listOf (vals xs) no)) :: (clk, clkO hc doc1 pm1 cc ct1) :: (cc, occ) :: (hc, och) :: (hl, listOf #[.int H tH] nh) :: (ttu, endO doc2 pm2 tc ct2) :: (tc, otc) :: (mu ++ tl)) := fun p hp => by
    simp only [List.mem_cons, List.mem_append] at hp
    rcases hp with h | h | h | h | h | h | h | h | h | h | h | h | h | h | h
    all_goals first | exact N p (List.mem_append_left _ h) | exact N p (List.mem_append_right _ (sub p (by simp only [h, List.mem_cons, true_or, or_true])))
  have hlive2 : ∀ k p, lv k = some p → H < p.2 := fun k p hp => hlive k p.2 (by rw [← hce, hp]; rfl)
  have sup2 : ∀ j, (ceOn ce k v j).isSome = true → 0 ≤ j ∧ j < M := fun j hj => by
    simp only [ceOn] at hj
    by_cases h : j = k
    · rw [h]; exact ⟨hk0, hkM⟩
    · rw [if_neg h] at hj; exact sup j hj
  cases hl0 : lv k with
  | none =>
    have hce2 : ∀ x j, ((lv.on k (x, v)) j).map (·.2) = ceOn ce k v j := fun x j => by
      simp only [Lv.on, ceOn]
      by_cases h : j = k
      · rw [if_pos h, if_pos h]; rfl
      · rw [if_neg h, if_neg h]; exact hce j
    have hlen : (dk.length : Int) + 1 ≤ M := by
      have := len_le_of_range M.toNat (k :: dk.map (·.1)) (List.nodup_cons.mpr ⟨fun hm => (by
        have h1 := va_mem.mpr hm
        rw [hb.dsome, hl0] at h1
        cases h1), dof_nodup hda⟩) fun x hx => by
          rcases List.mem_cons.mp hx with rfl | hx
          · omega
          · have h1 := va_mem.mpr hx
            rw [hb.dsome] at h1
            have h2 := sup x (by rw [← hce, Option.isSome_map]; exact h1)
            omega
      rw [List.length_cons, List.length_map] at this
      omega
    refine cal_set_new (T0 := 0) (tT0 := 0) (tt := 0) (oor := listOf (vals xs) no) (nst := .none) (mx := .none) (cur := .int dk.length tcur) B F X N1 T (by omega) (by omega) hoc hoc1 hch hot hot1 hCd O.o1 O.o2 O.o3 O.o4 O.o5 O.o6 O.o7 O.o8 O.o9 O.o10 O.o11 q m1 m2 m3 m4 m5 O.lda O.ldi hda hdi hil hdl (xz := xz) (by omega) hxl hI2 hH hb hlen hv hl0 hlive2 fun h' tk' xs' no' oda' odi' ik' dk' tcur' tz tl' od' x F' N' H' b' hda' hdi' I' sub' z1 z2 z3 z4 z5 q' w' => ?_
    obtain ⟨rest', R1, R2, R3⟩ := rebundle (mu := mu) (own := own) (cl := False) N' hoc hoc1 hch hot hot1 hCd q' z1 z2 z3 z4 z5 hda' hdi' w' I' H' b' (hce2 x) (fun h => h.elim) sup2 (fun q hq => sub' _ (List.mem_append_left _ hq)) (fun p hp => sub' _ (List.mem_append_right _ (hown p hp))) hoa S (.inr S2) ax
    exact ret h' tk' rest' F' R1 R2 R3
  | some p0 =>
    obtain ⟨x₀, e₀⟩ := p0
    have hce2 : ∀ x j, (((lv.off k).on k (x, v)) j).map (·.2) = ceOn ce k v j := fun x j => by
      simp only [Lv.on, Lv.off, ceOn]
      by_cases h : j = k
      · rw [if_pos h, if_pos h]; rfl
      · rw [if_neg h, if_neg h, if_neg h]; exact hce j
    obtain ⟨dx, te, tk, a1, _⟩ := hI2 _ (hb.mem k _ hl0).1
    have hnx : ∀ p ∈ mu ++ tl, (p.2.cls = .ref 1140 → p.2.data ≠ .plain) → p.1 ≠ x₀ := fun p hp hc e => by
      have h1 := (N1 _ (by simp only [List.mem_cons, hp, or_true] : p ∈ _)).1
      have h2 := (N1 _ (by simp only [List.mem_cons, a1, or_true] : (x₀, itO dx (.int e₀ te) (.int (kf x₀) tk) (.bool (rf x₀))) ∈ _)).1
      rw [e, h2] at h1
      exact hc (by rw [← Option.some.inj h1]) (by rw [← Option.some.inj h1])
    refine cal_set_known (T0 := 0) (tT0 := 0) (tt := 0) (oor := listOf (vals xs) no) (nst := .none) (mx := .none) (cur := .int dk.length tcur) B F X N1 T (by omega) (by omega) hoc hoc1 hch hot hot1 hCd O.o1 O.o2 O.o3 O.o4 O.o5 O.o6 O.o7 O.o8 O.o9 O.o10 O.o11 q m1 m2 m3 m4 m5 O.lda O.ldi hda hdi hil hdl (xz := xz) (by omega) hxl hI2 hH hb (by omega) hv hl0 hlive2 fun h' tk' xs' no' oda' odi' ik' dk' tcur' tz tl' od' x F' N' H' b' hda' hdi' I' sub' z1 z2 z3 z4 z5 q' w' => ?_
    obtain ⟨rest', R1, R2, R3⟩ := rebundle (mu := mu) (own := own) (cl := False) N' hoc hoc1 hch hot hot1 hCd q' z1 z2 z3 z4 z5 hda' hdi' w' I' H' b' (hce2 x) (fun h => h.elim) sup2 (fun q hq => sub' _ (List.mem_append_left _ hq) (hnx _ (List.mem_append_left _ hq) (S q hq))) (fun p hp => sub' _ (List.mem_append_right _ (hown p hp)) (hnx _ (List.mem_append_right _ (hown p hp)) (Ni p hp))) hoa S (.inr S2) ax
    exact ret h' tk' rest' F' R1 R2 R3
structure ToldC (ce₀ ce : Int → Option Int) (H : Int) (told : List (Int × Int)) : Prop where
  nd : (told.map (·.1)).Nodup
  is : ∀ q ∈ told, ce q.1 = none ∧ ce₀ q.1 = some q.2 ∧ q.2 ≤ H
  or : ∀ k, ce k = ce₀ k ∨ ∃ q ∈ told, q.1 = k
  live : ∀ k e, ce k = some e → H < e
theorem law_expire (B : Below A₀ base [] h₀) (F : Fr h₀ L s.heap m) (X : (K w.params).In h₀) (T : Top p loose mean mg mb h₀) (hd : dp + 40 < recursionLimit) (hu : un + 120 < cLine) (O : Ords c dc tm dt da di clk cc hc hl ttu tc)
    (N : News h₀ L s.heap (mu ++ rest)) (Ap : Apart mu rest) (S : NotIt mu) (Ni : NotIt own) (C : CalL prog w h₀ c dc tm dt da di clk cc hc hl ttu tc M H ce cl xz own rest) (hM5 : M ≤ 5) (hxz : xz ≤ 800) (S1 : ∀ q ∈ mu, q.2.cls = .type "dict") (S2 : (∀ q ∈ mu, q.2 ≠ dictOf [] 0) ∨ (cl ∧ ∀ k e, ce k = some e → e ≤ H))
    (ret : ∀ h' tk' rest' (ts : List (Addr × (Int × Int))) le ne own' ce', Fr h₀ L h' m → News h₀ L h' (mu ++ rest') → Apart mu rest' → CalL prog w h₀ c dc tm dt da di clk cc hc hl ttu tc M H ce' cl xz own' rest' → ToldC ce ce' H (ts.map (·.2)) →
      NotIt own' → (∀ p ∈ own, p ∈ own') → (le, listOf (tupRefs ts) ne) ∈ own' → TupsIn ts own' → Q (.ref le) { s with heap := h', toks := tk' }) :
    wpAny (model prog w) (ktrTop dp un gd cn (fsc nms sg sc mo) L a ccd cll []) (call (.ref 1206) [.ref c]) Q E s := by
  have adr := C.addrs
  have hoa : Apart mu own := fun q hq p hp => Ap q hq p (C.ownIn p hp)
  cases C with
  | mk od t1 t2 t3 t4 t5 t6 t7 u1 u2 u3 tk0 tH tv1 tv2 tM tcur tT0 T0 doc1 pm1 ct1 doc2 pm2 ct2 oda odi occ och otc nh no vs1 vs2 cN pN xs ik dk kf rf lv tl sub hoc hoc1 hch hot hot1 hCd q n1 n2 n3 n4 n5 hda hdi hxl hI hH hb hce hcl sup hown =>
  have ax : ∀ q ∈ mu, ∀ d ∈ ([c, dc, tm, dt, da, di, clk, cc, hc, hl, ttu, tc] : List Addr), d ≠ q.1 := fun q hq d hd => by
    obtain ⟨o, ho⟩ := adr d hd
    exact Ap q hq _ ho
  have hdl := hb.dk_le hda hce sup hM5
  have hil := hb.ik_le hdi hce sup hM5
  have both : ∀ d, (∀ p ∈ tl, p.1 ≠ d) → (∀ q ∈ mu, d ≠ q.1) → ∀ p ∈ mu ++ tl, p.1 ≠ d := fun d h1 h2 p hp => by
    rcases List.mem_append.mp hp with hp | hp
    · exact (h2 p hp).symm
    · exact h1 p hp
  have m1 := both dc n1 fun q hq => ax q hq _ (.tail _ (.head _))
  have m2 := both da n2 fun q hq => ax q hq _ (.tail _ (.tail _ (.tail _ (.tail _ (.head _)))))
  have m3 := both dt n3 fun q hq => ax q hq _ (.tail _ (.tail _ (.tail _ (.head _))))
  have m4 := both di n4 fun q hq => ax q hq _ (.tail _ (.tail _ (.tail _ (.tail _ (.tail _ (.head _))))))
  have m5 := both od n5 fun q hq => Ap q hq _ (sub _ (.tail _ (.tail _ (.tail _ (.tail _ (.tail _ (.tail _ (.head _))))))))
  have hI2 : Its kf rf xs (mu ++ tl) := hI.mono fun p hp => List.mem_append_right _ hp
  have N1 : News h₀ L s.heap ((c, instObj 1231 dc) :: (dc, calD w.params t1 t2 t3 t4 t5 t6 t7 (.ref da) (.int dk.length tcur) (.int M tM) (.ref tm) (.ref di) (.ref od) (.ref ttu)) :: (tm, instObj 922 dt) ::
      (dt, tmD w.params u1 u2 u3 (.ref clk) (.int 0 tk0) (.int T0 tT0)) :: (da, oda) :: (di, odi) :: (od, (listOf (vals xs) no)) :: (clk, clkO hc doc1 pm1 cc ct1) :: (cc, occ) :: (hc, och) :: (hl, listOf #[.int H tH] nh) :: (ttu, endO doc2 pm2 tc ct2) :: (tc, otc) :: (mu ++ tl)) := fun p hp => by
    simp only [List.mem_cons, List.mem_append] at hp
    rcases hp with h | h | h | h | h | h | h | h | h | h | h | h | h | h | h
    all_goals first | exact N p (List.mem_append_left _ h) | exact N p (List.mem_append_right _ (sub p (by simp only [h, List.mem_cons, true_or, or_true])))
  refine expire_none (tt := 0) (oor := listOf (vals xs) no) (nst := .none) (cur := .int dk.length tcur) B F X N1 T (by omega) (by omega) hoc hoc1 hch hot hot1 hCd O.o1 O.o2 O.o3 O.o4 O.o5 O.o6 O.o7 O.o8 O.o9 O.o10 O.o11 q m1 m2 m3 m4 m5 O.lda O.ldi hda hdi hil hdl (xz := xz) (by omega) hxl hI2 hH hb fun h' tk' xs' no' oda' odi' ik' dk' tcur' ts ne lv' tl' od' le F' N' H' b' hda' hdi' T' tu' I' sub' z1 z2 z3 z4 z5 z6 q' q6 w1 w2 w3 w4 fin' => ?_
  have N9 : News h₀ L h' ((c, instObj 1231 dc) :: (dc, calD w.params t1 t2 t3 t4 t5 t6 t7 (.ref da) (.int dk'.length tcur') (.int M tM) (.ref tm) (.ref di) (.ref od') (.ref ttu)) :: (tm, instObj 922 dt) ::
      (dt, tmD w.params u1 u2 u3 (.ref clk) (.int 0 tk0) (.int T0 tT0)) :: (da, oda') :: (di, odi') :: (od', (listOf (vals xs') no')) :: (clk, clkO hc doc1 pm1 cc ct1) :: (cc, occ) :: (hc, och) :: (hl, listOf #[.int H tH] nh) :: (ttu, endO doc2 pm2 tc ct2) :: (tc, otc) :: ((le, listOf (tupRefs ts) ne) :: tl')) := fun p hp => N' p (by
    simp only [List.mem_cons] at hp ⊢
    rcases hp with h | h | h | h | h | h | h | h | h | h | h | h | h | h | h <;> simp only [h, true_or, or_true])
  generalize hown2 : ((le, listOf (tupRefs ts) ne) :: (own ++ tl'.filter fun p => decide (p.2.cls = .type "tuple"))) = own'
  have o1 : ∀ p ∈ own', p ∈ (le, listOf (tupRefs ts) ne) :: tl' := fun p hp => by
    rw [← hown2] at hp
    rcases List.mem_cons.mp hp with rfl | hp
    · exact .head _
    · rcases List.mem_append.mp hp with hp | hp
      · exact .tail _ (sub' _ (List.mem_append_right _ (hown p hp)))
      · exact .tail _ (List.mem_filter.mp hp).1
  have mt : ∀ q ∈ mu, q ∈ tl' := fun q hq => sub' _ (List.mem_append_left _ hq)
  have hN : ∀ p ∈ tl', h'.get? p.1 = some p.2 := fun p hp => (N' p (by simp only [List.mem_cons, hp, or_true])).1
  have hle : h'.get? le = some (listOf (tupRefs ts) ne) := (N' _ (.head _)).1
  have o2 : Apart mu own' := fun q hq p hp e => by
    rw [← hown2] at hp
    have g1 := hN q (mt q hq)
    rcases List.mem_cons.mp hp with rfl | hp
    · have : h'.get? q.1 = some (listOf (tupRefs ts) ne) := by rw [← e]; exact hle
      rw [g1] at this
      have := S1 q hq
      rw [Option.some.inj ‹some q.2 = _›] at this
      exact absurd (Value.type.inj this) (by decide)
    · rcases List.mem_append.mp hp with hp | hp
      · exact hoa q hq p hp e
      · have hc := of_decide_eq_true (List.mem_filter.mp hp).2
        have g2 := hN p (List.mem_filter.mp hp).1
        rw [e, g1] at g2
        rw [← Option.some.inj g2, S1 q hq] at hc
        exact absurd (Value.type.inj hc) (by decide)
  have o3 : NotIt own' := fun p hp => by
    rw [← hown2] at hp
    rcases List.mem_cons.mp hp with rfl | hp
    · intro e; cases e
    · rcases List.mem_append.mp hp with hp | hp
      · exact Ni p hp
      · intro e; rw [of_decide_eq_true (List.mem_filter.mp hp).2] at e; cases e
  have hs2 : xs' = [] ∨ ∀ q ∈ mu, q.2 ≠ dictOf [] 0 := by
    rcases S2 with h | ⟨hc, h⟩
    · exact .inr h
    · refine .inl ?_
      cases xs' with
      | nil => rfl
      | cons x r =>
        have h1 := b'.live x (.head _) (hcl hc _)
        have h2 := fin' _ _ h1
        rcases T'.or (kf x.1) with h3 | ⟨q, hq, e⟩
        · rw [h3] at h1
          have := h (kf x.1) x.2 (by rw [← hce, h1]; rfl)
          omega
        · have := (T'.is q hq).1
          rw [e, h1] at this; cases this
  have hce' : ∀ k, (lv' k).map (·.2) = (fun k => (lv' k).map (·.2)) k := fun _ => rfl
  have tc : ToldC ce (fun k => (lv' k).map (·.2)) H (ts.map (·.2)) := by
    refine ⟨T'.nd, fun q hq => ?_, fun k => ?_, fun k e he => ?_⟩
    · obtain ⟨h1, a, h2, h3⟩ := T'.is q hq
      refine ⟨by rw [h1]; rfl, by rw [← hce, h2]; rfl, h3⟩
    · rcases T'.or k with h | h
      · exact .inl (by rw [← hce k, ← h])
      · exact .inr h
    · cases h : lv' k with
      | none => rw [h] at he; cases he
      | some p =>
        rw [h] at he
        have := fin' k p h
        rw [← Option.some.inj he]; exact this
  have sup2 : ∀ k, ((lv' k).map (·.2)).isSome = true → 0 ≤ k ∧ k < M := fun k hk => by
    rcases tc.or k with h | ⟨q, hq, e⟩
    · exact sup k (by rw [← h]; exact hk)
    · have := (tc.is q hq).2.1
      exact sup k (by rw [← e, this]; rfl)
  have S9 : ∀ p ∈ tl', p ∈ (le, listOf (tupRefs ts) ne) :: tl' := fun p hp => .tail _ hp
  obtain ⟨rest', R1, R2, R3⟩ := rebundle (mu := mu) (own := own') (cl := cl) N9 hoc hoc1 hch hot hot1 hCd q' (List.forall_mem_cons.mpr ⟨(q6 _ (.tail _ (.head _))).symm, z1⟩) (List.forall_mem_cons.mpr ⟨(q6 _ (.tail _ (.tail _ (.tail _ (.tail _ (.head _)))))).symm, z2⟩) (List.forall_mem_cons.mpr ⟨(q6 _ (.tail _ (.tail _ (.tail _ (.head _))))).symm, z3⟩) (List.forall_mem_cons.mpr ⟨(q6 _ (.tail _ (.tail _ (.tail _ (.tail _ (.tail _ (.head _))))))).symm, z4⟩) (List.forall_mem_cons.mpr ⟨(q6 _ (.tail _ (.tail _ (.tail _ (.tail _ (.tail _ (.tail _ (.head _)))))))).symm, z5⟩) hda' hdi' w3 (I'.mono S9) H' b' hce' hcl sup2 (fun q hq => S9 _ (mt q hq)) o1 o2 S hs2 ax
  refine ret h' tk' rest' ts le ne own' _ F' R1 R2 R3 tc o3 (fun p hp => by rw [← hown2]; exact .tail _ (List.mem_append_left _ hp)) (by rw [← hown2]; exact .head _) fun q hq => ?_
  obtain ⟨t, t', ht⟩ := tu' q hq
  exact ⟨t, t', by rw [← hown2]; exact .tail _ (List.mem_append_right _ (List.mem_filter.mpr ⟨ht, decide_eq_true rfl⟩))⟩
end

end
section
local macro_rules | `(tactic| walk_at "pad") => `(tactic| fail)
local macro_rules | `(tactic| walk_at "pad") => `(tactic| fail)
local macro_rules | `(tactic| walk_at "pad") => `(tactic| fail)
local macro_rules | `(tactic| walk_at "pad") => `(tactic| fail)
theorem d_notin_no {A : Around} {d : Addr} {o : Obj} {kvs : List (Int × Value)} {k : Int} {t : Tok} (hv : valueAt kvs k = none) (N : News h₀ L s.heap news) (hm : (d, o) ∈ news) (hd : DOf prog w o kvs) (lo : (d == sysModules) = false)
    (h : Q (.bool true) { s with toks := s.toks + 1 }) : wpAny (model prog w) A (compareOp .NotIn (.int k t) (.ref d)) Q E s := d_notin N hm hd lo (by rw [hv]; exact h)
theorem d_notin_yes {A : Around} {d : Addr} {o : Obj} {kvs : List (Int × Value)} {k : Int} {t : Tok} {v : Value} (hv : valueAt kvs k = some v) (N : News h₀ L s.heap news) (hm : (d, o) ∈ news) (hd : DOf prog w o kvs) (lo : (d == sysModules) = false)
    (h : Q (.bool false) { s with toks := s.toks + 1 }) : wpAny (model prog w) A (compareOp .NotIn (.int k t) (.ref d)) Q E s := d_notin N hm hd lo (by rw [hv]; exact h)
theorem d_get2_no {A : Around} {d : Addr} {o : Obj} {kvs : List (Int × Value)} {k : Int} {t : Tok} {v9 : Value} (hv : valueAt kvs k = none) (N : News h₀ L s.heap news) (hm : (d, o) ∈ news) (hd : DOf prog w o kvs) (lo : (d == sysModules) = false)
    (h : Q v9 { s with toks := s.toks + 1 }) : wpAny (model prog w) A (call (.builtin "dict.get") [.ref d, .int k t, v9]) Q E s := d_get2 N hm hd lo (by rw [hv]; exact h)
theorem d_get2_yes {A : Around} {d : Addr} {o : Obj} {kvs : List (Int × Value)} {k : Int} {t : Tok} {v v9 : Value} (hv : valueAt kvs k = some v) (N : News h₀ L s.heap news) (hm : (d, o) ∈ news) (hd : DOf prog w o kvs) (lo : (d == sysModules) = false)
    (h : Q v { s with toks := s.toks + 1 }) : wpAny (model prog w) A (call (.builtin "dict.get") [.ref d, .int k t, v9]) Q E s := d_get2 N hm hd lo (by rw [hv]; exact h)
abbrev stmtsOf : Stmt → List Stmt
  | .While _ b _ _ => b
  | .For _ _ b _ _ => b
  | .If _ b _ _ => b
  | _ => []
abbrev tgtOf : Stmt → Expr
  | .For t _ _ _ _ => t
  | _ => .Name "" default
@[reducible] def whB : List Stmt := by
  refine' Subtype.val (p := fun d => stmtsOf (at_ Fn.f_law.body 13) = d) ⟨_, ?h⟩
  case h =>
    conv => lhs; whnf
@[reducible] def lp1S : Stmt := by
  refine' Subtype.val (p := fun d => at_ whB 2 = d) ⟨_, ?h⟩
  case h =>
    conv => lhs; whnf
@[reducible] def lp1T : Expr := by
  refine' Subtype.val (p := fun d => tgtOf lp1S = d) ⟨_, ?h⟩
  case h =>
    conv => lhs; whnf
@[reducible] def lp1B : List Stmt := by
  refine' Subtype.val (p := fun d => stmtsOf lp1S = d) ⟨_, ?h⟩
  case h =>
    conv => lhs; whnf
abbrev cl5 (c1 c2 c3 c4 c5 : Addr) : List (Str × Addr) := [("hour", c5), ("reached", c4), ("known", c3), ("calendar", c2), ("size", c1)]
abbrev lwA (dp un : Nat) (gd : Option (List Code)) (L a : Addr) (c1 c2 c3 c4 c5 : Addr) : Around := ktrTop dp un gd "law" Fn.f_law.scope L a (.ref 1251) (cl5 c1 c2 c3 c4 c5) []
abbrev lwE (L a : Addr) (c1 c2 c3 c4 c5 : Addr) : Env := envX "law" Fn.f_law.scope L a (.ref 1251) (cl5 c1 c2 c3 c4 c5)
abbrev IsCell (o : Obj) (v : Value) : Prop := o.data = .cell (some v)
/-- a dict's pairs tell a function from ints to ints -/
def Rep (kvs : List (Int × Value)) (f : Int → Option Int) : Prop := ∀ k, (f k = none → valueAt kvs k = none) ∧ ∀ v, f k = some v → ∃ t, valueAt kvs k = some (.int v t)
theorem Rep.stored {kvs : List (Int × Value)} {f : Int → Option Int} (r : Rep kvs f) (k v : Int) (t : Tok) : Rep (stored kvs k (.int v t)) (ceOn f k v) := fun j => by
  refine ⟨fun h => ?_, fun u h => ?_⟩
  · simp only [ceOn] at h
    by_cases hj : j = k
    · rw [if_pos hj] at h; cases h
    · rw [if_neg hj] at h; rw [va_stored, if_neg hj]; exact (r j).1 h
  · simp only [ceOn] at h
    by_cases hj : j = k
    · rw [if_pos hj] at h; rw [va_stored, if_pos hj]; exact ⟨t, by rw [Option.some.inj h]⟩
    · rw [if_neg hj] at h; rw [va_stored, if_neg hj]; exact (r j).2 u h
abbrev ext1 (R : Int → Option Int) : List (Addr × (Int × Int)) → (Int → Option Int)
  | [] => R
  | q :: r => ext1 (ceOn R q.2.1 q.2.2) r
theorem unrEnd {its all news' : List (Addr × Obj)} {R9 : (Str → Option Value) → List (Addr × Obj) → Prop} {h' : Heap} {tk : Nat} {m' : Str → Option Value} (F' : Fr h₀ L h' m') (N' : News h₀ L h' all) (hI : ∀ p ∈ its, p ∈ all) (sub : ∀ p ∈ news', p ∈ all) (off : ∀ p ∈ news', ∀ q ∈ its, p.1 ≠ q.1) (r : R9 m' news') : UnrEndW h₀ L s its R9 { s with heap := h', toks := tk } :=
  ⟨h', tk, m', news', rfl, F', fun p hp => (List.mem_append.mp hp).elim (fun h => N' p (hI p h)) (fun h => N' p (sub p h)), off, r⟩
section
variable {M : Model} {A : Around} {c1 c2 c3 c4 c5 : Addr} {o : Obj} {v : Value} {ps : Pos} {x : Str}
theorem lw_size (N : News h₀ L s.heap news) (hm : (c1, o) ∈ news) (hd : IsCell o v) (h : Q v s) : wpAny M A (eval (.Name "size" ps) (lwE L a c1 c2 c3 c4 c5)) Q E s :=
  wpAny_Name (loadX_C N rfl hm hd h) (by decide)
theorem lw_calendar (N : News h₀ L s.heap news) (hm : (c2, o) ∈ news) (hd : IsCell o v) (h : Q v s) : wpAny M A (eval (.Name "calendar" ps) (lwE L a c1 c2 c3 c4 c5)) Q E s :=
  wpAny_Name (loadX_C N rfl hm hd h) (by decide)
theorem lw_known (N : News h₀ L s.heap news) (hm : (c3, o) ∈ news) (hd : IsCell o v) (h : Q v s) : wpAny M A (eval (.Name "known" ps) (lwE L a c1 c2 c3 c4 c5)) Q E s :=
  wpAny_Name (loadX_C N rfl hm hd h) (by decide)
theorem lw_reached (N : News h₀ L s.heap news) (hm : (c4, o) ∈ news) (hd : IsCell o v) (h : Q v s) : wpAny M A (eval (.Name "reached" ps) (lwE L a c1 c2 c3 c4 c5)) Q E s :=
  wpAny_Name (loadX_C N rfl hm hd h) (by decide)
theorem lw_hour (N : News h₀ L s.heap news) (hm : (c5, o) ∈ news) (hd : IsCell o v) (h : Q v s) : wpAny M A (eval (.Name "hour" ps) (lwE L a c1 c2 c3 c4 c5)) Q E s :=
  wpAny_Name (loadX_C N rfl hm hd h) (by decide)
theorem lw_ld (F : Fr h₀ L s.heap m) (hv : m x = some v) (hk : (lwE L a c1 c2 c3 c4 c5).kindOf x = some .local) (h : Q v s) (hb : (x == ("__debug__" : Str)) = false) : wpAny M A (eval (.Name x ps) (lwE L a c1 c2 c3 c4 c5)) Q E s :=
  wpAny_Name (wpAny_loadName_local rfl hk F.ns hv h) hb
end
theorem l_at {A : Around} {d : Addr} {it : Array Value} {n : Nat} {i : Int} {t : Tok} {v : Value} {value slice : PySem.Expr} (N : News h₀ L s.heap news) (hm : (d, listOf it n) ∈ news) (hi : 0 ≤ i) (hv : it[i.toNat]? = some v) (hsz : i < 2 ^ 63)
    (h : Q v s)
    (hs : subscripted slice false (.ref d) (.int i t) = operate [.ref d, .int i t] (getItem (.ref d) (.int i t)) := by with_unfolding_all rfl) :
    wpAny (model prog w) A (subscriptTail value slice (.ref d) (.int i t)) Q E s :=
  have hl : s.heap.IsList d it := ⟨_, (N _ hm).1, rfl, n, rfl⟩
  tail_any hl.typeIs slot_list_getitem.lookup (wpAny_getItem_list (k := i) hl hi hsz hv h) hs
theorem dof_cls {o : Obj} {kvs : List (Int × Value)} (h : DOf prog w o kvs) : o.cls = .type "dict" := by
  obtain ⟨es, ep, h1, _⟩ := h; exact h1.1
theorem dof_ne {o : Obj} {kvs : List (Int × Value)} (h : DOf prog w o kvs) (hn : kvs ≠ []) : o ≠ dictOf [] 0 := by
  rintro rfl
  obtain ⟨es, ep, h1, h2, _, h4, _⟩ := h
  have h3 : Data.dict #[] 0 = Data.dict es ep := h2
  injection h3 with a b
  subst a
  cases h4
  exact hn rfl
theorem rep_len {o : Obj} {kvs : List (Int × Value)} {f : Int → Option Int} {M : Int} (hd : DOf prog w o kvs) (r : Rep kvs f) (sup : ∀ k, (f k).isSome = true → 0 ≤ k ∧ k < M) (hM : M ≤ 5) : kvs.length ≤ 5 := by
  have := len_le_of_range 5 (kvs.map (·.1)) (dof_nodup hd) fun x hx => by
    have h1 := va_mem.mpr hx
    cases hf : f x with
    | none => rw [(r x).1 hf] at h1; cases h1
    | some v => have := sup x (by rw [hf]; rfl); omega
  rw [List.length_map] at this; exact this
/-- the calendar's places: the known ones that are not reached -/
abbrev ceR (R K : Int → Option Int) : Int → Option Int := fun x => if (R x).isSome then none else K x
theorem ceR_on {R K : Int → Option Int} {x v : Int} (h : R x = none) : ceOn (ceR R K) x v = ceR R (ceOn K x v) := funext fun j => by
  simp only [ceOn, ceR]
  by_cases hj : j = x
  · rw [if_pos hj, hj, h]; simp
  · rw [if_neg hj, if_neg hj]
section
variable {c dc tm dt da di clk cc hc hl ttu tc : Addr} {M H : Int} {ce ce' : Int → Option Int} {cl cl' : Prop} {xz xz' : Nat} {own led mu rest : List (Addr × Obj)}
theorem CalL.inst (C : CalL prog w h₀ c dc tm dt da di clk cc hc hl ttu tc M H ce cl xz own led) : (c, instObj 1231 dc) ∈ led ∧ ∃ od cur mx t1 t2 t3 t4 t5 t6 t7, (dc, calD w.params t1 t2 t3 t4 t5 t6 t7 (.ref da) cur mx (.ref tm) (.ref di) od (.ref ttu)) ∈ led := by
  cases C with
  | mk od t1 t2 t3 t4 t5 t6 t7 u1 u2 u3 tk0 tH tv1 tv2 tM tcur tT0 T0 doc1 pm1 ct1 doc2 pm2 ct2 oda odi occ och otc nh no vs1 vs2 cN pN xs ik dk kf rf lv tl sub => exact ⟨sub _ (.head _), _, _, _, _, _, _, _, _, _, _, sub _ (.tail _ (.head _))⟩
theorem CalL.hour (C : CalL prog w h₀ c dc tm dt da di clk cc hc hl ttu tc M H ce cl xz own led) : ∃ och tH nh, (hc, och) ∈ led ∧ IsCell och (.ref hl) ∧ (hl, listOf #[.int H tH] nh) ∈ led := by
  cases C with
  | mk od t1 t2 t3 t4 t5 t6 t7 u1 u2 u3 tk0 tH tv1 tv2 tM tcur tT0 T0 doc1 pm1 ct1 doc2 pm2 ct2 oda odi occ och otc nh no vs1 vs2 cN pN xs ik dk kf rf lv tl sub hoc hoc1 hch => exact ⟨och, tH, nh, sub _ (by simp only [List.mem_cons, true_or, or_true]), hch, sub _ (by simp only [List.mem_cons, true_or, or_true])⟩
theorem CalL.weak (C : CalL prog w h₀ c dc tm dt da di clk cc hc hl ttu tc M H ce cl xz own led) (hx : xz ≤ xz') (hc' : cl' → cl) : CalL prog w h₀ c dc tm dt da di clk cc hc hl ttu tc M H ce cl' xz' own led := by
  cases C with
  | mk od t1 t2 t3 t4 t5 t6 t7 u1 u2 u3 tk0 tH tv1 tv2 tM tcur tT0 T0 doc1 pm1 ct1 doc2 pm2 ct2 oda odi occ och otc nh no vs1 vs2 cN pN xs ik dk kf rf lv tl sub hoc hoc1 hch hot hot1 hCd q n1 n2 n3 n4 n5 hda hdi hxl hI hH hb hce hcl sup hown =>
    exact .mk od t1 t2 t3 t4 t5 t6 t7 u1 u2 u3 tk0 tH tv1 tv2 tM tcur tT0 T0 doc1 pm1 ct1 doc2 pm2 ct2 oda odi occ och otc nh no vs1 vs2 cN pN xs ik dk kf rf lv tl sub hoc hoc1 hch hot hot1 hCd q n1 n2 n3 n4 n5 hda hdi (Nat.le_trans hxl hx) hI hH hb hce (fun h => hcl (hc' h)) sup hown
theorem CalL.congr (C : CalL prog w h₀ c dc tm dt da di clk cc hc hl ttu tc M H ce cl xz own led) (h : ∀ k, ce k = ce' k) : CalL prog w h₀ c dc tm dt da di clk cc hc hl ttu tc M H ce' cl xz own led := by
  rw [← funext h]; exact C
theorem CalL.supp (C : CalL prog w h₀ c dc tm dt da di clk cc hc hl ttu tc M H ce cl xz own led) : ∀ k, (ce k).isSome = true → 0 ≤ k ∧ k < M := by
  cases C with
  | mk od t1 t2 t3 t4 t5 t6 t7 u1 u2 u3 tk0 tH tv1 tv2 tM tcur tT0 T0 doc1 pm1 ct1 doc2 pm2 ct2 oda odi occ och otc nh no vs1 vs2 cN pN xs ik dk kf rf lv tl sub hoc hoc1 hch hot hot1 hCd q n1 n2 n3 n4 n5 hda hdi hxl hI hH hb hce hcl sup hown => exact sup
theorem CalL.ownOff {own' : List (Addr × Obj)} (C : CalL prog w h₀ c dc tm dt da di clk cc hc hl ttu tc M H ce cl xz own led) (h : ∀ p ∈ own', p ∈ own) : CalL prog w h₀ c dc tm dt da di clk cc hc hl ttu tc M H ce cl xz own' led := by
  cases C with
  | mk od t1 t2 t3 t4 t5 t6 t7 u1 u2 u3 tk0 tH tv1 tv2 tM tcur tT0 T0 doc1 pm1 ct1 doc2 pm2 ct2 oda odi occ och otc nh no vs1 vs2 cN pN xs ik dk kf rf lv tl sub hoc hoc1 hch hot hot1 hCd q n1 n2 n3 n4 n5 hda hdi hxl hI hH hb hce hcl sup hown =>
    exact .mk od t1 t2 t3 t4 t5 t6 t7 u1 u2 u3 tk0 tH tv1 tv2 tM tcur tT0 T0 doc1 pm1 ct1 doc2 pm2 ct2 oda odi occ och otc nh no vs1 vs2 cN pN xs ik dk kf rf lv tl sub hoc hoc1 hch hot hot1 hCd q n1 n2 n3 n4 n5 hda hdi hxl hI hH hb hce hcl sup (fun p hp => hown p (h p hp))
end
def lay (len : Int → Int → Int) (R : Int → Option Int) (p e x : Int) (K : Int → Option Int) : Int → Option Int :=
  if 0 < len p x ∧ R x = none ∧ e + len p x < (K x).getD 99 then ceOn K x (e + len p x) else K
@[reducible] def lp2S : Stmt := by
  refine' Subtype.val (p := fun d => at_ whB 3 = d) ⟨_, ?h⟩
  case h =>
    conv => lhs; whnf
@[reducible] def lp2T : Expr := by
  refine' Subtype.val (p := fun d => tgtOf lp2S = d) ⟨_, ?h⟩
  case h =>
    conv => lhs; whnf
@[reducible] def lp2B : List Stmt := by
  refine' Subtype.val (p := fun d => stmtsOf lp2S = d) ⟨_, ?h⟩
  case h =>
    conv => lhs; whnf
@[reducible] def lp2S2 : Stmt := by
  refine' Subtype.val (p := fun d => at_ lp2B 0 = d) ⟨_, ?h⟩
  case h =>
    conv => lhs; whnf
@[reducible] def lp2BB : List Stmt := by
  refine' Subtype.val (p := fun d => stmtsOf lp2S2 = d) ⟨_, ?h⟩
  case h =>
    conv => lhs; whnf
theorem stored_ne {kvs : List (Int × Value)} {k : Int} {v : Value} : stored kvs k v ≠ [] := fun h => by
  have := va_stored (kvs := kvs) (k := k) (j := k) (v := v)
  rw [h, if_pos rfl] at this
  cases this

end
end
section
variable {prog : Program} {w : World} {p : Program} {loose : List Str} {mean : ExcName → Option Value} {mg mb : Str → Option Value} {dp un : Nat} {gd : Option (List Code)} {cn : Str} {nms : List (Str × NameKind)} {sg sc : Bool} {mo : List (Str × Const)} {a : Addr} {ccd : Value} {cl : List (Str × Addr)} {outer : List Env} {A₀ : Around} {base h₀ : Heap} {L : Addr} {m : Str → Option Value} {news : List (Addr × Obj)} {s : Shared} {Q E : Value → Shared → Prop}
local macro_rules | `(tactic| walk_at "getAttr ref") => `(tactic| (k_here; k_dflt (
  refine' get_ownA ?k1 ?k2 ?k3 ?k4 ?k5 ?k6 ?k7 ?k8 ?k9 ?_; (case k1 => k_asm); (case k2 => k_asm); (case k3 => k_inst); (case k4 => k_is); (case k5 => k_is); (case k6 => k_is); (case k7 => k_is); (case k8 => k_get); (case k9 => k_handed); k_whole)))
local macro_rules | `(tactic| walk_at "getMethod ref") => `(tactic| (k_here; k_dflt (
  refine' method_ga ?k1 ?k2 ?k3 ?k4 ?_; (case k1 => k_in); (case k2 => k_inst); (case k3 => k_is); (case k4 => k_is); k_whole)))
local macro_rules | `(tactic| walk_at "getMethod ref") => `(tactic| (k_here; k_dflt (first
  | (refine' method_prop ?k1 ?k2 ?k3 ?k4 ?k5 ?k6 ?_; (case k1 => k_in); (case k2 => k_inst); (case k3 => k_is); (case k4 => k_is); (case k5 => k_is); (case k6 => k_is); k_whole)
  | (refine' method_none ?k1 ?k2 ?k3 ?k4 ?k5 ?_; (case k1 => k_in); (case k2 => k_inst); (case k3 => k_is); (case k4 => k_is); (case k5 => k_is); k_whole))))
local macro_rules | `(tactic| walk_at "getMethod ref") => `(tactic| (k_here; (with_reducible show wpAny _ _ (getMethod (Value.ref _) (PySem.Str.ofString "get") _) _ _ _); k_dflt (refine' d_meth_get ?N ?m ?d ?_; (case N => k_asm); (case m => k_mem); (case d => k_asm); k_whole)))
local macro_rules | `(tactic| walk_at "getMethod ref") => `(tactic| (k_here; (with_reducible show wpAny _ _ (getMethod (Value.ref _) (PySem.Str.ofString "pop") _) _ _ _); k_dflt (refine' d_meth_pop ?N ?m ?d ?_; (case N => k_asm); (case m => k_mem); (case d => k_asm); k_whole)))
local macro_rules | `(tactic| walk_at "subscriptTail") => `(tactic| (k_here; (with_reducible show wpAny _ _ (subscriptTail _ _ (Value.ref _) (Value.int _ _)) _ _ _); k_dflt (first
  | (refine' d_item ?N ?m ?d ?v ?_; (case N => k_asm); (case m => k_mem); (case d => k_asm); (case v => k_asm); k_whole)
  | (refine' d_item_no ?N ?m ?d ?l ?h ?v ?_; (case N => k_asm); (case m => k_mem); (case d => k_asm); (case l => k_asm); (case h => rfl); (case v => k_asm); k_whole; intro h' e' X9))))
local macro_rules | `(tactic| walk_at "compareOp In int ref") => `(tactic| (k_here; k_dflt (refine' d_in ?N ?m ?d ?l ?_; (case N => k_asm); (case m => k_mem); (case d => k_asm); (case l => k_asm); k_whole)))
local macro_rules | `(tactic| walk_at "compareOp NotIn int ref") => `(tactic| (k_here; k_dflt (refine' d_notin ?N ?m ?d ?l ?_; (case N => k_asm); (case m => k_mem); (case d => k_asm); (case l => k_asm); k_whole)))
local macro_rules | `(tactic| walk_at "d_small") => `(tactic| first | assumption | omega | (refine wl ?_; walk_at "d_small") | (refine sl ?_; walk_at "d_small"))
local macro_rules | `(tactic| walk_at "setItem ref int") => `(tactic| (k_here; k_dflt (refine' d_set ?F ?N ?U ?d ?z ?_; (case F => k_asm); (case N => k_asm); (case U => k_updF); (case d => k_asm); (case z => walk_at "d_small"); k_whole; intro h' o' F' N' hd'; (try dsimp only at N'); (try k_sweep))))
local macro_rules | `(tactic| walk_at "delItem ref int") => `(tactic| (k_here; k_dflt (refine' d_del ?F ?N ?U ?d ?z ?v ?_; (case F => k_asm); (case N => k_asm); (case U => k_updF); (case d => k_asm); (case z => walk_at "d_small"); (case v => first | k_asm | (simp only [*]; rfl)); k_whole; intro h' o' F' N' hd'; (try dsimp only at N'); (try k_sweep))))
local macro_rules | `(tactic| walk_at "call builtin:dict.pop") => `(tactic| (k_here; k_dflt (refine' d_pop ?F ?N ?U ?d ?z ?v ?_; (case F => k_asm); (case N => k_asm); (case U => k_updF); (case d => k_asm); (case z => walk_at "d_small"); (case v => k_asm); k_whole; intro h' o' F' N' hd'; (try dsimp only at N'); (try k_sweep))))
local macro_rules | `(tactic| walk_at "call builtin:dict.get") => `(tactic| (k_here; k_dflt (first
  | (refine' d_get1 ?N ?m ?d ?l ?_; (case N => k_asm); (case m => k_mem); (case d => k_asm); (case l => k_asm); k_whole)
  | (refine' d_get2 ?N ?m ?d ?l ?_; (case N => k_asm); (case m => k_mem); (case d => k_asm); (case l => k_asm); k_whole))))
local macro_rules | `(tactic| walk_at "call builtin:len") => `(tactic| (k_here; (with_reducible show wpAny _ _ (call (Value.builtin "len") [Value.ref _]) _ _ _); k_dflt (refine' d_len ?N ?m ?d ?l ?z ?_; (case N => k_asm); (case m => k_mem); (case d => k_asm); (case l => k_asm); (case z => walk_at "d_small"); k_whole)))
local macro_rules | `(tactic| k_all) => `(tactic| ((fail_if_success (refine List.forall_mem_cons.mpr ?_)); first | with_reducible assumption | exact neAll (by with_reducible assumption) | exact off1_all (by with_reducible assumption) | fail "no tail fact"))
local macro_rules | `(tactic| k_lt $h:ident) => `(tactic| (replace $h := allLt_of $h; simp only [AllLt, and_true] at $h:ident; (try (have hT9 := $h; (repeat (replace hT9 := And.right hT9))))))
local macro_rules | `(tactic| k_room) => `(tactic| ((try simp only [depth_mark, depth_under_make, depth_under_kw, depth_in1, depth_deeper]); (try dsimp only [ktrTop] at *); omega))
local macro_rules | `(tactic| walk_at "eval Call Attribute cons cons") => `(tactic| (k_here; refine methodCall_far ?_))
local macro_rules | `(tactic| walk_at "callWith ref") => `(tactic| (k_here; kn_here; k_dflt (first | (refine' callWith_K ?k1 ?k2 ?_; (case k1 => k_asm); (case k2 => k_is); k_whole) | (refine' callWith_K0 ?k1 ?k2 ?_; (case k1 => k_in); (case k2 => k_is); k_whole))))
local macro_rules | `(tactic| walk_at "callWith ref") => `(tactic| (k_here; k_dflt (refine' callWith_SK ?X ?k ?_; (case X => k_asm); (case k => k_is); k_whole)))
local macro_rules | `(tactic| walk_at "KwNil") => `(tactic| (k_here; k_dflt (refine' kwnil_K ?F ?N ?m ?d ?l ?x ?_; (case F => k_asm); (case N => k_asm); (case m => k_mem); (case d => k_asm); (case l => k_asm); (case x => exact fun s' F9 Q9 q9 => ld F9 rfl q9); k_whole; intro h' F' N' l1; (try k_lt l1); (try k_sweep))))
local macro_rules | `(tactic| k_mem) => `(tactic| ((fail_if_success (refine List.Mem.tail _ ?_)); (show Membership.mem (γ := List (Addr × Obj)) _ _); ktr_member))
local macro_rules | `(tactic| walk_at "ite") => `(tactic| (k_here; k_dflt (first
  | (refine ite_pos (by first | omega | (refine decide_eq_true ?_; omega)) ?_)
  | (refine ite_neg (by first | omega | (refine ne_true_of_eq_false (decide_eq_false ?_); omega)) ?_))))
local macro_rules | `(tactic| walk_at "subscriptTail Name Constant ref int") => `(tactic| (k_here; (with_reducible show wpAny _ _ (subscriptTail _ _ (Value.ref _) (Value.int 0 _)) _ _ _); k_dflt (refine' l_item0 ?N ?m ?_ ?s; (case s => with_unfolding_all rfl); (case N => k_asm); (case m => k_mem); k_whole)))
local macro_rules | `(tactic| k_in) => `(tactic| first | with_reducible assumption | exact Frag.In.keeps (by with_reducible assumption) (Fr.keep (by with_reducible assumption)))
local macro_rules | `(tactic| walk_at "call builtin:len") => `(tactic| (k_here; (with_reducible show wpAny _ _ (call (Value.builtin "len") [Value.ref _]) _ _ _); k_dflt (refine' v_len ?N ?m ?z ?_; (case N => k_asm); (case m => k_mem); (case z => omega); k_whole)))
local macro_rules | `(tactic| walk_at "subscriptTail Name Constant ref int") => `(tactic| (k_here; (with_reducible show wpAny _ _ (subscriptTail _ _ (Value.ref _) (Value.int 0 _)) _ _ _); k_dflt (refine' v_item0 ?N ?m ?_ ?s; (case s => with_unfolding_all rfl); (case N => k_asm); (case m => k_mem); k_whole)))
local macro_rules | `(tactic| walk_at "truthy ref") => `(tactic| (k_here; (with_reducible show wpAny _ _ (truthy (Value.ref _)) _ _ _); k_dflt (first
  | (refine' v_truthy1 ?N ?m ?z ?_; (case N => k_asm); (case m => k_mem); (case z => omega); k_whole)
  | (refine' v_truthy0 ?N ?m ?_; (case N => k_asm); (case m => k_mem); k_whole))))
local macro_rules | `(tactic| walk_at "ap_mem") => `(tactic| first | exact List.Mem.head _ | (refine List.Mem.tail _ ?_; walk_at "ap_mem"))
local macro_rules | `(tactic| k_ne) => `(tactic| (refine neN ?_; (try dsimp only); first | omega | with_reducible assumption | exact Ne.symm (by with_reducible assumption) | (refine AllAp.ne (by with_reducible assumption) ?_; first | exact List.Mem.head _ | exact List.Mem.tail _ (List.Mem.head _) | exact List.Mem.tail _ (List.Mem.tail _ (List.Mem.head _)) | exact List.Mem.tail _ (List.Mem.tail _ (List.Mem.tail _ (List.Mem.head _))) | exact List.Mem.tail _ (List.Mem.tail _ (List.Mem.tail _ (List.Mem.tail _ (List.Mem.head _)))) | exact List.Mem.tail _ (List.Mem.tail _ (List.Mem.tail _ (List.Mem.tail _ (List.Mem.tail _ (List.Mem.head _))))) | exact List.Mem.tail _ (List.Mem.tail _ (List.Mem.tail _ (List.Mem.tail _ (List.Mem.tail _ (List.Mem.tail _ (List.Mem.head _)))))) | exact List.Mem.tail _ (List.Mem.tail _ (List.Mem.tail _ (List.Mem.tail _ (List.Mem.tail _ (List.Mem.tail _ (List.Mem.tail _ (List.Mem.head _))))))) | exact List.Mem.tail _ (List.Mem.tail _ (List.Mem.tail _ (List.Mem.tail _ (List.Mem.tail _ (List.Mem.tail _ (List.Mem.tail _ (List.Mem.tail _ (List.Mem.head _)))))))) | exact List.Mem.tail _ (List.Mem.tail _ (List.Mem.tail _ (List.Mem.tail _ (List.Mem.tail _ (List.Mem.tail _ (List.Mem.tail _ (List.Mem.tail _ (List.Mem.tail _ (List.Mem.head _))))))))) | exact List.Mem.tail _ (List.Mem.tail _ (List.Mem.tail _ (List.Mem.tail _ (List.Mem.tail _ (List.Mem.tail _ (List.Mem.tail _ (List.Mem.tail _ (List.Mem.tail _ (List.Mem.tail _ (List.Mem.head _)))))))))) | exact List.Mem.tail _ (List.Mem.tail _ (List.Mem.tail _ (List.Mem.tail _ (List.Mem.tail _ (List.Mem.tail _ (List.Mem.tail _ (List.Mem.tail _ (List.Mem.tail _ (List.Mem.tail _ (List.Mem.tail _ (List.Mem.head _))))))))))) | exact List.Mem.tail _ (List.Mem.tail _ (List.Mem.tail _ (List.Mem.tail _ (List.Mem.tail _ (List.Mem.tail _ (List.Mem.tail _ (List.Mem.tail _ (List.Mem.tail _ (List.Mem.tail _ (List.Mem.tail _ (List.Mem.tail _ (List.Mem.head _)))))))))))) | exact List.Mem.tail _ (List.Mem.tail _ (List.Mem.tail _ (List.Mem.tail _ (List.Mem.tail _ (List.Mem.tail _ (List.Mem.tail _ (List.Mem.tail _ (List.Mem.tail _ (List.Mem.tail _ (List.Mem.tail _ (List.Mem.tail _ (List.Mem.tail _ (List.Mem.head _))))))))))))) | exact List.Mem.tail _ (List.Mem.tail _ (List.Mem.tail _ (List.Mem.tail _ (List.Mem.tail _ (List.Mem.tail _ (List.Mem.tail _ (List.Mem.tail _ (List.Mem.tail _ (List.Mem.tail _ (List.Mem.tail _ (List.Mem.tail _ (List.Mem.tail _ (List.Mem.tail _ (List.Mem.head _)))))))))))))) | exact List.Mem.tail _ (List.Mem.tail _ (List.Mem.tail _ (List.Mem.tail _ (List.Mem.tail _ (List.Mem.tail _ (List.Mem.tail _ (List.Mem.tail _ (List.Mem.tail _ (List.Mem.tail _ (List.Mem.tail _ (List.Mem.tail _ (List.Mem.tail _ (List.Mem.tail _ (List.Mem.tail _ (List.Mem.head _)))))))))))))))) | (refine Ne.symm (AllAp.ne (by with_reducible assumption) ?_); first | exact List.Mem.head _ | exact List.Mem.tail _ (List.Mem.head _) | exact List.Mem.tail _ (List.Mem.tail _ (List.Mem.head _)) | exact List.Mem.tail _ (List.Mem.tail _ (List.Mem.tail _ (List.Mem.head _))) | exact List.Mem.tail _ (List.Mem.tail _ (List.Mem.tail _ (List.Mem.tail _ (List.Mem.head _)))) | exact List.Mem.tail _ (List.Mem.tail _ (List.Mem.tail _ (List.Mem.tail _ (List.Mem.tail _ (List.Mem.head _))))) | exact List.Mem.tail _ (List.Mem.tail _ (List.Mem.tail _ (List.Mem.tail _ (List.Mem.tail _ (List.Mem.tail _ (List.Mem.head _)))))) | exact List.Mem.tail _ (List.Mem.tail _ (List.Mem.tail _ (List.Mem.tail _ (List.Mem.tail _ (List.Mem.tail _ (List.Mem.tail _ (List.Mem.head _))))))) | exact List.Mem.tail _ (List.Mem.tail _ (List.Mem.tail _ (List.Mem.tail _ (List.Mem.tail _ (List.Mem.tail _ (List.Mem.tail _ (List.Mem.tail _ (List.Mem.head _)))))))) | exact List.Mem.tail _ (List.Mem.tail _ (List.Mem.tail _ (List.Mem.tail _ (List.Mem.tail _ (List.Mem.tail _ (List.Mem.tail _ (List.Mem.tail _ (List.Mem.tail _ (List.Mem.head _))))))))) | exact List.Mem.tail _ (List.Mem.tail _ (List.Mem.tail _ (List.Mem.tail _ (List.Mem.tail _ (List.Mem.tail _ (List.Mem.tail _ (List.Mem.tail _ (List.Mem.tail _ (List.Mem.tail _ (List.Mem.head _)))))))))) | exact List.Mem.tail _ (List.Mem.tail _ (List.Mem.tail _ (List.Mem.tail _ (List.Mem.tail _ (List.Mem.tail _ (List.Mem.tail _ (List.Mem.tail _ (List.Mem.tail _ (List.Mem.tail _ (List.Mem.tail _ (List.Mem.head _))))))))))) | exact List.Mem.tail _ (List.Mem.tail _ (List.Mem.tail _ (List.Mem.tail _ (List.Mem.tail _ (List.Mem.tail _ (List.Mem.tail _ (List.Mem.tail _ (List.Mem.tail _ (List.Mem.tail _ (List.Mem.tail _ (List.Mem.tail _ (List.Mem.head _)))))))))))) | exact List.Mem.tail _ (List.Mem.tail _ (List.Mem.tail _ (List.Mem.tail _ (List.Mem.tail _ (List.Mem.tail _ (List.Mem.tail _ (List.Mem.tail _ (List.Mem.tail _ (List.Mem.tail _ (List.Mem.tail _ (List.Mem.tail _ (List.Mem.tail _ (List.Mem.head _))))))))))))) | exact List.Mem.tail _ (List.Mem.tail _ (List.Mem.tail _ (List.Mem.tail _ (List.Mem.tail _ (List.Mem.tail _ (List.Mem.tail _ (List.Mem.tail _ (List.Mem.tail _ (List.Mem.tail _ (List.Mem.tail _ (List.Mem.tail _ (List.Mem.tail _ (List.Mem.tail _ (List.Mem.head _)))))))))))))) | exact List.Mem.tail _ (List.Mem.tail _ (List.Mem.tail _ (List.Mem.tail _ (List.Mem.tail _ (List.Mem.tail _ (List.Mem.tail _ (List.Mem.tail _ (List.Mem.tail _ (List.Mem.tail _ (List.Mem.tail _ (List.Mem.tail _ (List.Mem.tail _ (List.Mem.tail _ (List.Mem.tail _ (List.Mem.head _))))))))))))))))))
local macro_rules | `(tactic| walk_at "sub_tail") => `(tactic| (intro p hp; repeat (first | exact hp | exact List.Mem.tail _ hp | apply List.Mem.tail)))
local macro_rules | `(tactic| walk_at "sub_mem") => `(tactic| first | (refine List.forall_mem_cons.mpr ⟨by k_mem, ?_⟩; walk_at "sub_mem") | walk_at "sub_tail")
local macro_rules | `(tactic| walk_at "call ref") => `(tactic| (k_here; kn_here; k_dflt (refine wpAny_call ?_; k_enter)))
local macro_rules | `(tactic| walk_at "getAttr ref") => `(tactic| (k_here; (with_reducible first | (show wpAny _ _ (getAttr (Value.ref _) (PySem.Str.ofString "removed") _) _ _ _) | (show wpAny _ _ (getAttr (Value.ref _) (PySem.Str.ofString "expires") _) _ _ _) | (show wpAny _ _ (getAttr (Value.ref _) (PySem.Str.ofString "key") _) _ _ _)); k_dflt (refine' get_slot ?k1 ?k2 ?k3 ?k4 ?k5 ?k6 ?k7 ?k8 ?k9 ?k10 ?k11 ?_; (case k1 => k_asm); (case k2 => k_asm); (case k3 => k_inst); (case k4 => k_is); (case k5 => k_is); (case k6 => k_is); (case k7 => k_is); (case k8 => k_is); (case k9 => k_is); (case k10 => k_slotget); (case k11 => k_handed); k_whole)))
local macro_rules | `(tactic| walk_at "setAttr ref") => `(tactic| (k_here; (with_reducible first | (show wpAny _ _ (setAttr (Value.ref _) (PySem.Str.ofString "removed") _) _ _ _) | (show wpAny _ _ (setAttr (Value.ref _) (PySem.Str.ofString "expires") _) _ _ _) | (show wpAny _ _ (setAttr (Value.ref _) (PySem.Str.ofString "key") _) _ _ _)); k_dflt (refine' set_slot ?k1 ?k2 ?k3 ?k4 ?k5 ?k6 ?k7 ?k8 ?k9 ?k10 ?k11 ?k12 ?k13 ?_; (case k1 => k_asm); (case k2 => k_asm); (case k3 => k_asm); (case k4 => k_inst); (case k5 => k_is); (case k6 => k_is); (case k7 => k_is); (case k8 => k_is); (case k9 => k_is); (case k10 => decide); (case k11 => k_slotset); (case k12 => exact rfl); (case k13 => k_upd); k_whole; intro h' F' N'; (try k_sweep))))

local macro_rules | `(tactic| walk_at "compareOp In int ref") => `(tactic| (k_here; k_dflt (first
  | (refine' d_in_no ?v ?N ?m ?d ?l ?_; (case N => k_asm); (case m => k_mem); (case d => k_asm); (case v => k_asm); (case l => k_asm); k_whole)
  | (refine' d_in_yes ?v ?N ?m ?d ?l ?_; (case N => k_asm); (case m => k_mem); (case d => k_asm); (case v => k_asm); (case l => k_asm); k_whole))))
local macro_rules | `(tactic| walk_at "compareOp NotIn int ref") => `(tactic| (k_here; k_dflt (first
  | (refine' d_notin_no ?v ?N ?m ?d ?l ?_; (case N => k_asm); (case m => k_mem); (case d => k_asm); (case v => k_asm); (case l => k_asm); k_whole)
  | (refine' d_notin_yes ?v ?N ?m ?d ?l ?_; (case N => k_asm); (case m => k_mem); (case d => k_asm); (case v => k_asm); (case l => k_asm); k_whole))))
local macro_rules | `(tactic| walk_at "call builtin:dict.get") => `(tactic| (k_here; k_dflt (first
  | (refine' d_get2_no ?v ?N ?m ?d ?l ?_; (case N => k_asm); (case m => k_mem); (case d => k_asm); (case v => k_asm); (case l => k_asm); k_whole)
  | (refine' d_get2_yes ?v ?N ?m ?d ?l ?_; (case N => k_asm); (case m => k_mem); (case d => k_asm); (case v => k_asm); (case l => k_asm); k_whole))))
local macro_rules | `(tactic| walk_at "eval Name") => `(tactic| (k_here; (with_reducible refine' lw_ld ?F ?v ?k ?_ ?b); k_dflt ((case F => with_reducible assumption); (case v => first | with_reducible assumption | exact rfl | (refine (if_neg (by decide)).trans ?_; first | with_reducible assumption | (refine (if_neg (by decide)).trans ?_; first | with_reducible assumption | (refine (if_neg (by decide)).trans ?_; with_reducible assumption)))); (case k => with_unfolding_all rfl); (case b => decide); k_whole)))
local macro_rules | `(tactic| walk_at "eval Name") => `(tactic| (k_here; (with_reducible refine' lw_size ?N ?m ?d ?_); k_dflt ((case N => with_reducible assumption); (case m => k_mem); (case d => with_reducible assumption); k_whole)))
local macro_rules | `(tactic| walk_at "eval Name") => `(tactic| (k_here; (with_reducible refine' lw_calendar ?N ?m ?d ?_); k_dflt ((case N => with_reducible assumption); (case m => k_mem); (case d => with_reducible assumption); k_whole)))
local macro_rules | `(tactic| walk_at "eval Name") => `(tactic| (k_here; (with_reducible refine' lw_known ?N ?m ?d ?_); k_dflt ((case N => with_reducible assumption); (case m => k_mem); (case d => with_reducible assumption); k_whole)))
local macro_rules | `(tactic| walk_at "eval Name") => `(tactic| (k_here; (with_reducible refine' lw_reached ?N ?m ?d ?_); k_dflt ((case N => with_reducible assumption); (case m => k_mem); (case d => with_reducible assumption); k_whole)))
local macro_rules | `(tactic| walk_at "eval Name") => `(tactic| (k_here; (with_reducible refine' lw_hour ?N ?m ?d ?_); k_dflt ((case N => with_reducible assumption); (case m => k_mem); (case d => with_reducible assumption); k_whole)))
local macro_rules | `(tactic| walk_at "eval Name") => `(tactic| (k_here; (with_reducible show wpAny _ _ (eval (Expr.Name (PySem.Str.ofString "range") _) _) _ _ _); (with_reducible rename Fr _ _ _ _ => kF); with_unfolding_all refine guard_global (by rfl) ?_; k_dflt (refine' name_B kF ?k1 ?k2 ?k3 ?k4 ?k5 ?_; (case k1 => k_asm); (case k2 => k_asm); (case k3 => k_is); (case k4 => boot_by_name); (case k5 => decide); k_whole)))
local macro_rules | `(tactic| walk_at "eval Name") => `(tactic| (k_here; (with_reducible show wpAny _ _ (eval (Expr.Name (PySem.Str.ofString "len") _) _) _ _ _); (with_reducible rename Fr _ _ _ _ => kF); with_unfolding_all refine guard_global (by rfl) ?_; k_dflt (refine' name_B kF ?k1 ?k2 ?k3 ?k4 ?k5 ?_; (case k1 => k_asm); (case k2 => k_asm); (case k3 => k_is); (case k4 => boot_by_name); (case k5 => decide); k_whole)))
local macro_rules | `(tactic| k_ne) => `(tactic| (refine neN ?_; (try dsimp only); first | with_reducible assumption | exact Ne.symm (by with_reducible assumption) | omega | (refine AllAp.ne (by with_reducible assumption) ?_; first | exact List.Mem.head _ | exact List.Mem.tail _ (List.Mem.head _) | exact List.Mem.tail _ (List.Mem.tail _ (List.Mem.head _)) | exact List.Mem.tail _ (List.Mem.tail _ (List.Mem.tail _ (List.Mem.head _))) | exact List.Mem.tail _ (List.Mem.tail _ (List.Mem.tail _ (List.Mem.tail _ (List.Mem.head _)))) | exact List.Mem.tail _ (List.Mem.tail _ (List.Mem.tail _ (List.Mem.tail _ (List.Mem.tail _ (List.Mem.head _))))) | exact List.Mem.tail _ (List.Mem.tail _ (List.Mem.tail _ (List.Mem.tail _ (List.Mem.tail _ (List.Mem.tail _ (List.Mem.head _)))))) | exact List.Mem.tail _ (List.Mem.tail _ (List.Mem.tail _ (List.Mem.tail _ (List.Mem.tail _ (List.Mem.tail _ (List.Mem.tail _ (List.Mem.head _))))))) | exact List.Mem.tail _ (List.Mem.tail _ (List.Mem.tail _ (List.Mem.tail _ (List.Mem.tail _ (List.Mem.tail _ (List.Mem.tail _ (List.Mem.tail _ (List.Mem.head _)))))))) | exact List.Mem.tail _ (List.Mem.tail _ (List.Mem.tail _ (List.Mem.tail _ (List.Mem.tail _ (List.Mem.tail _ (List.Mem.tail _ (List.Mem.tail _ (List.Mem.tail _ (List.Mem.head _))))))))) | exact List.Mem.tail _ (List.Mem.tail _ (List.Mem.tail _ (List.Mem.tail _ (List.Mem.tail _ (List.Mem.tail _ (List.Mem.tail _ (List.Mem.tail _ (List.Mem.tail _ (List.Mem.tail _ (List.Mem.head _)))))))))) | exact List.Mem.tail _ (List.Mem.tail _ (List.Mem.tail _ (List.Mem.tail _ (List.Mem.tail _ (List.Mem.tail _ (List.Mem.tail _ (List.Mem.tail _ (List.Mem.tail _ (List.Mem.tail _ (List.Mem.tail _ (List.Mem.head _))))))))))) | exact List.Mem.tail _ (List.Mem.tail _ (List.Mem.tail _ (List.Mem.tail _ (List.Mem.tail _ (List.Mem.tail _ (List.Mem.tail _ (List.Mem.tail _ (List.Mem.tail _ (List.Mem.tail _ (List.Mem.tail _ (List.Mem.tail _ (List.Mem.head _)))))))))))) | exact List.Mem.tail _ (List.Mem.tail _ (List.Mem.tail _ (List.Mem.tail _ (List.Mem.tail _ (List.Mem.tail _ (List.Mem.tail _ (List.Mem.tail _ (List.Mem.tail _ (List.Mem.tail _ (List.Mem.tail _ (List.Mem.tail _ (List.Mem.tail _ (List.Mem.head _))))))))))))) | exact List.Mem.tail _ (List.Mem.tail _ (List.Mem.tail _ (List.Mem.tail _ (List.Mem.tail _ (List.Mem.tail _ (List.Mem.tail _ (List.Mem.tail _ (List.Mem.tail _ (List.Mem.tail _ (List.Mem.tail _ (List.Mem.tail _ (List.Mem.tail _ (List.Mem.tail _ (List.Mem.head _)))))))))))))) | exact List.Mem.tail _ (List.Mem.tail _ (List.Mem.tail _ (List.Mem.tail _ (List.Mem.tail _ (List.Mem.tail _ (List.Mem.tail _ (List.Mem.tail _ (List.Mem.tail _ (List.Mem.tail _ (List.Mem.tail _ (List.Mem.tail _ (List.Mem.tail _ (List.Mem.tail _ (List.Mem.tail _ (List.Mem.head _)))))))))))))))) | (refine Ne.symm (AllAp.ne (by with_reducible assumption) ?_); first | exact List.Mem.head _ | exact List.Mem.tail _ (List.Mem.head _) | exact List.Mem.tail _ (List.Mem.tail _ (List.Mem.head _)) | exact List.Mem.tail _ (List.Mem.tail _ (List.Mem.tail _ (List.Mem.head _))) | exact List.Mem.tail _ (List.Mem.tail _ (List.Mem.tail _ (List.Mem.tail _ (List.Mem.head _)))) | exact List.Mem.tail _ (List.Mem.tail _ (List.Mem.tail _ (List.Mem.tail _ (List.Mem.tail _ (List.Mem.head _))))) | exact List.Mem.tail _ (List.Mem.tail _ (List.Mem.tail _ (List.Mem.tail _ (List.Mem.tail _ (List.Mem.tail _ (List.Mem.head _)))))) | exact List.Mem.tail _ (List.Mem.tail _ (List.Mem.tail _ (List.Mem.tail _ (List.Mem.tail _ (List.Mem.tail _ (List.Mem.tail _ (List.Mem.head _))))))) | exact List.Mem.tail _ (List.Mem.tail _ (List.Mem.tail _ (List.Mem.tail _ (List.Mem.tail _ (List.Mem.tail _ (List.Mem.tail _ (List.Mem.tail _ (List.Mem.head _)))))))) | exact List.Mem.tail _ (List.Mem.tail _ (List.Mem.tail _ (List.Mem.tail _ (List.Mem.tail _ (List.Mem.tail _ (List.Mem.tail _ (List.Mem.tail _ (List.Mem.tail _ (List.Mem.head _))))))))) | exact List.Mem.tail _ (List.Mem.tail _ (List.Mem.tail _ (List.Mem.tail _ (List.Mem.tail _ (List.Mem.tail _ (List.Mem.tail _ (List.Mem.tail _ (List.Mem.tail _ (List.Mem.tail _ (List.Mem.head _)))))))))) | exact List.Mem.tail _ (List.Mem.tail _ (List.Mem.tail _ (List.Mem.tail _ (List.Mem.tail _ (List.Mem.tail _ (List.Mem.tail _ (List.Mem.tail _ (List.Mem.tail _ (List.Mem.tail _ (List.Mem.tail _ (List.Mem.head _))))))))))) | exact List.Mem.tail _ (List.Mem.tail _ (List.Mem.tail _ (List.Mem.tail _ (List.Mem.tail _ (List.Mem.tail _ (List.Mem.tail _ (List.Mem.tail _ (List.Mem.tail _ (List.Mem.tail _ (List.Mem.tail _ (List.Mem.tail _ (List.Mem.head _)))))))))))) | exact List.Mem.tail _ (List.Mem.tail _ (List.Mem.tail _ (List.Mem.tail _ (List.Mem.tail _ (List.Mem.tail _ (List.Mem.tail _ (List.Mem.tail _ (List.Mem.tail _ (List.Mem.tail _ (List.Mem.tail _ (List.Mem.tail _ (List.Mem.tail _ (List.Mem.head _))))))))))))) | exact List.Mem.tail _ (List.Mem.tail _ (List.Mem.tail _ (List.Mem.tail _ (List.Mem.tail _ (List.Mem.tail _ (List.Mem.tail _ (List.Mem.tail _ (List.Mem.tail _ (List.Mem.tail _ (List.Mem.tail _ (List.Mem.tail _ (List.Mem.tail _ (List.Mem.tail _ (List.Mem.head _)))))))))))))) | exact List.Mem.tail _ (List.Mem.tail _ (List.Mem.tail _ (List.Mem.tail _ (List.Mem.tail _ (List.Mem.tail _ (List.Mem.tail _ (List.Mem.tail _ (List.Mem.tail _ (List.Mem.tail _ (List.Mem.tail _ (List.Mem.tail _ (List.Mem.tail _ (List.Mem.tail _ (List.Mem.tail _ (List.Mem.head _))))))))))))))))))
section
local macro_rules | `(tactic| walk_at "pad") => `(tactic| fail)
local macro_rules | `(tactic| walk_at "pad") => `(tactic| fail)
set_option maxHeartbeats 4000000 in
theorem lp1_rest {a c1 c2 c3 c4 c5 rd le hl I : Addr} {H : Int} {tH : Tok} {nh ne : Nat} {Q' : Flow → Shared → Prop} {lo o4 o5 : Obj} {rest0 : List (Addr × Obj)} (B : Below A₀ base [] h₀) (X : (K w.params).In h₀) (T : Top p loose mean mg mb h₀) (hd : dp + 40 < recursionLimit) (hu : un + 120 < cLine)
    (k4 : (c4, o4) ∈ rest0) (k4' : IsCell o4 (.ref rd)) (k5 : (c5, o5) ∈ rest0) (k5' : IsCell o5 (.ref hl)) (kh : (hl, listOf #[.int H tH] nh) ∈ rest0) (kl : (le, lo) ∈ rest0) (n0 : ∀ p ∈ rest0, p.1 ≠ rd) (lrd : (rd == sysModules) = false) (lI : @LT.lt Nat instLTNat rd I) (nI0 : ∀ p ∈ rest0, p.1 ≠ I) :
    ∀ (ts : List (Addr × (Int × Int))) (R : Int → Option Int) (kvs : List (Int × Value)) (ord : Obj) (m : Str → Option Value), TupsIn ts rest0 → (ts.map (·.2.1)).Nodup → (∀ q ∈ ts, R q.2.1 = none ∧ q.2.2 = H) → DOf prog w ord kvs → Rep kvs R → kvs.length + ts.length ≤ 100 →
      (∀ h' tk' ord' kvs' m', Fr h₀ L h' m' → News h₀ L h' ((rd, ord') :: rest0) → DOf prog w ord' kvs' → Rep kvs' (ext1 R ts) → kvs'.length ≤ kvs.length + ts.length → (∀ z : Str, z ≠ "place" → z ≠ "due" → m' z = m z) → Q' .next { s with heap := h', toks := tk' }) →
      ItemsRest prog w (lwA dp un gd L a c1 c2 c3 c4 c5) E h₀ (lwE L a c1 c2 c3 c4 c5) lp1T lp1B Q' s [(I, "list_iterator")] [(le, lo)] (ts.map fun q => .val (.ref q.1)) m ((rd, ord) :: rest0) := by
  intro ts
  induction ts with
  | nil =>
    intro R kvs ord m _ _ _ hd hr _ ret
    exact ItemsRest.zero fun h tk F N => ret h tk ord kvs m F N hd hr (by simp) fun _ _ _ => rfl
  | cons q ts ih =>
    intro R kvs ord m ht hn hq hd hr hl5 ret
    obtain ⟨qa, qk, qe⟩ := q
    obtain ⟨t1, t2, hm⟩ := ht _ (.head _)
    obtain ⟨hR, hH⟩ := hq _ (.head _)
    have hq9 : ∀ q ∈ ts, R q.2.1 = none ∧ q.2.2 = H := fun q h => hq q (.tail _ h)
    clear hq
    dsimp only at hR hH hm
    subst hH
    have hv := (hr _).1 hR
    rw [List.map_cons, List.nodup_cons] at hn
    rw [List.length_cons] at hl5
    refine ItemsRest.val fun h tk F => AllObj.cons fun oI hI => AllObj.nil fun N => ?_
    k_steps
    · rename_i hne
      exact absurd rfl hne
    · with_reducible rename News _ _ _ _ => N9
      with_reducible rename Fr _ _ _ _ => F9
      rename DOf _ _ _ (stored _ _ _) => D9
      exact unrEnd F9 N9 (List.forall_mem_cons.mpr ⟨.head _, fun _ h => nomatch h⟩) (news' := _ :: rest0) (fun p hp => .tail _ hp) (List.forall_mem_cons.mpr ⟨List.forall_mem_cons.mpr ⟨Nat.ne_of_lt lI, fun _ h => nomatch h⟩, fun p hp => List.forall_mem_cons.mpr ⟨nI0 p hp, fun _ h => nomatch h⟩⟩)
        ⟨⟨.tail _ kl, trivial⟩, ih _ _ _ _ (fun q hq => ht q (.tail _ hq)) hn.2 (fun q hq => ⟨by
          simp only [ceOn]; rw [if_neg fun e => hn.1 (List.mem_map.mpr ⟨q, hq, e⟩)]; exact (hq9 q hq).1, (hq9 q hq).2⟩) D9 (hr.stored _ _ _) (by have := stored_len_new (v := .int qe t2) hv; omega) fun h' tk' ord' kvs' m' F' N' d' r' l' hm' => ret h' tk' ord' kvs' m' F' N' d' r' (by have := stored_len_new (v := .int qe t2) hv; rw [List.length_cons]; omega) (fun z z1 z2 => by rw [hm' z z1 z2]; simp only [if_neg z1, if_neg z2])⟩

end
section
local macro_rules | `(tactic| walk_at "pad") => `(tactic| fail)
local macro_rules | `(tactic| walk_at "call ref") => `(tactic| (k_here; (first | (with_reducible show wpAny _ _ (call (Value.ref 974) _) _ _ _) | (with_reducible show wpAny _ _ (call (Value.ref 1177) _) _ _ _) | (with_reducible show wpAny _ _ (call (Value.ref 950) _) _ _ _) | (with_reducible show wpAny _ _ (call (Value.ref 1206) _) _ _ _)); refine stop_here ?_))
local macro_rules | `(tactic| walk_at "subscriptTail") => `(tactic| (k_here; (with_reducible show wpAny _ _ (subscriptTail _ _ (Value.ref _) (Value.int _ _)) _ _ _); k_dflt (refine' l_at ?N ?m ?a ?v ?z ?_; (case N => k_asm); (case m => k_mem); (case v => k_asm); (case a => first | assumption | omega); (case z => omega); k_whole)))
set_option maxHeartbeats 4000000 in
theorem lp2_body {c1 c2 c3 c4 rd kn ld rp : Addr} {c dc tm dt da di clk cc hc hl ttu tc : Addr} {M H pl e x : Int} {t1 t2 t3 tl9 : Tok} {nL nR : Nat} {Q' : Flow → Shared → Prop} {o2 o3 o4 ord okn it1 it2 : Obj} {I1 I2 : Addr} {rest own : List (Addr × Obj)} {len : Int → Int → Int} {R Kf : Int → Option Int} {kvsR kvs : List (Int × Value)} {itL itR : Array Value} {xz : Nat}
    (B : Below A₀ base [] h₀) (X : (K w.params).In h₀) (XB : (K w.params).In base) (TB : Top p loose mean mg mb base) (T : Top p loose mean mg mb h₀) (hd : dp + 50 < recursionLimit) (hu : un + 150 < cLine) (O : Ords c dc tm dt da di clk cc hc hl ttu tc)
    (k2 : (c2, o2) ∈ own) (k2' : IsCell o2 (.ref c)) (k3 : (c3, o3) ∈ own) (k3' : IsCell o3 (.ref kn)) (k4 : (c4, o4) ∈ own) (k4' : IsCell o4 (.ref rd))
    (kl : (ld, listOf itL nL) ∈ own) (kr : (rp, listOf itR nR) ∈ own) (hL : itL[pl.toNat]? = some (.ref rp)) (hR : itR[x.toNat]? = some (.int (len pl x) tl9)) (hp0 : 0 ≤ pl) (hp5 : pl < 5) (hx0 : 0 ≤ x) (hxM : x < M) (hM5 : M ≤ 5)
    (hl0 : 0 ≤ len pl x) (hl3 : len pl x ≤ 3) (he : e = H) (hH : H ≤ 20) (hH0 : 0 ≤ H) (lrd : (rd == sysModules) = false) (lkn : (kn == sysModules) = false)
    (F : Fr h₀ L s.heap m) (N : News h₀ L s.heap ([(I2, it2), (I1, it1), (rd, ord), (kn, okn)] ++ rest)) (Ap : Apart [(I2, it2), (I1, it1), (rd, ord), (kn, okn)] rest) (Ni : NotIt own) (hxz : xz + 1 ≤ 800)
    (C : CalL prog w h₀ c dc tm dt da di clk cc hc hl ttu tc M H (ceR R Kf) False xz own rest) (q1 : it1.cls ≠ .ref 1140 ∧ it1 ≠ dictOf [] 0) (q2 : it2.cls ≠ .ref 1140 ∧ it2 ≠ dictOf [] 0) (nI : @Ne Nat I2 kn) (nI' : @Ne Nat I1 kn) (nrk : @Ne Nat rd kn) 
    (d1 : DOf prog w ord kvsR) (r1 : Rep kvsR R) (ne1 : kvsR ≠ []) (d2 : DOf prog w okn kvs) (r2 : Rep kvs Kf) (ne2 : kvs ≠ []) (sup : ∀ k, (Kf k).isSome = true → 0 ≤ k ∧ k < M) (hlive : ∀ k u, ceR R Kf k = some u → H < u)
    (mp : m "place" = some (.int pl t1)) (me : m "due" = some (.int e t2)) (ml : m "lengths" = some (.ref ld)) (mo : m "other" = some (.int x t3))
    (ret : ∀ h' tk' okn' kvs' m' rest', Fr h₀ L h' m' → News h₀ L h' ([(I2, it2), (I1, it1), (rd, ord), (kn, okn')] ++ rest') → Apart [(I2, it2), (I1, it1), (rd, ord), (kn, okn')] rest' → CalL prog w h₀ c dc tm dt da di clk cc hc hl ttu tc M H (ceR R (lay len R pl e x Kf)) False (xz + 1) own rest' →
      DOf prog w okn' kvs' → Rep kvs' (lay len R pl e x Kf) → kvs' ≠ [] → (∀ z : Str, z ≠ "length" → m' z = m z) → Q' .next { s with heap := h', toks := tk' }) :
    wpAny (model prog w) (lwA dp un gd L a c1 c2 c3 c4 hc) (execs lp2BB (lwE L a c1 c2 c3 c4 hc)) Q' E s := by
  subst he
  have hd40 : dp + 40 < recursionLimit := by omega
  have hu120 : un + 120 < cLine := by omega
  have S : NotIt [(I2, it2), (I1, it1), (rd, ord), (kn, okn)] := by
    refine List.forall_mem_cons.mpr ⟨fun h => absurd h q2.1, List.forall_mem_cons.mpr ⟨fun h => absurd h q1.1, List.forall_mem_cons.mpr ⟨?_, List.forall_mem_cons.mpr ⟨?_, fun _ h => nomatch h⟩⟩⟩⟩
    · intro h; rw [dof_cls d1] at h; cases h
    · intro h; rw [dof_cls d2] at h; cases h
  have S2 : ∀ q ∈ [(I2, it2), (I1, it1), (rd, ord), (kn, okn)], q.2 ≠ dictOf [] 0 :=
    List.forall_mem_cons.mpr ⟨q2.2, List.forall_mem_cons.mpr ⟨q1.2, List.forall_mem_cons.mpr ⟨dof_ne d1 ne1, List.forall_mem_cons.mpr ⟨dof_ne d2 ne2, fun _ h => nomatch h⟩⟩⟩⟩
  have hkl := rep_len d2 r2 sup hM5
  have oi := C.ownIn
  have k2r := oi _ k2
  have k3r := oi _ k3
  have k4r := oi _ k4
  have klr := oi _ kl
  have krr := oi _ kr
  obtain ⟨i1, od, cur, mx, s1, s2, s3, s4, s5, s6, s7, i2⟩ := C.inst
  have same : ∀ (Kg : Int → Option Int), Kg = Kf → lay len R pl e x Kf = Kf → ∀ h' tk' m', Fr h₀ L h' m' → News h₀ L h' ([(I2, it2), (I1, it1), (rd, ord), (kn, okn)] ++ rest) → (∀ z : Str, z ≠ "length" → m' z = m z) → Q' .next { s with heap := h', toks := tk' } := fun _ _ hs h' tk' m' F' N' hm' =>
    ret h' tk' okn kvs m' rest F' N' Ap (by rw [hs]; exact C.weak (Nat.le_succ _) id) d2 (by rw [hs]; exact r2) ne2 hm'
  change News h₀ L s.heap ((I2, it2) :: (I1, it1) :: (rd, ord) :: (kn, okn) :: rest) at N
  by_cases hlen : 0 < len pl x
  · cases hRx : R x with
    | some v =>
      obtain ⟨tv, hv⟩ := (r1 x).2 v hRx
      k_steps
      with_reducible rename News _ _ _ _ => N9
      with_reducible rename Fr _ _ _ _ => F9
      exact same _ rfl (by unfold lay; rw [if_neg]; rintro ⟨_, h, _⟩; rw [hRx] at h; cases h) _ _ _ F9 N9 (fun z z1 => if_neg z1)
    | none =>
      have hv := (r1 x).1 hRx
      have hce : ceR R Kf x = Kf x := by simp only [ceR, hRx]; rfl
      cases hKx : Kf x with
      | none =>
        k_steps
        refine Stop.go ?_
        with_reducible rename News _ _ _ _ => N9
        with_reducible rename Fr _ _ _ _ => F9
        refine law_get_no (mu := [(I2, it2), (I1, it1), (rd, ord), (kn, okn)]) B F9 X T hd40 hu120 O N9 Ap S Ni C hM5 (by omega) XB TB S2 (by rw [hce]; exact hKx) ?_
        intro h5 tk5 rest5 F5 N5 Ap5 C5
        clear i1 i2 N9 F9
        have oi5 := C5.ownIn
        have k2r5 := oi5 _ k2
        have k3r5 := oi5 _ k3
        obtain ⟨i1, od5, cur5, mx5, s11, s12, s13, s14, s15, s16, s17, i2⟩ := C5.inst
        change News h₀ L h5 ((I2, it2) :: (I1, it1) :: (rd, ord) :: (kn, okn) :: rest5) at N5
        have hn3 : ∀ p ∈ rest5, p.1 ≠ kn := Ap5 (kn, okn) (by simp)
        k_steps
        refine Stop.go ?_
        with_reducible rename News _ _ _ _ => N9
        with_reducible rename Fr _ _ _ _ => F9
        refine law_set (mu := [(I2, it2), (I1, it1), (rd, ord), (kn, okn)]) B F9 X T hd40 hu120 O N9 Ap5 S Ni C5 hM5 (by omega) S2 hlive (by omega) hx0 hxM ?_
        intro h6 tk6 rest6 F6 N6 Ap6 C6
        clear i1 i2 N9 F9
        have oi6 := C6.ownIn
        have k3r6 := oi6 _ k3
        change News h₀ L h6 ((I2, it2) :: (I1, it1) :: (rd, ord) :: (kn, okn) :: rest6) at N6
        have hn6 : ∀ p ∈ rest6, p.1 ≠ kn := Ap6 (kn, okn) (by simp)
        k_steps
        with_reducible rename News _ _ _ _ => N9
        with_reducible rename Fr _ _ _ _ => F9
        rename DOf _ _ _ (stored _ _ _) => D9
        have el : lay len R pl e x Kf = ceOn Kf x (e + len pl x) := if_pos ⟨hlen, hRx, by rw [hKx]; show e + len pl x < 99; omega⟩
        refine ret _ _ _ _ _ rest6 F9 N9 ?_ (C6.congr fun j => by rw [ceR_on hRx, el]) D9 (by rw [el]; exact r2.stored _ _ _) stored_ne (fun z z1 => if_neg z1)
        · intro q hq p hp
          rcases List.mem_cons.mp hq with rfl | hq
          · exact Ap6 _ (.head _) p hp
          rcases List.mem_cons.mp hq with rfl | hq
          · exact Ap6 _ (.tail _ (.head _)) p hp
          rcases List.mem_cons.mp hq with rfl | hq
          · exact Ap6 _ (.tail _ (.tail _ (.head _))) p hp
          rcases List.mem_cons.mp hq with rfl | hq
          · exact hn6 p hp
          · cases hq
      | some u =>
        have hHu := hlive x u (by rw [hce]; exact hKx)
        k_steps
        refine Stop.go ?_
        with_reducible rename News _ _ _ _ => N9
        with_reducible rename Fr _ _ _ _ => F9
        refine law_get (mu := [(I2, it2), (I1, it1), (rd, ord), (kn, okn)]) B F9 X T hd40 hu120 O N9 Ap S Ni C hM5 (by omega) S2 (by rw [hce]; exact hKx) hHu ?_
        intro h5 tk5 rest5 te5 F5 N5 Ap5 C5
        clear i1 i2 N9 F9
        have oi5 := C5.ownIn
        have k2r5 := oi5 _ k2
        have k3r5 := oi5 _ k3
        obtain ⟨i1, od5, cur5, mx5, s11, s12, s13, s14, s15, s16, s17, i2⟩ := C5.inst
        change News h₀ L h5 ((I2, it2) :: (I1, it1) :: (rd, ord) :: (kn, okn) :: rest5) at N5
        have hn3 : ∀ p ∈ rest5, p.1 ≠ kn := Ap5 (kn, okn) (by simp)
        by_cases hlt : e + len pl x < u
        · k_steps
          refine Stop.go ?_
          with_reducible rename News _ _ _ _ => N9
          with_reducible rename Fr _ _ _ _ => F9
          refine law_set (mu := [(I2, it2), (I1, it1), (rd, ord), (kn, okn)]) B F9 X T hd40 hu120 O N9 Ap5 S Ni C5 hM5 (by omega) S2 hlive (by omega) hx0 hxM ?_
          intro h6 tk6 rest6 F6 N6 Ap6 C6
          clear i1 i2 N9 F9
          have oi6 := C6.ownIn
          have k3r6 := oi6 _ k3
          change News h₀ L h6 ((I2, it2) :: (I1, it1) :: (rd, ord) :: (kn, okn) :: rest6) at N6
          have hn6 : ∀ p ∈ rest6, p.1 ≠ kn := Ap6 (kn, okn) (by simp)
          k_steps
          with_reducible rename News _ _ _ _ => N9
          with_reducible rename Fr _ _ _ _ => F9
          rename DOf _ _ _ (stored _ _ _) => D9
          have el : lay len R pl e x Kf = ceOn Kf x (e + len pl x) := if_pos ⟨hlen, hRx, by rw [hKx]; exact hlt⟩
          refine ret _ _ _ _ _ rest6 F9 N9 ?_ (C6.congr fun j => by rw [ceR_on hRx, el]) D9 (by rw [el]; exact r2.stored _ _ _) stored_ne (fun z z1 => if_neg z1)
          · intro q hq p hp
            rcases List.mem_cons.mp hq with rfl | hq
            · exact Ap6 _ (.head _) p hp
            rcases List.mem_cons.mp hq with rfl | hq
            · exact Ap6 _ (.tail _ (.head _)) p hp
            rcases List.mem_cons.mp hq with rfl | hq
            · exact Ap6 _ (.tail _ (.tail _ (.head _))) p hp
            rcases List.mem_cons.mp hq with rfl | hq
            · exact hn6 p hp
            · cases hq
        · k_steps
          with_reducible rename News _ _ _ _ => N9
          with_reducible rename Fr _ _ _ _ => F9
          have el : lay len R pl e x Kf = Kf := if_neg (by rintro ⟨_, _, h⟩; rw [hKx] at h; exact hlt h)
          exact ret _ _ okn kvs _ rest5 F9 N9 Ap5 (by rw [el]; exact C5.weak (Nat.le_succ _) id) d2 (by rw [el]; exact r2) ne2 (fun z z1 => if_neg z1)
  · k_steps
    with_reducible rename News _ _ _ _ => N9
    with_reducible rename Fr _ _ _ _ => F9
    exact same _ rfl (by unfold lay; rw [if_neg]; rintro ⟨h, _⟩; exact hlen h) _ _ _ F9 N9 (fun z z1 => if_neg z1)

end
section
local macro_rules | `(tactic| walk_at "pad") => `(tactic| fail)
local macro_rules | `(tactic| walk_at "pad") => `(tactic| fail)
local macro_rules | `(tactic| walk_at "pad") => `(tactic| fail)
local macro_rules | `(tactic| walk_at "pyIter ref") => `(tactic| (k_here; refine stop_here ?_))
theorem small5 {n : Nat} (h : n ≤ 5) : Builtin.Range.small 0 n 1 = true ∧ Builtin.Range.rangeSize 0 n 1 = (n : Int) := by
  have : n = 0 ∨ n = 1 ∨ n = 2 ∨ n = 3 ∨ n = 4 ∨ n = 5 := by omega
  rcases this with rfl | rfl | rfl | rfl | rfl | rfl <;> exact ⟨by decide, by decide⟩
set_option maxHeartbeats 4000000 in
theorem lw_range {c1 c2 c3 c4 c5 : Addr} {o1 : Obj} {ts : Tok} {x : Str} {px pos p2 p3 p4 : Pos} {body : List Stmt} {n : Nat} {Q' : Flow → Shared → Prop} (hn : n ≤ 5) (X : (K w.params).In h₀) (T : Top p loose mean mg mb h₀) (F : Fr h₀ L s.heap m) (N : News h₀ L s.heap news)
    (k1 : (c1, o1) ∈ news) (k1' : IsCell o1 (.int n ts)) (hx : (lwE L a c1 c2 c3 c4 c5).kindOf x = some .local)
    (hE : PassesOwn (model prog w) (lwA dp un gd L a c1 c2 c3 c4 c5) (lwE L a c1 c2 c3 c4 c5) E)
    (rest₀ : ∀ (h₁ : Heap) (tk₁ : Nat) (I : Addr), (∀ p ∈ news, p.1 < I) → KrsRest prog w (lwA dp un gd L a c1 c2 c3 c4 c5) E h₀ (lwE L a c1 c2 c3 c4 c5) x body Q' { s with heap := h₁, toks := tk₁ } I 0 1 n n 0 m news) :
    wpAny (model prog w) (lwA dp un gd L a c1 c2 c3 c4 c5) (exec (.For (.Name x px) (.Call (.Name "range" p2) [.Name "size" p3] [] p4) body [] pos) (lwE L a c1 c2 c3 c4 c5)) Q' E s := by
  refine For_invV h₀ hx rfl ?_ (by intro _; rfl) hE
  k_steps
  refine Stop.go ?_
  with_reducible rename News _ _ _ _ => N9
  with_reducible rename Fr _ _ _ _ => F9
  exact krs_iter (n := n) rfl (by assumption) (small5 hn).1 (small5 hn).2 F9 N9 fun I hI => rest₀ _ _ I hI

end
section

theorem lay_live {len : Int → Int → Int} {R Kf : Int → Option Int} {p e x H : Int} (he : e = H) (h : ∀ k u, ceR R Kf k = some u → H < u) : ∀ k u, ceR R (lay len R p e x Kf) k = some u → H < u := fun k u hu => by
  unfold lay at hu
  split at hu
  · rename_i c
    simp only [ceR, ceOn] at hu
    split at hu
    · cases hu
    · rename_i hr
      split at hu
      · have := Option.some.inj hu; omega
      · exact h k u (by simp only [ceR, if_neg hr]; exact hu)
  · exact h k u hu
theorem lay_sup {len : Int → Int → Int} {R Kf : Int → Option Int} {p e x M : Int} (hx0 : 0 ≤ x) (hxM : x < M) (h : ∀ k, (Kf k).isSome = true → 0 ≤ k ∧ k < M) : ∀ k, (lay len R p e x Kf k).isSome = true → 0 ≤ k ∧ k < M := fun k hk => by
  unfold lay at hk
  split at hk
  · simp only [ceOn] at hk
    split at hk
    · rename_i e; rw [e]; exact ⟨hx0, hxM⟩
    · exact h k hk
  · exact h k hk
/-- all ways from a place, over the others j, j+1, .. (k of them) -/
def layAll (len : Int → Int → Int) (R : Int → Option Int) (p e : Int) : Nat → Nat → (Int → Option Int) → (Int → Option Int)
  | 0, _, Kf => Kf
  | k + 1, j, Kf => layAll len R p e k (j + 1) (lay len R p e j Kf)
theorem apart_tl {q : Addr × Obj} {mu rest : List (Addr × Obj)} (h : Apart (q :: mu) rest) : Apart mu rest := fun p hp => h p (.tail _ hp)
set_option maxHeartbeats 4000000 in
theorem lp2_inner {c1 c2 c3 c4 rd kn ld rp : Addr} {c dc tm dt da di clk cc hc hl ttu tc : Addr} {M H pl e : Int} {t1 t2 ts : Tok} {nL nR : Nat} {Q' : Flow → Shared → Prop} {o1 o2 o3 o4 ord it1 : Obj} {I1 : Addr} {own : List (Addr × Obj)} {len : Int → Int → Int} {R : Int → Option Int} {kvsR : List (Int × Value)} {itL itR : Array Value} {n : Nat}
    (B : Below A₀ base [] h₀) (X : (K w.params).In h₀) (XB : (K w.params).In base) (TB : Top p loose mean mg mb base) (T : Top p loose mean mg mb h₀) (hd : dp + 50 < recursionLimit) (hu : un + 150 < cLine) (O : Ords c dc tm dt da di clk cc hc hl ttu tc)
    (k2 : (c2, o2) ∈ own) (k2' : IsCell o2 (.ref c)) (k3 : (c3, o3) ∈ own) (k3' : IsCell o3 (.ref kn)) (k4 : (c4, o4) ∈ own) (k4' : IsCell o4 (.ref rd))
    (kl : (ld, listOf itL nL) ∈ own) (kr : (rp, listOf itR nR) ∈ own) (hL : itL[pl.toNat]? = some (.ref rp)) (hR : ∀ j : Nat, j < n → ∃ t, itR[j]? = some (.int (len pl j) t)) (hp0 : 0 ≤ pl) (hp5 : pl < 5) (hMn : M = n) (hM5 : M ≤ 5)
    (hlen : ∀ i j, 0 ≤ len i j ∧ len i j ≤ 3) (he : e = H) (hH : H ≤ 20) (hH0 : 0 ≤ H) (lrd : (rd == sysModules) = false) (lkn : (kn == sysModules) = false)
    (Ni : NotIt own) (q1 : it1.cls ≠ .ref 1140 ∧ it1 ≠ dictOf [] 0) (nI' : @Ne Nat I1 kn) (nrk : @Ne Nat rd kn) (I2 : Addr) (nI : @Ne Nat I2 kn) (nI2 : @Ne Nat I1 I2) (nI3 : @Ne Nat rd I2)
    (d1 : DOf prog w ord kvsR) (r1 : Rep kvsR R) (ne1 : kvsR ≠ []) :
    ∀ (k i : Nat) (Kf : Int → Option Int) (kvs : List (Int × Value)) (okn : Obj) (m : Str → Option Value) (rest : List (Addr × Obj)) (xz : Nat), i + k = n → DOf prog w okn kvs → Rep kvs Kf → kvs ≠ [] → (∀ k, (Kf k).isSome = true → 0 ≤ k ∧ k < M) → (∀ k u, ceR R Kf k = some u → H < u) →
      CalL prog w h₀ c dc tm dt da di clk cc hc hl ttu tc M H (ceR R Kf) False xz own rest → xz + k ≤ 800 → Apart [(I1, it1), (rd, ord), (kn, okn)] rest → (∀ q ∈ rest, q.1 ≠ I2) →
      m "place" = some (.int pl t1) → m "due" = some (.int e t2) → m "lengths" = some (.ref ld) →
      (∀ h' tk' okn' kvs' m' rest', Fr h₀ L h' m' → News h₀ L h' ([(I1, it1), (rd, ord), (kn, okn')] ++ rest') → Apart [(I1, it1), (rd, ord), (kn, okn')] rest' → CalL prog w h₀ c dc tm dt da di clk cc hc hl ttu tc M H (ceR R (layAll len R pl e k i Kf)) False (xz + k) own rest' →
        DOf prog w okn' kvs' → Rep kvs' (layAll len R pl e k i Kf) → kvs' ≠ [] → (∀ k', (layAll len R pl e k i Kf k').isSome = true → 0 ≤ k' ∧ k' < M) → (∀ k' u, ceR R (layAll len R pl e k i Kf) k' = some u → H < u) → (∀ z : Str, z ≠ "length" → z ≠ "other" → m' z = m z) → Q' .next { s with heap := h', toks := tk' }) →
      KrsRest prog w (lwA dp un gd L a c1 c2 c3 c4 hc) E h₀ (lwE L a c1 c2 c3 c4 hc) "other" lp2BB Q' s I2 0 1 n k i m ([(I1, it1), (rd, ord), (kn, okn)] ++ rest) := by
  intro k
  induction k with
  | zero =>
    intro i Kf kvs okn m rest xz hi d2 r2 ne2 sup live C hxz Ap apI mp me ml ret
    exact KrsRest.zero fun h tk F N => ret h tk okn kvs m rest F N Ap C d2 r2 ne2 sup live fun _ _ _ => rfl
  | succ k ih =>
    intro i Kf kvs okn m rest xz hi d2 r2 ne2 sup live C hxz Ap apI mp me ml ret
    refine KrsRest.succ (v := (i : Int)) (by omega) fun t h tk F N => ?_
    obtain ⟨tl9, hRi⟩ := hR i (by omega)
    have xi0 : (0 : Int) ≤ i := by omega
    have xiM : (i : Int) < M := by omega
    refine lp2_body (t1 := t1) (t2 := t2) (x := (i : Int)) (it2 := krsIt (0 + ((i + 1 : Nat) : Int) * 1) ((n : Int) - ((i + 1 : Nat) : Int)) 1) (t3 := t) (tl9 := tl9) (I2 := I2) (it1 := it1) (I1 := I1) B X XB TB T hd hu O k2 k2' k3 k3' k4 k4' kl kr hL (by simpa using hRi) hp0 hp5 xi0 xiM hM5 (hlen _ _).1 (hlen _ _).2 he hH hH0 lrd lkn F N (List.forall_mem_cons.mpr ⟨fun p hp => apI p hp, Ap⟩) Ni (by omega) C q1 ⟨(fun h => by cases h), (fun h => absurd (Value.type.inj (congrArg Obj.cls h)) (by decide))⟩ nI nI' nrk d1 r1 ne1 d2 r2 ne2 sup live ?_ ?_ ?_ ?_ ?_
    · exact (if_neg (by decide)).trans mp
    · exact (if_neg (by decide)).trans me
    · exact (if_neg (by decide)).trans ml
    · exact if_pos rfl
    · intro h' tk' okn' kvs' m' rest' F' N' Ap' C' d' r' ne' hm'
      have hsup := lay_sup (len := len) (R := R) (p := pl) (e := e) xi0 xiM sup
      have hlive := lay_live (len := len) (p := pl) (x := (i : Int)) he live
      refine UnrEnd.intro F' N' ([(I1, it1), (rd, ord), (kn, okn')] ++ rest') (fun p hp => hp) ?_ (ih (i + 1) (lay len R pl e i Kf) kvs' okn' m' rest' (xz + 1) (by omega) d' r' ne' hsup hlive C' (by omega) (apart_tl Ap') (Ap' (I2, _) (.head _)) ?_ ?_ ?_ ?_)
      · intro p hp
        simp only [List.cons_append, List.nil_append, List.mem_cons] at hp
        rcases hp with rfl | rfl | rfl | hp
        · exact nI2
        · exact nI3
        · exact Ne.symm nI
        · exact Ap' (I2, _) (.head _) p hp
      · rw [hm' _ (by decide)]; exact (if_neg (by decide)).trans mp
      · rw [hm' _ (by decide)]; exact (if_neg (by decide)).trans me
      · rw [hm' _ (by decide)]; exact (if_neg (by decide)).trans ml
      · intro h'' tk'' okn'' kvs'' m'' rest'' F'' N'' Ap'' C'' d'' r'' ne'' sup'' live'' hm''
        exact ret h'' tk'' okn'' kvs'' m'' rest'' F'' N'' Ap'' (C''.weak (by omega) id) d'' r'' ne'' sup'' live'' fun z z1 z2 => by rw [hm'' z z1 z2, hm' z z1]; exact if_neg z2

end
section
local macro_rules | `(tactic| walk_at "exec For Name Call cons nil") => `(tactic| (k_here; refine stop_here ?_))
def LenIn (ld : Addr) (len : Int → Int → Int) (n : Nat) (own : List (Addr × Obj)) : Prop := ∃ itL nL, (ld, listOf itL nL) ∈ own ∧ ∀ p : Nat, p < n → ∃ rp itR nR, itL[p]? = some (.ref rp) ∧ (rp, listOf itR nR) ∈ own ∧ ∀ j : Nat, j < n → ∃ t, itR[j]? = some (.int (len p j) t)
/-- all ways from all told places -/
def layTold (len : Int → Int → Int) (R : Int → Option Int) (n : Nat) : List (Addr × (Int × Int)) → (Int → Option Int) → (Int → Option Int)
  | [], Kf => Kf
  | q :: r, Kf => layTold len R n r (layAll len R q.2.1 q.2.2 n 0 Kf)
set_option maxHeartbeats 4000000 in
theorem lp2_rest {c1 c2 c3 c4 rd kn ld le I1 : Addr} {c dc tm dt da di clk cc hc hl ttu tc : Addr} {M H : Int} {ts1 : Tok} {Q' : Flow → Shared → Prop} {o1 o2 o3 o4 ord lo : Obj} {own : List (Addr × Obj)} {len : Int → Int → Int} {R : Int → Option Int} {kvsR : List (Int × Value)} {n : Nat}
    (B : Below A₀ base [] h₀) (X : (K w.params).In h₀) (XB : (K w.params).In base) (TB : Top p loose mean mg mb base) (T : Top p loose mean mg mb h₀) (hd : dp + 50 < recursionLimit) (hu : un + 150 < cLine) (O : Ords c dc tm dt da di clk cc hc hl ttu tc)
    (k1 : (c1, o1) ∈ own) (k1' : IsCell o1 (.int n ts1)) (k2 : (c2, o2) ∈ own) (k2' : IsCell o2 (.ref c)) (k3 : (c3, o3) ∈ own) (k3' : IsCell o3 (.ref kn)) (k4 : (c4, o4) ∈ own) (k4' : IsCell o4 (.ref rd))
    (hL : LenIn ld len n own) (hMn : M = n) (hM5 : M ≤ 5)
    (hlen : ∀ i j, 0 ≤ len i j ∧ len i j ≤ 3) (hH : H ≤ 20) (hH0 : 0 ≤ H) (lrd : (rd == sysModules) = false) (lkn : (kn == sysModules) = false)
    (Ni : NotIt own) (nrk : @Ne Nat rd kn) (lI1 : @LT.lt Nat instLTNat rd I1) (lI2 : @LT.lt Nat instLTNat kn I1) (kle : (le, lo) ∈ own)
    (d1 : DOf prog w ord kvsR) (r1 : Rep kvsR R) (ne1 : kvsR ≠ []) (hE : PassesOwn (model prog w) (lwA dp un gd L a c1 c2 c3 c4 hc) (lwE L a c1 c2 c3 c4 hc) E) :
    ∀ (ts : List (Addr × (Int × Int))) (Kf : Int → Option Int) (kvs : List (Int × Value)) (okn : Obj) (m : Str → Option Value) (rest : List (Addr × Obj)) (xz : Nat), TupsIn ts own → (∀ q ∈ ts, 0 ≤ q.2.1 ∧ q.2.1 < M ∧ q.2.2 = H) → DOf prog w okn kvs → Rep kvs Kf → kvs ≠ [] → (∀ k, (Kf k).isSome = true → 0 ≤ k ∧ k < M) → (∀ k u, ceR R Kf k = some u → H < u) →
      CalL prog w h₀ c dc tm dt da di clk cc hc hl ttu tc M H (ceR R Kf) False xz own rest → xz + 5 * ts.length ≤ 800 → Apart [(rd, ord), (kn, okn)] rest → (∀ q ∈ rest, q.1 ≠ I1) → m "lengths" = some (.ref ld) →
      (∀ h' tk' okn' kvs' m' rest', Fr h₀ L h' m' → News h₀ L h' ([(rd, ord), (kn, okn')] ++ rest') → Apart [(rd, ord), (kn, okn')] rest' → CalL prog w h₀ c dc tm dt da di clk cc hc hl ttu tc M H (ceR R (layTold len R n ts Kf)) False (xz + 5 * ts.length) own rest' →
        DOf prog w okn' kvs' → Rep kvs' (layTold len R n ts Kf) → kvs' ≠ [] → (∀ k', (layTold len R n ts Kf k').isSome = true → 0 ≤ k' ∧ k' < M) → (∀ k' u, ceR R (layTold len R n ts Kf) k' = some u → H < u) → (∀ z : Str, z ≠ "length" → z ≠ "other" → z ≠ "place" → z ≠ "due" → m' z = m z) → Q' .next { s with heap := h', toks := tk' }) →
      ItemsRest prog w (lwA dp un gd L a c1 c2 c3 c4 hc) E h₀ (lwE L a c1 c2 c3 c4 hc) lp2T lp2B Q' s [(I1, "list_iterator")] [(le, lo)] (ts.map fun q => .val (.ref q.1)) m ([(rd, ord), (kn, okn)] ++ rest) := by
  intro ts
  induction ts with
  | nil =>
    intro Kf kvs okn m rest xz _ _ d2 r2 ne2 sup live C hxz Ap apI ml ret
    exact ItemsRest.zero fun h tk F N => ret h tk okn kvs m rest F N Ap C d2 r2 ne2 sup live fun _ _ _ _ _ => rfl
  | cons q ts ih =>
    intro Kf kvs okn m rest xz ht hq d2 r2 ne2 sup live C hxz Ap apI ml ret
    obtain ⟨qa, qk, qe⟩ := q
    obtain ⟨t1, t2, hm0⟩ := ht _ (.head _)
    obtain ⟨hq0, hqM, hqe⟩ := hq _ (.head _)
    have hq9 : ∀ q ∈ ts, 0 ≤ q.2.1 ∧ q.2.1 < M ∧ q.2.2 = H := fun q h => hq q (.tail _ h)
    dsimp only at hq0 hqM hqe hm0
    have oi := C.ownIn
    have hm := oi _ hm0
    have k1r := oi _ k1
    rw [List.length_cons] at hxz
    refine ItemsRest.val fun h tk F => AllObj.cons fun oI hI => AllObj.nil fun N => ?_
    change News h₀ L h ((I1, oI) :: (rd, ord) :: (kn, okn) :: rest) at N
    k_steps
    refine Stop.go ?_
    with_reducible rename News _ _ _ _ => N9
    with_reducible rename Fr _ _ _ _ => F9
    have N10 : News h₀ L _ ((I1, oI) :: (rd, ord) :: (kn, okn) :: rest) := N9
    obtain ⟨itL, nL, kl, hrow⟩ := hL
    obtain ⟨rp, itR, nR, hLp, kr, hR⟩ := hrow qk.toNat (by omega)
    have hcI : oI.cls ≠ .ref 1140 ∧ oI ≠ dictOf [] 0 := ⟨by rw [show oI.cls = .type "list_iterator" from hI]; intro h; (cases h), by intro h9; rw [h9] at hI; exact absurd (show ("dict" : String) = "list_iterator" from Value.type.inj hI) (by decide)⟩
    k_dflt (refine lw_range (n := n) (ts := ts1) (by omega) X T F9 N10 (.tail _ (.tail _ (.tail _ k1r))) k1' (by with_unfolding_all rfl) hE fun h₁ tk₁ I2 hI2 => ?_)
    have hap3 : Apart [(I1, oI), (rd, ord), (kn, okn)] rest := List.forall_mem_cons.mpr ⟨fun p hp => apI p hp, Ap⟩
    have e1 : (qk.toNat : Int) = qk := Int.toNat_of_nonneg hq0
    refine lp2_inner (o1 := o1) (ts := ts1) (t1 := t1) (t2 := t2) (n := n) (it1 := oI) (I1 := I1) (pl := qk) (e := qe) B X XB TB T hd hu O k2 k2' k3 k3' k4 k4' kl kr (by simpa using hLp) (fun j hj => by rw [← e1]; exact hR j hj) hq0 (by omega) hMn hM5 hlen hqe hH hH0 lrd lkn Ni hcI (Ne.symm (Nat.ne_of_lt lI2)) nrk I2 (Ne.symm (Nat.ne_of_lt (hI2 (kn, okn) (.tail _ (.tail _ (.head _)))))) (Nat.ne_of_lt (hI2 (I1, oI) (.head _))) (Nat.ne_of_lt (hI2 (rd, ord) (.tail _ (.head _)))) d1 r1 ne1 n 0 Kf kvs okn _ rest xz (by omega) d2 r2 ne2 sup live C (by omega) hap3 (fun q hq => Nat.ne_of_lt (hI2 q (.tail _ (.tail _ (.tail _ hq))))) ?_ ?_ ?_ ?_
    · first | exact rfl | (refine (if_neg (by decide)).trans ?_; exact rfl)
    · first | exact rfl | (refine (if_neg (by decide)).trans ?_; exact rfl)
    · first | exact ml | ((refine (if_neg (by decide)).trans ?_); first | exact ml | exact (if_neg (by decide)).trans ml)
    · intro h' tk' okn' kvs' m' rest' F' N' Ap' C' d' r' ne' sup' live' hm'
      show wpAny _ _ (execs [] _) _ _ _
      refine wpAny_execs_nil ?_
      refine unrEnd F' N' (List.forall_mem_cons.mpr ⟨.head _, fun _ h => nomatch h⟩) (news' := [(rd, ord), (kn, okn')] ++ rest') (fun p hp => .tail _ hp) ?_ ⟨⟨?_, trivial⟩, ih (layAll len R qk qe n 0 Kf) kvs' okn' m' rest' (xz + 5) (fun q hq => ht q (.tail _ hq)) (fun q hq => hq9 q hq) d' r' ne' sup' live' (C'.weak (by omega) id) (by omega) (apart_tl Ap') (Ap' (I1, oI) (.head _)) ?_ ?_⟩
      · intro p hp q hq
        rw [List.mem_singleton.mp hq]
        simp only [List.cons_append, List.nil_append, List.mem_cons] at hp
        rcases hp with rfl | rfl | hp
        · exact Nat.ne_of_lt lI1
        · exact Nat.ne_of_lt lI2
        · exact Ap' (I1, oI) (.head _) p hp
      · exact .tail _ (.tail _ (C'.ownIn _ kle))
      · rw [hm' _ (by decide) (by decide)]
        first | exact ml | ((refine (if_neg (by decide)).trans ?_); first | exact ml | exact (if_neg (by decide)).trans ml)
      · intro h'' tk'' okn'' kvs'' m'' rest'' F'' N'' Ap'' C'' d'' r'' ne'' sup'' live'' hm''
        exact ret h'' tk'' okn'' kvs'' m'' rest'' F'' N'' Ap'' (C''.weak (by rw [List.length_cons]; omega) id) d'' r'' ne'' sup'' live'' fun z z1 z2 z3 z4 => by rw [hm'' z z1 z2 z3 z4, hm' z z1 z2]; first | exact if_neg z3 | exact (if_neg z4).trans (if_neg z3) | exact (if_neg z3).trans (if_neg z4)

end
section
local macro_rules | `(tactic| walk_at "pad") => `(tactic| fail)
local macro_rules | `(tactic| walk_at "pad") => `(tactic| fail)
local macro_rules | `(tactic| walk_at "pad") => `(tactic| fail)
local macro_rules | `(tactic| walk_at "pad") => `(tactic| fail)
local macro_rules | `(tactic| walk_at "pad") => `(tactic| fail)
open LCt LCg in
theorem comp_dict {A : Around} {env : Env} {ct elt iter : Expr} {x y : Str} {px py : Pos} {scope : Scope} {cl' : List (Str × Addr)} {pos spos : Pos} {Q' : Flow → Shared → Prop} (hLe : env.locals = L)
    (hsw : swapsWith (.ListComp elt [⟨.Name x px, iter, [ct], 0⟩] scope pos) (some (.Name y py)) spos.line env = pure true)
    (hclos : closureFor scope env = pure cl') (hcell : ∀ z ∈ scope.names, z.2 ≠ .cell) (hkind : scope.kind = .function)
    (hnames : ∀ z ∈ scope.names, z.2 = .local → scope.names.lookup z.1 = some .local) (hx : scope.names.lookup x = some .local)
    (hy : env.kindOf y = some .local) (hp : (env.scope.kind == .class || (env.scope.kind == .module && env.locals != env.globals)) = false)
    (h : wpAny (model prog w) A (eval iter env) (fun xv s₁ => ∃ (d : Addr) (od : Obj) (kvs : List (Int × Value)) (nw : List (Addr × Obj)), xv = .ref d ∧ A.handled = none ∧ Fr h₀ L s₁.heap m ∧ News h₀ L s₁.heap nw ∧ (d, od) ∈ nw ∧ DOf prog w od kvs ∧ (d == sysModules) = false ∧ kvs.length ≤ sizeLine ∧
      ∀ s₂ : Shared, (∃ g, s₂ = { s₁ with heap := g }) → CompRestT prog w A h₀ L m env ct elt x scope cl' s₂ (fun nw => (d, od) ∈ nw) (fun i v => ∃ k u, kvs[i]? = some (k, u) ∧ (intKind prog w).is k v = true) (FinA h₀ L m s₂ y Q') kvs.length 0 [] nw) E s)
    (hs : ∀ x, foldedSetIterable iter env x = pure x := by intro _; rfl) :
    wpAny (model prog w) A (exec (.Assign [.Name y py] (.ListComp elt [⟨.Name x px, iter, [ct], 0⟩] scope pos) spos) env) Q' E s := by
  subst hLe
  rw [exec_Assign_Name_used _ _ _ _ hsw]
  refine wpAny_bind (wpAny_standAt (wpAny_bind ?_))
  show wpAny _ A (do let _ ← comprehension (.ListComp elt [⟨.Name x px, iter, [ct], 0⟩] scope pos) scope env _ (newList []) false (eval iter env) (some (assign (.Name y py) env))) _ _ s
  refine wpAny_bind (wpAny_mono (wpAny_comprehension_free (use := some (assign (.Name y py) env)) (Q := fun _ s' => Q' .next s') rfl hs hclos hkind hnames
    (wpAny_mono h (fun xv s₁ h₁ => ?_) fun _ _ e => e)) (fun _ s' hq => wpAny_pure (wpAny_pure hq)) fun _ _ e => e)
  obtain ⟨d, od, kvs, nw, rfl, hh, F, N, hm, hd, lo, hsz, R⟩ := h₁
  obtain ⟨ep, hat⟩ := (DOf.at_ N hm hd).dictAt
  have hod : ∀ g : Heap, g.get? d = some od → g.DictAt (intKind prog w) d kvs ep := fun g e => by
    obtain ⟨o, es, ho, r⟩ := hat
    have : o = od := Option.some.inj (ho.symm.trans (N _ hm).1)
    subst this
    exact ⟨o, es, e, r⟩
  have hne : d ≠ s₁.heap.objs.size := Nat.ne_of_lt hat.lt_size
  refine wpAny_pyIter_dict lo hat ?_
  have up : ∀ b o, s₁.heap.get? b = some o → (s₁.heap.push { cls := .type "dict_keyiterator", data := .fields #[.ref d, .int 0 0, .int kvs.length 0, .int ep 0] }).get? b = some o := fun b o e => Heap.get?_push_of_some _ e
  refine block_T (S := fun nw => (d, od) ∈ nw) (Walks.dictKeys (knd := intKind prog w) hh s₁.heap.objs.size d hne kvs ep) hsz (fun i h st => by obtain ⟨⟨o, e, _⟩, _⟩ := st; exact ⟨o, e⟩)
    (fun i h h' o nw' st e e' k N' hS => ⟨by obtain ⟨⟨o', q, r⟩, _⟩ := st; rw [e] at q; cases q; exact ⟨o, e', r⟩, hod _ (N' _ hS).1⟩) hcell hkind hx ⟨⟨_, Heap.get?_push_size _ rfl, rfl, rfl⟩, hat.push _⟩ (fun b hb => ?_)
    (F.keeps up) (N.grown up) (Nat.ne_of_lt F.ns.lt) (next_is_new F) (fun p hp => Nat.ne_of_lt (Heap.lt_size (N p hp).1)) hm (R _ ⟨_, rfl⟩) ?_
  · show b < (s₁.heap.push _).objs.size
    rw [Heap.size_push]
    rcases List.mem_cons.mp hb with rfl | hb
    · exact Nat.lt_succ_self _
    · rw [List.mem_singleton.mp hb]; exact Nat.lt_succ_of_lt hat.lt_size
  · intro D C h' tk m' ys news' F' N' o1 hn hC₀ hD₀ hCL hDL hCD offC fin
    show wpAny _ A (assign (.Name y py) env (.ref D)) _ _ _
    refine wpAny_assign_Name (wpAny_storeName_local hy F'.ns (fun h₂ hn₂ hs₂ => ?_) hp)
    have hL₀ : h₀.get? env.locals = none := Heap.get?_none_of_le F'.above
    have F₂ : Fr h₀ env.locals h₂ (fun z => if z = y then some (.ref D) else m z) := ⟨hn₂, fun b o e => hs₂.extBut b o (fun q => by rw [q, hL₀] at e; cases e) (F'.keep b o e), F'.above⟩
    refine ⟨m', hn.sameBut hs₂ hCL, fun h'' hs'' => fin D h'' _ (F₂.change hs'' hCL hC₀) (fun p hp => ⟨hs''.extBut _ _ ?_ (hs₂.extBut _ _ (N' p hp).2.1 (N' p hp).1), (N' p hp).2⟩) o1⟩
    rcases List.mem_cons.mp hp with rfl | hp
    · exact Ne.symm hCD
    · exact offC p hp

end
section
local macro_rules | `(tactic| walk_at "pad") => `(tactic| fail)
local macro_rules | `(tactic| walk_at "pad") => `(tactic| fail)
local macro_rules | `(tactic| walk_at "pad") => `(tactic| fail)
local macro_rules | `(tactic| walk_at "pad") => `(tactic| fail)
local macro_rules | `(tactic| walk_at "pad") => `(tactic| fail)
local macro_rules | `(tactic| walk_at "pad") => `(tactic| fail)
@[reducible] def lp3S : Stmt := by
  refine' Subtype.val (p := fun d => at_ whB 4 = d) ⟨_, ?h⟩
  case h =>
    conv => lhs; whnf
def keysOff (R : Int → Option Int) (kvs : List (Int × Value)) : List Int := (kvs.map (·.1)).filter fun k => (R k).isNone
theorem keysOff_step {R : Int → Option Int} {kvs : List (Int × Value)} {i : Nat} {p : Int × Value} (h : kvs[i]? = some p) : keysOff R (kvs.take (i + 1)) = keysOff R (kvs.take i) ++ (if (R p.1).isNone then [p.1] else []) := by
  unfold keysOff
  rw [List.take_add_one, h, List.map_append, List.filter_append]
  cases hp : (R p.1).isNone <;> simp [hp]
set_option maxHeartbeats 4000000 in
theorem lp3_comp {c1 c2 c3 c4 c5 rd kn : Addr} {Q' : Flow → Shared → Prop} {o3 o4 ord okn : Obj} {rest : List (Addr × Obj)} {R : Int → Option Int} {kvsR kvs : List (Int × Value)}
    (B : Below A₀ base [] h₀) (X : (K w.params).In h₀) (T : Top p loose mean mg mb h₀) (hd : dp + 50 < recursionLimit) (hu : un + 150 < cLine) (F : Fr h₀ L s.heap m) (N : News h₀ L s.heap ((rd, ord) :: (kn, okn) :: rest))
    (k3 : (c3, o3) ∈ rest) (k3' : IsCell o3 (.ref kn)) (k4 : (c4, o4) ∈ rest) (k4' : IsCell o4 (.ref rd)) (lrd : (rd == sysModules) = false) (lkn : (kn == sysModules) = false)
    (d1 : DOf prog w ord kvsR) (r1 : Rep kvsR R) (d2 : DOf prog w okn kvs) (hkl : kvs.length ≤ 5)
    (ret : ∀ h' tk' D ys, Fr h₀ L h' (fun z => if z = "waiting" then some (.ref D) else m z) → News h₀ L h' ((D, LCg.lst ys) :: (rd, ord) :: (kn, okn) :: rest) → LCg.Off1 D ((rd, ord) :: (kn, okn) :: rest) → IntsAre ys (keysOff R kvs) → Q' .next { s with heap := h', toks := tk' }) :
    wpAny (model prog w) (lwA dp un gd L a c1 c2 c3 c4 c5) (exec lp3S (lwE L a c1 c2 c3 c4 c5)) Q' E s := by
  k_dflt (show wpAny _ _ (exec (Stmt.Assign [Expr.Name _ _] (Expr.ListComp _ [⟨Expr.Name _ _, _, [_], 0⟩] _ _) _) _) _ _ _)
  refine comp_dict (h₀ := h₀) (m := m) rfl (by with_unfolding_all rfl) (by with_unfolding_all rfl) (by decide) (by rfl) (by decide) (by rfl) (by with_unfolding_all rfl) (by rfl) ?_
  refine lw_known N (.tail _ (.tail _ k3)) k3' ⟨kn, okn, kvs, _, rfl, rfl, F, N, .tail _ (.head _), d2, lkn, by rw [sizeLine_eq]; omega, ?_⟩
  rintro s₂ ⟨g, rfl⟩
  have fin : ∀ ys, IntsAre ys (keysOff R kvs) → LCg.FinA h₀ L m { s with heap := g } "waiting" Q' ys ((rd, ord) :: (kn, okn) :: rest) := fun ys hy D h tk F' N' o' => ret h tk D ys F' N' o' hy
  have key : ∀ (k i : Nat) (ys : List Value), i + k = kvs.length → IntsAre ys (keysOff R (kvs.take i)) →
      LCt.CompRestT prog w (lwA dp un gd L a c1 c2 c3 c4 c5) h₀ L m (lwE L a c1 c2 c3 c4 c5) (.Compare (.Name "place" ⟨797, 47, 797, 52⟩) [.NotIn] [.Name "reached" ⟨797, 60, 797, 67⟩] ⟨797, 47, 797, 67⟩) (.Name "place" ⟨797, 19, 797, 24⟩) "place"
        { kind := .function, names := [(".0", .local), ("place", .local), ("reached", .free)], isGenerator := false, isCoroutine := false } [("reached", c4)] { s with heap := g } (fun nw => (kn, okn) ∈ nw) (fun i v => ∃ k u, kvs[i]? = some (k, u) ∧ (intKind prog w).is k v = true) (LCg.FinA h₀ L m { s with heap := g } "waiting" Q') k i ys ((rd, ord) :: (kn, okn) :: rest) := by
    intro k
    induction k with
    | zero =>
      intro i ys hi hy
      rw [List.take_of_length_le (by omega)] at hy
      exact LCt.CompRestT.zero (fin ys hy)
    | succ k ih =>
      intro i ys hi hy
      refine LCt.CompRestT.succ ?_
      intro v' I' oI' C' oC' D' m' h' tk' E' hv' hC' hx' F' N' off' ne'
      obtain ⟨kk, u, hku, his⟩ := hv'
      obtain ⟨t, rfl⟩ := Value.isInt_shape his
      have st := keysOff_step (R := R) hku
      cases hR : R kk with
      | none =>
        have hv := (r1 kk).1 hR
        have ih' := ih (i + 1) (ys ++ [.int kk t]) (by omega) (by rw [st, hR]; exact hy.append (.cons kk t .nil))
        k_steps
        exact LCg.CompEnd.intro (by assumption) (by assumption) _ (fun p hp => hp) off' (.tail _ (.head _)) ih'
      | some u' =>
        obtain ⟨tv, hv⟩ := (r1 kk).2 u' hR
        have ih' := ih (i + 1) ys (by omega) (by rw [st, hR]; simpa using hy)
        k_steps
        exact LCg.CompEnd.intro (by assumption) (by assumption) _ (fun p hp => hp) off' (.tail _ (.head _)) ih'
  exact key kvs.length 0 [] (by omega) .nil

end
section
local macro_rules | `(tactic| walk_at "pad") => `(tactic| fail)
local macro_rules | `(tactic| walk_at "pad") => `(tactic| fail)
local macro_rules | `(tactic| walk_at "pad") => `(tactic| fail)
local macro_rules | `(tactic| walk_at "pad") => `(tactic| fail)
local macro_rules | `(tactic| walk_at "pad") => `(tactic| fail)
local macro_rules | `(tactic| walk_at "pad") => `(tactic| fail)
local macro_rules | `(tactic| walk_at "pad") => `(tactic| fail)
/-- the ways' best hours, as the law's first loops tell them -/
structure Best (n : Nat) (len : Int → Int → Int) (st : Int) (b : Int → Option Int) : Prop where
  dom : ∀ x v, b x = some v → 0 ≤ x ∧ x < n ∧ 1 ≤ v ∧ v ≤ 3 * n - 2
  src : b st = some 1
  closed : ∀ p v x : Int, b p = some v → 0 ≤ x → x < n → 0 < len p x → ∃ u, b x = some u ∧ u ≤ v + len p x
  tight : ∀ x v, b x = some v → (x = st ∧ v = 1) ∨ ∃ p u, b p = some u ∧ 0 < len p x ∧ v = u + len p x
/-- behind hour H: R the reached, Kf the known -/
structure Hr (n : Nat) (len : Int → Int → Int) (st : Int) (b : Int → Option Int) (H : Int) (R Kf : Int → Option Int) : Prop where
  r : ∀ x v, R x = some v ↔ (b x = some v ∧ v ≤ H)
  k1 : ∀ x e, R x = none → Kf x = some e → H < e ∧ ((x = st ∧ e = 1) ∨ ∃ p u, R p = some u ∧ 0 < len p x ∧ e = u + len p x)
  k2 : ∀ p u x : Int, R p = some u → 0 ≤ x → x < n → 0 < len p x → R x = none → ∃ e, Kf x = some e ∧ e ≤ u + len p x
  k0 : H = 0 → Kf st = some 1
  sup : ∀ k, (Kf k).isSome = true → 0 ≤ k ∧ k < n
theorem ceR_some {R Kf : Int → Option Int} {x v : Int} : ceR R Kf x = some v ↔ R x = none ∧ Kf x = some v := by
  simp only [ceR]
  cases h : R x <;> simp
theorem ext1_some : ∀ (ts : List (Addr × (Int × Int))) (R : Int → Option Int), (ts.map (·.2.1)).Nodup → ∀ x v, ext1 R ts x = some v ↔ (∃ q ∈ ts, q.2.1 = x ∧ q.2.2 = v) ∨ ((∀ q ∈ ts, q.2.1 ≠ x) ∧ R x = some v)
  | [], R, _, x, v => by simp [ext1]
  | q :: r, R, hn, x, v => by
    rw [List.map_cons, List.nodup_cons] at hn
    show ext1 (ceOn R q.2.1 q.2.2) r x = some v ↔ _
    rw [ext1_some r _ hn.2 x v]
    have hq : ∀ q' ∈ r, q'.2.1 ≠ q.2.1 := fun q' h e => hn.1 (List.mem_map.mpr ⟨q', h, e⟩)
    constructor
    · rintro (⟨q', h, a, c⟩ | ⟨h, e⟩)
      · exact .inl ⟨q', .tail _ h, a, c⟩
      · simp only [ceOn] at e
        split at e
        · rename_i hx
          exact .inl ⟨q, .head _, hx.symm, Option.some.inj e⟩
        · rename_i hx
          exact .inr ⟨fun q' h' => by rcases List.mem_cons.mp h' with rfl | h'; exact fun e => hx e.symm; exact h q' h', e⟩
    · rintro (⟨q', h, a, c⟩ | ⟨h, e⟩)
      · rcases List.mem_cons.mp h with rfl | h
        · refine .inr ⟨fun q'' h'' => by rw [← a]; exact hq q'' h'', ?_⟩
          simp only [ceOn]; rw [if_pos a.symm, c]
        · exact .inl ⟨q', h, a, c⟩
      · refine .inr ⟨fun q' h' => h q' (.tail _ h'), ?_⟩
        simp only [ceOn]; rw [if_neg (fun e' => h q (.head _) e'.symm)]; exact e
section
variable {n : Nat} {len : Int → Int → Int} {st H : Int} {b R Kf : Int → Option Int} {ce' : Int → Option Int} {ts : List (Addr × (Int × Int))}
theorem told_is (W : Hr n len st b H R Kf) (T : ToldC (ceR R Kf) ce' (H + 1) (ts.map (·.2))) : ∀ q ∈ ts, R q.2.1 = none ∧ q.2.2 = H + 1 ∧ Kf q.2.1 = some (H + 1) ∧ 0 ≤ q.2.1 ∧ q.2.1 < n := fun q hq => by
  obtain ⟨_, h2, h3⟩ := T.is q.2 (List.mem_map.mpr ⟨q, hq, rfl⟩)
  obtain ⟨hR, hK⟩ := ceR_some.mp h2
  have h4 := (W.k1 _ _ hR hK).1
  have e : q.2.2 = H + 1 := by omega
  have s := W.sup q.2.1 (by rw [hK]; rfl)
  exact ⟨hR, e, by rw [hK, e], s⟩
theorem told_nd (T : ToldC (ceR R Kf) ce' (H + 1) (ts.map (·.2))) : (ts.map (·.2.1)).Nodup := by
  have := T.nd
  rw [List.map_map] at this
  exact this
theorem reach_step (Bs : Best n len st b) (W : Hr n len st b H R Kf) (hH : 0 ≤ H) (T : ToldC (ceR R Kf) ce' (H + 1) (ts.map (·.2))) : ∀ x v, ext1 R ts x = some v ↔ (b x = some v ∧ v ≤ H + 1) := by
  intro x v
  have ti := told_is W T
  rw [ext1_some ts R (told_nd T) x v]
  constructor
  · rintro (⟨q, hq, rfl, rfl⟩ | ⟨_, h⟩)
    · obtain ⟨hR, e, hK, h0, hn⟩ := ti q hq
      refine ⟨?_, by omega⟩
      rcases (W.k1 _ _ hR hK).2 with ⟨hx, h1⟩ | ⟨p, u, hp, hl, he⟩
      · rw [hx, Bs.src, e, h1]
      · obtain ⟨u', hb, hu⟩ := Bs.closed p u _ ((W.r p u).mp hp).1 h0 hn hl
        have : ¬ u' ≤ H := fun h => by
          have := (W.r _ u').mpr ⟨hb, h⟩
          rw [hR] at this; cases this
        rw [hb, e]; congr 1; omega
    · have := (W.r x v).mp h
      exact ⟨this.1, by omega⟩
  · rintro ⟨hb, hv⟩
    by_cases hvH : v ≤ H
    · have hR := (W.r x v).mpr ⟨hb, hvH⟩
      exact .inr ⟨fun q hq e => (by rw [← e, (ti q hq).1] at hR; cases hR), hR⟩
    · have ev : v = H + 1 := by omega
      have hR : R x = none := by
        cases h : R x with
        | none => rfl
        | some w =>
          have := (W.r x w).mp h
          rw [hb] at this
          have := Option.some.inj this.1
          omega
      have d := Bs.dom x v hb
      have hK : Kf x = some (H + 1) := by
        rcases Bs.tight x v hb with ⟨hx, h1⟩ | ⟨p, u, hp, hl, he⟩
        · have : H = 0 := by omega
          rw [hx, W.k0 this, this]; rfl
        · have hu : u ≤ H := by omega
          obtain ⟨e, hK, hle⟩ := W.k2 p u x ((W.r p u).mpr ⟨hp, hu⟩) d.1 d.2.1 hl hR
          have := (W.k1 x e hR hK).1
          rw [hK]; congr 1; omega
      have h0 : ceR R Kf x = some (H + 1) := ceR_some.mpr ⟨hR, hK⟩
      rcases T.or x with h | ⟨q, hq, e⟩
      · have := T.live x (H + 1) (by rw [h]; exact h0)
        omega
      · obtain ⟨q', hq', rfl⟩ := List.mem_map.mp hq
        exact .inl ⟨q', hq', e, by rw [(ti q' hq').2.1, ev]⟩
theorem ce_step (W : Hr n len st b H R Kf) (T : ToldC (ceR R Kf) ce' (H + 1) (ts.map (·.2))) : ∀ x, ce' x = ceR (ext1 R ts) Kf x := by
  intro x
  have ex := ext1_some ts R (told_nd T) x
  by_cases ht : ∃ q ∈ ts, q.2.1 = x
  · obtain ⟨q, hq, rfl⟩ := ht
    rw [(T.is q.2 (List.mem_map.mpr ⟨q, hq, rfl⟩)).1]
    simp only [ceR]
    rw [(ex q.2.2).mpr (.inl ⟨q, hq, rfl, rfl⟩)]; rfl
  · have e : ce' x = ceR R Kf x := by
      rcases T.or x with h | ⟨q, hq, e⟩
      · exact h
      · obtain ⟨q', hq', rfl⟩ := List.mem_map.mp hq
        exact absurd ⟨q', hq', e⟩ ht
    rw [e]
    have e2 : ext1 R ts x = R x := by
      cases h : R x with
      | some v => exact (ex v).mpr (.inr ⟨fun q hq e => ht ⟨q, hq, e⟩, h⟩)
      | none =>
        cases h2 : ext1 R ts x with
        | none => rfl
        | some v =>
          rcases (ex v).mp h2 with ⟨q, hq, e, _⟩ | ⟨_, h3⟩
          · exact absurd ⟨q, hq, e⟩ ht
          · rw [h] at h3; cases h3
    simp only [ceR, e2]
/-- while the ways are laid: P the pairs that are done -/
structure Mid (n : Nat) (len : Int → Int → Int) (st : Int) (H : Int) (R : Int → Option Int) (P : Int → Int → Prop) (Kf : Int → Option Int) : Prop where
  k1 : ∀ x e, R x = none → Kf x = some e → H < e ∧ ((x = st ∧ e = 1) ∨ ∃ p u, R p = some u ∧ 0 < len p x ∧ e = u + len p x)
  k2 : ∀ p u x : Int, R p = some u → P p x → 0 ≤ x → x < n → 0 < len p x → R x = none → ∃ e, Kf x = some e ∧ e ≤ u + len p x
theorem lay_mid {P : Int → Int → Prop} {p x : Int} (M : Mid n len st H R P Kf) (hp : R p = some H) (h3 : len p x ≤ 3) (hH : H ≤ 20) : Mid n len st H R (fun p' x' => P p' x' ∨ (p' = p ∧ x' = x)) (lay len R p H x Kf) := by
  unfold lay
  by_cases c : 0 < len p x ∧ R x = none ∧ H + len p x < (Kf x).getD 99
  · rw [if_pos c]
    refine ⟨fun y e hy he => ?_, fun p' u y hp' hP hy0 hyn hl hy => ?_⟩
    · simp only [ceOn] at he
      split at he
      · rename_i e1
        have := Option.some.inj he
        exact ⟨by omega, .inr ⟨p, H, hp, by rw [e1]; exact c.1, by rw [e1]; omega⟩⟩
      · exact M.k1 y e hy he
    · simp only [ceOn]
      by_cases e1 : y = x
      · rw [if_pos e1]
        refine ⟨_, rfl, ?_⟩
        subst e1
        rcases hP with hP | ⟨rfl, _⟩
        · obtain ⟨e, he, hle⟩ := M.k2 p' u y hp' hP hy0 hyn hl hy
          have := c.2.2
          rw [he] at this
          have : H + len p y < e := this
          omega
        · rw [hp] at hp'; have := Option.some.inj hp'; omega
      · rw [if_neg e1]
        rcases hP with hP | ⟨_, h⟩
        · exact M.k2 p' u y hp' hP hy0 hyn hl hy
        · exact absurd h e1
  · rw [if_neg c]
    refine ⟨M.k1, fun p' u y hp' hP hy0 hyn hl hy => ?_⟩
    rcases hP with hP | ⟨rfl, rfl⟩
    · exact M.k2 p' u y hp' hP hy0 hyn hl hy
    · rw [hp] at hp'
      have hu := Option.some.inj hp'
      cases hK : Kf y with
      | none => exact absurd ⟨hl, hy, by rw [hK]; show H + len p' y < 99; omega⟩ c
      | some e =>
        refine ⟨e, rfl, ?_⟩
        have : ¬ H + len p' y < e := fun h => c ⟨hl, hy, by rw [hK]; exact h⟩
        omega
theorem Mid.weak {P P' : Int → Int → Prop} (M : Mid n len st H R P Kf) (h : ∀ p x : Int, 0 ≤ x → x < n → P' p x → P p x) : Mid n len st H R P' Kf :=
  ⟨M.k1, fun p u x hp hP h0 hn => M.k2 p u x hp (h p x h0 hn hP) h0 hn⟩
theorem layAll_mid {p : Int} (hp : R p = some H) (h3 : ∀ x, len p x ≤ 3) (hH : H ≤ 20) : ∀ (k j : Nat) (P : Int → Int → Prop) (Kf : Int → Option Int), Mid n len st H R P Kf → Mid n len st H R (fun p' x' => P p' x' ∨ (p' = p ∧ (j : Int) ≤ x' ∧ x' < j + k)) (layAll len R p H k j Kf)
  | 0, j, P, Kf, M => M.weak fun p' x' _ _ h => by
    rcases h with h | ⟨_, h1, h2⟩
    · exact h
    · omega
  | k + 1, j, P, Kf, M => (layAll_mid hp h3 hH k (j + 1) _ _ (lay_mid M hp (h3 _) hH)).weak fun p' x' _ _ h => by
    rcases h with h | ⟨h1, h2, h4⟩
    · exact .inl (.inl h)
    · by_cases e : x' = j
      · exact .inl (.inr ⟨h1, e⟩)
      · exact .inr ⟨h1, by omega, by omega⟩
theorem layTold_mid (h3 : ∀ p x, len p x ≤ 3) (hH : H ≤ 20) : ∀ (ts : List (Addr × (Int × Int))) (P : Int → Int → Prop) (Kf : Int → Option Int), (∀ q ∈ ts, R q.2.1 = some H ∧ q.2.2 = H) → Mid n len st H R P Kf → Mid n len st H R (fun p' x' => P p' x' ∨ ∃ q ∈ ts, q.2.1 = p') (layTold len R n ts Kf)
  | [], P, Kf, _, M => M.weak fun p' x' _ _ h => by
    rcases h with h | ⟨q, hq, _⟩
    · exact h
    · cases hq
  | q :: r, P, Kf, hq, M => by
    obtain ⟨h1, h2⟩ := hq q (.head _)
    show Mid n len st H R _ (layTold len R n r (layAll len R q.2.1 q.2.2 n 0 Kf))
    rw [h2]
    refine (layTold_mid h3 hH r _ _ (fun q' h' => hq q' (.tail _ h')) (layAll_mid h1 (h3 _) hH n 0 P Kf M)).weak fun p' x' h0 hn h => ?_
    rcases h with h | ⟨q', hq', e⟩
    · exact .inl (.inl h)
    · rcases List.mem_cons.mp hq' with rfl | hq'
      · exact .inl (.inr ⟨e.symm, by omega, by omega⟩)
      · exact .inr ⟨q', hq', e⟩
/-- one hour -/
theorem hour_step (Bs : Best n len st b) (W : Hr n len st b H R Kf) (hH : 0 ≤ H) (hH2 : H + 1 ≤ 20) (h3 : ∀ p x, len p x ≤ 3) (T : ToldC (ceR R Kf) ce' (H + 1) (ts.map (·.2)))
    (sup' : ∀ k, (layTold len (ext1 R ts) n ts Kf k).isSome = true → 0 ≤ k ∧ k < n) : Hr n len st b (H + 1) (ext1 R ts) (layTold len (ext1 R ts) n ts Kf) := by
  have rs := reach_step Bs W hH T
  have ti := told_is W T
  have ex := fun x => ext1_some ts R (told_nd T) x
  have hq : ∀ q ∈ ts, ext1 R ts q.2.1 = some (H + 1) ∧ q.2.2 = H + 1 := fun q h => ⟨(ex _ _).mpr (.inl ⟨q, h, rfl, (ti q h).2.1⟩), (ti q h).2.1⟩
  have sub : ∀ x v, R x = some v → ext1 R ts x = some v := fun x v h => (rs x v).mpr ⟨((W.r x v).mp h).1, by have := ((W.r x v).mp h).2; omega⟩
  have non : ∀ x, ext1 R ts x = none → R x = none := fun x h => by
    cases h2 : R x with
    | none => rfl
    | some v => rw [sub x v h2] at h; cases h
  have M0 : Mid n len st (H + 1) (ext1 R ts) (fun p _ => ∃ u, R p = some u) Kf := by
    refine ⟨fun x e hx he => ?_, fun p u x hp ⟨u', hP⟩ h0 hn hl hx => ?_⟩
    · refine ⟨T.live x e (by rw [ce_step W T x]; exact ceR_some.mpr ⟨hx, he⟩), ?_⟩
      rcases (W.k1 x e (non x hx) he).2 with h | ⟨p, u, hp, hl, h⟩
      · exact .inl h
      · exact .inr ⟨p, u, sub p u hp, hl, h⟩
    · have : u' = u := by
        have := sub p u' hP
        rw [hp] at this; exact (Option.some.inj this).symm
      subst this
      exact W.k2 p u' x hP h0 hn hl (non x hx)
  have M := layTold_mid h3 hH2 ts _ Kf hq M0
  refine ⟨rs, M.k1, fun p u x hp h0 hn hl hx => M.k2 p u x hp ?_ h0 hn hl hx, fun h => by omega, sup'⟩
  rcases (ex p u).mp hp with ⟨q, hq', e, _⟩ | ⟨_, h⟩
  · exact .inr ⟨q, hq', e⟩
  · exact .inl ⟨u, h⟩
/-- behind the last hour all is reached -/
theorem last_hour (Bs : Best n len st b) (W : Hr n len st b (3 * n) R Kf) : ∀ x, R x = b x := fun x => by
  cases h : b x with
  | none =>
    cases h2 : R x with
    | none => rfl
    | some v => have := ((W.r x v).mp h2).1; rw [h] at this; cases this
  | some v => exact (W.r x v).mpr ⟨h, by have := Bs.dom x v h; omega⟩
end
theorem hour0 {n : Nat} {len : Int → Int → Int} {st : Int} {b : Int → Option Int} (Bs : Best n len st b) : Hr n len st b 0 (fun _ => none) (ceOn (fun _ => none) st 1) := by
  have d := Bs.dom st 1 Bs.src
  refine ⟨fun x v => ?_, fun x e _ he => ?_, fun p u x hp => by simp at hp, fun _ => by simp [ceOn], fun k hk => ?_⟩
  · constructor
    · intro h; simp at h
    · rintro ⟨h, hv⟩; have := Bs.dom x v h; omega
  · simp only [ceOn] at he
    split at he
    · rename_i e1; have := Option.some.inj he; exact ⟨by omega, .inl ⟨e1, by omega⟩⟩
    · cases he
  · simp only [ceOn] at hk
    split at hk
    · rename_i e1; rw [e1]; exact ⟨d.1, d.2.1⟩
    · cases hk

end
section
local macro_rules | `(tactic| walk_at "pad") => `(tactic| fail)
local macro_rules | `(tactic| walk_at "pad") => `(tactic| fail)
local macro_rules | `(tactic| walk_at "pad") => `(tactic| fail)
local macro_rules | `(tactic| walk_at "pad") => `(tactic| fail)
local macro_rules | `(tactic| walk_at "pad") => `(tactic| fail)
local macro_rules | `(tactic| walk_at "pad") => `(tactic| fail)
local macro_rules | `(tactic| walk_at "pad") => `(tactic| fail)
local macro_rules | `(tactic| walk_at "pad") => `(tactic| fail)
/-- the law's first loops -/
def relax (len : Int → Int → Int) (p x : Int) (b : Int → Option Int) : Int → Option Int :=
  match b p with
  | none => b
  | some u => if 0 < len p x ∧ u + len p x < (b x).getD 99 then ceOn b x (u + len p x) else b
def bfX (len : Int → Int → Int) (p : Int) : Nat → Nat → (Int → Option Int) → (Int → Option Int)
  | 0, _, b => b
  | k + 1, j, b => bfX len p k (j + 1) (relax len p j b)
def bfP (len : Int → Int → Int) (n : Nat) : Nat → Nat → (Int → Option Int) → (Int → Option Int)
  | 0, _, b => b
  | k + 1, i, b => bfP len n k (i + 1) (bfX len i n 0 b)
def bfT (len : Int → Int → Int) (n : Nat) : Nat → (Int → Option Int) → (Int → Option Int)
  | 0, b => b
  | k + 1, b => bfT len n k (bfP len n n 0 b)
structure BB (n : Nat) (len : Int → Int → Int) (st : Int) (b : Int → Option Int) : Prop where
  ks : ∃ ks : List Int, ks.Nodup ∧ (∀ x, (b x).isSome = true ↔ x ∈ ks) ∧ ∀ x v, b x = some v → v ≤ 3 * ks.length - 2
  dom : ∀ x v, b x = some v → 0 ≤ x ∧ x < n ∧ 1 ≤ v
  src : b st = some 1
  semi : ∀ x v, b x = some v → (x = st ∧ v = 1) ∨ ∃ p u, b p = some u ∧ 0 < len p x ∧ u + len p x ≤ v
section
variable {n : Nat} {len : Int → Int → Int} {st : Int} {b : Int → Option Int}
theorem BB.small (B : BB n len st b) (hn : n ≤ 5) : ∀ x v, b x = some v → v ≤ 3 * n - 2 := fun x v h => by
  obtain ⟨ks, nd, iff, hv⟩ := B.ks
  have := len_le_of_range n ks nd fun y hy => by
    have h1 := (iff y).mpr hy
    cases hb : b y with
    | none => rw [hb] at h1; cases h1
    | some w => have := B.dom y w hb; exact ⟨this.1, this.2.1⟩
  have := hv x v h
  omega
theorem relax_eq {p x u : Int} (h : b p = some u) : relax len p x b = if 0 < len p x ∧ u + len p x < (b x).getD 99 then ceOn b x (u + len p x) else b := by
  unfold relax; rw [h]
theorem relax_none {p x : Int} (h : b p = none) : relax len p x b = b := by unfold relax; rw [h]
/-- what one step does -/
theorem relax_cases (p x : Int) (b : Int → Option Int) : relax len p x b = b ∨ ∃ u, b p = some u ∧ 0 < len p x ∧ u + len p x < (b x).getD 99 ∧ relax len p x b = ceOn b x (u + len p x) := by
  cases h : b p with
  | none => exact .inl (relax_none h)
  | some u =>
    rw [relax_eq h]
    by_cases c : 0 < len p x ∧ u + len p x < (b x).getD 99
    · exact .inr ⟨u, rfl, c.1, c.2, if_pos c⟩
    · exact .inl (if_neg c)
theorem relax_BB {p x : Int} (B : BB n len st b) (hn : n ≤ 5) (h3 : len p x ≤ 3) (hx0 : 0 ≤ x) (hxn : x < n) : BB n len st (relax len p x b) := by
  rcases relax_cases (len := len) p x b with h | ⟨u, hp, hl, hlt, h⟩
  · rw [h]; exact B
  rw [h]
  have hu := B.small hn p u hp
  have hd := B.dom p u hp
  have lt : ∀ v, b x = some v → u + len p x < v := fun v hv => by rw [hv] at hlt; exact hlt
  have px : p ≠ x := fun e => by
    have := lt u (by rw [← e]; exact hp)
    omega
  have xs : x ≠ st := fun e => by
    have := lt 1 (by rw [e]; exact B.src)
    omega
  have val : ∀ y v, ceOn b x (u + len p x) y = some v → (y = x ∧ v = u + len p x) ∨ (y ≠ x ∧ b y = some v) := fun y v hy => by
    simp only [ceOn] at hy
    split at hy
    · exact .inl ⟨‹_›, (Option.some.inj hy).symm⟩
    · exact .inr ⟨‹_›, hy⟩
  have old : ∀ y, y ≠ x → ceOn b x (u + len p x) y = b y := fun y hy => by simp only [ceOn, if_neg hy]
  refine ⟨?_, fun y v hy => ?_, ?_, fun y v hy => ?_⟩
  · obtain ⟨ks, nd, iff, hv⟩ := B.ks
    by_cases hk : x ∈ ks
    · refine ⟨ks, nd, fun y => ?_, fun y v hy => ?_⟩
      · by_cases e : y = x
        · rw [e]; simp only [ceOn, if_pos]; simpa using hk
        · rw [old y e]; exact iff y
      · rcases val y v hy with ⟨e, rfl⟩ | ⟨_, h⟩
        · cases hb : b x with
          | none => have := (iff x).mpr hk; rw [hb] at this; cases this
          | some w => have := hv x w hb; have := lt w hb; omega
        · exact hv y v h
    · refine ⟨x :: ks, List.nodup_cons.mpr ⟨hk, nd⟩, fun y => ?_, fun y v hy => ?_⟩
      · by_cases e : y = x
        · rw [e]; simp [ceOn]
        · rw [old y e, iff y]; simp [e]
      · rw [List.length_cons]
        rcases val y v hy with ⟨e, rfl⟩ | ⟨_, h⟩
        · have := hv p u hp; omega
        · have := hv y v h; omega
  · rcases val y v hy with ⟨rfl, rfl⟩ | ⟨_, h⟩
    · exact ⟨hx0, hxn, by omega⟩
    · exact B.dom y v h
  · rw [old st (Ne.symm xs)]; exact B.src
  · rcases val y v hy with ⟨rfl, rfl⟩ | ⟨hne, h⟩
    · exact .inr ⟨p, u, by rw [old p px]; exact hp, hl, Int.le_refl _⟩
    · rcases B.semi y v h with h' | ⟨q, w, hq, hlq, hle⟩
      · exact .inl h'
      · by_cases e : q = x
        · refine .inr ⟨q, u + len p x, by rw [e]; simp [ceOn], hlq, ?_⟩
          have := lt w (by rw [← e]; exact hq)
          omega
        · exact .inr ⟨q, w, by rw [old q e]; exact hq, hlq, hle⟩
/-- the final ones -/
structure FinT (n : Nat) (len : Int → Int → Int) (T : List Int) (b : Int → Option Int) : Prop where
  nd : T.Nodup
  rg : ∀ i ∈ T, 0 ≤ i ∧ i < n
  f1 : ∀ i ∈ T, ∃ v, b i = some v
  f2 : ∀ i ∈ T, ∀ j ∈ T, ∀ v w, b i = some v → b j = some w → 0 < len i j → w ≤ v + len i j
  f3 : ∀ i ∈ T, ∀ x v w, b i = some w → b x = some v → x ∉ T → w ≤ v
  f4 : ∀ p ∈ T, ∀ x v, x ∉ T → b p = some v → 0 ≤ x → x < n → 0 < len p x → ∀ i ∈ T, ∀ w, b i = some w → w ≤ v + len p x
theorem relax_fin {p x : Int} {T : List Int} (B : BB n len st b) (hn : n ≤ 5) (h3 : len p x ≤ 3) (hx0 : 0 ≤ x) (hxn : x < n) (F : FinT n len T b) :
    (∀ i ∈ T, relax len p x b i = b i) ∧ FinT n len T (relax len p x b) ∧ (∀ y v, b y = some v → ∃ v', v' ≤ v ∧ relax len p x b y = some v') ∧ (∀ u, b p = some u → 0 < len p x → ∃ v, relax len p x b x = some v ∧ v ≤ u + len p x) := by
  rcases relax_cases (len := len) p x b with h | ⟨u, hp, hl, hlt, h⟩
  · rw [h]
    refine ⟨fun _ _ => rfl, F, fun y v hy => ⟨v, Int.le_refl _, hy⟩, fun u hp hl => ?_⟩
    rw [relax_eq hp] at h
    cases hb : b x with
    | none =>
      have c : 0 < len p x ∧ u + len p x < (b x).getD 99 := ⟨hl, by
        rw [hb]; have := B.small hn p u hp
        show u + len p x < 99; omega⟩
      rw [if_pos c] at h
      have := congrFun h x
      rw [hb] at this; simp [ceOn] at this
    | some w =>
      refine ⟨w, rfl, ?_⟩
      by_cases c : u + len p x < w
      · have c' : 0 < len p x ∧ u + len p x < (b x).getD 99 := ⟨hl, by rw [hb]; exact c⟩
        rw [if_pos c'] at h
        have := congrFun h x
        rw [hb] at this; simp [ceOn] at this; omega
      · omega
  have lt : ∀ v, b x = some v → u + len p x < v := fun v hv => by rw [hv] at hlt; exact hlt
  have xT : x ∉ T := fun hx => by
    obtain ⟨w, hw⟩ := F.f1 x hx
    have h1 := lt w hw
    by_cases hpT : p ∈ T
    · have := F.f2 p hpT x hx u w hp hw hl; omega
    · have := F.f3 x hx p u w hw hp hpT; omega
  have old : ∀ y, y ≠ x → ceOn b x (u + len p x) y = b y := fun y hy => by simp only [ceOn, if_neg hy]
  have oT : ∀ i ∈ T, ceOn b x (u + len p x) i = b i := fun i hi => old i fun e => xT (e ▸ hi)
  have new : ceOn b x (u + len p x) x = some (u + len p x) := by simp [ceOn]
  rw [h]
  refine ⟨oT, ⟨F.nd, F.rg, fun i hi => by rw [oT i hi]; exact F.f1 i hi, fun i hi j hj v w hv hw => by rw [oT i hi] at hv; rw [oT j hj] at hw; exact F.f2 i hi j hj v w hv hw, fun i hi y v w hw hv hy => ?_, fun q hq y v hy hv y0 yn hly i hi w hw => by rw [oT q hq] at hv; rw [oT i hi] at hw; exact F.f4 q hq y v hy hv y0 yn hly i hi w hw⟩, fun y v hy => ?_, fun u' hp' hl' => ?_⟩
  · rw [oT i hi] at hw
    by_cases e : y = x
    · rw [e, new] at hv
      have ev := Option.some.inj hv
      by_cases hpT : p ∈ T
      · have := F.f4 p hpT x u xT hp hx0 hxn hl i hi w hw; omega
      · have := F.f3 i hi p u w hw hp hpT; omega
    · rw [old y e] at hv; exact F.f3 i hi y v w hw hv hy
  · by_cases e : y = x
    · rw [e] at hy ⊢
      exact ⟨_, Int.le_of_lt (lt v hy), new⟩
    · exact ⟨v, Int.le_refl _, by rw [old y e]; exact hy⟩
  · rw [hp] at hp'
    exact ⟨_, new, by have := Option.some.inj hp'; omega⟩
end

end
section
local macro_rules | `(tactic| walk_at "pad") => `(tactic| fail)
local macro_rules | `(tactic| walk_at "pad") => `(tactic| fail)
section
variable {n : Nat} {len : Int → Int → Int} {st : Int} {b : Int → Option Int} {T : List Int}
/-- what some steps have kept -/
structure Kp (n : Nat) (len : Int → Int → Int) (st : Int) (T : List Int) (b b' : Int → Option Int) : Prop where
  bb : BB n len st b'
  fin : FinT n len T b'
  same : ∀ i ∈ T, b' i = b i
  mono : ∀ y v, b y = some v → ∃ v', v' ≤ v ∧ b' y = some v'
theorem Kp.trans {b1 b2 : Int → Option Int} (x : Kp n len st T b b1) (y : Kp n len st T b1 b2) : Kp n len st T b b2 :=
  ⟨y.bb, y.fin, fun i hi => (y.same i hi).trans (x.same i hi), fun z v hz => by
    obtain ⟨v1, h1, e1⟩ := x.mono z v hz
    obtain ⟨v2, h2, e2⟩ := y.mono z v1 e1
    exact ⟨v2, by omega, e2⟩⟩
theorem bfX_kp (hn : n ≤ 5) (h3 : ∀ p x, len p x ≤ 3) {p : Int} : ∀ (k j : Nat) (b : Int → Option Int), j + k ≤ n → BB n len st b → FinT n len T b →
    Kp n len st T b (bfX len p k j b) ∧ (p ∈ T → ∀ u, b p = some u → ∀ x : Int, (j : Int) ≤ x → x < j + k → 0 < len p x → ∃ v, bfX len p k j b x = some v ∧ v ≤ u + len p x)
  | 0, j, b, _, B, F => ⟨⟨B, F, fun _ _ => rfl, fun y v hy => ⟨v, Int.le_refl _, hy⟩⟩, fun _ _ _ x h1 h2 => by omega⟩
  | k + 1, j, b, hk, B, F => by
    have hx0 : (0 : Int) ≤ j := by omega
    have hxn : (j : Int) < n := by omega
    obtain ⟨a1, a2, a3, a4⟩ := relax_fin (p := p) B hn (h3 p j) hx0 hxn F
    have B1 := relax_BB (p := p) B hn (h3 p j) hx0 hxn
    obtain ⟨K2, r2⟩ := bfX_kp hn h3 k (j + 1) (relax len p j b) (by omega) B1 a2
    have K1 : Kp n len st T b (relax len p j b) := ⟨B1, a2, a1, a3⟩
    refine ⟨K1.trans K2, fun hp u hu x h1 h2 hl => ?_⟩
    by_cases e : x = j
    · obtain ⟨v, hv, hle⟩ := a4 u hu (by rw [← e]; exact hl)
      obtain ⟨v', hv', e'⟩ := K2.mono j v hv
      rw [e]
      exact ⟨v', e', by omega⟩
    · exact r2 hp u (by rw [a1 p hp]; exact hu) x (by omega) (by omega) hl
theorem bfP_kp (hn : n ≤ 5) (h3 : ∀ p x, len p x ≤ 3) : ∀ (k i : Nat) (b : Int → Option Int), i + k ≤ n → BB n len st b → FinT n len T b →
    Kp n len st T b (bfP len n k i b) ∧ (∀ p ∈ T, (i : Int) ≤ p → p < i + k → ∀ u, b p = some u → ∀ x : Int, 0 ≤ x → x < n → 0 < len p x → ∃ v, bfP len n k i b x = some v ∧ v ≤ u + len p x)
  | 0, i, b, _, B, F => ⟨⟨B, F, fun _ _ => rfl, fun y v hy => ⟨v, Int.le_refl _, hy⟩⟩, fun p _ h1 h2 => by omega⟩
  | k + 1, i, b, hk, B, F => by
    obtain ⟨K1, r1⟩ := bfX_kp (p := (i : Int)) hn h3 n 0 b (by omega) B F
    obtain ⟨K2, r2⟩ := bfP_kp hn h3 k (i + 1) _ (by omega) K1.bb K1.fin
    refine ⟨K1.trans K2, fun p hp h1 h2 u hu x hx0 hxn hl => ?_⟩
    by_cases e : p = i
    · obtain ⟨v, hv, hle⟩ := r1 (e ▸ hp) u (e ▸ hu) x (by omega) (by omega) (e ▸ hl)
      obtain ⟨v', hv', e'⟩ := K2.mono x v hv
      exact ⟨v', e', by rw [← e] at hle; omega⟩
    · exact r2 p hp (by omega) (by omega) u (by rw [K1.same p hp]; exact hu) x hx0 hxn hl
def Cl (n : Nat) (len : Int → Int → Int) (b : Int → Option Int) : Prop := ∀ p u x : Int, b p = some u → 0 ≤ x → x < n → 0 < len p x → ∃ v, b x = some v ∧ v ≤ u + len p x
theorem Cl.relax (C : Cl n len b) {p x : Int} (hx0 : 0 ≤ x) (hxn : x < n) : relax len p x b = b := by
  rcases relax_cases (len := len) p x b with h | ⟨u, hp, hl, hlt, _⟩
  · exact h
  · obtain ⟨v, hv, hle⟩ := C p u x hp hx0 hxn hl
    rw [hv] at hlt
    have : u + len p x < v := hlt
    omega
theorem Cl.bfX (C : Cl n len b) {p : Int} : ∀ (k j : Nat), j + k ≤ n → bfX len p k j b = b
  | 0, _, _ => rfl
  | k + 1, j, h => by
    show Mine.bfX len p k (j + 1) (Mine.relax len p j b) = b
    rw [C.relax (by omega) (by omega)]
    exact C.bfX k (j + 1) (by omega)
theorem Cl.bfP (C : Cl n len b) : ∀ (k i : Nat), bfP len n k i b = b
  | 0, _ => rfl
  | k + 1, i => by
    show Mine.bfP len n k (i + 1) (Mine.bfX len i n 0 b) = b
    rw [C.bfX n 0 (by omega)]
    exact C.bfP k (i + 1)
theorem Cl.bfT (C : Cl n len b) : ∀ k, bfT len n k b = b
  | 0 => rfl
  | k + 1 => by
    show Mine.bfT len n k (Mine.bfP len n n 0 b) = b
    rw [C.bfP n 0]
    exact C.bfT k
theorem least (f : Int → Int) : ∀ l : List Int, l ≠ [] → ∃ y ∈ l, ∀ x ∈ l, f y ≤ f x
  | [], h => absurd rfl h
  | [a], _ => ⟨a, .head _, fun x hx => by rw [List.mem_singleton.mp hx]; exact Int.le_refl _⟩
  | a :: c :: r, _ => by
    obtain ⟨y, hy, h⟩ := least f (c :: r) (by simp)
    by_cases e : f a ≤ f y
    · refine ⟨a, .head _, fun x hx => ?_⟩
      rcases List.mem_cons.mp hx with rfl | hx
      · exact Int.le_refl _
      · exact Int.le_trans e (h x hx)
    · refine ⟨y, .tail _ hy, fun x hx => ?_⟩
      rcases List.mem_cons.mp hx with rfl | hx
      · omega
      · exact h x hx
theorem round (hn : n ≤ 5) (h3 : ∀ p x, len p x ≤ 3) (B : BB n len st b) (F : FinT n len T b) : BB n len st (bfP len n n 0 b) ∧ (Cl n len (bfP len n n 0 b) ∨ ∃ y, y ∉ T ∧ FinT n len (y :: T) (bfP len n n 0 b)) := by
  obtain ⟨K1, r1⟩ := bfP_kp hn h3 n 0 b (by omega) B F
  generalize hb' : bfP len n n 0 b = b' at K1 r1
  refine ⟨K1.bb, ?_⟩
  have F' := K1.fin
  have rr : ∀ p ∈ T, ∀ u, b' p = some u → ∀ x : Int, 0 ≤ x → x < n → 0 < len p x → ∃ v, b' x = some v ∧ v ≤ u + len p x := fun p hp u hu x h0 h1 hl => by
    have g := F'.rg p hp
    exact r1 p hp (by omega) (by omega) u (by rw [← K1.same p hp]; exact hu) x h0 h1 hl
  obtain ⟨ks, nd, iff, _⟩ := K1.bb.ks
  cases hq : ks.filter (fun y => decide (y ∉ T)) with
  | nil =>
    refine .inl fun p u x hp h0 h1 hl => ?_
    have hpT : p ∈ T := by
      by_cases h : p ∈ T
      · exact h
      · have : p ∈ ks.filter (fun y => decide (y ∉ T)) := List.mem_filter.mpr ⟨(iff p).mp (by rw [hp]; rfl), decide_eq_true h⟩
        rw [hq] at this; cases this
    exact rr p hpT u hp x h0 h1 hl
  | cons a r =>
    refine .inr ?_
    obtain ⟨y, hy, hmin⟩ := least (fun x => (b' x).getD 0) (ks.filter (fun y => decide (y ∉ T))) (by rw [hq]; simp)
    have hyT : y ∉ T := of_decide_eq_true (List.mem_filter.mp hy).2
    obtain ⟨w, hw⟩ : ∃ w, b' y = some w := by
      have := (iff y).mpr (List.mem_filter.mp hy).1
      cases h : b' y with
      | none => rw [h] at this; cases this
      | some w => exact ⟨w, rfl⟩
    have mn : ∀ x v, x ∉ T → b' x = some v → w ≤ v := fun x v hx hv => by
      have := hmin x (List.mem_filter.mpr ⟨(iff x).mp (by rw [hv]; rfl), decide_eq_true hx⟩)
      rw [hw, hv] at this; exact this
    have dy := K1.bb.dom y w hw
    refine ⟨y, hyT, List.nodup_cons.mpr ⟨hyT, F'.nd⟩, fun i hi => ?_, fun i hi => ?_, fun i hi j hj v u hv hu hl => ?_, fun i hi x v u hu hv hx => ?_, fun p hp x v hx hv h0 h1 hl i hi u hu => ?_⟩
    · rcases List.mem_cons.mp hi with rfl | hi
      · exact ⟨dy.1, dy.2.1⟩
      · exact F'.rg i hi
    · rcases List.mem_cons.mp hi with rfl | hi
      · exact ⟨w, hw⟩
      · exact F'.f1 i hi
    · rcases List.mem_cons.mp hi with rfl | hi'
      · rw [hw] at hv
        have ev := Option.some.inj hv
        rcases List.mem_cons.mp hj with rfl | hj'
        · rw [hw] at hu; have := Option.some.inj hu; omega
        · have := F'.f3 j hj' i w u hu hw hyT; omega
      · rcases List.mem_cons.mp hj with rfl | hj'
        · obtain ⟨v', hv', hle⟩ := rr i hi' v hv j dy.1 dy.2.1 hl
          rw [hu] at hv'; have := Option.some.inj hv'; omega
        · exact F'.f2 i hi' j hj' v u hv hu hl
    · have hxT : x ∉ T := fun h => hx (.tail _ h)
      rcases List.mem_cons.mp hi with rfl | hi
      · rw [hw] at hu; have := Option.some.inj hu; have := mn x v hxT hv; omega
      · exact F'.f3 i hi x v u hu hv hxT
    · have hxT : x ∉ T := fun h => hx (.tail _ h)
      rcases List.mem_cons.mp hp with rfl | hp'
      · rw [hw] at hv
        have ev := Option.some.inj hv
        rcases List.mem_cons.mp hi with rfl | hi'
        · rw [hw] at hu; have := Option.some.inj hu; omega
        · have := F'.f3 i hi' p w u hu hw hyT; omega
      · rcases List.mem_cons.mp hi with rfl | hi'
        · rw [hw] at hu
          obtain ⟨v', hv', hle⟩ := rr p hp' v hv x h0 h1 hl
          have := mn x v' hxT hv'
          have := Option.some.inj hu
          omega
        · exact F'.f4 p hp' x v hxT hv h0 h1 hl i hi' u hu
theorem rounds (hn : n ≤ 5) (h3 : ∀ p x, len p x ≤ 3) : ∀ (k : Nat) (b : Int → Option Int), BB n len st b → (Cl n len b ∨ ∃ T : List Int, FinT n len T b ∧ n + 1 ≤ T.length + k) → BB n len st (bfT len n k b) ∧ Cl n len (bfT len n k b)
  | 0, b, B, h => by
    rcases h with h | ⟨T, F, hl⟩
    · exact ⟨B, h⟩
    · have := len_le_of_range n T F.nd F.rg
      omega
  | k + 1, b, B, h => by
    rcases h with h | ⟨T, F, hl⟩
    · rw [h.bfT]; exact ⟨B, h⟩
    · obtain ⟨B1, h1⟩ := round hn h3 B F
      refine rounds hn h3 k _ B1 ?_
      rcases h1 with h1 | ⟨y, hy, F1⟩
      · exact .inl h1
      · exact .inr ⟨y :: T, F1, by rw [List.length_cons]; omega⟩
theorem best_of (hn : n ≤ 5) (h3 : ∀ p x, len p x ≤ 3) (hs0 : 0 ≤ st) (hsn : st < n) : Best n len st (bfT len n n (ceOn (fun _ => none) st 1)) := by
  have e : ∀ x v, ceOn (fun _ => none) st 1 x = some v ↔ x = st ∧ v = 1 := fun x v => by
    simp only [ceOn]
    by_cases h : x = st
    · rw [if_pos h]; constructor
      · intro h2; exact ⟨h, (Option.some.inj h2).symm⟩
      · rintro ⟨_, rfl⟩; rfl
    · rw [if_neg h]; constructor
      · intro h2; cases h2
      · rintro ⟨h2, _⟩; exact absurd h2 h
  have B0 : BB n len st (ceOn (fun _ => none) st 1) := by
    refine ⟨⟨[st], by simp, fun x => ?_, fun x v hx => ?_⟩, fun x v hx => ?_, (e st 1).mpr ⟨rfl, rfl⟩, fun x v hx => .inl ((e x v).mp hx)⟩
    · simp only [ceOn, List.mem_singleton]
      by_cases h : x = st <;> simp [h]
    · have := (e x v).mp hx; simp only [List.length_singleton]; omega
    · obtain ⟨rfl, rfl⟩ := (e x v).mp hx; exact ⟨hs0, hsn, by omega⟩
  have F0 : FinT n len [st] (ceOn (fun _ => none) st 1) := by
    refine ⟨by simp, fun i hi => by rw [List.mem_singleton.mp hi]; exact ⟨hs0, hsn⟩, fun i hi => ⟨1, (e i 1).mpr ⟨List.mem_singleton.mp hi, rfl⟩⟩, fun i hi j hj v w hv hw hl => ?_, fun i hi x v w hw hv hx => ?_, fun p hp x v hx hv h0 h1 hl i hi w hw => ?_⟩
    · have := (e i v).mp hv; have := (e j w).mp hw; omega
    · exact absurd (List.mem_singleton.mpr ((e x v).mp hv).1) hx
    · have := (e p v).mp hv; have := (e i w).mp hw; omega
  obtain ⟨B, C⟩ := rounds hn h3 n _ B0 (.inr ⟨[st], F0, by simp only [List.length_singleton]; omega⟩)
  refine ⟨fun x v hv => ?_, B.src, C, fun x v hv => ?_⟩
  · have := B.dom x v hv
    exact ⟨this.1, this.2.1, this.2.2, B.small hn x v hv⟩
  · rcases B.semi x v hv with h | ⟨p, u, hp, hl, hle⟩
    · exact .inl h
    · have d := B.dom x v hv
      obtain ⟨v', hv', hle'⟩ := C p u x hp d.1 d.2.1 hl
      rw [hv] at hv'
      have := Option.some.inj hv'
      exact .inr ⟨p, u, hp, hl, by omega⟩
end

end
section
local macro_rules | `(tactic| walk_at "pad") => `(tactic| fail)
local macro_rules | `(tactic| walk_at "subscriptTail") => `(tactic| (k_here; (with_reducible show wpAny _ _ (subscriptTail _ _ (Value.ref _) (Value.int _ _)) _ _ _); k_dflt (refine' l_at ?N ?m ?a ?v ?z ?_; (case N => k_asm); (case m => k_mem); (case v => k_asm); (case a => first | assumption | omega); (case z => omega); k_whole)))
local macro_rules | `(tactic| walk_at "subscriptTail") => `(tactic| (k_here; (with_reducible show wpAny _ _ (subscriptTail (Expr.Name (PySem.Str.ofString "best") _) _ (Value.ref _) (Value.int _ _)) _ _ _); k_dflt (refine' d_item ?N ?m ?d ?v ?_; (case N => k_asm); (case m => k_mem); (case d => k_asm); (case v => k_asm); k_whole)))
@[reducible] def bfS1 : Stmt := by
  refine' Subtype.val (p := fun d => at_ Fn.f_law.body 5 = d) ⟨_, ?h⟩
  case h =>
    conv => lhs; whnf
@[reducible] def bfB1 : List Stmt := by
  refine' Subtype.val (p := fun d => stmtsOf bfS1 = d) ⟨_, ?h⟩
  case h =>
    conv => lhs; whnf
@[reducible] def bfS2 : Stmt := by
  refine' Subtype.val (p := fun d => at_ bfB1 0 = d) ⟨_, ?h⟩
  case h =>
    conv => lhs; whnf
@[reducible] def bfB2 : List Stmt := by
  refine' Subtype.val (p := fun d => stmtsOf bfS2 = d) ⟨_, ?h⟩
  case h =>
    conv => lhs; whnf
@[reducible] def bfS3 : Stmt := by
  refine' Subtype.val (p := fun d => at_ bfB2 0 = d) ⟨_, ?h⟩
  case h =>
    conv => lhs; whnf
@[reducible] def bfB3 : List Stmt := by
  refine' Subtype.val (p := fun d => stmtsOf bfS3 = d) ⟨_, ?h⟩
  case h =>
    conv => lhs; whnf
set_option maxHeartbeats 4000000 in
theorem bf_body {c1 c2 c3 c4 c5 ld rp bd : Addr} {M pl x : Int} {t1 t3 tl9 : Tok} {nL nR : Nat} {Q' : Flow → Shared → Prop} {ob it1 it2 it3 : Obj} {I1 I2 I3 : Addr} {rest0 : List (Addr × Obj)} {len : Int → Int → Int} {b : Int → Option Int} {kvs : List (Int × Value)} {itL itR : Array Value}
    (B : Below A₀ base [] h₀) (X : (K w.params).In h₀) (T : Top p loose mean mg mb h₀) (hd : dp + 50 < recursionLimit) (hu : un + 150 < cLine)
    (kl : (ld, listOf itL nL) ∈ rest0) (kr : (rp, listOf itR nR) ∈ rest0) (hL : itL[pl.toNat]? = some (.ref rp)) (hR : itR[x.toNat]? = some (.int (len pl x) tl9)) (hp0 : 0 ≤ pl) (hp5 : pl < 5) (hx0 : 0 ≤ x) (hxM : x < M) (hM5 : M ≤ 5) (lbd : (bd == sysModules) = false)
    (F : Fr h₀ L s.heap m) (N : News h₀ L s.heap ((I3, it3) :: (I2, it2) :: (I1, it1) :: (bd, ob) :: rest0)) (l1 : @Ne Nat I1 bd) (l2 : @Ne Nat I2 bd) (l3 : @Ne Nat I3 bd) (n0 : ∀ p ∈ rest0, p.1 ≠ bd)
    (d1 : DOf prog w ob kvs) (r1 : Rep kvs b) (sup : ∀ k, (b k).isSome = true → 0 ≤ k ∧ k < M)
    (mp : m "place" = some (.int pl t1)) (ml : m "lengths" = some (.ref ld)) (mo : m "other" = some (.int x t3)) (mb' : m "best" = some (.ref bd))
    (ret : ∀ h' tk' ob' kvs' m', Fr h₀ L h' m' → News h₀ L h' ((I3, it3) :: (I2, it2) :: (I1, it1) :: (bd, ob') :: rest0) → DOf prog w ob' kvs' → Rep kvs' (relax len pl x b) → (∀ z : Str, z ≠ "length" → m' z = m z) → Q' .next { s with heap := h', toks := tk' }) :
    wpAny (model prog w) (lwA dp un gd L a c1 c2 c3 c4 c5) (execs bfB3 (lwE L a c1 c2 c3 c4 c5)) Q' E s := by
  have hkl := rep_len d1 r1 sup hM5
  have same : relax len pl x b = b → ∀ h' tk' m', Fr h₀ L h' m' → News h₀ L h' ((I3, it3) :: (I2, it2) :: (I1, it1) :: (bd, ob) :: rest0) → (∀ z : Str, z ≠ "length" → m' z = m z) → Q' .next { s with heap := h', toks := tk' } := fun hs h' tk' m' F' N' hm' =>
    ret h' tk' ob kvs m' F' N' d1 (by rw [hs]; exact r1) hm'
  by_cases hlen : 0 < len pl x
  · cases hbp : b pl with
    | none =>
      have hv := (r1 pl).1 hbp
      k_steps
      with_reducible rename News _ _ _ _ => N9
      with_reducible rename Fr _ _ _ _ => F9
      exact same (relax_none hbp) _ _ _ F9 N9 (fun z z1 => if_neg z1)
    | some u =>
      obtain ⟨tu, hv⟩ := (r1 pl).2 u hbp
      cases hbx : b x with
      | none =>
        have hvx := (r1 x).1 hbx
        by_cases hlt : u + len pl x < 99
        · k_steps
          with_reducible rename News _ _ _ _ => N9
          with_reducible rename Fr _ _ _ _ => F9
          rename DOf _ _ _ (stored _ _ _) => D9
          exact ret _ _ _ _ _ F9 N9 D9 (by rw [relax_eq hbp, if_pos ⟨hlen, by rw [hbx]; exact hlt⟩]; exact r1.stored _ _ _) (fun z z1 => if_neg z1)
        · k_steps
          with_reducible rename News _ _ _ _ => N9
          with_reducible rename Fr _ _ _ _ => F9
          exact same (by rw [relax_eq hbp]; exact if_neg (by rintro ⟨_, h⟩; rw [hbx] at h; exact hlt h)) _ _ _ F9 N9 (fun z z1 => if_neg z1)
      | some v =>
        obtain ⟨tv, hvx⟩ := (r1 x).2 v hbx
        by_cases hlt : u + len pl x < v
        · k_steps
          with_reducible rename News _ _ _ _ => N9
          with_reducible rename Fr _ _ _ _ => F9
          rename DOf _ _ _ (stored _ _ _) => D9
          exact ret _ _ _ _ _ F9 N9 D9 (by rw [relax_eq hbp, if_pos ⟨hlen, by rw [hbx]; exact hlt⟩]; exact r1.stored _ _ _) (fun z z1 => if_neg z1)
        · k_steps
          with_reducible rename News _ _ _ _ => N9
          with_reducible rename Fr _ _ _ _ => F9
          exact same (by rw [relax_eq hbp]; exact if_neg (by rintro ⟨_, h⟩; rw [hbx] at h; exact hlt h)) _ _ _ F9 N9 (fun z z1 => if_neg z1)
  · k_steps
    with_reducible rename News _ _ _ _ => N9
    with_reducible rename Fr _ _ _ _ => F9
    exact same (by cases h : b pl with
      | none => exact relax_none h
      | some u => rw [relax_eq h]; exact if_neg fun h => hlen h.1) _ _ _ F9 N9 (fun z z1 => if_neg z1)

end
section
local macro_rules | `(tactic| walk_at "pad") => `(tactic| fail)
local macro_rules | `(tactic| walk_at "pad") => `(tactic| fail)
local macro_rules | `(tactic| walk_at "pad") => `(tactic| fail)
local macro_rules | `(tactic| walk_at "pad") => `(tactic| fail)
theorem relax_sup {len : Int → Int → Int} {b : Int → Option Int} {p x M : Int} (hx0 : 0 ≤ x) (hxM : x < M) (h : ∀ k, (b k).isSome = true → 0 ≤ k ∧ k < M) : ∀ k, (relax len p x b k).isSome = true → 0 ≤ k ∧ k < M := fun k hk => by
  rcases relax_cases (len := len) p x b with e | ⟨u, _, _, _, e⟩
  · rw [e] at hk; exact h k hk
  · rw [e] at hk
    simp only [ceOn] at hk
    split at hk
    · rename_i e1; rw [e1]; exact ⟨hx0, hxM⟩
    · exact h k hk
section
variable {c1 c2 c3 c4 c5 ld bd : Addr} {M : Int} {Q' : Flow → Shared → Prop} {o1 : Obj} {rest0 : List (Addr × Obj)} {len : Int → Int → Int} {n : Nat} {ts1 : Tok}
set_option maxHeartbeats 4000000 in
theorem bf_x {pl : Int} {t1 : Tok} {rp : Addr} {nL nR : Nat} {itL itR : Array Value} {it1 it2 : Obj} {I1 I2 I3 : Addr} (B : Below A₀ base [] h₀) (X : (K w.params).In h₀) (T : Top p loose mean mg mb h₀) (hd : dp + 50 < recursionLimit) (hu : un + 150 < cLine)
    (kl : (ld, listOf itL nL) ∈ rest0) (kr : (rp, listOf itR nR) ∈ rest0) (hL : itL[pl.toNat]? = some (.ref rp)) (hR : ∀ j : Nat, j < n → ∃ t, itR[j]? = some (.int (len pl j) t)) (hp0 : 0 ≤ pl) (hp5 : pl < 5) (hMn : M = n) (hM5 : M ≤ 5) (lbd : (bd == sysModules) = false)
    (l1 : @Ne Nat I1 bd) (l2 : @Ne Nat I2 bd) (l3 : @Ne Nat I3 bd) (n0 : ∀ p ∈ rest0, p.1 ≠ bd) (n3 : ∀ p ∈ rest0, p.1 ≠ I3) (l13 : @Ne Nat I1 I3) (l23 : @Ne Nat I2 I3) :
    ∀ (k i : Nat) (b : Int → Option Int) (kvs : List (Int × Value)) (ob : Obj) (m : Str → Option Value), i + k = n → DOf prog w ob kvs → Rep kvs b → (∀ k, (b k).isSome = true → 0 ≤ k ∧ k < M) →
      m "place" = some (.int pl t1) → m "lengths" = some (.ref ld) → m "best" = some (.ref bd) →
      (∀ h' tk' ob' kvs' m', Fr h₀ L h' m' → News h₀ L h' ((I2, it2) :: (I1, it1) :: (bd, ob') :: rest0) → DOf prog w ob' kvs' → Rep kvs' (bfX len pl k i b) → (∀ k', (bfX len pl k i b k').isSome = true → 0 ≤ k' ∧ k' < M) → (∀ z : Str, z ≠ "length" → z ≠ "other" → m' z = m z) → Q' .next { s with heap := h', toks := tk' }) →
      KrsRest prog w (lwA dp un gd L a c1 c2 c3 c4 c5) E h₀ (lwE L a c1 c2 c3 c4 c5) "other" bfB3 Q' s I3 0 1 n k i m ((I2, it2) :: (I1, it1) :: (bd, ob) :: rest0) := by
  intro k
  induction k with
  | zero =>
    intro i b kvs ob m hi d1 r1 sup mp ml mb' ret
    exact KrsRest.zero fun h tk F N => ret h tk ob kvs m F N d1 r1 sup fun _ _ _ => rfl
  | succ k ih =>
    intro i b kvs ob m hi d1 r1 sup mp ml mb' ret
    refine KrsRest.succ (v := (i : Int)) (by omega) fun t h tk F N => ?_
    obtain ⟨tl9, hRi⟩ := hR i (by omega)
    have xi0 : (0 : Int) ≤ i := by omega
    have xiM : (i : Int) < M := by omega
    refine bf_body (x := (i : Int)) (t1 := t1) (t3 := t) (tl9 := tl9) B X T hd hu kl kr hL (by simpa using hRi) hp0 hp5 xi0 xiM hM5 lbd F N l1 l2 l3 n0 d1 r1 sup ((if_neg (by decide)).trans mp) ((if_neg (by decide)).trans ml) (if_pos rfl) ((if_neg (by decide)).trans mb') ?_
    intro h' tk' ob' kvs' m' F' N' d' r' hm'
    refine UnrEnd.intro F' N' ((I2, it2) :: (I1, it1) :: (bd, ob') :: rest0) (fun p hp => hp) ?_ (ih (i + 1) (relax len pl i b) kvs' ob' m' (by omega) d' r' (relax_sup xi0 xiM sup) ?_ ?_ ?_ ?_)
    · exact List.forall_mem_cons.mpr ⟨l23, List.forall_mem_cons.mpr ⟨l13, List.forall_mem_cons.mpr ⟨Ne.symm l3, n3⟩⟩⟩
    · rw [hm' _ (by decide)]; exact (if_neg (by decide)).trans mp
    · rw [hm' _ (by decide)]; exact (if_neg (by decide)).trans ml
    · rw [hm' _ (by decide)]; exact (if_neg (by decide)).trans mb'
    · intro h'' tk'' ob'' kvs'' m'' F'' N'' d'' r'' sup'' hm''
      exact ret h'' tk'' ob'' kvs'' m'' F'' N'' d'' r'' sup'' fun z z1 z2 => by rw [hm'' z z1 z2, hm' z z1]; exact if_neg z2
set_option maxHeartbeats 4000000 in
theorem bf_p {it1 : Obj} {I1 I2 : Addr} (B : Below A₀ base [] h₀) (X : (K w.params).In h₀) (T : Top p loose mean mg mb h₀) (hd : dp + 50 < recursionLimit) (hu : un + 150 < cLine)
    (k1 : (c1, o1) ∈ rest0) (k1' : IsCell o1 (.int n ts1)) (hL : LenIn ld len n rest0) (hMn : M = n) (hM5 : M ≤ 5) (lbd : (bd == sysModules) = false)
    (l1 : @Ne Nat I1 bd) (l2 : @Ne Nat I2 bd) (n0 : ∀ p ∈ rest0, p.1 ≠ bd) (n2 : ∀ p ∈ rest0, p.1 ≠ I2) (l12 : @Ne Nat I1 I2) (hE : PassesOwn (model prog w) (lwA dp un gd L a c1 c2 c3 c4 c5) (lwE L a c1 c2 c3 c4 c5) E) :
    ∀ (k i : Nat) (b : Int → Option Int) (kvs : List (Int × Value)) (ob : Obj) (m : Str → Option Value), i + k = n → DOf prog w ob kvs → Rep kvs b → (∀ k, (b k).isSome = true → 0 ≤ k ∧ k < M) →
      m "lengths" = some (.ref ld) → m "best" = some (.ref bd) →
      (∀ h' tk' ob' kvs' m', Fr h₀ L h' m' → News h₀ L h' ((I1, it1) :: (bd, ob') :: rest0) → DOf prog w ob' kvs' → Rep kvs' (bfP len n k i b) → (∀ k', (bfP len n k i b k').isSome = true → 0 ≤ k' ∧ k' < M) → (∀ z : Str, z ≠ "length" → z ≠ "other" → z ≠ "place" → m' z = m z) → Q' .next { s with heap := h', toks := tk' }) →
      KrsRest prog w (lwA dp un gd L a c1 c2 c3 c4 c5) E h₀ (lwE L a c1 c2 c3 c4 c5) "place" bfB2 Q' s I2 0 1 n k i m ((I1, it1) :: (bd, ob) :: rest0) := by
  intro k
  induction k with
  | zero =>
    intro i b kvs ob m hi d1 r1 sup ml mb' ret
    exact KrsRest.zero fun h tk F N => ret h tk ob kvs m F N d1 r1 sup fun _ _ _ _ => rfl
  | succ k ih =>
    intro i b kvs ob m hi d1 r1 sup ml mb' ret
    refine KrsRest.succ (v := (i : Int)) (by omega) fun t h tk F N => ?_
    obtain ⟨itL, nL, kl, hrow⟩ := hL
    obtain ⟨rp, itR, nR, hLp, kr, hR⟩ := hrow i (by omega)
    refine wpAny_execs_cons ?_
    k_dflt (refine lw_range (n := n) (ts := ts1) (by omega) X T F N (.tail _ (.tail _ (.tail _ k1))) k1' (by with_unfolding_all rfl) hE fun h₁ tk₁ I3 hI3 => ?_)
    refine bf_x (pl := (i : Int)) (t1 := t) (n := n) (itL := itL) (itR := itR) (I2 := I2) (I1 := I1) B X T hd hu kl kr (by simpa using hLp) hR (by omega) (by omega) hMn hM5 lbd l1 l2 (Ne.symm (Nat.ne_of_lt (hI3 (bd, ob) (.tail _ (.tail _ (.head _)))))) n0 (fun p hp => Nat.ne_of_lt (hI3 p (.tail _ (.tail _ (.tail _ hp))))) (Nat.ne_of_lt (hI3 (I1, it1) (.tail _ (.head _)))) (Nat.ne_of_lt (hI3 (I2, _) (.head _))) n 0 b kvs ob _ (by omega) d1 r1 sup (if_pos rfl) ((if_neg (by decide)).trans ml) ((if_neg (by decide)).trans mb') ?_
    intro h' tk' ob' kvs' m' F' N' d' r' sup' hm'
    show wpAny _ _ (execs [] _) _ _ _
    refine wpAny_execs_nil ?_
    refine UnrEnd.intro F' N' ((I1, it1) :: (bd, ob') :: rest0) (fun p hp => hp) ?_ (ih (i + 1) (bfX len i n 0 b) kvs' ob' m' (by omega) d' r' sup' ?_ ?_ ?_)
    · exact List.forall_mem_cons.mpr ⟨l12, List.forall_mem_cons.mpr ⟨Ne.symm l2, n2⟩⟩
    · rw [hm' _ (by decide) (by decide)]; exact (if_neg (by decide)).trans ml
    · rw [hm' _ (by decide) (by decide)]; exact (if_neg (by decide)).trans mb'
    · intro h'' tk'' ob'' kvs'' m'' F'' N'' d'' r'' sup'' hm''
      exact ret h'' tk'' ob'' kvs'' m'' F'' N'' d'' r'' sup'' fun z z1 z2 z3 => by rw [hm'' z z1 z2 z3, hm' z z1 z2]; exact if_neg z3
set_option maxHeartbeats 4000000 in
theorem bf_t {I1 : Addr} (B : Below A₀ base [] h₀) (X : (K w.params).In h₀) (T : Top p loose mean mg mb h₀) (hd : dp + 50 < recursionLimit) (hu : un + 150 < cLine)
    (k1 : (c1, o1) ∈ rest0) (k1' : IsCell o1 (.int n ts1)) (hL : LenIn ld len n rest0) (hMn : M = n) (hM5 : M ≤ 5) (lbd : (bd == sysModules) = false)
    (l1 : @Ne Nat I1 bd) (n0 : ∀ p ∈ rest0, p.1 ≠ bd) (n1 : ∀ p ∈ rest0, p.1 ≠ I1) (hE : PassesOwn (model prog w) (lwA dp un gd L a c1 c2 c3 c4 c5) (lwE L a c1 c2 c3 c4 c5) E) :
    ∀ (k i : Nat) (b : Int → Option Int) (kvs : List (Int × Value)) (ob : Obj) (m : Str → Option Value), i + k = n → DOf prog w ob kvs → Rep kvs b → (∀ k, (b k).isSome = true → 0 ≤ k ∧ k < M) →
      m "lengths" = some (.ref ld) → m "best" = some (.ref bd) →
      (∀ h' tk' ob' kvs' m', Fr h₀ L h' m' → News h₀ L h' ((bd, ob') :: rest0) → DOf prog w ob' kvs' → Rep kvs' (bfT len n k b) → (∀ k', (bfT len n k b k').isSome = true → 0 ≤ k' ∧ k' < M) → (∀ z : Str, z ≠ "length" → z ≠ "other" → z ≠ "place" → z ≠ "turn" → m' z = m z) → Q' .next { s with heap := h', toks := tk' }) →
      KrsRest prog w (lwA dp un gd L a c1 c2 c3 c4 c5) E h₀ (lwE L a c1 c2 c3 c4 c5) "turn" bfB1 Q' s I1 0 1 n k i m ((bd, ob) :: rest0) := by
  intro k
  induction k with
  | zero =>
    intro i b kvs ob m hi d1 r1 sup ml mb' ret
    exact KrsRest.zero fun h tk F N => ret h tk ob kvs m F N d1 r1 sup fun _ _ _ _ _ => rfl
  | succ k ih =>
    intro i b kvs ob m hi d1 r1 sup ml mb' ret
    refine KrsRest.succ (v := (i : Int)) (by omega) fun t h tk F N => ?_
    refine wpAny_execs_cons ?_
    k_dflt (refine lw_range (n := n) (ts := ts1) (by omega) X T F N (.tail _ (.tail _ k1)) k1' (by with_unfolding_all rfl) hE fun h₁ tk₁ I2 hI2 => ?_)
    refine bf_p (o1 := o1) (ts1 := ts1) (n := n) (I1 := I1) B X T hd hu k1 k1' hL hMn hM5 lbd l1 (Ne.symm (Nat.ne_of_lt (hI2 (bd, ob) (.tail _ (.head _))))) n0 (fun p hp => Nat.ne_of_lt (hI2 p (.tail _ (.tail _ hp)))) (Nat.ne_of_lt (hI2 (I1, _) (.head _))) hE n 0 b kvs ob _ (by omega) d1 r1 sup ((if_neg (by decide)).trans ml) ((if_neg (by decide)).trans mb') ?_
    intro h' tk' ob' kvs' m' F' N' d' r' sup' hm'
    show wpAny _ _ (execs [] _) _ _ _
    refine wpAny_execs_nil ?_
    refine UnrEnd.intro F' N' ((bd, ob') :: rest0) (fun p hp => hp) (List.forall_mem_cons.mpr ⟨Ne.symm l1, n1⟩) (ih (i + 1) (bfP len n n 0 b) kvs' ob' m' (by omega) d' r' sup' ?_ ?_ ?_)
    · rw [hm' _ (by decide) (by decide) (by decide)]; exact (if_neg (by decide)).trans ml
    · rw [hm' _ (by decide) (by decide) (by decide)]; exact (if_neg (by decide)).trans mb'
    · intro h'' tk'' ob'' kvs'' m'' F'' N'' d'' r'' sup'' hm''
      exact ret h'' tk'' ob'' kvs'' m'' F'' N'' d'' r'' sup'' fun z z1 z2 z3 z4 => by rw [hm'' z z1 z2 z3 z4, hm' z z1 z2 z3]; exact if_neg z4
set_option maxHeartbeats 4000000 in
theorem bf_all {b : Int → Option Int} {kvs : List (Int × Value)} {ob : Obj} (B : Below A₀ base [] h₀) (X : (K w.params).In h₀) (T : Top p loose mean mg mb h₀) (hd : dp + 50 < recursionLimit) (hu : un + 150 < cLine) (F : Fr h₀ L s.heap m) (N : News h₀ L s.heap ((bd, ob) :: rest0))
    (k1 : (c1, o1) ∈ rest0) (k1' : IsCell o1 (.int n ts1)) (hL : LenIn ld len n rest0) (hMn : M = n) (hM5 : M ≤ 5) (lbd : (bd == sysModules) = false) (n0 : ∀ p ∈ rest0, p.1 ≠ bd) (hE : PassesOwn (model prog w) (lwA dp un gd L a c1 c2 c3 c4 c5) (lwE L a c1 c2 c3 c4 c5) E)
    (d1 : DOf prog w ob kvs) (r1 : Rep kvs b) (sup : ∀ k, (b k).isSome = true → 0 ≤ k ∧ k < M) (ml : m "lengths" = some (.ref ld)) (mb' : m "best" = some (.ref bd))
    (ret : ∀ h' tk' ob' kvs' m', Fr h₀ L h' m' → News h₀ L h' ((bd, ob') :: rest0) → DOf prog w ob' kvs' → Rep kvs' (bfT len n n b) → (∀ k', (bfT len n n b k').isSome = true → 0 ≤ k' ∧ k' < M) → (∀ z : Str, z ≠ "length" → z ≠ "other" → z ≠ "place" → z ≠ "turn" → m' z = m z) → Q' .next { s with heap := h', toks := tk' }) :
    wpAny (model prog w) (lwA dp un gd L a c1 c2 c3 c4 c5) (exec bfS1 (lwE L a c1 c2 c3 c4 c5)) Q' E s := by
  k_dflt (refine lw_range (n := n) (ts := ts1) (by omega) X T F N (.tail _ k1) k1' (by with_unfolding_all rfl) hE fun h₁ tk₁ I1 hI1 => ?_)
  exact bf_t (o1 := o1) (ts1 := ts1) B X T hd hu k1 k1' hL hMn hM5 lbd (Ne.symm (Nat.ne_of_lt (hI1 (bd, ob) (.head _)))) n0 (fun p hp => Nat.ne_of_lt (hI1 p (.tail _ hp))) hE n 0 b kvs ob _ (by omega) d1 r1 sup ml mb' ret
end

end
section
local macro_rules | `(tactic| walk_at "pad") => `(tactic| fail)
local macro_rules | `(tactic| walk_at "pad") => `(tactic| fail)
local macro_rules | `(tactic| walk_at "pad") => `(tactic| fail)
local macro_rules | `(tactic| walk_at "pad") => `(tactic| fail)
local macro_rules | `(tactic| walk_at "pad") => `(tactic| fail)
local macro_rules | `(tactic| walk_at "pad") => `(tactic| fail)
local macro_rules | `(tactic| walk_at "pad") => `(tactic| fail)
local macro_rules | `(tactic| walk_at "call ref") => `(tactic| (k_here; (first | (with_reducible show wpAny _ _ (call (Value.ref 974) _) _ _ _) | (with_reducible show wpAny _ _ (call (Value.ref 1177) _) _ _ _) | (with_reducible show wpAny _ _ (call (Value.ref 950) _) _ _ _) | (with_reducible show wpAny _ _ (call (Value.ref 1206) _) _ _ _)); refine stop_here ?_))
local macro_rules | `(tactic| walk_at "subscriptTail") => `(tactic| (k_here; (with_reducible show wpAny _ _ (subscriptTail _ _ (Value.ref _) (Value.int _ _)) _ _ _); k_dflt (refine' l_at ?N ?m ?a ?v ?z ?_; (case N => k_asm); (case m => k_mem); (case v => k_asm); (case a => first | assumption | omega); (case z => omega); k_whole)))
@[reducible] def whS0 : Stmt := by
  refine' Subtype.val (p := fun d => at_ whB 0 = d) ⟨_, ?h⟩
  case h =>
    conv => lhs; whnf
set_option maxHeartbeats 4000000 in
theorem tick_walk {c1 c2 c3 c4 c5 hl : Addr} {H : Int} {tH : Tok} {nh : Nat} {o5 : Obj} {rest0 : List (Addr × Obj)} {Q' : Flow → Shared → Prop} (B : Below A₀ base [] h₀) (X : (K w.params).In h₀) (T : Top p loose mean mg mb h₀) (hd : dp + 50 < recursionLimit) (hu : un + 150 < cLine)
    (F : Fr h₀ L s.heap m) (N : News h₀ L s.heap ((hl, listOf #[.int H tH] nh) :: rest0)) (k5 : (c5, o5) ∈ rest0) (k5' : IsCell o5 (.ref hl)) (n0 : ∀ p ∈ rest0, p.1 ≠ hl)
    (ret : ∀ h' tk' t' nh', Fr h₀ L h' m → News h₀ L h' ((hl, listOf #[.int (H + 1) t'] nh') :: rest0) → Q' .next { s with heap := h', toks := tk' }) :
    wpAny (model prog w) (lwA dp un gd L a c1 c2 c3 c4 c5) (exec whS0 (lwE L a c1 c2 c3 c4 c5)) Q' E s := by
  k_steps
  with_reducible rename News _ _ _ _ => N9
  with_reducible rename Fr _ _ _ _ => F9
  exact ret _ _ _ _ F9 N9
theorem for_told {c1 c2 c3 c4 c5 le : Addr} {lo : Obj} {Q' : Flow → Shared → Prop} {target : Expr} {body : List Stmt} {ps pos : Pos} {vs : List Value} {nn : Nat} (F : Fr h₀ L s.heap m) (N : News h₀ L s.heap news) (kle : (le, lo) ∈ news) (hc : lo.cls = .type "list") (hdt : lo.data = .seq vs.toArray nn) (mt : m "told" = some (.ref le))
    (hE : PassesOwn (model prog w) (lwA dp un gd L a c1 c2 c3 c4 c5) (lwE L a c1 c2 c3 c4 c5) E)
    (rest₀ : ∀ I : Addr, (∀ p ∈ news, p.1 < I) → ItemsRest prog w (lwA dp un gd L a c1 c2 c3 c4 c5) E h₀ (lwE L a c1 c2 c3 c4 c5) target body Q' s [(I, "list_iterator")] [(le, lo)] (vs.map .val) m news) :
    wpAny (model prog w) (lwA dp un gd L a c1 c2 c3 c4 c5) (exec (.For target (.Name "told" ps) body [] pos) (lwE L a c1 c2 c3 c4 c5)) Q' E s := by
  refine For_turns (h₀ := h₀) (m := m) F ?_ (by intro _; rfl) hE
  exact lw_ld F mt (by with_unfolding_all rfl) (iter_listTurns rfl F N kle hc hdt rest₀) (by decide)
section
variable {c dc tm dt da di clk cc hc hl ttu tc : Addr} {M H : Int} {ce : Int → Option Int} {cl : Prop} {xz : Nat} {own mu rest : List (Addr × Obj)}
theorem CalL.tick {h : Heap} {led : List (Addr × Obj)} (C : CalL prog w h₀ c dc tm dt da di clk cc hc hl ttu tc M H ce cl xz own rest) (N : News h₀ L h led) (hs : ∀ p ∈ rest, p ∈ led) (oh : ∀ p ∈ own, p.1 ≠ hl) (O : Ords c dc tm dt da di clk cc hc hl ttu tc) (t' : Tok) (nh' : Nat) :
    CalL prog w h₀ c dc tm dt da di clk cc hc hl ttu tc M (H + 1) ce cl xz own ((hl, listOf #[.int (H + 1) t'] nh') :: offL hl rest) := by
  cases C with
  | mk od t1 t2 t3 t4 t5 t6 t7 u1 u2 u3 tk0 tH tv1 tv2 tM tcur tT0 T0 doc1 pm1 ct1 doc2 pm2 ct2 oda odi occ och otc nh no vs1 vs2 cN pN xs ik dk kf rf lv tl sub hoc hoc1 hch hot hot1 hCd q n1 n2 n3 n4 n5 hda hdi hxl hI hH hb hce hcl sup hown =>
    have hl0 := hs _ (sub (hl, listOf #[.int H tH] nh) (.tail _ (.tail _ (.tail _ (.tail _ (.tail _ (.tail _ (.tail _ (.tail _ (.tail _ (.tail _ (.head _))))))))))))
    have I2 : Its kf rf xs (offL hl tl) := fun p hp => by
      obtain ⟨dx, te, tk, a, b⟩ := hI p hp
      have a' := hs _ (sub _ (by simp only [List.mem_cons, a, or_true] : (p.1, itO dx (.int p.2 te) (.int (kf p.1) tk) (.bool (rf p.1))) ∈ _))
      have b' := hs _ (sub _ (by simp only [List.mem_cons, b, or_true] : (dx, dictOf [] 0) ∈ _))
      exact ⟨dx, te, tk, offL_mem a (it_ne N hl0 a' (.inl (fun e => by cases e))), offL_mem b (it_ne N hl0 b' (.inl (fun e => absurd (Value.type.inj e) (by decide))))⟩
    refine .mk od t1 t2 t3 t4 t5 t6 t7 u1 u2 u3 tk0 t' tv1 tv2 tM tcur tT0 T0 doc1 pm1 ct1 doc2 pm2 ct2 oda odi occ och otc nh' no vs1 vs2 cN pN xs ik dk kf rf lv (offL hl tl) ?_ hoc hoc1 hch hot hot1 hCd q (fun p hp => n1 p (offL_sub p hp)) (fun p hp => n2 p (offL_sub p hp)) (fun p hp => n3 p (offL_sub p hp)) (fun p hp => n4 p (offL_sub p hp)) (fun p hp => n5 p (offL_sub p hp)) hda hdi hxl I2 hH hb hce hcl sup (fun p hp => offL_mem (hown p hp) (oh p hp))
    refine List.forall_mem_cons.mpr ⟨.tail _ (offL_mem (sub _ (.head _)) (Ne.symm (Nat.ne_of_lt (by have := O.o2; have := O.o3; have := O.o4; have := O.o5; have := O.o6; have := O.o7; omega)))), ?_⟩
    refine List.forall_mem_cons.mpr ⟨.tail _ (offL_mem (sub _ (.tail _ (.head _))) (Ne.symm (Nat.ne_of_lt (by have := O.o2; have := O.o3; have := O.o4; have := O.o5; have := O.o6; omega)))), ?_⟩
    refine List.forall_mem_cons.mpr ⟨.tail _ (offL_mem (sub _ (.tail _ (.tail _ (.head _)))) (Ne.symm (Nat.ne_of_lt (by have := O.o2; have := O.o3; have := O.o4; have := O.o5; have := O.o6; have := O.o7; have := O.o8; have := O.o9; have := O.o10; omega)))), ?_⟩
    refine List.forall_mem_cons.mpr ⟨.tail _ (offL_mem (sub _ (.tail _ (.tail _ (.tail _ (.head _))))) (Ne.symm (Nat.ne_of_lt (by have := O.o2; have := O.o3; have := O.o4; have := O.o5; have := O.o6; have := O.o7; have := O.o8; have := O.o9; omega)))), ?_⟩
    refine List.forall_mem_cons.mpr ⟨.tail _ (offL_mem (sub _ (.tail _ (.tail _ (.tail _ (.tail _ (.head _)))))) (Ne.symm (Nat.ne_of_lt (by have := O.o2; have := O.o3; have := O.o4; have := O.o5; have := O.o6; have := O.o7; have := O.o8; omega)))), ?_⟩
    refine List.forall_mem_cons.mpr ⟨.tail _ (offL_mem (sub _ (.tail _ (.tail _ (.tail _ (.tail _ (.tail _ (.head _))))))) (Ne.symm (Nat.ne_of_lt (by have := O.o2; have := O.o3; have := O.o4; have := O.o5; have := O.o6; have := O.o7; have := O.o8; have := O.o9; have := O.o10; have := O.o11; omega)))), ?_⟩
    refine List.forall_mem_cons.mpr ⟨.tail _ (offL_mem (sub _ (.tail _ (.tail _ (.tail _ (.tail _ (.tail _ (.tail _ (.head _)))))))) (Ne.symm (q hl (.tail _ (.tail _ (.tail _ (.tail _ (.tail _ (.tail _ (.tail _ (.tail _ (.tail _ (.head _))))))))))))), ?_⟩
    refine List.forall_mem_cons.mpr ⟨.tail _ (offL_mem (sub _ (.tail _ (.tail _ (.tail _ (.tail _ (.tail _ (.tail _ (.tail _ (.head _))))))))) (Ne.symm (Nat.ne_of_lt (by have := O.o2; have := O.o3; omega)))), ?_⟩
    refine List.forall_mem_cons.mpr ⟨.tail _ (offL_mem (sub _ (.tail _ (.tail _ (.tail _ (.tail _ (.tail _ (.tail _ (.tail _ (.tail _ (.head _)))))))))) (Ne.symm (Nat.ne_of_lt O.o2))), ?_⟩
    refine List.forall_mem_cons.mpr ⟨.tail _ (offL_mem (sub _ (.tail _ (.tail _ (.tail _ (.tail _ (.tail _ (.tail _ (.tail _ (.tail _ (.tail _ (.head _))))))))))) (Nat.ne_of_lt O.o1)), ?_⟩
    refine List.forall_mem_cons.mpr ⟨.head _, ?_⟩
    refine List.forall_mem_cons.mpr ⟨.tail _ (offL_mem (sub _ (.tail _ (.tail _ (.tail _ (.tail _ (.tail _ (.tail _ (.tail _ (.tail _ (.tail _ (.tail _ (.tail _ (.head _))))))))))))) (Ne.symm (Nat.ne_of_lt (by have := O.o2; have := O.o3; have := O.o4; have := O.o5; omega)))), ?_⟩
    refine List.forall_mem_cons.mpr ⟨.tail _ (offL_mem (sub _ (.tail _ (.tail _ (.tail _ (.tail _ (.tail _ (.tail _ (.tail _ (.tail _ (.tail _ (.tail _ (.tail _ (.tail _ (.head _)))))))))))))) (Ne.symm (Nat.ne_of_lt (by have := O.o2; have := O.o3; have := O.o4; omega)))), ?_⟩
    exact fun p hp => .tail _ (offL_mem (sub p (by simp only [List.mem_cons, offL_sub p hp, or_true])) (offL_ne p hp))
end
@[reducible] def whS1 : Stmt := by
  refine' Subtype.val (p := fun d => at_ whB 1 = d) ⟨_, ?h⟩
  case h =>
    conv => lhs; whnf
set_option maxHeartbeats 4000000 in
theorem wh1 {c1 c2 c3 c4 rd kn : Addr} {c dc tm dt da di clk cc hc hl ttu tc : Addr} {M H : Int} {ce : Int → Option Int} {cl : Prop} {xz : Nat} {Q' : Flow → Shared → Prop} {o2 ord okn : Obj} {rest own : List (Addr × Obj)}
    (B : Below A₀ base [] h₀) (X : (K w.params).In h₀) (T : Top p loose mean mg mb h₀) (hd : dp + 50 < recursionLimit) (hu : un + 150 < cLine) (O : Ords c dc tm dt da di clk cc hc hl ttu tc) (hM5 : M ≤ 5) (hxz : xz ≤ 800)
    (k2 : (c2, o2) ∈ own) (k2' : IsCell o2 (.ref c)) (F : Fr h₀ L s.heap m) (N : News h₀ L s.heap ([(rd, ord), (kn, okn)] ++ rest)) (Ap : Apart [(rd, ord), (kn, okn)] rest) (Ni : NotIt own) (C : CalL prog w h₀ c dc tm dt da di clk cc hc hl ttu tc M H ce cl xz own rest)
    (S1 : ∀ q ∈ [(rd, ord), (kn, okn)], q.2.cls = .type "dict") (S2 : (∀ q ∈ [(rd, ord), (kn, okn)], q.2 ≠ dictOf [] 0) ∨ (cl ∧ ∀ k e, ce k = some e → e ≤ H))
    (ret : ∀ h' tk' rest' (ts : List (Addr × (Int × Int))) le ne own' ce', Fr h₀ L h' (fun z => if z = "told" then some (.ref le) else m z) → News h₀ L h' ([(rd, ord), (kn, okn)] ++ rest') → Apart [(rd, ord), (kn, okn)] rest' → CalL prog w h₀ c dc tm dt da di clk cc hc hl ttu tc M H ce' cl xz own' rest' → ToldC ce ce' H (ts.map (·.2)) →
      NotIt own' → (∀ p ∈ own, p ∈ own') → (le, listOf (tupRefs ts) ne) ∈ own' → TupsIn ts own' → Q' .next { s with heap := h', toks := tk' }) :
    wpAny (model prog w) (lwA dp un gd L a c1 c2 c3 c4 hc) (exec whS1 (lwE L a c1 c2 c3 c4 hc)) Q' E s := by
  have k2r := C.ownIn _ k2
  obtain ⟨i1, od, cur, mx, s1, s2, s3, s4, s5, s6, s7, i2⟩ := C.inst
  change News h₀ L s.heap ((rd, ord) :: (kn, okn) :: rest) at N
  k_steps
  refine Stop.go ?_
  with_reducible rename News _ _ _ _ => N9
  with_reducible rename Fr _ _ _ _ => F9
  refine law_expire (mu := [(rd, ord), (kn, okn)]) B F9 X T (by omega) (by omega) O N9 Ap (fun q hq h => by rw [S1 q hq] at h; cases h) Ni C hM5 hxz S1 S2 ?_
  intro h5 tk5 rest5 ts le ne own5 ce5 F5 N5 Ap5 C5 T5 Ni5 sub5 kle5 tu5
  clear i1 i2 N9 F9
  change News h₀ L h5 ((rd, ord) :: (kn, okn) :: rest5) at N5
  k_steps
  with_reducible rename News _ _ _ _ => N9
  with_reducible rename Fr _ _ _ _ => F9
  exact ret _ _ rest5 ts le ne own5 ce5 F9 N9 Ap5 C5 T5 Ni5 sub5 kle5 tu5

end
section
section
variable {c dc tm dt da di clk cc hc hl ttu tc : Addr} {M H : Int} {ce ce' : Int → Option Int} {cl cl' : Prop} {xz : Nat} {own led mu rest : List (Addr × Obj)} {cll : List (Str × Addr)}
theorem rebundle0 {h' : Heap} {od : Addr} {t1 t2 t3 t4 t5 t6 t7 u1 u2 u3 tk0 tH tv1 tv2 tM tcur tT0 : Tok} {T0 : Int} {doc1 pm1 ct1 doc2 pm2 ct2 : Value} {oda odi occ och otc : Obj} {nh no : Nat} {vs1 vs2 : Array Value} {cN pN : Addr} {xs : List (Addr × Int)} {ik dk : List (Int × Value)} {kf : Addr → Int} {rf : Addr → Bool} {lv : Lv} {tl : List (Addr × Obj)}
    (N : News h₀ L h' ((c, instObj 1231 dc) :: (dc, calD w.params t1 t2 t3 t4 t5 t6 t7 (.ref da) (.int dk.length tcur) (.int M tM) (.ref tm) (.ref di) (.ref od) (.ref ttu)) :: (tm, instObj 922 dt) ::
      (dt, tmD w.params u1 u2 u3 (.ref clk) (.int 0 tk0) (.int T0 tT0)) :: (da, oda) :: (di, odi) :: (od, (listOf (vals xs) no)) :: (clk, clkO hc doc1 pm1 cc ct1) :: (cc, occ) :: (hc, och) :: (hl, listOf #[.int H tH] nh) :: (ttu, endO doc2 pm2 tc ct2) :: (tc, otc) :: (mu ++ tl))) (hoc : occ.data = .fields vs1) (hoc1 : vs1[1]? = some (.str "law.<locals>.clock" tv1)) (hch : och.data = .cell (some (.ref hl))) (hot : otc.data = .fields vs2) (hot1 : vs2[1]? = some (.str "law.<locals>.end" tv2)) (hCd : CodeHd h₀ cN pN) (q : AllAp od [c, dc, tm, dt, da, di, clk, cc, hc, hl, ttu, tc]) (n1 : ∀ p ∈ tl, p.1 ≠ dc) (n2 : ∀ p ∈ tl, p.1 ≠ da) (n3 : ∀ p ∈ tl, p.1 ≠ dt) (n4 : ∀ p ∈ tl, p.1 ≠ di) (n5 : ∀ p ∈ tl, p.1 ≠ od)
    (hda : DOf prog w oda dk) (hdi : DOf prog w odi ik) (hxl : xs.length ≤ xz) (hI : Its kf rf xs tl) (hH : HP xs 0) (hb : Book kf rf lv xs ik dk) (hce : ∀ k, (lv k).map (·.2) = ce k) (hcl : cl → ∀ a, rf a = false)
    (sup : ∀ k, (ce k).isSome = true → 0 ≤ k ∧ k < M) (hown : ∀ p ∈ own, p ∈ tl) (amt : Apart mu tl) (m5 : ∀ q ∈ mu, od ≠ q.1)
    (ax : ∀ q ∈ mu, ∀ d ∈ ([c, dc, tm, dt, da, di, clk, cc, hc, hl, ttu, tc] : List Addr), d ≠ q.1) :
    ∃ rest', News h₀ L h' (mu ++ rest') ∧ Apart mu rest' ∧ CalL prog w h₀ c dc tm dt da di clk cc hc hl ttu tc M H ce cl xz own rest' := by
  refine ⟨(c, instObj 1231 dc) :: (dc, calD w.params t1 t2 t3 t4 t5 t6 t7 (.ref da) (.int dk.length tcur) (.int M tM) (.ref tm) (.ref di) (.ref od) (.ref ttu)) :: (tm, instObj 922 dt) ::
      (dt, tmD w.params u1 u2 u3 (.ref clk) (.int 0 tk0) (.int T0 tT0)) :: (da, oda) :: (di, odi) :: (od, (listOf (vals xs) no)) :: (clk, clkO hc doc1 pm1 cc ct1) :: (cc, occ) :: (hc, och) :: (hl, listOf #[.int H tH] nh) :: (ttu, endO doc2 pm2 tc ct2) :: (tc, otc) :: tl, fun p hp => ?_, fun q hq p hp => ?_, .mk od t1 t2 t3 t4 t5 t6 t7 u1 u2 u3 tk0 tH tv1 tv2 tM tcur tT0 T0 doc1 pm1 ct1 doc2 pm2 ct2 oda odi occ och otc nh no vs1 vs2 cN pN xs ik dk kf rf lv tl (fun _ h => h) hoc hoc1 hch hot hot1 hCd q n1 n2 n3 n4 n5 hda hdi hxl hI hH hb hce hcl sup hown⟩
  · rcases List.mem_append.mp hp with hp | hp
    · exact N p (by simp only [List.mem_cons, List.mem_append, hp, true_or, or_true])
    · refine N p ?_
      simp only [List.mem_cons, List.mem_append] at hp ⊢
      rcases hp with h | h | h | h | h | h | h | h | h | h | h | h | h | h <;> simp only [h, true_or, or_true]
  · have a := ax q hq
    simp only [List.mem_cons] at hp
    rcases hp with rfl | rfl | rfl | rfl | rfl | rfl | rfl | rfl | rfl | rfl | rfl | rfl | rfl | h
    · exact a _ (.head _)
    · exact a _ (.tail _ (.head _))
    · exact a _ (.tail _ (.tail _ (.head _)))
    · exact a _ (.tail _ (.tail _ (.tail _ (.head _))))
    · exact a _ (.tail _ (.tail _ (.tail _ (.tail _ (.head _)))))
    · exact a _ (.tail _ (.tail _ (.tail _ (.tail _ (.tail _ (.head _))))))
    · exact m5 q hq
    · exact a _ (.tail _ (.tail _ (.tail _ (.tail _ (.tail _ (.tail _ (.head _)))))))
    · exact a _ (.tail _ (.tail _ (.tail _ (.tail _ (.tail _ (.tail _ (.tail _ (.head _))))))))
    · exact a _ (.tail _ (.tail _ (.tail _ (.tail _ (.tail _ (.tail _ (.tail _ (.tail _ (.head _)))))))))
    · exact a _ (.tail _ (.tail _ (.tail _ (.tail _ (.tail _ (.tail _ (.tail _ (.tail _ (.tail _ (.head _))))))))))
    · exact a _ (.tail _ (.tail _ (.tail _ (.tail _ (.tail _ (.tail _ (.tail _ (.tail _ (.tail _ (.tail _ (.head _)))))))))))
    · exact a _ (.tail _ (.tail _ (.tail _ (.tail _ (.tail _ (.tail _ (.tail _ (.tail _ (.tail _ (.tail _ (.tail _ (.head _))))))))))))
    · exact amt q hq p h
theorem law_get1b {k e : Int} {tq tk9 : Tok} (B : Below A₀ base [] h₀) (F : Fr h₀ L s.heap m) (X : (K w.params).In h₀) (T : Top p loose mean mg mb h₀) (hd : dp + 40 < recursionLimit) (hu : un + 120 < cLine) (O : Ords c dc tm dt da di clk cc hc hl ttu tc)
    (N : News h₀ L s.heap (mu ++ rest)) (Ap : Apart mu rest) (C : CalL prog w h₀ c dc tm dt da di clk cc hc hl ttu tc M H ce cl xz own rest) (hM5 : M ≤ 5) (hk : ce k = some e) (hHe : H < e)
    (ret : ∀ h' tk' rest' te, Fr h₀ L h' m → News h₀ L h' (mu ++ rest') → Apart mu rest' → CalL prog w h₀ c dc tm dt da di clk cc hc hl ttu tc M H ce cl xz own rest' → Q (.int e te) { s with heap := h', toks := tk' }) :
    wpAny (model prog w) (ktrTop dp un gd cn (fsc nms sg sc mo) L a ccd cll []) (call (.ref 974) [.ref c, .int k tq]) Q E s := by
  have adr := C.addrs
  have hoa : Apart mu own := fun q hq p hp => Ap q hq p (C.ownIn p hp)
  cases C with
  | mk od t1 t2 t3 t4 t5 t6 t7 u1 u2 u3 tk0 tH tv1 tv2 tM tcur tT0 T0 doc1 pm1 ct1 doc2 pm2 ct2 oda odi occ och otc nh no vs1 vs2 cN pN xs ik dk kf rf lv tl sub hoc hoc1 hch hot hot1 hCd q n1 n2 n3 n4 n5 hda hdi hxl hI hH hb hce hcl sup hown =>
  have ax : ∀ q ∈ mu, ∀ d ∈ ([c, dc, tm, dt, da, di, clk, cc, hc, hl, ttu, tc] : List Addr), d ≠ q.1 := fun q hq d hd => by
    obtain ⟨o, ho⟩ := adr d hd
    exact Ap q hq _ ho
  have hdl := hb.dk_le hda hce sup hM5
  have hil := hb.ik_le hdi hce sup hM5
  have both : ∀ d, (∀ p ∈ tl, p.1 ≠ d) → (∀ q ∈ mu, d ≠ q.1) → ∀ p ∈ mu ++ tl, p.1 ≠ d := fun d h1 h2 p hp => by
    rcases List.mem_append.mp hp with hp | hp
    · exact (h2 p hp).symm
    · exact h1 p hp
  have m1 := both dc n1 fun q hq => ax q hq _ (.tail _ (.head _))
  have m2 := both da n2 fun q hq => ax q hq _ (.tail _ (.tail _ (.tail _ (.tail _ (.head _)))))
  have m3 := both dt n3 fun q hq => ax q hq _ (.tail _ (.tail _ (.tail _ (.head _))))
  have m4 := both di n4 fun q hq => ax q hq _ (.tail _ (.tail _ (.tail _ (.tail _ (.tail _ (.head _))))))
  have m5 := both od n5 fun q hq => Ap q hq _ (sub _ (.tail _ (.tail _ (.tail _ (.tail _ (.tail _ (.tail _ (.head _))))))))
  have hI2 : Its kf rf xs (mu ++ tl) := hI.mono fun p hp => List.mem_append_right _ hp
  have N1 : News h₀ L s.heap ((c, instObj 1231 dc) :: (dc, calD w.params t1 t2 t3 t4 t5 t6 t7 (.ref da) (.int dk.length tcur) (.int M tM) (.ref tm) (.ref di) (.ref od) (.ref ttu)) :: (tm, instObj 922 dt) ::
      (dt, tmD w.params u1 u2 u3 (.ref clk) (.int 0 tk0) (.int T0 tT0)) :: (da, oda) :: (di, odi) :: (od, (listOf (vals xs) no)) :: (clk, clkO hc doc1 pm1 cc ct1) :: (cc, occ) :: (hc, och) :: (hl, listOf #[.int H tH] nh) :: (ttu, endO doc2 pm2 tc ct2) :: (tc, otc) :: (mu ++ tl)) := fun p hp => by
    simp only [List.mem_cons, List.mem_append] at hp
    rcases hp with h | h | h | h | h | h | h | h | h | h | h | h | h | h | h
    all_goals first | exact N p (List.mem_append_left _ h) | exact N p (List.mem_append_right _ (sub p (by simp only [h, List.mem_cons, true_or, or_true])))
  obtain ⟨⟨x, e'⟩, hx⟩ : ∃ p, lv k = some p := by
    have := hce k
    rw [hk] at this
    cases h : lv k with
    | none => rw [h] at this; cases this
    | some p => exact ⟨p, rfl⟩
  obtain rfl : e' = e := by have := hce k; rw [hk, hx] at this; exact Option.some.inj this
  have hik : valueAt ik k = some (.ref x) := by rw [hb.ins, hx]; rfl
  obtain ⟨td, hdk⟩ := hb.dat k _ hx
  have hm := hb.mem k _ hx
  obtain ⟨dx, te, tk, a1, a2⟩ := hI2 _ hm.1
  rw [hm.2.2, hm.2.1] at a1
  refine cal_get1 (oor := listOf (vals xs) no) (nst := .none) (cur := .int dk.length tcur) (tk9 := tk9) B F X rfl N1 T (by omega) (by omega) hoc hoc1 hch hot hot1 hCd O.o1 O.o2 O.o3 O.o4 O.o5 O.o6 O.o7 O.o8 O.o9 O.o10 O.o11 q m1 m2 m3 m4 m5 O.lda O.ldi hda hdi hik hdk a1 a2 hHe hil fun h' tk' odi' tz F' N' hdi' => ?_
  have hb2 := hb.ext (ik' := stored (without ik k) k (.ref x)) (dk' := dk) (fun j => by simp only [va_stored, va_without]; by_cases hj : j = k <;> simp [hj, hik]) (fun _ => rfl)
  obtain ⟨rest', R1, R2, R3⟩ := rebundle0 (mu := mu) (own := own) N' hoc hoc1 hch hot hot1 hCd q n1 n2 n3 n4 n5 hda hdi' hxl hI hH hb2 hce hcl sup hown (fun q hq p hp => Ap q hq p (sub p (by simp only [List.mem_cons, hp, or_true]))) (fun q hq => Ap q hq _ (sub _ (.tail _ (.tail _ (.tail _ (.tail _ (.tail _ (.tail _ (.head _))))))))) ax
  exact ret _ _ _ _ F' R1 R2 R3
end

end
section
local macro_rules | `(tactic| walk_at "call ref") => `(tactic| (k_here; (first | (with_reducible show wpAny _ _ (call (Value.ref 974) _) _ _ _) | (with_reducible show wpAny _ _ (call (Value.ref 1177) _) _ _ _) | (with_reducible show wpAny _ _ (call (Value.ref 950) _) _ _ _) | (with_reducible show wpAny _ _ (call (Value.ref 1206) _) _ _ _)); refine stop_here ?_))
local macro_rules | `(tactic| walk_at "subscriptTail") => `(tactic| (k_here; (with_reducible show wpAny _ _ (subscriptTail _ _ (Value.ref _) (Value.int _ _)) _ _ _); k_dflt (refine' l_at ?N ?m ?a ?v ?z ?_; (case N => k_asm); (case m => k_mem); (case v => k_asm); (case a => first | assumption | omega); (case z => omega); k_whole)))
theorem l_len {A : Around} {d : Addr} {ys : List Value} (N : News h₀ L s.heap news) (hm : (d, LCg.lst ys) ∈ news) (hsz : ys.length ≤ 1000)
    (h : Q (.int ys.length (s.toks + 1)) { s with toks := s.toks + 1 + 1 }) : wpAny (model prog w) A (call (.builtin "len") [.ref d]) Q E s := by
  refine Calls.call_len_list (items := ys.toArray) ⟨_, (N _ hm).1, rfl, _, rfl⟩ (by simp; omega) ?_
  simpa using h
local macro_rules | `(tactic| walk_at "eval ListComp") => `(tactic| (k_here; k_dflt (refine LCt.ListComp_T (F₀ := by k_asm) (by with_unfolding_all rfl) (by decide) (by rfl) (by decide) (by rfl) ?_)))
local macro_rules | `(tactic| walk_at "CompSrcT") => `(tactic| fail "stop here")
local macro_rules | `(tactic| walk_at "call builtin:len") => `(tactic| (k_here; (with_reducible show wpAny _ _ (call (Value.builtin "len") [Value.ref _]) _ _ _); k_dflt (refine' l_len ?N ?m ?z ?_; (case N => k_asm); (case m => k_mem); (case z => omega); k_whole)))
@[reducible] def whS5 : Stmt := by
  refine' Subtype.val (p := fun d => at_ whB 5 = d) ⟨_, ?h⟩
  case h =>
    conv => lhs; whnf
theorem ints_len {vs : List Value} {ns : List Int} (h : IntsAre vs ns) : vs.length = ns.length := by
  induction h with
  | nil => rfl
  | cons _ _ _ ih => simp [ih]
theorem keysOff_len {o : Obj} {R Kf : Int → Option Int} {kvs : List (Int × Value)} {ks : List Int} (hd : DOf prog w o kvs) (r : Rep kvs Kf) (nd : ks.Nodup) (h : ∀ k, k ∈ ks ↔ (ceR R Kf k).isSome = true) : ks.length = (keysOff R kvs).length := by
  have n2 : (keysOff R kvs).Nodup := List.filter_sublist.nodup (dof_nodup hd)
  refine ((List.perm_ext_iff_of_nodup nd n2).mpr fun k => ?_).length_eq
  rw [h k]
  unfold keysOff
  rw [List.mem_filter, ← va_mem]
  have e : (valueAt kvs k).isSome = (Kf k).isSome := by
    cases hk : Kf k with
    | none => rw [(r k).1 hk]; rfl
    | some v => obtain ⟨t, ht⟩ := (r k).2 v hk; rw [ht]; rfl
  rw [e]
  simp only [ceR]
  cases R k <;> simp
def ifTest : Stmt → Expr
  | .If t _ _ _ => t
  | _ => .Name "" default
def orSecond : Expr → Expr
  | .BoolOp _ (_ :: e :: _) _ => e
  | e => e
def cmpLeft : Expr → Expr
  | .Compare l _ _ _ => l
  | e => e
def lcCt : Expr → Expr
  | .ListComp _ (g :: _) _ _ => g.ifs.headD (.Name "" default)
  | e => e
def lcElt : Expr → Expr
  | .ListComp e _ _ _ => e
  | e => e
def lcScope : Expr → Scope
  | .ListComp _ _ sc _ => sc
  | _ => default
@[reducible] def w5C : Expr := by
  refine' Subtype.val (p := fun d => cmpLeft (orSecond (ifTest whS5)) = d) ⟨_, ?h⟩
  case h =>
    conv => lhs; whnf
@[reducible] def w5Ct : Expr := by
  refine' Subtype.val (p := fun d => lcCt w5C = d) ⟨_, ?h⟩
  case h =>
    conv => lhs; whnf
@[reducible] def w5Elt : Expr := by
  refine' Subtype.val (p := fun d => lcElt w5C = d) ⟨_, ?h⟩
  case h =>
    conv => lhs; whnf
@[reducible] def w5Scope : Scope := by
  refine' Subtype.val (p := fun d => lcScope w5C = d) ⟨_, ?h⟩
  case h =>
    conv => lhs; whnf
set_option maxHeartbeats 4000000 in
theorem wh5_rest {c1 c2 c3 c4 rd kn D : Addr} {c dc tm dt da di clk cc hc hl ttu tc : Addr} {M H : Int} {xz : Nat} {o2 o3 ord okn : Obj} {own : List (Addr × Obj)} {R Kf : Int → Option Int} {kvs : List (Int × Value)} {ys : List Value} {Fin : List Value → List (Addr × Obj) → Prop}
    (B : Below A₀ base [] h₀) (X : (K w.params).In h₀) (T : Top p loose mean mg mb h₀) (hd : dp + 50 < recursionLimit) (hu : un + 150 < cLine) (O : Ords c dc tm dt da di clk cc hc hl ttu tc) (hM5 : M ≤ 5)
    (k2 : (c2, o2) ∈ own) (k2' : IsCell o2 (.ref c)) (k3 : (c3, o3) ∈ own) (k3' : IsCell o3 (.ref kn)) (lkn : (kn == sysModules) = false)
    (d2 : DOf prog w okn kvs) (r2 : Rep kvs Kf) (hy : IntsAre ys (keysOff R kvs)) (hlive : ∀ k u, ceR R Kf k = some u → H < u)
    (fin : ∀ rest', Apart [(D, LCg.lst ys), (rd, ord), (kn, okn)] rest' → CalL prog w h₀ c dc tm dt da di clk cc hc hl ttu tc M H (ceR R Kf) False xz own rest' → Fin [] ((D, LCg.lst ys) :: (rd, ord) :: (kn, okn) :: rest')) :
    ∀ (k i : Nat) (rest : List (Addr × Obj)), i + k = ys.length → Apart [(D, LCg.lst ys), (rd, ord), (kn, okn)] rest → CalL prog w h₀ c dc tm dt da di clk cc hc hl ttu tc M H (ceR R Kf) False xz own rest →
      LCt.CompRestT prog w (lwA dp un gd L a c1 c2 c3 c4 hc) h₀ L m (lwE L a c1 c2 c3 c4 hc) w5Ct w5Elt "place" w5Scope [("known", c3), ("calendar", c2)] s (LCg.SrcAt h₀ D ys.toArray) (fun i v => ys.toArray[i]? = some v) Fin k i [] ((D, LCg.lst ys) :: (rd, ord) :: (kn, okn) :: rest) := by
  intro k
  induction k with
  | zero => intro i rest hi Ap C; exact LCt.CompRestT.zero (fin rest Ap C)
  | succ k ih =>
    intro i rest hi Ap C
    refine LCt.CompRestT.succ ?_
    intro v' I' oI' C' oC' D' m' h' tk' E' hv' hC' hx' F' N' off' ne'
    have hv2 : ys[i]? = some v' := by simpa using hv'
    obtain ⟨kk, t, rfl, hki⟩ := hy.at i v' hv2
    have hkm := List.mem_of_getElem? hki
    unfold keysOff at hkm
    obtain ⟨hk1, hk2⟩ := List.mem_filter.mp hkm
    have hRk : R kk = none := by
      cases h : R kk with
      | none => rfl
      | some v => rw [h] at hk2; cases hk2
    obtain ⟨u, hKk⟩ : ∃ u, Kf kk = some u := by
      cases h : Kf kk with
      | some u => exact ⟨u, rfl⟩
      | none => have := va_mem.mpr hk1; rw [(r2 kk).1 h] at this; cases this
    obtain ⟨tu, hvk⟩ := (r2 kk).2 u hKk
    have hce : ceR R Kf kk = some u := ceR_some.mpr ⟨hRk, hKk⟩
    have hHu := hlive kk u hce
    have k2r := C.ownIn _ k2
    have k3r := C.ownIn _ k3
    have offm := off'.mem
    have Ap6 : Apart [(I', oI'), (C', oC'), (D', LCg.lst []), (D, LCg.lst ys), (rd, ord), (kn, okn)] rest := by
      have om : ∀ p ∈ rest, p.1 ≠ I' ∧ p.1 ≠ C' ∧ p.1 ≠ D' := fun p hp => offm p (.tail _ (.tail _ (.tail _ hp)))
      intro q hq p hp
      rcases List.mem_cons.mp hq with rfl | hq
      · exact (om p hp).1
      rcases List.mem_cons.mp hq with rfl | hq
      · exact (om p hp).2.1
      rcases List.mem_cons.mp hq with rfl | hq
      · exact (om p hp).2.2
      exact Ap q hq p hp
    obtain ⟨i1, od, cur, mx, s1, s2, s3, s4, s5, s6, s7, i2⟩ := C.inst
    k_steps
    refine Stop.go ?_
    with_reducible rename News _ _ _ _ => N9
    with_reducible rename Fr _ _ _ _ => F9
    refine law_get1b (mu := [(I', oI'), (C', oC'), (D', LCg.lst []), (D, LCg.lst ys), (rd, ord), (kn, okn)]) (tk9 := 0) B F9 X T (by omega) (by omega) O N9 Ap6 C hM5 hce hHu ?_
    intro h5 tk5 rest5 te5 F5 N5 Ap5 C5
    clear i1 i2 N9 F9
    have k3r5 := C5.ownIn _ k3
    change News h₀ L h5 ((I', oI') :: (C', oC') :: (D', LCg.lst []) :: (D, LCg.lst ys) :: (rd, ord) :: (kn, okn) :: rest5) at N5
    have Ap3 : Apart [(D, LCg.lst ys), (rd, ord), (kn, okn)] rest5 := apart_tl (apart_tl (apart_tl Ap5))
    have ih' := ih (i + 1) rest5 (by omega) Ap3 C5
    have off5 : LCg.Off3 I' C' D' ((D, LCg.lst ys) :: (rd, ord) :: (kn, okn) :: rest5) := LCg.Off3.of fun p hp => by
      rcases List.mem_cons.mp hp with rfl | hp
      · exact offm _ (.head _)
      rcases List.mem_cons.mp hp with rfl | hp
      · exact offm _ (.tail _ (.head _))
      rcases List.mem_cons.mp hp with rfl | hp
      · exact offm _ (.tail _ (.tail _ (.head _)))
      · exact ⟨Ap5 (I', oI') (.head _) p hp, Ap5 (C', oC') (.tail _ (.head _)) p hp, Ap5 (D', LCg.lst []) (.tail _ (.tail _ (.head _))) p hp⟩
    k_steps
    · rename_i hne
      exact absurd rfl hne
    · exact LCg.CompEnd.intro (by assumption) (by assumption) _ (fun p hp => hp) off5 (.inr ⟨_, .head _, rfl, _, rfl⟩) ih'
set_option maxHeartbeats 4000000 in
theorem wh5 {c1 c2 c3 c4 rd kn D : Addr} {c dc tm dt da di clk cc hc hl ttu tc : Addr} {M H : Int} {xz : Nat} {Q' : Flow → Shared → Prop} {o2 o3 ord okn : Obj} {rest own : List (Addr × Obj)} {R Kf : Int → Option Int} {kvs : List (Int × Value)} {ys : List Value}
    (B : Below A₀ base [] h₀) (X : (K w.params).In h₀) (T : Top p loose mean mg mb h₀) (hd : dp + 50 < recursionLimit) (hu : un + 150 < cLine) (O : Ords c dc tm dt da di clk cc hc hl ttu tc) (hM5 : M ≤ 5) (hxz : xz ≤ 800)
    (k2 : (c2, o2) ∈ own) (k2' : IsCell o2 (.ref c)) (k3 : (c3, o3) ∈ own) (k3' : IsCell o3 (.ref kn)) (lkn : (kn == sysModules) = false)
    (F : Fr h₀ L s.heap m) (N : News h₀ L s.heap ([(D, LCg.lst ys), (rd, ord), (kn, okn)] ++ rest)) (Ap : Apart [(D, LCg.lst ys), (rd, ord), (kn, okn)] rest) (Ni : NotIt own) (C : CalL prog w h₀ c dc tm dt da di clk cc hc hl ttu tc M H (ceR R Kf) False xz own rest)
    (S1 : ord.cls = .type "dict") (S2 : ord ≠ dictOf [] 0) (d2 : DOf prog w okn kvs) (r2 : Rep kvs Kf) (ne2 : kvs ≠ []) (hkl : kvs.length ≤ 5) (hy : IntsAre ys (keysOff R kvs)) (hlive : ∀ k u, ceR R Kf k = some u → H < u) (mw : m "waiting" = some (.ref D))
    (ret : ∀ h' tk' rest', Fr h₀ L h' m → News h₀ L h' ([(D, LCg.lst ys), (rd, ord), (kn, okn)] ++ rest') → Apart [(D, LCg.lst ys), (rd, ord), (kn, okn)] rest' → CalL prog w h₀ c dc tm dt da di clk cc hc hl ttu tc M H (ceR R Kf) False xz own rest' → Q' .next { s with heap := h', toks := tk' }) :
    wpAny (model prog w) (lwA dp un gd L a c1 c2 c3 c4 hc) (exec whS5 (lwE L a c1 c2 c3 c4 hc)) Q' E s := by
  have k2r := C.ownIn _ k2
  have hyl : ys.length ≤ 5 := by
    rw [ints_len hy]
    have h1 : (keysOff R kvs).length ≤ (kvs.map (·.1)).length := List.length_filter_le _ _
    rw [List.length_map] at h1; omega
  obtain ⟨i1, od, cur, mx, s1, s2, s3, s4, s5, s6, s7, i2⟩ := C.inst
  change News h₀ L s.heap ((D, LCg.lst ys) :: (rd, ord) :: (kn, okn) :: rest) at N
  k_steps
  refine Stop.go ?_
  with_reducible rename News _ _ _ _ => N9
  with_reducible rename Fr _ _ _ _ => F9
  have Sm : NotIt [(D, LCg.lst ys), (rd, ord), (kn, okn)] := List.forall_mem_cons.mpr ⟨fun h => (by cases h), List.forall_mem_cons.mpr ⟨fun h => (by rw [S1] at h; cases h), List.forall_mem_cons.mpr ⟨fun h => (by rw [dof_cls d2] at h; cases h), fun _ h => nomatch h⟩⟩⟩
  have Sm2 : ∀ q ∈ [(D, LCg.lst ys), (rd, ord), (kn, okn)], q.2 ≠ dictOf [] 0 := List.forall_mem_cons.mpr ⟨fun h => absurd (Value.type.inj (congrArg Obj.cls h)) (by decide), List.forall_mem_cons.mpr ⟨S2, List.forall_mem_cons.mpr ⟨dof_ne d2 ne2, fun _ h => nomatch h⟩⟩⟩
  refine law_len (mu := [(D, LCg.lst ys), (rd, ord), (kn, okn)]) B F9 X T ?hd ?hu O N9 Ap Sm Ni C hM5 hxz Sm2 hlive ?_
  case hd => show dp + 40 < recursionLimit; omega
  case hu => show un + 1 + 120 < cLine; omega
  intro h5 tk5 rest5 te5 ks F5 N5 Ap5 C5 nd5 iff5
  clear i1 i2 N9 F9
  have e5 : ks.length = ys.length := by rw [ints_len hy]; exact keysOff_len d2 r2 nd5 iff5
  rw [e5]
  clear nd5 iff5 e5
  dsimp only [PySem.W.LenBack]
  refine ⟨⟨by omega, by omega⟩, ?_⟩
  have k2r5 := C5.ownIn _ k2
  have k3r5 := C5.ownIn _ k3
  change News h₀ L h5 ((D, LCg.lst ys) :: (rd, ord) :: (kn, okn) :: rest5) at N5
  k_steps
  · rename_i hne
    exact absurd rfl hne
  · have esz : ys.toArray.size ≤ sizeLine := by
      have e : ys.toArray.size = ys.length := by simp
      rw [sizeLine_eq, e]
      omega
    refine LCt.CompSrcT.ledger (ax := D) (its := ys.toArray) (k := ys.length) rfl F5 N5 (.head _) esz fun g => ?_
    have e0 : ys.toArray.size = ys.length := by simp
    rw [e0]
    refine wh5_rest B X T hd hu O hM5 k2 k2' k3 k3' lkn d2 r2 hy hlive (fun rest' Ap' C' => ?_) ys.length 0 rest5 (by omega) Ap5 C5
    intro D2 h6 tk6 F6 N6 o6
    k_steps
    with_reducible rename News _ _ _ _ => N9
    with_reducible rename Fr _ _ _ _ => F9
    exact ret _ _ rest' F9 (fun p hp => N9 p (.tail _ (.tail _ hp))) Ap' C'

end
section
local macro_rules | `(tactic| walk_at "pad") => `(tactic| fail)
theorem LenIn.mono {ld : Addr} {len : Int → Int → Int} {n : Nat} {own own' : List (Addr × Obj)} (h : LenIn ld len n own) (hs : ∀ p ∈ own, p ∈ own') : LenIn ld len n own' := by
  obtain ⟨itL, nL, a, b⟩ := h
  exact ⟨itL, nL, hs _ a, fun p hp => by obtain ⟨rp, itR, nR, c, d, e⟩ := b p hp; exact ⟨rp, itR, nR, c, hs _ d, e⟩⟩
theorem rep_ne {kvs : List (Int × Value)} {f : Int → Option Int} {k v : Int} (r : Rep kvs f) (h : f k = some v) : kvs ≠ [] := by
  rintro rfl
  obtain ⟨t, ht⟩ := (r k).2 v h
  cases ht
set_option maxHeartbeats 4000000 in
theorem wh_body {c1 c2 c3 c4 rd kn ld : Addr} {c dc tm dt da di clk cc hc hl ttu tc : Addr} {M H st : Int} {n : Nat} {cl : Prop} {xz : Nat} {Q' : Flow → Shared → Prop} {o1 o2 o3 o4 ord okn : Obj} {rest own : List (Addr × Obj)} {ts1 : Tok} {len : Int → Int → Int} {b R Kf : Int → Option Int} {kvsR kvs : List (Int × Value)}
    (B : Below A₀ base [] h₀) (X : (K w.params).In h₀) (XB : (K w.params).In base) (TB : Top p loose mean mg mb base) (T : Top p loose mean mg mb h₀) (hd : dp + 50 < recursionLimit) (hu : un + 150 < cLine) (O : Ords c dc tm dt da di clk cc hc hl ttu tc) (hMn : M = n) (hM5 : M ≤ 5) (hxz : xz + 25 ≤ 800)
    (k1 : (c1, o1) ∈ own) (k1' : IsCell o1 (.int n ts1)) (k2 : (c2, o2) ∈ own) (k2' : IsCell o2 (.ref c)) (k3 : (c3, o3) ∈ own) (k3' : IsCell o3 (.ref kn)) (k4 : (c4, o4) ∈ own) (k4' : IsCell o4 (.ref rd)) (hL : LenIn ld len n own) (hlen : ∀ i j, 0 ≤ len i j ∧ len i j ≤ 3)
    (lrd : (rd == sysModules) = false) (lkn : (kn == sysModules) = false) (nrk : @Ne Nat rd kn) (Ni : NotIt own) (oh : ∀ p ∈ own, p.1 ≠ hl) (hE : PassesOwn (model prog w) (lwA dp un gd L a c1 c2 c3 c4 hc) (lwE L a c1 c2 c3 c4 hc) E)
    (Bs : Best n len st b) (hH0 : 0 ≤ H) (hH2 : H + 1 ≤ 20) (W : Hr n len st b H R Kf)
    (F : Fr h₀ L s.heap m) (N : News h₀ L s.heap ([(rd, ord), (kn, okn)] ++ rest)) (Ap : Apart [(rd, ord), (kn, okn)] rest) (C : CalL prog w h₀ c dc tm dt da di clk cc hc hl ttu tc M H (ceR R Kf) cl xz own rest)
    (d1 : DOf prog w ord kvsR) (r1 : Rep kvsR R) (d2 : DOf prog w okn kvs) (r2 : Rep kvs Kf) (ne2 : kvs ≠ []) (hS : kvsR ≠ [] ∨ (cl ∧ ∀ k e, ceR R Kf k = some e → e ≤ H + 1)) (ml : m "lengths" = some (.ref ld))
    (ret : ∀ h' tk' ord' okn' kvsR' kvs' R' Kf' rest' m', Fr h₀ L h' m' → News h₀ L h' ([(rd, ord'), (kn, okn')] ++ rest') → Apart [(rd, ord'), (kn, okn')] rest' → CalL prog w h₀ c dc tm dt da di clk cc hc hl ttu tc M (H + 1) (ceR R' Kf') False (xz + 25) own rest' →
      DOf prog w ord' kvsR' → Rep kvsR' R' → kvsR' ≠ [] → DOf prog w okn' kvs' → Rep kvs' Kf' → kvs' ≠ [] → Hr n len st b (H + 1) R' Kf' → (∀ z : Str, z ≠ "told" → z ≠ "length" → z ≠ "other" → z ≠ "place" → z ≠ "due" → z ≠ "waiting" → m' z = m z) → Q' .next { s with heap := h', toks := tk' }) :
    wpAny (model prog w) (lwA dp un gd L a c1 c2 c3 c4 hc) (execs whB (lwE L a c1 c2 c3 c4 hc)) Q' E s := by
  have hn5 : n ≤ 5 := by omega
  obtain ⟨och, tH, nh, khc, khc', khl⟩ := C.hour
  have hne0 : hl ≠ rd := Ap (rd, ord) (.head _) _ khl
  have hne1 : hl ≠ kn := Ap (kn, okn) (.tail _ (.head _)) _ khl
  -- hour[0] += 1
  refine wpAny_execs_cons ?_
  k_dflt (refine tick_walk (rest0 := (rd, ord) :: (kn, okn) :: offL hl rest) (H := H) (tH := tH) (nh := nh) (o5 := och) B X T hd hu F (fun p hp => ?_) (.tail _ (.tail _ (offL_mem khc (Nat.ne_of_lt O.o1)))) khc' (List.forall_mem_cons.mpr ⟨Ne.symm hne0, List.forall_mem_cons.mpr ⟨Ne.symm hne1, offL_ne⟩⟩) ?_)
  · rcases List.mem_cons.mp hp with rfl | hp
    · exact N _ (List.mem_append_right _ khl)
    rcases List.mem_cons.mp hp with rfl | hp
    · exact N _ (.head _)
    rcases List.mem_cons.mp hp with rfl | hp
    · exact N _ (.tail _ (.head _))
    · exact N _ (List.mem_append_right _ (offL_sub p hp))
  intro h1 tk1 t' nh' F1 N1
  have C1 := C.tick N (fun p hp => List.mem_append_right _ hp) oh O t' nh'
  generalize hr1 : (hl, listOf #[.int (H + 1) t'] nh') :: offL hl rest = rest1 at C1
  have N1' : News h₀ L h1 ([(rd, ord), (kn, okn)] ++ rest1) := fun p hp => N1 p (by
    rw [← hr1] at hp
    simp only [List.cons_append, List.nil_append, List.mem_cons] at hp ⊢
    rcases hp with h | h | h | h <;> simp only [h, true_or, or_true])
  have Ap1 : Apart [(rd, ord), (kn, okn)] rest1 := fun q hq p hp => by
    rw [← hr1] at hp
    rcases List.mem_cons.mp hp with rfl | hp
    · have a := Ap q hq _ khl
      exact a
    · exact Ap q hq p (offL_sub p hp)
  show wpAny _ _ (execs (_ :: _) _) _ _ _
  -- told = calendar.expire()
  refine wpAny_execs_cons ?_
  have S1 : ∀ q ∈ [(rd, ord), (kn, okn)], q.2.cls = .type "dict" := List.forall_mem_cons.mpr ⟨dof_cls d1, List.forall_mem_cons.mpr ⟨dof_cls d2, fun _ h => nomatch h⟩⟩
  k_dflt (refine wh1 B X T hd hu O hM5 (by omega) k2 k2' F1 N1' Ap1 Ni C1 S1 ?_ ?_)
  · rcases hS with h | h
    · exact .inl (List.forall_mem_cons.mpr ⟨dof_ne d1 h, List.forall_mem_cons.mpr ⟨dof_ne d2 ne2, fun _ h => nomatch h⟩⟩)
    · exact .inr h
  intro h2 tk2 rest2 ts le ne own2 ce2 F2 N2 Ap2 C2 T2 Ni2 sub2 kle tu2
  have ti := told_is W T2
  have hR' := reach_step Bs W hH0 T2
  have hts : ts.length ≤ 5 := by
    have := len_le_of_range n (ts.map (·.2.1)) (told_nd T2) fun x hx => by
      obtain ⟨q, hq, rfl⟩ := List.mem_map.mp hx
      exact (ti q hq).2.2.2
    rw [List.length_map] at this; omega
  have supR : ∀ k, (R k).isSome = true → 0 ≤ k ∧ k < M := fun k hk => by
    cases h : R k with
    | none => rw [h] at hk; cases hk
    | some v => have := Bs.dom k v ((W.r k v).mp h).1; omega
  have hkR := rep_len d1 r1 supR hM5
  have oi2 := C2.ownIn
  obtain ⟨och2, tH2, nh2, khc2, khc2', khl2⟩ := C2.hour
  show wpAny _ _ (execs (_ :: _) _) _ _ _
  -- for place, due in told: reached
  refine wpAny_execs_cons ?_
  have N2' : News h₀ L h2 ((rd, ord) :: (kn, okn) :: rest2) := N2
  have Ap2' : ∀ p ∈ rest2, p.1 ≠ rd := Ap2 (rd, ord) (.head _)
  k_dflt (refine for_told (le := le) (lo := listOf (tupRefs ts) ne) (vs := ts.map fun q => Value.ref q.1) (nn := ne) (target := lp1T) (body := lp1B) F2 N2' (.tail _ (.tail _ (oi2 _ kle))) rfl rfl (if_pos rfl) hE fun I1 hI1 => ?_)
  rw [List.map_map]
  refine lp1_rest (o4 := o4) (o5 := och2) (hl := hl) (H := H + 1) (tH := tH2) (nh := nh2) (ne := ne) (rest0 := (kn, okn) :: rest2) B X T (by omega) (by omega) (.tail _ (oi2 _ (sub2 _ k4))) k4' (.tail _ khc2) khc2' (.tail _ khl2) (.tail _ (oi2 _ kle)) (List.forall_mem_cons.mpr ⟨Ne.symm nrk, Ap2'⟩) lrd (hI1 (rd, ord) (.head _)) (fun p hp => Nat.ne_of_lt (hI1 p (.tail _ hp))) ts R kvsR ord _ (fun q hq => ?_) (told_nd T2) (fun q hq => ⟨(ti q hq).1, (ti q hq).2.1⟩) d1 r1 (by omega) ?_
  · obtain ⟨t, t'', ht⟩ := tu2 q hq
    exact ⟨t, t'', .tail _ (oi2 _ ht)⟩
  intro h3 tk3 ord3 kvs3 m3 F3 N3 d3 r3 _ hm3
  show wpAny _ _ (execs (_ :: _) _) _ _ _
  have hst : ext1 R ts st = some 1 := (hR' st 1).mpr ⟨Bs.src, by omega⟩
  have ne3 := rep_ne r3 hst
  have Ap3 : Apart [(rd, ord3), (kn, okn)] rest2 := List.forall_mem_cons.mpr ⟨Ap2', apart_tl Ap2⟩
  have C3 := (C2.congr (ce_step W T2)).weak (xz' := xz) (cl' := False) (Nat.le_refl _) (fun h => h.elim)
  have live3 : ∀ k u, ceR (ext1 R ts) Kf k = some u → H + 1 < u := fun k u h => T2.live k u (by rw [ce_step W T2 k]; exact h)
  -- the ways on
  refine wpAny_execs_cons ?_
  k_dflt (refine for_told (le := le) (lo := listOf (tupRefs ts) ne) (vs := ts.map fun q => Value.ref q.1) (nn := ne) (target := lp2T) (body := lp2B) F3 N3 (.tail _ (.tail _ (oi2 _ kle))) rfl rfl ?_ hE fun I2 hI2 => ?_)
  · rw [hm3 _ (by decide) (by decide)]; exact if_pos rfl
  rw [List.map_map]
  refine lp2_rest (M := M) (H := H + 1) (ts1 := ts1) (o1 := o1) (o2 := o2) (o3 := o3) (o4 := o4) (len := len) (n := n) (ld := ld) (R := ext1 R ts) B X XB TB T hd hu O (sub2 _ k1) k1' (sub2 _ k2) k2' (sub2 _ k3) k3' (sub2 _ k4) k4' (hL.mono sub2) hMn hM5 hlen hH2 (by omega) lrd lkn Ni2 nrk (hI2 (rd, ord3) (.head _)) (hI2 (kn, okn) (.tail _ (.head _))) kle d3 r3 ne3 hE ts Kf kvs okn _ rest2 xz tu2 (fun q hq => ⟨(ti q hq).2.2.2.1, by have := (ti q hq).2.2.2.2; omega, (ti q hq).2.1⟩) d2 r2 ne2 (fun k hk => by have := W.sup k hk; omega) live3 C3 (by omega) Ap3 (fun q hq => Nat.ne_of_lt (hI2 q (.tail _ (.tail _ hq)))) ?_ ?_
  · rw [hm3 _ (by decide) (by decide)]; exact (if_neg (by decide)).trans ml
  intro h4 tk4 okn4 kvs4 m4 rest4 F4 N4 Ap4 C4 d4 r4 ne4 sup4 live4 hm4
  have W4 := hour_step (ts := ts) Bs W hH0 hH2 (fun p x => (hlen p x).2) T2 (fun k hk => by have := sup4 k hk; omega)
  show wpAny _ _ (execs (_ :: _) _) _ _ _
  -- waiting
  refine wpAny_execs_cons ?_
  have oi4 := C4.ownIn
  have hk4 := rep_len d4 r4 sup4 hM5
  k_dflt (refine lp3_comp (R := ext1 R ts) B X T hd hu F4 N4 (oi4 _ (sub2 _ k3)) k3' (oi4 _ (sub2 _ k4)) k4' lrd lkn d3 r3 d4 hk4 ?_)
  intro h5 tk5 D ys F5 N5 off5 hy5
  have Ap5 : Apart [(D, LCg.lst ys), (rd, ord3), (kn, okn4)] rest4 := List.forall_mem_cons.mpr ⟨fun p hp => off1_all off5 p (.tail _ (.tail _ hp)), Ap4⟩
  show wpAny _ _ (execs (_ :: _) _) _ _ _
  -- the test
  refine wpAny_execs_cons ?_
  k_dflt (refine wh5 (R := ext1 R ts) B X T hd hu O hM5 (xz := xz + 5 * ts.length) (by omega) (sub2 _ k2) k2' (sub2 _ k3) k3' lkn F5 N5 Ap5 Ni2 C4 (dof_cls d3) (dof_ne d3 ne3) d4 r4 ne4 hk4 hy5 live4 (if_pos rfl) ?_)
  intro h6 tk6 rest6 F6 N6 Ap6 C6
  show wpAny _ _ (execs [] _) _ _ _
  refine wpAny_execs_nil ?_
  exact ret h6 tk6 ord3 okn4 kvs3 kvs4 (ext1 R ts) _ rest6 _ F6 (fun p hp => N6 p (.tail _ hp)) (apart_tl Ap6) ((C6.weak (by omega) id).ownOff sub2) d3 r3 ne3 d4 r4 ne4 W4 fun z z1 z2 z3 z4 z5 z6 => (if_neg z6).trans ((hm4 z z2 z3 z4 z5).trans ((hm3 z z4 z5).trans (if_neg z1)))

end
section
local macro_rules | `(tactic| walk_at "pad") => `(tactic| fail)
local macro_rules | `(tactic| walk_at "pad") => `(tactic| fail)
local macro_rules | `(tactic| walk_at "pad") => `(tactic| fail)
local macro_rules | `(tactic| walk_at "pad") => `(tactic| fail)
local macro_rules | `(tactic| walk_at "pad") => `(tactic| fail)
local macro_rules | `(tactic| walk_at "execs cons") => `(tactic| (k_here; (with_reducible show wpAny _ _ (execs (Stmt.AugAssign _ _ _ _ :: _) _) _ _ _); refine stop_here ?_))
@[reducible] def whS : Stmt := by
  refine' Subtype.val (p := fun d => at_ Fn.f_law.body 13 = d) ⟨_, ?h⟩
  case h =>
    conv => lhs; whnf
/-- where the loop stands at an hour -/
inductive WhSt (prog : Program) (w : World) (h₀ : Heap) (c dc tm dt da di clk cc hc hl ttu tc rd kn : Addr) (M st : Int) (n : Nat) (len : Int → Int → Int) (b : Int → Option Int) (own : List (Addr × Obj)) (k : Nat) (news : List (Addr × Obj)) : Prop
  | mk (H : Int) (cl : Prop) (xz : Nat) (ord okn : Obj) (kvsR kvs : List (Int × Value)) (R Kf : Int → Option Int) (rest : List (Addr × Obj))
    (e : news = [(rd, ord), (kn, okn)] ++ rest) (hk : (k : Int) = 3 * n - H) (hH0 : 0 ≤ H) (hxz : (xz : Int) ≤ 1 + 25 * H) (Ap : Apart [(rd, ord), (kn, okn)] rest) (C : CalL prog w h₀ c dc tm dt da di clk cc hc hl ttu tc M H (ceR R Kf) cl xz own rest)
    (d1 : DOf prog w ord kvsR) (r1 : Rep kvsR R) (d2 : DOf prog w okn kvs) (r2 : Rep kvs Kf) (ne2 : kvs ≠ []) (hS : kvsR ≠ [] ∨ (cl ∧ ∀ k e, ceR R Kf k = some e → e ≤ H + 1)) (W : Hr n len st b H R Kf) : WhSt prog w h₀ c dc tm dt da di clk cc hc hl ttu tc rd kn M st n len b own k news
set_option maxHeartbeats 4000000 in
theorem wh_loop {c1 c2 c3 c4 rd kn ld : Addr} {c dc tm dt da di clk cc hc hl ttu tc : Addr} {M st : Int} {n : Nat} {Q' : Flow → Shared → Prop} {o1 o2 o3 o4 : Obj} {own : List (Addr × Obj)} {ts1 : Tok} {len : Int → Int → Int} {b : Int → Option Int}
    (B : Below A₀ base [] h₀) (X : (K w.params).In h₀) (XB : (K w.params).In base) (TB : Top p loose mean mg mb base) (T : Top p loose mean mg mb h₀) (hd : dp + 50 < recursionLimit) (hu : un + 150 < cLine) (O : Ords c dc tm dt da di clk cc hc hl ttu tc) (hMn : M = n) (hM5 : M ≤ 5)
    (k1 : (c1, o1) ∈ own) (k1' : IsCell o1 (.int n ts1)) (k2 : (c2, o2) ∈ own) (k2' : IsCell o2 (.ref c)) (k3 : (c3, o3) ∈ own) (k3' : IsCell o3 (.ref kn)) (k4 : (c4, o4) ∈ own) (k4' : IsCell o4 (.ref rd)) (hL : LenIn ld len n own) (hlen : ∀ i j, 0 ≤ len i j ∧ len i j ≤ 3)
    (lrd : (rd == sysModules) = false) (lkn : (kn == sysModules) = false) (nrk : @Ne Nat rd kn) (Ni : NotIt own) (oh : ∀ p ∈ own, p.1 ≠ hl) (hE : PassesOwn (model prog w) (lwA dp un gd L a c1 c2 c3 c4 hc) (lwE L a c1 c2 c3 c4 hc) E)
    (Bs : Best n len st b) {news₀ : List (Addr × Obj)} (F : Fr h₀ L s.heap m) (N : News h₀ L s.heap news₀) (W0 : WhSt prog w h₀ c dc tm dt da di clk cc hc hl ttu tc rd kn M st n len b own (3 * n) news₀) (ml : m "lengths" = some (.ref ld))
    (ret : ∀ h' tk' ord okn kvsR R rest m', Fr h₀ L h' m' → News h₀ L h' ([(rd, ord), (kn, okn)] ++ rest) → (∀ p ∈ own, p ∈ rest) → Apart [(rd, ord), (kn, okn)] rest → DOf prog w ord kvsR → Rep kvsR R → (∀ x, R x = b x) → (∀ z : Str, z ≠ "told" → z ≠ "length" → z ≠ "other" → z ≠ "place" → z ≠ "due" → z ≠ "waiting" → m' z = m z) → Q' .next { s with heap := h', toks := tk' }) :
    wpAny (model prog w) (lwA dp un gd L a c1 c2 c3 c4 hc) (exec whS (lwE L a c1 c2 c3 c4 hc)) Q' E s := by
  k_dflt (show wpAny _ _ (exec (Stmt.While _ _ [] _) _) _ _ _)
  refine While_inv2 (fun k m' nx => WhSt prog w h₀ c dc tm dt da di clk cc hc hl ttu tc rd kn M st n len b own k nx ∧ ∀ z : Str, z ≠ "told" → z ≠ "length" → z ≠ "other" → z ≠ "place" → z ≠ "due" → z ≠ "waiting" → m' z = m z) F N ⟨W0, fun _ _ _ _ _ _ _ => rfl⟩ ?_ hE
  clear F N W0
  rintro k m₁ news₁ h₁ tk₁ F N ⟨⟨H, cl, xz, ord, okn, kvsR, kvs, R, Kf, rest, rfl, hk, hH0, hxz, Ap, C, d1, r1, d2, r2, ne2, hS, W⟩, hm⟩
  have oi := C.ownIn
  have k1r := oi _ k1
  obtain ⟨och, tH, nh, khc, khc', khl⟩ := C.hour
  have N0 : News h₀ L h₁ ((rd, ord) :: (kn, okn) :: rest) := N
  by_cases hlt : H < 3 * n
  · k_steps
    refine Stop.go ?_
    with_reducible rename News _ _ _ _ => N9
    with_reducible rename Fr _ _ _ _ => F9
    k_dflt (refine wh_body (M := M) (H := H) (st := st) (b := b) (R := R) (Kf := Kf) (len := len) (ld := ld) (ts1 := ts1) (n := n) (xz := xz) B X XB TB T hd hu O hMn hM5 (by omega) k1 k1' k2 k2' k3 k3' k4 k4' hL hlen lrd lkn nrk Ni oh hE Bs hH0 (by omega) W F9 N9 Ap C d1 r1 d2 r2 ne2 hS ?_ ?_)
    · rw [hm _ (by decide) (by decide) (by decide) (by decide) (by decide) (by decide)]; exact ml
    intro h' tk' ord' okn' kvsR' kvs' R' Kf' rest' m' F' N' Ap' C' d1' r1' ne1' d2' r2' ne2' W' hm'
    refine ⟨h', tk', m', _, k - 1, rfl, F', N', by omega, .mk (H + 1) False (xz + 25) ord' okn' kvsR' kvs' R' Kf' rest' rfl (by omega) (by omega) (by omega) Ap' C' d1' r1' d2' r2' ne2' (.inl ne1') W', fun z z1 z2 z3 z4 z5 z6 => (hm' z z1 z2 z3 z4 z5 z6).trans (hm z z1 z2 z3 z4 z5 z6)⟩
  · k_steps
    with_reducible rename News _ _ _ _ => N9
    with_reducible rename Fr _ _ _ _ => F9
    have eH : H = 3 * n := by omega
    subst eH
    exact ret _ _ ord okn kvsR R rest m₁ F9 N9 oi Ap d1 r1 (last_hour Bs W) hm

end
section
local macro_rules | `(tactic| walk_at "pad") => `(tactic| fail)
local macro_rules | `(tactic| walk_at "pad") => `(tactic| fail)
local macro_rules | `(tactic| walk_at "pad") => `(tactic| fail)
local macro_rules | `(tactic| walk_at "pad") => `(tactic| fail)
local macro_rules | `(tactic| walk_at "pad") => `(tactic| fail)
local macro_rules | `(tactic| walk_at "pad") => `(tactic| fail)
open PyProof.V in
theorem flat_int (n : Int) (t : Tok) : Flat (.int n t) (.int n) := by
  exact Flat.int n t
theorem mem_va {kvs : List (Int × Value)} (hn : (kvs.map (·.1)).Nodup) : ∀ p ∈ kvs, valueAt kvs p.1 = some p.2 := by
  induction kvs with
  | nil => intro p hp; cases hp
  | cons q r ih =>
    intro p hp
    rw [List.map_cons, List.nodup_cons] at hn
    unfold valueAt
    rw [List.find?_cons]
    by_cases h : q.1 = p.1
    · rcases List.mem_cons.mp hp with rfl | hp
      · simp
      · exact absurd (List.mem_map.mpr ⟨p, hp, h.symm⟩) hn.1
    · rcases List.mem_cons.mp hp with rfl | hp
      · exact absurd rfl h
      · rw [decide_eq_false h]; exact ih hn.2 p hp
theorem hits_all {A : Around} {kb : List (Int × Value)} {f : Int → Option Int} (rb : Rep kb f) : ∀ ka : List (Int × Value), (∀ p ∈ ka, ∃ v t, f p.1 = some v ∧ p.2 = .int v t) → KeqHits A s kb ka true
  | [], _ => .nil
  | (k, u) :: r, h => by
    obtain ⟨v, t, hf, hu⟩ := h _ (.head _)
    dsimp only at hf hu
    subst hu
    obtain ⟨t', ht⟩ := (rb k).2 v hf
    have e : (PyData.eqv (.int v) (.int v) && true) = true := by simp [PyData.eqv]
    have := KeqHits.hit (A := A) (s := s) ht (keq_flat (flat_int v t) (flat_int v t')) (hits_all rb r fun p hp => h p (.tail _ hp))
    rwa [e] at this
theorem rep_all {kvs : List (Int × Value)} {f : Int → Option Int} (r : Rep kvs f) (hn : (kvs.map (·.1)).Nodup) : ∀ p ∈ kvs, ∃ v t, f p.1 = some v ∧ p.2 = .int v t := fun p hp => by
  have h1 := mem_va hn p hp
  cases hf : f p.1 with
  | none => rw [(r p.1).1 hf] at h1; cases h1
  | some v =>
    obtain ⟨t, ht⟩ := (r p.1).2 v hf
    rw [ht] at h1
    exact ⟨v, t, rfl, (Option.some.inj h1).symm⟩
theorem rep_same_len {oa ob : Obj} {ka kb : List (Int × Value)} {f g : Int → Option Int} (ha : DOf prog w oa ka) (hb : DOf prog w ob kb) (ra : Rep ka f) (rb : Rep kb g) (e : ∀ x, f x = g x) : ka.length = kb.length :=
  va_len_eq (dof_nodup ha) (dof_nodup hb) fun k => by
    cases h : f k with
    | none => rw [(ra k).1 h, (rb k).1 (by rw [← e]; exact h)]
    | some v =>
      obtain ⟨t, ht⟩ := (ra k).2 v h
      obtain ⟨t', ht'⟩ := (rb k).2 v (by rw [← e]; exact h)
      rw [ht, ht']; rfl
theorem d_same {A : Around} {da db : Addr} {oa ob : Obj} {ka kb : List (Int × Value)} {f g : Int → Option Int} (e : ∀ x, f x = g x) (ra : Rep ka f) (rb : Rep kb g) (N : News h₀ L s.heap news) (pa : (da, oa) ∈ news) (pb : (db, ob) ∈ news) (ha : DOf prog w oa ka) (hb : DOf prog w ob kb) (la : (da == sysModules) = false) (lb : (db == sysModules) = false) (hu : A.units < cLine)
    (h : Q (.bool true) s) : wpAny (model prog w) A (compareOp .Eq (.ref da) (.ref db)) Q E s :=
  keq_pairs N pa pb ha hb la lb (rep_same_len ha hb ra rb e) hu (hits_all rb ka (fun p hp => by
    obtain ⟨v, t, hf, hp2⟩ := rep_all ra (dof_nodup ha) p hp
    exact ⟨v, t, by rw [← e]; exact hf, hp2⟩)) h
@[reducible] def retS : Stmt := by
  refine' Subtype.val (p := fun d => at_ Fn.f_law.body 14 = d) ⟨_, ?h⟩
  case h =>
    conv => lhs; whnf
local macro_rules | `(tactic| walk_at "compareOp Eq ref ref") => `(tactic| (k_here; k_dflt (refine' d_same ?e ?ra ?rb ?N ?pa ?pb ?ha ?hb ?la ?lb ?hu ?_; (case N => k_asm); (case pa => k_mem); (case pb => k_mem); (case ha => k_asm); (case hb => k_asm); (case ra => k_asm); (case rb => k_asm); (case e => k_asm); (case la => k_asm); (case lb => k_asm); (case hu => k_room); k_whole)))
set_option maxHeartbeats 4000000 in
theorem law_ret {c1 c2 c3 c4 c5 rd bd : Addr} {o4 ord ob : Obj} {Q' : Flow → Shared → Prop} {kvsR kvsB : List (Int × Value)} {R b : Int → Option Int} {rest0 : List (Addr × Obj)} (B : Below A₀ base [] h₀) (X : (K w.params).In h₀) (T : Top p loose mean mg mb h₀) (hd : dp + 50 < recursionLimit) (hu : un + 150 < cLine)
    (F : Fr h₀ L s.heap m) (N : News h₀ L s.heap ((rd, ord) :: (bd, ob) :: rest0)) (k4 : (c4, o4) ∈ rest0) (k4' : IsCell o4 (.ref rd)) (mb' : m "best" = some (.ref bd)) (d1 : DOf prog w ord kvsR) (r1 : Rep kvsR R) (d2 : DOf prog w ob kvsB) (r2 : Rep kvsB b) (e : ∀ x, R x = b x) (lrd : (rd == sysModules) = false) (lbd : (bd == sysModules) = false)
    (ret : ∀ h' tk', Fr h₀ L h' m → News h₀ L h' ((rd, ord) :: (bd, ob) :: rest0) → Q' (.ret (.bool true)) { s with heap := h', toks := tk' }) :
    wpAny (model prog w) (lwA dp un gd L a c1 c2 c3 c4 c5) (exec retS (lwE L a c1 c2 c3 c4 c5)) Q' E s := by
  k_steps
  with_reducible rename Fr _ _ _ _ => F9
  with_reducible rename News _ _ _ _ => N9
  exact ret _ _ F9 N9

end
section
local macro_rules | `(tactic| walk_at "pad") => `(tactic| fail)
local macro_rules | `(tactic| walk_at "pad") => `(tactic| fail)
@[reducible] def su6 : Stmt := by
  refine' Subtype.val (p := fun d => at_ Fn.f_law.body 6 = d) ⟨_, ?h⟩
  case h =>
    conv => lhs; whnf
@[reducible] def su7 : Stmt := by
  refine' Subtype.val (p := fun d => at_ Fn.f_law.body 7 = d) ⟨_, ?h⟩
  case h =>
    conv => lhs; whnf
@[reducible] def su8 : Stmt := by
  refine' Subtype.val (p := fun d => at_ Fn.f_law.body 8 = d) ⟨_, ?h⟩
  case h =>
    conv => lhs; whnf
set_option maxHeartbeats 4000000 in
theorem su_fns {c1 c2 c3 c4 c5 : Addr} {o1 o2 o3 o4 o5 : Obj} {Q' : Flow → Shared → Prop} {rest0 : List (Addr × Obj)} (B : Below A₀ base [] h₀) (X : (K w.params).In h₀) (T : Top p loose mean mg mb h₀) (hd : dp + 50 < recursionLimit) (hu : un + 150 < cLine)
    (hCd : CodeHd h₀ 1251 1249) (hL1 : @LT.lt Nat instLTNat 1249 L)
    (F : Fr h₀ L s.heap m) (N : News h₀ L s.heap ((c5, o5) :: (1249, tabObj #[]) :: rest0)) (k5 : o5.data = .cell none) (n5 : ∀ p ∈ rest0, p.1 ≠ c5) (n9 : ∀ p ∈ rest0, p.1 ≠ 1249) (l59 : @LT.lt Nat instLTNat 1249 c5)
    (ret : ∀ h' tk' (hl cc clk tc ttu : Addr) (occ och otc : Obj) (ps vs1 vs2 : Array Value) (tv1 tv2 tH : Tok) (doc1 pm1 ct1 doc2 pm2 ct2 : Value), Fr h₀ L h' (fun y => if y = "end" then some (.ref ttu) else if y = "clock" then some (.ref clk) else m y) →
      News h₀ L h' ((ttu, endO doc2 pm2 tc ct2) :: (tc, otc) :: (clk, clkO c5 doc1 pm1 cc ct1) :: (cc, occ) :: (hl, listOf #[.int 0 tH] 0) :: (c5, och) :: (1249, tabObj ps) :: rest0) → occ.data = .fields vs1 → vs1[1]? = some (.str "law.<locals>.clock" tv1) → och.data = .cell (some (.ref hl)) → otc.data = .fields vs2 → vs2[1]? = some (.str "law.<locals>.end" tv2) →
      @LT.lt Nat instLTNat c5 hl → @LT.lt Nat instLTNat hl cc → @LT.lt Nat instLTNat cc clk → @LT.lt Nat instLTNat clk tc → @LT.lt Nat instLTNat tc ttu → AllLt hl rest0 → Q' .next { s with heap := h', toks := tk' }) :
    wpAny (model prog w) (lwA dp un gd L a c1 c2 c3 c4 c5) (execs [su6, su7, su8] (lwE L a c1 c2 c3 c4 c5)) Q' E s := by
  k_steps
  with_reducible rename News _ _ _ _ => N9
  with_reducible rename Fr _ _ _ _ => F9
  have eq1 : qualnameIn (lwE L a c1 c2 c3 c4 c5) "clock" "clock" = "law.<locals>.clock" := by with_unfolding_all rfl
  have eq2 : qualnameIn (lwE L a c1 c2 c3 c4 c5) "end" "end" = "law.<locals>.end" := by with_unfolding_all rfl
  rw [eq1, eq2] at N9
  simp only [eq1, eq2] at *
  k_dflt (refine ret _ _ _ _ _ _ _ _ _ _ _ _ _ _ _ _ _ _ _ _ _ _ F9 N9 (by assumption) (by assumption) (by assumption) (by assumption) (by assumption) ?_ ?_ ?_ ?_ ?_ ?_)
  all_goals first | assumption | omega | (refine And.right (And.right ?_); assumption)

end
section
local macro_rules | `(tactic| walk_at "pad") => `(tactic| fail)
local macro_rules | `(tactic| walk_at "pad") => `(tactic| fail)
local macro_rules | `(tactic| walk_at "call ref") => `(tactic| (k_here; (with_reducible show wpAny _ _ (call (Value.ref 1231) _) _ _ _); refine stop_here ?_))
@[reducible] def su9 : Stmt := by
  refine' Subtype.val (p := fun d => at_ Fn.f_law.body 9 = d) ⟨_, ?h⟩
  case h =>
    conv => lhs; whnf
set_option maxHeartbeats 4000000 in
theorem su_cal {c1 c2 c3 c4 c5 hl cc clk tc ttu : Addr} {o1 o2 och occ otc : Obj} {M : Int} {ts1 tH : Tok} {nh : Nat} {doc1 pm1 ct1 doc2 pm2 ct2 : Value} {Q' : Flow → Shared → Prop} {rest0 : List (Addr × Obj)} (B : Below A₀ base [] h₀) (X : (K w.params).In h₀) (T : Top p loose mean mg mb h₀) (hd : dp + 50 < recursionLimit) (hu : un + 150 < cLine)
    (F : Fr h₀ L s.heap m) (N : News h₀ L s.heap ((ttu, endO doc2 pm2 tc ct2) :: (tc, otc) :: (clk, clkO c5 doc1 pm1 cc ct1) :: (cc, occ) :: (hl, listOf #[.int 0 tH] nh) :: (c5, och) :: (c2, o2) :: rest0)) (k1 : (c1, o1) ∈ rest0) (k1' : IsCell o1 (.int M ts1)) (k2 : o2.data = .cell none) (n2 : ∀ p ∈ rest0, p.1 ≠ c2)
    (o0 : @LT.lt Nat instLTNat c2 c5) (o1' : @LT.lt Nat instLTNat c5 hl) (o2' : @LT.lt Nat instLTNat hl cc) (o3' : @LT.lt Nat instLTNat cc clk) (o4' : @LT.lt Nat instLTNat clk tc) (o5' : @LT.lt Nat instLTNat tc ttu) (hM : 1 ≤ M) (me : m "end" = some (.ref ttu)) (mc : m "clock" = some (.ref clk))
    (ret : ∀ h' tk' (c dc da dt tm di od : Addr) (t1 t2 t3 t4 t5 t6 t7 u1 u2 tcur tk0 tM : Tok) (oda odi o2 : Obj), Fr h₀ L h' m →
      News h₀ L h' ((c, instObj 1231 dc) :: (dc, calD w.params t1 t2 t3 t4 t5 t6 t7 (.ref da) (.int 0 tcur) (.int M tM) (.ref tm) (.ref di) (.ref od) (.ref ttu)) :: (tm, instObj 922 dt) ::
        (dt, dictOf [sE w.params "_Timer__timer" u1 (.ref clk), sE w.params "_Timer__nesting" u2 (.int 0 tk0)] 2) :: (da, oda) :: (di, odi) :: (od, listOf #[] 0) :: (clk, clkO c5 doc1 pm1 cc ct1) :: (cc, occ) :: (c5, och) :: (hl, listOf #[.int 0 tH] nh) :: (ttu, endO doc2 pm2 tc ct2) :: (tc, otc) :: (c2, o2) :: rest0) →
      o2.data = .cell (some (.ref c)) → @LT.lt Nat instLTNat ttu dc → @LT.lt Nat instLTNat dc c → @LT.lt Nat instLTNat c da → @LT.lt Nat instLTNat da dt → @LT.lt Nat instLTNat dt tm → @LT.lt Nat instLTNat tm di → @LT.lt Nat instLTNat di od → AllLt dc rest0 → (da == sysModules) = false → (di == sysModules) = false → DOf prog w oda [] → DOf prog w odi [] → Q' .next { s with heap := h', toks := tk' }) :
    wpAny (model prog w) (lwA dp un gd L a c1 c2 c3 c4 c5) (exec su9 (lwE L a c1 c2 c3 c4 c5)) Q' E s := by
  k_steps
  refine Stop.go ?_
  with_reducible rename News _ _ _ _ => N9
  with_reducible rename Fr _ _ _ _ => F9
  refine cal_new B F9 X N9 T (by omega) (by omega) o1' o2' o3' o4' o5' hM ?_
  intro h5 tk5 c dc da dt tm di od t1 t2 t3 t4 t5 t6 t7 u1 u2 tcur tk0 oda odi F5 N5 p1 p2 p3 p4 p5 p6 p7 al s1 s2 dd1 dd2
  have al2 : AllLt dc rest0 := al.2
  clear N9 F9
  k_steps
  with_reducible rename News _ _ _ _ => N9
  with_reducible rename Fr _ _ _ _ => F9
  exact ret _ _ c dc da dt tm di od t1 t2 t3 t4 t5 t6 t7 u1 u2 tcur tk0 _ oda odi _ F9 N9 (by assumption) p1 p2 p3 p4 p5 p6 p7 al2 s1 s2 dd1 dd2

end
section
local macro_rules | `(tactic| walk_at "pad") => `(tactic| fail)
local macro_rules | `(tactic| walk_at "pad") => `(tactic| fail)
local macro_rules | `(tactic| walk_at "call ref") => `(tactic| (k_here; (first | (with_reducible show wpAny _ _ (call (Value.ref 974) _) _ _ _) | (with_reducible show wpAny _ _ (call (Value.ref 1177) _) _ _ _) | (with_reducible show wpAny _ _ (call (Value.ref 950) _) _ _ _) | (with_reducible show wpAny _ _ (call (Value.ref 1206) _) _ _ _)); refine stop_here ?_))
local macro_rules | `(tactic| walk_at "subscriptTail") => `(tactic| (k_here; (with_reducible show wpAny _ _ (subscriptTail _ _ (Value.ref _) (Value.int _ _)) _ _ _); k_dflt (refine' l_at ?N ?m ?a ?v ?z ?_; (case N => k_asm); (case m => k_mem); (case v => k_asm); (case a => first | assumption | omega); (case z => omega); k_whole)))
@[reducible] def su10 : Stmt := by
  refine' Subtype.val (p := fun d => at_ Fn.f_law.body 10 = d) ⟨_, ?h⟩
  case h =>
    conv => lhs; whnf
theorem ne_of_lts {d x : Nat} {l : List (Addr × Obj)} (h : AllLt d l) (z : d ≤ x) : ∀ p ∈ l, p.1 ≠ x := by
  rcases Nat.lt_or_ge d x with h1 | h1
  · exact neAll_up h h1
  · obtain rfl : d = x := by omega
    exact neAll h
set_option maxHeartbeats 4000000 in
theorem su_first {c1 c2 c3 c4 : Addr} {c dc tm dt da di od clk cc hc hl ttu tc : Addr} {t1 t2 t3 t4 t5 t6 t7 u1 u2 tk0 tcur tM tH tv1 tv2 ts0 : Tok} {doc1 pm1 ct1 doc2 pm2 ct2 : Value} {oda odi occ och otc o2 : Obj} {M st : Int} {nh : Nat} {vs1 vs2 : Array Value} {cN pN : Addr} {rest0 own : List (Addr × Obj)} {Q' : Flow → Shared → Prop}
    (B : Below A₀ base [] h₀) (X : (K w.params).In h₀) (T : Top p loose mean mg mb h₀) (hd : dp + 50 < recursionLimit) (hu : un + 150 < cLine) (F : Fr h₀ L s.heap m)
    (N : News h₀ L s.heap ((c, instObj 1231 dc) :: (dc, calD w.params t1 t2 t3 t4 t5 t6 t7 (.ref da) (.int 0 tcur) (.int M tM) (.ref tm) (.ref di) (.ref od) (.ref ttu)) :: (tm, instObj 922 dt) ::
        (dt, dictOf [sE w.params "_Timer__timer" u1 (.ref clk), sE w.params "_Timer__nesting" u2 (.int 0 tk0)] 2) :: (da, oda) :: (di, odi) :: (od, listOf #[] 0) :: (clk, clkO hc doc1 pm1 cc ct1) :: (cc, occ) :: (hc, och) :: (hl, listOf #[.int 0 tH] nh) :: (ttu, endO doc2 pm2 tc ct2) :: (tc, otc) :: (c2, o2) :: rest0))
    (hoc : occ.data = .fields vs1) (hoc1 : vs1[1]? = some (.str "law.<locals>.clock" tv1)) (hch : och.data = .cell (some (.ref hl))) (hot : otc.data = .fields vs2) (hot1 : vs2[1]? = some (.str "law.<locals>.end" tv2)) (hCd : CodeHd h₀ cN pN)
    (O : Ords c dc tm dt da di clk cc hc hl ttu tc) (odi' : @LT.lt Nat instLTNat di od) (al : AllLt dc ((c2, o2) :: rest0)) (k2 : o2.data = .cell (some (.ref c))) (hda : DOf prog w oda []) (hdi : DOf prog w odi []) (hM : 1 ≤ M) (hM5 : M ≤ 5) (hs0 : 0 ≤ st) (hsM : st < M) (ms : m "start" = some (.int st ts0)) (hown : ∀ p ∈ own, p ∈ (c2, o2) :: rest0)
    (ret : ∀ h' tk' led', Fr h₀ L h' m → News h₀ L h' led' → CalL prog w h₀ c dc tm dt da di clk cc hc hl ttu tc M 0 (ceOn (fun _ => none) st 1) True 1 own led' → (∀ p ∈ (c2, o2) :: rest0, p ∈ led') → Q' .next { s with heap := h', toks := tk' }) :
    wpAny (model prog w) (lwA dp un gd L a c1 c2 c3 c4 hc) (exec su10 (lwE L a c1 c2 c3 c4 hc)) Q' E s := by
  have k2r : (c2, o2) ∈ (c2, o2) :: rest0 := .head _
  have k2' : IsCell o2 (.ref c) := k2
  k_steps
  refine Stop.go ?_
  with_reducible rename News _ _ _ _ => N9
  with_reducible rename Fr _ _ _ _ => F9
  have q : AllAp od [c, dc, tm, dt, da, di, clk, cc, hc, hl, ttu, tc] := by
    have := O.o1; have := O.o2; have := O.o3; have := O.o4; have := O.o5; have := O.o6; have := O.o7; have := O.o8; have := O.o9; have := O.o10; have := O.o11
    repeat (first | exact AllAp.nil | refine AllAp.cons (Nat.ne_of_lt (by omega)) ?_)
  have l2 := O.o7; have l3 := O.o8; have l4 := O.o9; have l5 := O.o10; have l6 := O.o11
  have hb0 : Book (fun _ => 0) (fun _ => false) (fun _ => none) [] [] [] := ⟨.nil, (fun _ => rfl), (fun _ _ h => nomatch h), (fun _ _ => rfl), (fun _ _ h => nomatch h), (fun _ h => nomatch h)⟩
  k_dflt (refine cal_set_first (s := { s with toks := s.toks + 1 }) (dp := dp) (un := un) (H := 0) (v := 1) (k := st) (M := M) (T0 := 0) (tT0 := 0) (tt := 0) (nst := .none) (time := .none) (mx := .none) (cur := .none) (oor := listOf #[] 0) (xs₀ := []) (ik₀ := []) (dk₀ := []) (no₀ := 0) (tcur₀ := tcur) (tM := tM) (xz := 0) (u3 := 0) B F9 X N9 T (by omega) (by omega) hoc hoc1 hch hot hot1 hCd O.o1 O.o2 O.o3 O.o4 O.o5 O.o6 O.o7 O.o8 O.o9 O.o10 O.o11 q (ne_of_lts al (Nat.le_refl _)) (ne_of_lts al (by omega)) (ne_of_lts al (by omega)) (ne_of_lts al (by omega)) (ne_of_lts al (by omega)) O.lda O.ldi hda hdi (by decide) (by decide) (by decide) (by decide) (fun _ h => nomatch h) (fun i h1 h2 => by simp at h2) hb0 (by simpa using hM) (by omega) rfl (fun _ _ h => nomatch h) ?_)
  intro h' tk' xs' no' oda' odi2 ik' dk' tcur' tz u3 tl' od' x F' N' H' b' hda' hdi' I' sub' z1 z2 z3 z4 z5 q' w'
  k_steps
  have CC : CalL prog w h₀ c dc tm dt da di clk cc hc hl ttu tc M 0 (ceOn (fun _ => none) st 1) True 1 own _ := .mk od' t1 t2 t3 t4 t5 t6 t7 u1 u2 u3 tz tH tv1 tv2 tM tcur' tH 0 doc1 pm1 ct1 doc2 pm2 ct2 oda' odi2 occ och otc nh no' vs1 vs2 cN pN xs' ik' dk' _ _ _ tl' (fun _ h => h) hoc hoc1 hch hot hot1 hCd q' z1 z2 z3 z4 z5 hda' hdi' w' I' H' b' (fun j => by simp only [Lv.on, ceOn]; by_cases h : j = st <;> simp [h]) (fun _ a => by simp [upF]) (fun k hk => by
    simp only [ceOn] at hk
    by_cases h : k = st
    · rw [h]; exact ⟨hs0, hsM⟩
    · rw [if_neg h] at hk; cases hk) (fun p hp => sub' _ (hown p hp))
  exact ret _ _ _ F' N' CC (fun p hp => by simp only [List.mem_cons (a := p)]; simp only [sub' p hp, or_true])

end
section
local macro_rules | `(tactic| walk_at "pad") => `(tactic| fail)
local macro_rules | `(tactic| walk_at "pad") => `(tactic| fail)
local macro_rules | `(tactic| walk_at "pad") => `(tactic| fail)
local macro_rules | `(tactic| walk_at "pad") => `(tactic| fail)
local macro_rules | `(tactic| walk_at "pad") => `(tactic| fail)
local macro_rules | `(tactic| walk_at "pad") => `(tactic| fail)
local macro_rules | `(tactic| walk_at "pad") => `(tactic| fail)
local macro_rules | `(tactic| walk_at "eval Dict") => `(tactic| (k_here; k_dflt (refine' kdn_eval (knd := PySem.intKind _ _) ?F ?N ?b ?a ?l ?e ?n ?_; (case F => k_asm); (case N => k_asm); (case b => exact Top.nolimit (by k_asm)); (case a => rfl); (case l => rfl); (case e => exact List.cons_ne_nil _ _); (case n => exact Nat.le_of_ble_eq_true rfl)); intro d' h' o' F' N' l1 lo' hd'; (try k_lt l1)))
@[reducible] def su11 : Stmt := by
  refine' Subtype.val (p := fun d => at_ Fn.f_law.body 11 = d) ⟨_, ?h⟩
  case h =>
    conv => lhs; whnf
@[reducible] def su12 : Stmt := by
  refine' Subtype.val (p := fun d => at_ Fn.f_law.body 12 = d) ⟨_, ?h⟩
  case h =>
    conv => lhs; whnf
set_option maxHeartbeats 4000000 in
theorem su_known {c1 c2 c3 c4 c5 : Addr} {o3 : Obj} {st : Int} {ts0 : Tok} {Q' : Flow → Shared → Prop} {rest0 : List (Addr × Obj)} (B : Below A₀ base [] h₀) (X : (K w.params).In h₀) (T : Top p loose mean mg mb h₀) (hd : dp + 50 < recursionLimit) (hu : un + 150 < cLine)
    (F : Fr h₀ L s.heap m) (N : News h₀ L s.heap ((c3, o3) :: rest0)) (k3 : o3.data = .cell none) (n3 : ∀ p ∈ rest0, p.1 ≠ c3) (ms : m "start" = some (.int st ts0))
    (ret : ∀ h' tk' (kn : Addr) (okn o3 : Obj) (t : Tok), Fr h₀ L h' m → News h₀ L h' ((kn, okn) :: (c3, o3) :: rest0) → IsCell o3 (.ref kn) → DOf prog w okn [(st, .int 1 t)] → (kn == sysModules) = false → AllLt kn ((c3, o3) :: rest0) → Q' .next { s with heap := h', toks := tk' }) :
    wpAny (model prog w) (lwA dp un gd L a c1 c2 c3 c4 c5) (exec su11 (lwE L a c1 c2 c3 c4 c5)) Q' E s := by
  k_steps
  with_reducible rename News _ _ _ _ => N9
  with_reducible rename Fr _ _ _ _ => F9
  exact ret _ _ _ _ _ _ F9 N9 (by assumption) (by assumption) (by assumption) (by assumption)
set_option maxHeartbeats 4000000 in
theorem su_reached {c1 c2 c3 c4 c5 : Addr} {o4 : Obj} {Q' : Flow → Shared → Prop} {rest0 : List (Addr × Obj)} (B : Below A₀ base [] h₀) (X : (K w.params).In h₀) (T : Top p loose mean mg mb h₀) (hd : dp + 50 < recursionLimit) (hu : un + 150 < cLine)
    (F : Fr h₀ L s.heap m) (N : News h₀ L s.heap ((c4, o4) :: rest0)) (k4 : o4.data = .cell none) (n4 : ∀ p ∈ rest0, p.1 ≠ c4)
    (ret : ∀ h' tk' (rd : Addr) (ord o4 : Obj), Fr h₀ L h' m → News h₀ L h' ((rd, ord) :: (c4, o4) :: rest0) → IsCell o4 (.ref rd) → DOf prog w ord [] → (rd == sysModules) = false → AllLt rd ((c4, o4) :: rest0) → Q' .next { s with heap := h', toks := tk' }) :
    wpAny (model prog w) (lwA dp un gd L a c1 c2 c3 c4 c5) (exec su12 (lwE L a c1 c2 c3 c4 c5)) Q' E s := by
  k_steps
  with_reducible rename News _ _ _ _ => N9
  with_reducible rename Fr _ _ _ _ => F9
  exact ret _ _ _ _ _ F9 N9 (by assumption) (by assumption) (by assumption) (by assumption)
@[reducible] def su4 : Stmt := by
  refine' Subtype.val (p := fun d => at_ Fn.f_law.body 4 = d) ⟨_, ?h⟩
  case h =>
    conv => lhs; whnf
set_option maxHeartbeats 4000000 in
theorem su_best {c1 c2 c3 c4 c5 : Addr} {st : Int} {ts0 : Tok} {Q' : Flow → Shared → Prop} (B : Below A₀ base [] h₀) (X : (K w.params).In h₀) (T : Top p loose mean mg mb h₀) (hd : dp + 50 < recursionLimit) (hu : un + 150 < cLine)
    (F : Fr h₀ L s.heap m) (N : News h₀ L s.heap news) (ms : m "start" = some (.int st ts0))
    (ret : ∀ h' tk' (bd : Addr) (ob : Obj) (t : Tok), Fr h₀ L h' (fun z => if z = "best" then some (.ref bd) else m z) → News h₀ L h' ((bd, ob) :: news) → DOf prog w ob [(st, .int 1 t)] → (bd == sysModules) = false → AllLt bd news → Q' .next { s with heap := h', toks := tk' }) :
    wpAny (model prog w) (lwA dp un gd L a c1 c2 c3 c4 c5) (exec su4 (lwE L a c1 c2 c3 c4 c5)) Q' E s := by
  k_steps
  with_reducible rename News _ _ _ _ => N9
  with_reducible rename Fr _ _ _ _ => F9
  exact ret _ _ _ _ _ F9 N9 (by assumption) (by assumption) (by first | assumption | exact allLt_of (by assumption))

end
section
/-! a list comprehension whose variable is a cell (an inner comprehension reads it) -/
open LCg in
theorem newEnv_cell {M : Model} {A : Around} {scope : Scope} {x : Str} {cl' : List (Str × Addr)} {env : Env} {Q' : Env → Shared → Prop}
    (hc : ∀ n acc, cellsFrom n scope.names acc = (x, n) :: acc) (hp : ∀ h : Heap, pushCells h scope.names = h.push { cls := .type "cell", data := .cell none })
    (h : Q' { scope := scope, locals := s.heap.objs.size, globals := env.globals, cells := (x, s.heap.objs.size + 1) :: cl', qual := env.qual, func := none, code := env.code, frame := env.frame, builtins := env.builtins }
      { s with heap := (s.heap.push { cls := .type "dict", data := .dict #[] }).push { cls := .type "cell", data := .cell none } }) :
    wpAny M A (newFunctionEnv scope env.globals cl' [] env.qual none .none (some env)) Q' E s := by
  simp only [newFunctionEnv, Option.isSome_some, if_true]
  refine wpAny_bind (wpAny_alloc ?_)
  refine wpAny_bind (wpAny_layCells _ (fun name kind cells => by cases hkc : kind == NameKind.cell <;> simp [hkc]) _ _ _ _ ?_)
  rw [hc, hp]
  simp only [List.forIn_nil]
  refine wpAny_bind (wpAny_pure (wpAny_pure ?_))
  rw [show ({ s with heap := s.heap.push { cls := .type "dict", data := .dict #[] } } : Shared).heap.objs.size = s.heap.objs.size + 1 from Heap.size_push ..]
  exact h
theorem off1_of {D : Addr} : ∀ {l : List (Addr × Obj)}, (∀ p ∈ l, p.1 ≠ D) → LCg.Off1 D l
  | [], _ => trivial
  | _ :: _, h => ⟨h _ (.head _), off1_of fun p hp => h p (.tail _ hp)⟩
def Offs (I C D Nc : Addr) (l : List (Addr × Obj)) : Prop := ∀ p ∈ l, p.1 ≠ I ∧ p.1 ≠ C ∧ p.1 ≠ D ∧ p.1 ≠ Nc
open LCg in
/-- what is left of such a comprehension behind i turns -/
def CellRest (prog : Program) (w : World) (A : Around) (h₀ : Heap) (L : Addr) (m : Str → Option Value) (env : Env) (elt : Expr) (x : Str) (scope : Scope) (cl' : List (Str × Addr)) (s : Shared) (S : List (Addr × Obj) → Prop) (P : Nat → Value → Prop)
    (Fin : List Value → List (Addr × Obj) → Prop) : Nat → Nat → List Value → List (Addr × Obj) → Prop
  | 0, _, ys, nw => Fin ys nw
  | k + 1, i, ys, nw => ∀ (v : Value) (I : Addr) (oI : Obj) (C : Addr) (oC : Obj) (D Nc : Addr) (oN : Obj) (h : Heap) (tk : Nat) (E' : Value → Shared → Prop), P i v → oN.data = .cell (some v) → Fr h₀ L h m → News h₀ L h ((I, oI) :: (C, oC) :: (D, lst ys) :: (Nc, oN) :: nw) → Offs I C D Nc nw →
      ((@Ne Nat I C) ∧ (@Ne Nat I D) ∧ (@Ne Nat C D) ∧ (@Ne Nat Nc I) ∧ (@Ne Nat Nc C) ∧ (@Ne Nat Nc D)) →
      wpAny (model prog w) A (eval elt (compEnvC scope ((x, Nc) :: cl') C env)) (fun y s₂ => ∃ h' tk' nw', s₂ = { s with heap := h', toks := tk' } ∧ Fr h₀ L h' m ∧ News h₀ L h' ((I, oI) :: (C, oC) :: (D, lst ys) :: (Nc, oN) :: nw') ∧ Offs I C D Nc nw' ∧ S nw' ∧
        CellRest prog w A h₀ L m env elt x scope cl' s S P Fin k (i + 1) (ys ++ [y]) nw') E' { s with heap := h, toks := tk }
open LCg in
theorem block_cell {A : Around} {env : Env} {elt iter : Expr} {x : Str} {px : Pos} {scope : Scope} {cl' : List (Str × Addr)} {pos : Pos} {s₂ : Shared} {I : Addr} {fp : List Addr} {n : Nat} {P : Nat → Value → Prop} {St : Nat → Heap → Prop} {S : List (Addr × Obj) → Prop} {nw : List (Addr × Obj)}
    {Fin : List Value → List (Addr × Obj) → Prop} {RR : Value → Addr → Result → Shared → Prop}
    (W : Walks prog w A I fp [I] n P St) (hsz : n ≤ sizeLine) (hIo : ∀ i h, St i h → ∃ o, h.get? I = some o)
    (hSt : ∀ i h h' o nw, St i h → h.get? I = some o → h'.get? I = some o → (∀ b o, h₀.get? b = some o → h'.get? b = some o) → News h₀ L h' nw → S nw → St i h')
    (hc : ∀ n acc, cellsFrom n scope.names acc = (x, n) :: acc) (hp : ∀ h : Heap, pushCells h scope.names = h.push { cls := .type "cell", data := .cell none })
    (hkind : scope.kind = .function) (hx : (relabel scope env).names.lookup x = some .cell) (hst : St 0 s₂.heap) (hfp : ∀ b ∈ fp, b < s₂.heap.objs.size)
    (F : Fr h₀ L s₂.heap m) (N : News h₀ L s₂.heap nw) (hIL : L ≠ I) (hI₀ : h₀.get? I = none) (off : ∀ p ∈ nw, p.1 ≠ I) (hS : S nw)
    (R : CellRest prog w A h₀ L m env elt x scope cl' s₂ S P Fin n 0 [] nw)
    (hRR : ∀ D C h tk m' ys nw', Fr h₀ L h m → News h₀ L h ((D, lst ys) :: nw') → Off1 D nw' → h.Ns C m' → h₀.get? C = none → h₀.get? D = none → C ≠ L → D ≠ L → C ≠ D → (∀ p ∈ nw', p.1 ≠ C) → Fin ys nw' → RR (.ref D) C (.ok .next) { s₂ with heap := h, toks := tk }) :
    wpAny (model prog w) A (newList []) (fun acc s₃ => wpAny (model prog w) A (newFunctionEnv scope env.globals cl' [] env.qual none .none (some env)) (fun cenv s₄ =>
      codeAny (model prog w) A (.compStart (.ListComp elt [⟨.Name x px, iter, [], 0⟩] scope pos) 0 (.ref I) acc { cenv with scope := relabel scope env }) (RR acc cenv.locals) s₄) E s₃) E s₂ := by
  refine wpAny_newObj_type (newEnv_cell hc hp ?_)
  dsimp only
  generalize hH2 : s₂.heap.push { cls := .type "list", dict := none, data := .seq ([] : List Value).toArray } = H2
  have hC : H2.objs.size = s₂.heap.objs.size + 1 := by rw [← hH2, Heap.size_push]
  generalize hh₁ : (H2.push { cls := .type "dict", data := .dict #[] }).push { cls := .type "cell", data := .cell none } = h₁
  have sz3 : (H2.push { cls := .type "dict", data := .dict #[] }).objs.size = H2.objs.size + 1 := Heap.size_push ..
  have lt3 : ∀ b, b < s₂.heap.objs.size → b ≠ H2.objs.size ∧ b ≠ s₂.heap.objs.size ∧ b ≠ H2.objs.size + 1 := fun b hb => by
    have hb' : @LT.lt Nat instLTNat b s₂.heap.objs.size := hb
    exact ⟨Nat.ne_of_lt (by omega), Nat.ne_of_lt hb', Nat.ne_of_lt (by omega)⟩
  have up2 : ∀ b o, s₂.heap.get? b = some o → H2.get? b = some o := fun b o e => hH2 ▸ Heap.get?_push_of_some _ e
  have up1 : ∀ b o, H2.get? b = some o → h₁.get? b = some o := fun b o e => hh₁ ▸ Heap.get?_push_of_some _ (Heap.get?_push_of_some _ e)
  have old : ∀ b o, s₂.heap.get? b = some o → h₁.get? b = some o := fun b o e => up1 _ _ (up2 _ _ e)
  have hacc : h₁.get? s₂.heap.objs.size = some (lst []) := up1 _ _ (hH2 ▸ Heap.get?_push_size _ rfl)
  have hns₁ : h₁.Ns H2.objs.size (fun _ => none) := hh₁ ▸ (Heap.Ns.new H2 (.type "dict")).keeps fun b o e => Heap.get?_push_of_some _ e
  have hcell₁ : h₁.get? (H2.objs.size + 1) = some { cls := .type "cell", data := .cell none } := hh₁ ▸ sz3 ▸ Heap.get?_push_size _ rfl
  have hCf : H2.objs.size ∉ fp := fun hm => (lt3 _ (hfp _ hm)).1 rfl
  have hDf : s₂.heap.objs.size ∉ fp := fun hm => (lt3 _ (hfp _ hm)).2.1 rfl
  have hNf : H2.objs.size + 1 ∉ fp := fun hm => (lt3 _ (hfp _ hm)).2.2 rfl
  have hIf : I ∈ fp := W.sub I (List.mem_singleton.mpr rfl)
  obtain ⟨hCI, hDI, hNI⟩ := lt3 I (hfp I hIf)
  have hst₁ : St 0 h₁ := W.frame _ _ _ hst fun b _ o e => old b o e
  have fresh₀ : ∀ a : Addr, s₂.heap.objs.size ≤ a → h₀.get? a = none := fun a ha => by
    cases e : h₀.get? a with
    | none => rfl
    | some o' => exact absurd (Heap.lt_size (F.keep a o' e)) (Nat.not_lt.mpr ha)
  have hD₀ : h₀.get? s₂.heap.objs.size = none := fresh₀ _ (Nat.le_refl _)
  have hC₀ : h₀.get? H2.objs.size = none := fresh₀ _ (by rw [hC]; exact Nat.le_succ _)
  have hN₀ : h₀.get? (H2.objs.size + 1) = none := fresh₀ _ (by rw [hC]; exact Nat.le_succ_of_le (Nat.le_succ _))
  obtain ⟨hCL', hDL', hNL'⟩ := lt3 L F.ns.lt
  have hDC : s₂.heap.objs.size ≠ H2.objs.size := by rw [hC]; exact Nat.ne_of_lt (Nat.lt_succ_self _)
  have hDN : s₂.heap.objs.size ≠ H2.objs.size + 1 := by rw [hC]; exact Nat.ne_of_lt (Nat.lt_succ_of_lt (Nat.lt_succ_self _))
  have hCN : H2.objs.size ≠ H2.objs.size + 1 := Nat.ne_of_lt (Nat.lt_succ_self _)
  have off₀ : Offs I H2.objs.size s₂.heap.objs.size (H2.objs.size + 1) nw := fun p hp => ⟨off p hp, lt3 _ (Heap.lt_size (N p hp).1)⟩
  have loop : ∀ s₃ : Shared, s₃ = { s₂ with heap := h₁, toks := s₂.toks } →
      codeAny (model prog w) A (.compLoop (.ListComp elt [⟨.Name x px, iter, [], 0⟩] scope pos) 0 (.ref I) (.ref s₂.heap.objs.size) (compEnvC scope ((x, H2.objs.size + 1) :: cl') H2.objs.size env))
        (RR (.ref s₂.heap.objs.size) H2.objs.size) s₃ := by
    rintro s₃ rfl
    refine codeAny_compLoop_tests
      (fun k s' => ∃ h' tk i ys m' nw' oN v₀, s' = { s₂ with heap := h', toks := tk } ∧ i ≤ n ∧ k = n + 1 - i ∧ ys.length = i ∧ St i h' ∧ Fr h₀ L h' m ∧ h'.Ns H2.objs.size m' ∧ oN.data = .cell v₀ ∧ News h₀ L h' ((s₂.heap.objs.size, lst ys) :: (H2.objs.size + 1, oN) :: nw') ∧
        Offs I H2.objs.size s₂.heap.objs.size (H2.objs.size + 1) nw' ∧ S nw' ∧ CellRest prog w A h₀ L m env elt x scope cl' s₂ S P Fin (n - i) i ys nw') ?_ (n + 1)
      ⟨h₁, _, 0, [], _, nw, { cls := .type "cell", data := .cell none }, none, rfl, Nat.zero_le _, rfl, rfl, hst₁, F.keeps old, hns₁, rfl, fun p hp => ?_, off₀, hS, R⟩
    · rintro k s' ⟨h', tk, i, ys, m', nw', oN, v₀, rfl, hi, rfl, hyl, hst', F', hn', hoN, N', off', hS', R'⟩
      by_cases hlt : i < n
      · obtain ⟨j, hj⟩ : ∃ j, n - i = j + 1 := ⟨n - i - 1, by omega⟩
        rw [hj] at R'
        refine W.item i _ _ _ hlt hst' fun v h₂ tk₂ hPv hst₂ hk₂ => ?_
        have N₂ : News h₀ L h₂ ((s₂.heap.objs.size, lst ys) :: (H2.objs.size + 1, oN) :: nw') := news_but N' hk₂ fun p hp => by
          rcases List.mem_cons.mp hp with rfl | hp
          · exact Ne.symm hDI
          · rcases List.mem_cons.mp hp with rfl | hp
            · exact Ne.symm hNI
            · exact (off' p hp).1
        have hcell₂ : h₂.IsCell (H2.objs.size + 1) v₀ := ⟨oN, (N₂ _ (.tail _ (.head _))).1, hoN⟩
        refine wpAny_assign_Name (wpAny_storeName_cell (env := compEnvC scope ((x, H2.objs.size + 1) :: cl') H2.objs.size env) hkind hx (by simp [compEnvC]) hcell₂ fun h₃ hc₃ hs₃ => ?_)
        refine wpAny_tests_nil ?_
        simp only [if_true]
        have hst₃ : St (i + 1) h₃ := W.frame _ _ _ hst₂ fun b hb o e => hs₃.extBut b o (fun q => hNf (by have q' : b = H2.objs.size + 1 := q; rw [← q']; exact hb)) e
        have hn₃ : h₃.Ns H2.objs.size m' := (hn'.at' fun o e => hk₂ _ o (by simpa using Ne.symm hCI) e).sameBut hs₃ hCN
        obtain ⟨oI, heI⟩ := hIo _ _ hst₃
        obtain ⟨oC, heC, hoC⟩ := ns_obj hn₃
        obtain ⟨oN', heN, hoN'⟩ := hc₃
        have F₃ : Fr h₀ L h₃ m := (fr_but F' hk₂ hIL hI₀).change hs₃ (Ne.symm hNL') hN₀
        have N₃ : News h₀ L h₃ ((I, oI) :: (H2.objs.size, oC) :: (s₂.heap.objs.size, lst ys) :: (H2.objs.size + 1, oN') :: nw') := fun p hp => by
          rcases List.mem_cons.mp hp with rfl | hp
          · exact ⟨heI, Ne.symm hIL, hI₀⟩
          · rcases List.mem_cons.mp hp with rfl | hp
            · exact ⟨heC, Ne.symm hCL', hC₀⟩
            · rcases List.mem_cons.mp hp with rfl | hp
              · have z := N₂ _ (.head _)
                exact ⟨hs₃.extBut _ _ hDN z.1, z.2⟩
              · rcases List.mem_cons.mp hp with rfl | hp
                · exact ⟨heN, Ne.symm hNL', hN₀⟩
                · have z := N₂ p (.tail _ (.tail _ hp))
                  exact ⟨hs₃.extBut _ _ (off' p hp).2.2.2 z.1, z.2⟩
        refine wpAny_mono (R' v I oI H2.objs.size oC s₂.heap.objs.size (H2.objs.size + 1) oN' h₃ _ _ hPv hoN' F₃ N₃ off' ⟨hCI, hDI, Ne.symm hDC, Ne.symm hNI, Ne.symm hCN, Ne.symm hDN⟩) (fun y s₄ h₄ => ?_) fun _ _ e => e
        obtain ⟨h₄, tk₄, nw₄, rfl, F₄, N₄, off₄, hS₄, R₄⟩ := h₄
        have zI := (N₄ (I, oI) (.head _)).1
        have zC := (N₄ (H2.objs.size, oC) (.tail _ (.head _))).1
        have zD := (N₄ (s₂.heap.objs.size, lst ys) (.tail _ (.tail _ (.head _)))).1
        have N₄' : News h₀ L h₄ nw₄ := fun p hp => N₄ p (.tail _ (.tail _ (.tail _ (.tail _ hp))))
        have hst₄ : St (i + 1) h₄ := hSt _ _ _ _ _ hst₃ heI zI F₄.keep N₄' hS₄
        refine append_at (hsz := by show ys.toArray.size ≤ sizeLine; rw [List.size_toArray, hyl]; exact Nat.le_trans hi hsz) zD fun h₅ hs₅ hD₅ => ?_
        refine ⟨n + 1 - (i + 1), by omega, h₅, tk₄, i + 1, ys ++ [y], _, nw₄, oN', some v, rfl, hlt, rfl, by rw [List.length_append, List.length_singleton, hyl], W.frame _ _ _ hst₄ fun b hb o e => hs₅.extBut b o (fun q => hDf (q ▸ hb)) e, F₄.change hs₅ (Ne.symm hDL') hD₀,
          (hoC.ns zC).sameBut hs₅ (Ne.symm hDC), hoN', fun p hp => ?_, off₄, hS₄, ?_⟩
        · rcases List.mem_cons.mp hp with rfl | hp
          · exact ⟨hD₅.trans (congrArg some (lst_snoc ys y)), Ne.symm hDL', hD₀⟩
          · rcases List.mem_cons.mp hp with rfl | hp
            · have z := N₄ (H2.objs.size + 1, oN') (.tail _ (.tail _ (.tail _ (.head _))))
              exact ⟨hs₅.extBut _ _ (Ne.symm hDN) z.1, z.2⟩
            · exact ⟨hs₅.extBut _ _ (off₄ p hp).2.2.1 (N₄' p hp).1, (N₄' p hp).2⟩
        · rw [show n - (i + 1) = j by omega]
          exact R₄
      · obtain rfl : i = n := Nat.le_antisymm hi (Nat.not_lt.mp hlt)
        rw [Nat.sub_self] at R'
        refine W.done _ _ _ hst' fun h₂ tk₂ hk₂ => ?_
        exact hRR _ _ h₂ tk₂ _ ys nw' (fr_but F' hk₂ hIL hI₀) (news_but (fun p hp => N' p (by
            rcases List.mem_cons.mp hp with rfl | hp
            · exact .head _
            · exact .tail _ (.tail _ hp))) hk₂ fun p hp => by
          rcases List.mem_cons.mp hp with rfl | hp
          · exact Ne.symm hDI
          · exact (off' p hp).1) (off1_of fun p hp => (off' p hp).2.2.1) (hn'.at' fun o e => hk₂ _ o (by simpa using Ne.symm hCI) e) hC₀ hD₀ (Ne.symm hCL') (Ne.symm hDL') (Ne.symm hDC) (fun p hp => (off' p hp).2.1) R'
    · rcases List.mem_cons.mp hp with rfl | hp
      · exact ⟨hacc, Ne.symm hDL', hD₀⟩
      · rcases List.mem_cons.mp hp with rfl | hp
        · exact ⟨hcell₁, Ne.symm hNL', hN₀⟩
        · exact ⟨old _ _ (N p hp).1, (N p hp).2⟩
  exact codeAny_compStart_list (loop _ rfl) (W.self 0 _ _ _ hst₁ (loop _ rfl))
open LCg in
theorem comp_cell {A : Around} {env : Env} {elt iter : Expr} {x y : Str} {px py : Pos} {scope : Scope} {cl' : List (Str × Addr)} {pos spos : Pos} {Q' : Flow → Shared → Prop} (hLe : env.locals = L)
    (hsw : swapsWith (.ListComp elt [⟨.Name x px, iter, [], 0⟩] scope pos) (some (.Name y py)) spos.line env = pure true)
    (hclos : closureFor scope env = pure cl') (hc : ∀ n acc, cellsFrom n scope.names acc = (x, n) :: acc) (hpc : ∀ h : Heap, pushCells h scope.names = h.push { cls := .type "cell", data := .cell none }) (hkind : scope.kind = .function)
    (hnames : ∀ z ∈ scope.names, z.2 = .local → scope.names.lookup z.1 = some .local) (hx : (relabel scope env).names.lookup x = some .cell)
    (hy : env.kindOf y = some .local) (hp : (env.scope.kind == .class || (env.scope.kind == .module && env.locals != env.globals)) = false)
    (h : wpAny (model prog w) A (eval iter env) (fun xv s₁ => ∃ ax its nw, xv = .ref ax ∧ A.handled = none ∧ Fr h₀ L s₁.heap m ∧ News h₀ L s₁.heap nw ∧ SrcAt h₀ ax its nw ∧ its.size ≤ sizeLine ∧
      ∀ s₂ : Shared, (∃ g, s₂ = { s₁ with heap := g }) → CellRest prog w A h₀ L m env elt x scope cl' s₂ (SrcAt h₀ ax its) (fun i v => its[i]? = some v) (FinA h₀ L m s₂ y Q') its.size 0 [] nw) E s)
    (hs : ∀ x, foldedSetIterable iter env x = pure x := by intro _; rfl) :
    wpAny (model prog w) A (exec (.Assign [.Name y py] (.ListComp elt [⟨.Name x px, iter, [], 0⟩] scope pos) spos) env) Q' E s := by
  subst hLe
  rw [exec_Assign_Name_used _ _ _ _ hsw]
  refine wpAny_bind (wpAny_standAt (wpAny_bind ?_))
  show wpAny _ A (do let _ ← comprehension (.ListComp elt [⟨.Name x px, iter, [], 0⟩] scope pos) scope env _ (newList []) false (eval iter env) (some (assign (.Name y py) env))) _ _ s
  refine wpAny_bind (wpAny_mono (wpAny_comprehension_free (use := some (assign (.Name y py) env)) (Q := fun _ s' => Q' .next s') rfl hs hclos hkind hnames
    (wpAny_mono h (fun xv s₁ h₁ => ?_) fun _ _ e => e)) (fun _ s' hq => wpAny_pure (wpAny_pure hq)) fun _ _ e => e)
  obtain ⟨ax, its, nw, rfl, hh, F, N, S, hsz, R⟩ := h₁
  have hl := S.list F.keep N
  have hlt : ax < s₁.heap.objs.size := by obtain ⟨_, e, _⟩ := hl; exact Heap.lt_size e
  refine wpAny_pyIter_list hl ?_
  have up : ∀ b o, s₁.heap.get? b = some o → (s₁.heap.push { cls := .type "list_iterator", data := .fields #[.ref ax, .int 0 0] }).get? b = some o := fun b o e => Heap.get?_push_of_some _ e
  refine block_cell (Walks.list hh s₁.heap.objs.size ax (Nat.ne_of_lt hlt) its) hsz (fun i h st => by obtain ⟨o, e, _⟩ := st.1; exact ⟨o, e⟩) list_st hc hpc hkind hx ⟨⟨_, Heap.get?_push_size _ rfl, rfl, rfl⟩, hl.push _⟩ (fun b hb => ?_)
    (F.keeps up) (N.grown up) (Nat.ne_of_lt F.ns.lt) (next_is_new F) (fun p hp => Nat.ne_of_lt (Heap.lt_size (N p hp).1)) S (R _ ⟨_, rfl⟩) ?_
  · show b < (s₁.heap.push _).objs.size
    rw [Heap.size_push]
    rcases List.mem_cons.mp hb with rfl | hb
    · exact Nat.lt_succ_self _
    · rw [List.mem_singleton.mp hb]; exact Nat.lt_succ_of_lt hlt
  · intro D C h' tk m' ys news' F' N' o1 hn hC₀ hD₀ hCL hDL hCD offC fin
    show wpAny _ A (assign (.Name y py) env (.ref D)) _ _ _
    refine wpAny_assign_Name (wpAny_storeName_local hy F'.ns (fun h₂ hn₂ hs₂ => ?_) hp)
    have hL₀ : h₀.get? env.locals = none := Heap.get?_none_of_le F'.above
    have F₂ : Fr h₀ env.locals h₂ (fun z => if z = y then some (.ref D) else m z) := ⟨hn₂, fun b o e => hs₂.extBut b o (fun q => by rw [q, hL₀] at e; cases e) (F'.keep b o e), F'.above⟩
    refine ⟨m', hn.sameBut hs₂ hCL, fun h'' hs'' => fin D h'' _ (F₂.change hs'' hCL hC₀) (fun p hp => ⟨hs''.extBut _ _ ?_ (hs₂.extBut _ _ (N' p hp).2.1 (N' p hp).1), (N' p hp).2⟩) o1⟩
    rcases List.mem_cons.mp hp with rfl | hp
    · exact Ne.symm hCD
    · exact offC p hp

end
section
local macro_rules | `(tactic| walk_at "pad") => `(tactic| fail)
local macro_rules | `(tactic| walk_at "pad") => `(tactic| fail)
local macro_rules | `(tactic| walk_at "pad") => `(tactic| fail)
local macro_rules | `(tactic| walk_at "pad") => `(tactic| fail)
theorem off1_mem {D : Addr} : ∀ {l : List (Addr × Obj)}, LCg.Off1 D l → ∀ p ∈ l, p.1 ≠ D
  | [], _, _, h => nomatch h
  | _ :: _, x, p, h => by
    rcases List.mem_cons.mp h with rfl | h
    · exact x.1
    · exact off1_mem x.2 p h
theorem compRest_inv {A : Around} {env : Env} {elt : Expr} {x : Str} {scope : Scope} {cl' : List (Str × Addr)} {S : List (Addr × Obj) → Prop} {P : Nat → Value → Prop} {Fin : List Value → List (Addr × Obj) → Prop} {n : Nat} {nw : List (Addr × Obj)} (inv : Nat → List Value → Prop)
    (h0 : inv 0 []) (fin : ∀ ys, inv n ys → Fin ys nw)
    (turn : ∀ k i ys, i + (k + 1) = n → inv i ys → (∀ y, inv (i + 1) (ys ++ [y]) → LCg.CompRest prog w A h₀ L m env elt x scope cl' s S P Fin k (i + 1) (ys ++ [y]) nw) → LCg.CompRest prog w A h₀ L m env elt x scope cl' s S P Fin (k + 1) i ys nw) :
    LCg.CompRest prog w A h₀ L m env elt x scope cl' s S P Fin n 0 [] nw := by
  have key : ∀ k i ys, i + k = n → inv i ys → LCg.CompRest prog w A h₀ L m env elt x scope cl' s S P Fin k i ys nw := by
    intro k
    induction k with
    | zero => intro i ys hi hv; exact LCg.CompRest.zero (fin ys (by rw [← hi]; exact hv))
    | succ k ih => intro i ys hi hv; exact turn k i ys hi hv fun y hy => ih (i + 1) (ys ++ [y]) (by omega) hy
  exact key n 0 [] (by omega) h0
theorem cellRest_inv {A : Around} {env : Env} {elt : Expr} {x : Str} {scope : Scope} {cl' : List (Str × Addr)} {S : List (Addr × Obj) → Prop} {P : Nat → Value → Prop} {Fin : List Value → List (Addr × Obj) → Prop} {n : Nat} {nw₀ : List (Addr × Obj)} (inv : Nat → List Value → List (Addr × Obj) → Prop)
    (h0 : inv 0 [] nw₀) (fin : ∀ ys nw, inv n ys nw → Fin ys nw)
    (turn : ∀ k i ys nw, i + (k + 1) = n → inv i ys nw → (∀ y nw', inv (i + 1) (ys ++ [y]) nw' → CellRest prog w A h₀ L m env elt x scope cl' s S P Fin k (i + 1) (ys ++ [y]) nw') → CellRest prog w A h₀ L m env elt x scope cl' s S P Fin (k + 1) i ys nw) :
    CellRest prog w A h₀ L m env elt x scope cl' s S P Fin n 0 [] nw₀ := by
  have key : ∀ k i ys nw, i + k = n → inv i ys nw → CellRest prog w A h₀ L m env elt x scope cl' s S P Fin k i ys nw := by
    intro k
    induction k with
    | zero => intro i ys nw hi hv; exact fin ys nw (by rw [← hi]; exact hv)
    | succ k ih => intro i ys nw hi hv; exact turn k i ys nw hi hv fun y nw' hy => ih (i + 1) (ys ++ [y]) nw' (by omega) hy
  exact key n 0 [] nw₀ (by omega) h0
@[reducible] def su3 : Stmt := by
  refine' Subtype.val (p := fun d => at_ Fn.f_law.body 3 = d) ⟨_, ?h⟩
  case h =>
    conv => lhs; whnf
def pw (j : Nat) : Int := ([1, 4, 16, 64, 256] : List Int).getD j 1
/-- the length of the way from place i to place j -/
def lenOf (ns : List Int) : Int → Int → Int := fun i j => ((ns.getD i.toNat 0).fdiv (pw j.toNat)).fmod 4
theorem lenOf_le (ns : List Int) (i j : Int) : 0 ≤ lenOf ns i j ∧ lenOf ns i j ≤ 3 := by
  have h1 := Int.fmod_nonneg_of_pos ((ns.getD i.toNat 0).fdiv (pw j.toNat)) (by decide : (0 : Int) < 4)
  have h2 := Int.fmod_lt_of_pos ((ns.getD i.toNat 0).fdiv (pw j.toNat)) (by decide : (0 : Int) < 4)
  exact ⟨h1, by unfold lenOf; omega⟩
theorem pw_get {j : Nat} (hj : j < 5) : ([1, 4, 16, 64, 256] : List Int).getD (j : Int).toNat 0 = pw j := by
  have : j = 0 ∨ j = 1 ∨ j = 2 ∨ j = 3 ∨ j = 4 := by omega
  rcases this with rfl | rfl | rfl | rfl | rfl <;> rfl
theorem pw_pos {j : Nat} : 0 < pw j := by
  unfold pw
  match j with
  | 0 => decide
  | 1 => decide
  | 2 => decide
  | 3 => decide
  | 4 => decide
  | j + 5 => exact (by decide : (0 : Int) < 1)
theorem pw_log {j : Nat} : (pw j).natAbs.log2 < 9000 := by
  unfold pw
  match j with
  | 0 => decide
  | 1 => decide
  | 2 => decide
  | 3 => decide
  | 4 => decide
  | j + 5 => exact (by decide : (1 : Int).natAbs.log2 < 9000)
local macro_rules | `(tactic| walk_at "CompSrc") => `(tactic| (k_here; refine stop_here ?_))
set_option maxHeartbeats 4000000 in
theorem su_len {c1 c2 c3 c4 c5 D : Addr} {o1 : Obj} {ws : List Value} {ns : List Int} {kD n : Nat} {ts1 : Tok} {Q' : Flow → Shared → Prop} (B : Below A₀ base [] h₀) (X : (K w.params).In h₀) (T : Top p loose mean mg mb h₀) (hd : dp + 50 < recursionLimit) (hu : un + 150 < cLine)
    (F : Fr h₀ L s.heap m) (N : News h₀ L s.heap news) (kD' : (D, listOf ws.toArray kD) ∈ news) (hI : IntsAre ws ns) (hn : ns.length = n) (hn5 : n ≤ 5) (k1 : (c1, o1) ∈ news) (k1' : IsCell o1 (.int n ts1)) (mn : m "numbers" = some (.ref D))
    (ret : ∀ h' tk' ld led', Fr h₀ L h' (fun z => if z = "lengths" then some (.ref ld) else m z) → News h₀ L h' (led' ++ news) → (∀ p ∈ led', p.2.cls = .type "list") → Apart news led' → LenIn ld (lenOf ns) n led' → Q' .next { s with heap := h', toks := tk' }) :
    wpAny (model prog w) (lwA dp un gd L a c1 c2 c3 c4 c5) (exec su3 (lwE L a c1 c2 c3 c4 c5)) Q' E s := by
  have hwl : ws.length = n := by rw [← hn]; exact hI.length
  k_dflt (show wpAny _ _ (exec (Stmt.Assign [Expr.Name _ _] (Expr.ListComp _ [⟨Expr.Name _ _, _, [], 0⟩] _ _) _) _) _ _ _)
  refine comp_cell (L := L) (h₀ := h₀) (m := m) rfl (by with_unfolding_all rfl) (by with_unfolding_all rfl) (fun _ _ => rfl) (fun _ => rfl) (by rfl) (by decide) (by with_unfolding_all rfl) (by with_unfolding_all rfl) (by rfl) ?_
  refine lw_ld F mn (by with_unfolding_all rfl) ⟨D, ws.toArray, news, rfl, rfl, F, N, Or.inr ⟨_, kD', rfl, _, rfl⟩, by rw [sizeLine_eq]; simp; omega, ?_⟩ (by decide)
  rintro s₂ ⟨g, rfl⟩
  rw [show ws.toArray.size = n by simpa using hwl]
  refine cellRest_inv (fun i ys nw => ∃ rows, nw = rows ++ news ∧ (∀ p ∈ rows, p.2.cls = .type "list") ∧ Apart news rows ∧ ys.length = i ∧ ∀ p : Nat, p < i → ∃ rp itR nR, ys[p]? = some (.ref rp) ∧ (rp, listOf itR nR) ∈ rows ∧ ∀ j : Nat, j < n → ∃ t, itR[j]? = some (.int (lenOf ns p j) t)) ⟨[], rfl, fun _ h => (nomatch h), fun _ _ _ h => (nomatch h), rfl, fun _ h => absurd h (Nat.not_lt_zero _)⟩ ?_ ?_
  · rintro ys nw ⟨rows, rfl, hr1, hr2, hyl, hr3⟩ D2 h tk F2 N2 o2
    have o2' := off1_mem o2
    refine ret h tk D2 ((D2, LCg.lst ys) :: rows) F2 N2 (List.forall_mem_cons.mpr ⟨rfl, hr1⟩) (fun q hq p hp => ?_) ⟨ys.toArray, ys.length, .head _, fun p hp => ?_⟩
    · rcases List.mem_cons.mp hp with rfl | hp
      · exact Ne.symm (o2' q (List.mem_append_right _ hq))
      · exact hr2 q hq p hp
    · obtain ⟨rp, itR, nR, a1, a2, a3⟩ := hr3 p hp
      exact ⟨rp, itR, nR, by simpa using a1, .tail _ a2, a3⟩
  · rintro k i ys nw hi ⟨rows, rfl, hr1, hr2, hyl, hr3⟩ ih
    intro v I oI C oC D2 Nc oN h tk E' hv hN F2 N2 off ne
    obtain ⟨x, tx, rfl, hx⟩ := hI.at i v (by simpa using hv)
    have hS2 : LCg.SrcAt h₀ D ws.toArray (rows ++ news) := Or.inr ⟨_, List.mem_append_right _ kD', rfl, _, rfl⟩
    have k1n : (c1, o1) ∈ rows ++ news := List.mem_append_right _ k1
    generalize hnw : rows ++ news = nw at N2 off hS2 k1n
    k_dflt (refine LCg.ListComp_U (F₀ := F2) (by with_unfolding_all rfl) (by decide) (by rfl) (by decide) (by rfl) ?_)
    k_steps
    refine Stop.go ?_
    with_reducible rename News _ _ _ _ => N9
    with_reducible rename Fr _ _ _ _ => F9
    refine LCg.CompSrc.range (n := n) (by rfl) F9 N9 (by assumption) (small5 hn5).1 (small5 hn5).2 (by rw [sizeLine_eq]; omega) fun g2 => ?_
    clear F9 N9
    have hlx : ∀ q : Nat, (x.fdiv (pw q)).fmod 4 = lenOf ns i q := fun q => by
      unfold lenOf
      rw [Int.toNat_natCast, Int.toNat_natCast, List.getD_eq_getElem?_getD, hx]; rfl
    refine compRest_inv (fun j zs => zs.length = j ∧ ∀ q : Nat, q < j → ∃ t, zs[q]? = some (.int (lenOf ns i q) t)) ⟨rfl, fun _ h => absurd h (Nat.not_lt_zero _)⟩ ?_ ?_
    · intro zs hz D3 h3 tk3 F3 N3 o3
      have o3' := off1_mem o3
      obtain ⟨ne1, ne2, ne3, ne4, ne5, ne6⟩ := ne
      refine ⟨h3, tk3, (D3, LCg.lst zs) :: nw, rfl, F3, fun p hp => N3 p ?_, ?_, ?_, ih _ _ ⟨(D3, LCg.lst zs) :: rows, by rw [← hnw]; rfl, List.forall_mem_cons.mpr ⟨rfl, hr1⟩, fun q hq p hp => ?_, by rw [List.length_append, hyl]; rfl, fun q hq => ?_⟩⟩
      · simp only [List.mem_cons] at hp ⊢
        rcases hp with h | h | h | h | h | h <;> simp only [h, true_or, or_true]
      · intro p hp
        rcases List.mem_cons.mp hp with rfl | hp
        · exact ⟨Ne.symm (o3' (I, oI) (.head _)), Ne.symm (o3' (C, oC) (.tail _ (.head _))), Ne.symm (o3' (D2, LCg.lst ys) (.tail _ (.tail _ (.head _)))), Ne.symm (o3' (Nc, oN) (.tail _ (.tail _ (.tail _ (.head _)))))⟩
        · exact off p hp
      · rcases hS2 with h | ⟨o, h1, h2⟩
        · exact Or.inl h
        · exact Or.inr ⟨o, .tail _ h1, h2⟩
      · rcases List.mem_cons.mp hp with rfl | hp
        · exact Ne.symm (o3' q (.tail _ (.tail _ (.tail _ (.tail _ (by rw [← hnw]; exact List.mem_append_right _ hq))))))
        · exact hr2 q hq p hp
      · by_cases hqi : q < i
        · obtain ⟨rp, itR, nR, a1, a2, a3⟩ := hr3 q hqi
          exact ⟨rp, itR, nR, by rw [List.getElem?_append_left (by rw [hyl]; exact hqi)]; exact a1, .tail _ a2, a3⟩
        · obtain rfl : q = i := by omega
          refine ⟨D3, zs.toArray, zs.length, by rw [List.getElem?_append_right (by rw [hyl]; exact Nat.le_refl _), hyl, Nat.sub_self]; rfl, .head _, fun j hj => ?_⟩
          obtain ⟨t, ht⟩ := hz.2 j hj
          exact ⟨t, by simpa using ht⟩
    · intro k2 j zs hj hz ih2
      intro v3 I3 oI3 C3 oC3 D3 m3 h3 tk3 E3 hv3 hC3 hx3 F3 N3 off3 ne3
      obtain ⟨t3, rfl⟩ := hv3
      have e0 : (0 : Int) + (j : Int) = (j : Int) := Int.zero_add _
      simp only [e0] at hx3
      k_steps
      rw [show ([1, 4, 16, 64, 256] : List Int).getD (j : Int).toNat 0 = pw j from pw_get (by omega)]
      refine floordiv_int (Int.ne_of_gt pw_pos) ?_ (Or.inl (PyProof.noPylong_of_log2 pw_log))
      k_steps
      with_reducible rename News _ _ _ _ => N9
      with_reducible rename Fr _ _ _ _ => F9
      refine LCg.CompEnd.intro F9 N9 _ (fun p hp => .tail _ hp) off3 trivial (ih2 _ ⟨by rw [List.length_append, hz.1]; rfl, fun q hq => ?_⟩)
      by_cases hqj : q < j
      · obtain ⟨t, ht⟩ := hz.2 q hqj
        exact ⟨t, by rw [List.getElem?_append_left (by rw [hz.1]; exact hqj)]; exact ht⟩
      · obtain rfl : q = j := by omega
        refine ⟨_, by rw [List.getElem?_append_right (by rw [hz.1]; exact Nat.le_refl _), hz.1, Nat.sub_self, List.getElem?_cons_zero, hlx]⟩

end
section
local macro_rules | `(tactic| walk_at "pad") => `(tactic| fail)
theorem execs_app {env : Env} (l : List Stmt) : ∀ a : List Stmt, execs (a ++ l) env = (do match ← execs a env with | .next => execs l env | f => pure f)
  | [] => by rw [List.nil_append, execs_nil, pure_bind]
  | x :: r => by
    rw [List.cons_append, execs_cons, execs_cons, bind_assoc]
    refine congrArg _ (funext fun f => ?_)
    cases f <;> simp [execs_app l r]
theorem wpAny_execs_app {M : Model} {A : Around} {env : Env} {a l : List Stmt} {Q' : Flow → Shared → Prop} (h : wpAny M A (execs a env) (fun f s' => match f with | .next => wpAny M A (execs l env) Q' E s' | f => Q' f s') E s) : wpAny M A (execs (a ++ l) env) Q' E s := by
  rw [execs_app]
  refine wpAny_bind (wpAny_mono h (fun f s' h' => ?_) fun _ _ e => e)
  cases f <;> first | exact h' | exact wpAny_pure h'
section
variable {c dc tm dt da di clk cc hc hl ttu tc : Addr} {M H : Int} {ce : Int → Option Int} {cl : Prop} {xz : Nat} {own own' led mu : List (Addr × Obj)}
theorem CalL.split {h' : Heap} (C : CalL prog w h₀ c dc tm dt da di clk cc hc hl ttu tc M H ce cl xz own led) (N : News h₀ L h' led) (hmu : ∀ q ∈ mu, q ∈ own) (hown' : ∀ p ∈ own', p ∈ own) (hoa : Apart mu own') (S : NotIt mu) (S2 : ∀ q ∈ mu, q.2 ≠ dictOf [] 0)
    (ax : ∀ q ∈ mu, ∀ d ∈ ([c, dc, tm, dt, da, di, clk, cc, hc, hl, ttu, tc] : List Addr), d ≠ q.1) :
    ∃ rest', News h₀ L h' (mu ++ rest') ∧ Apart mu rest' ∧ CalL prog w h₀ c dc tm dt da di clk cc hc hl ttu tc M H ce cl xz own' rest' := by
  cases C with
  | mk od t1 t2 t3 t4 t5 t6 t7 u1 u2 u3 tk0 tH tv1 tv2 tM tcur tT0 T0 doc1 pm1 ct1 doc2 pm2 ct2 oda odi occ och otc nh no vs1 vs2 cN pN xs ik dk kf rf lv tl sub hoc hoc1 hch hot hot1 hCd q n1 n2 n3 n4 n5 hda hdi hxl hI hH hb hce hcl sup hown =>
    exact rebundle (fun p hp => N p (sub p hp)) hoc hoc1 hch hot hot1 hCd q n1 n2 n3 n4 n5 hda hdi hxl hI hH hb hce hcl sup (fun q hq => hown _ (hmu q hq)) (fun p hp => hown _ (hown' p hp)) hoa S (.inr S2) ax
theorem CalL.grow (C : CalL prog w h₀ c dc tm dt da di clk cc hc hl ttu tc M H ce cl xz own led) (Ap : Apart led mu) : CalL prog w h₀ c dc tm dt da di clk cc hc hl ttu tc M H ce cl xz (mu ++ own) (mu ++ led) := by
  cases C with
  | mk od t1 t2 t3 t4 t5 t6 t7 u1 u2 u3 tk0 tH tv1 tv2 tM tcur tT0 T0 doc1 pm1 ct1 doc2 pm2 ct2 oda odi occ och otc nh no vs1 vs2 cN pN xs ik dk kf rf lv tl sub hoc hoc1 hch hot hot1 hCd q n1 n2 n3 n4 n5 hda hdi hxl hI hH hb hce hcl sup hown =>
    have both : ∀ d o, (∀ p ∈ tl, p.1 ≠ d) → (d, o) ∈ led → ∀ p ∈ mu ++ tl, p.1 ≠ d := fun d o h1 h2 p hp => by
      rcases List.mem_append.mp hp with hp | hp
      · exact Ap _ h2 p hp
      · exact h1 p hp
    refine .mk od t1 t2 t3 t4 t5 t6 t7 u1 u2 u3 tk0 tH tv1 tv2 tM tcur tT0 T0 doc1 pm1 ct1 doc2 pm2 ct2 oda odi occ och otc nh no vs1 vs2 cN pN xs ik dk kf rf lv (mu ++ tl) (fun p hp => ?_) hoc hoc1 hch hot hot1 hCd q (both _ _ n1 (sub _ (.tail _ (.head _)))) (both _ _ n2 (sub _ (.tail _ (.tail _ (.tail _ (.tail _ (.head _))))))) (both _ _ n3 (sub _ (.tail _ (.tail _ (.tail _ (.head _)))))) (both _ _ n4 (sub _ (.tail _ (.tail _ (.tail _ (.tail _ (.tail _ (.head _)))))))) (both _ _ n5 (sub _ (.tail _ (.tail _ (.tail _ (.tail _ (.tail _ (.tail _ (.head _)))))))))
      hda hdi hxl (hI.mono fun p hp => List.mem_append_right _ hp) hH hb hce hcl sup (fun p hp => (List.mem_append.mp hp).elim (fun h => List.mem_append_left _ h) fun h => List.mem_append_right _ (hown p h))
    simp only [List.mem_cons, List.mem_append] at hp
    rcases hp with h | h | h | h | h | h | h | h | h | h | h | h | h | h | h
    all_goals first | exact List.mem_append_left _ h | exact List.mem_append_right _ (sub p (by simp only [h, List.mem_cons, true_or, or_true]))
end
theorem allLt_mem {d : Addr} : ∀ {l : List (Addr × Obj)}, AllLt d l → ∀ p ∈ l, @LT.lt Nat instLTNat p.1 d
  | [], _, _, h => nomatch h
  | _ :: _, x, p, h => by
    rcases List.mem_cons.mp h with rfl | h
    · exact x.1
    · exact allLt_mem x.2 p h
theorem ne_cell {o : Obj} {v : Option Value} (h : o.data = .cell v) : o ≠ dictOf [] 0 := by
  rintro rfl
  have h3 : Data.dict #[] 0 = Data.cell v := h
  cases h3
theorem notIt_cell {o : Obj} {v : Option Value} (h : o.data = .cell v) : o.data ≠ .plain := by
  rw [h]; intro e; cases e
set_option maxHeartbeats 4000000 in
theorem law_all {c1 c2 c3 c4 c5 D : Addr} {oD o1 o2 o3 o4 o5 : Obj} {ws : List Value} {ns : List Int} {kD n : Nat} {st : Int} {ts0 ts1 : Tok} {Q' : Flow → Shared → Prop}
    (B : Below A₀ base [] h₀) (X : (K w.params).In h₀) (XB : (K w.params).In base) (TB : Top p loose mean mg mb base) (T : Top p loose mean mg mb h₀) (hd : dp + 50 < recursionLimit) (hu : un + 150 < cLine) (hCd : CodeHd h₀ 1251 1249) (hL1 : @LT.lt Nat instLTNat 1249 L)
    (F : Fr h₀ L s.heap m) (N : News h₀ L s.heap [(D, oD), (c5, o5), (c4, o4), (c3, o3), (c2, o2), (c1, o1), (1249, tabObj #[])]) (eD : oD = listOf ws.toArray kD)
    (l1 : @LT.lt Nat instLTNat 1249 c1) (l2 : @LT.lt Nat instLTNat c1 c2) (l3 : @LT.lt Nat instLTNat c2 c3) (l4 : @LT.lt Nat instLTNat c3 c4) (l5 : @LT.lt Nat instLTNat c4 c5) (l6 : @LT.lt Nat instLTNat c5 D)
    (k1' : IsCell o1 (.int n ts1)) (k2' : o2.data = .cell none) (k3' : o3.data = .cell none) (k4' : o4.data = .cell none) (k5' : o5.data = .cell none)
    (hI : IntsAre ws ns) (hn : ns.length = n) (hn1 : 1 ≤ n) (hn5 : n ≤ 5) (hs0 : 0 ≤ st) (hsn : st < n) (mn : m "numbers" = some (.ref D)) (ms : m "start" = some (.int st ts0))
    (hE : PassesOwn (model prog w) (lwA dp un gd L a c1 c2 c3 c4 c5) (lwE L a c1 c2 c3 c4 c5) E)
    (ret : ∀ h' tk' m' ps, Fr h₀ L h' m' → News h₀ L h' [(1249, tabObj ps)] → Q' (.ret (.bool true)) { s with heap := h', toks := tk' }) :
    wpAny (model prog w) (lwA dp un gd L a c1 c2 c3 c4 c5) (execs [su3, su4, bfS1, su6, su7, su8, su9, su10, su11, su12, whS, retS] (lwE L a c1 c2 c3 c4 c5)) Q' E s := by
  subst eD
  have hlen := lenOf_le ns
  -- lengths
  refine wpAny_execs_cons ?_
  refine su_len (o1 := o1) (ts1 := ts1) B X T hd hu F N (.head _) hI hn hn5 (.tail _ (.tail _ (.tail _ (.tail _ (.tail _ (.head _)))))) k1' mn fun h1 tk1 ld ll F1 N1 hl1 hl2 hL => ?_
  have nl : ∀ d : Addr, (∃ o, (d, o) ∈ [(D, listOf ws.toArray kD), (c5, o5), (c4, o4), (c3, o3), (c2, o2), (c1, o1), (1249, tabObj #[])]) → ∀ p ∈ ll, p.1 ≠ d := fun d ⟨o, h⟩ p hp => hl2 _ h p hp
  have nl5 := nl c5 ⟨_, .tail _ (.head _)⟩
  have nl4 := nl c4 ⟨_, .tail _ (.tail _ (.head _))⟩
  have nl3 := nl c3 ⟨_, .tail _ (.tail _ (.tail _ (.head _)))⟩
  have nl2 := nl c2 ⟨_, .tail _ (.tail _ (.tail _ (.tail _ (.head _))))⟩
  have nl9 := nl 1249 ⟨_, .tail _ (.tail _ (.tail _ (.tail _ (.tail _ (.tail _ (.head _))))))⟩
  -- best
  refine wpAny_execs_cons ?_
  refine su_best (st := st) (ts0 := ts0) B X T hd hu F1 N1 ((if_neg (by decide)).trans ms) fun h2 tk2 bd ob tb F2 N2 db lbd al2 => ?_
  have bgt : ∀ q ∈ ll ++ [(D, listOf ws.toArray kD), (c5, o5), (c4, o4), (c3, o3), (c2, o2), (c1, o1), (1249, tabObj #[])], @LT.lt Nat instLTNat q.1 bd := fun q hq => allLt_mem al2 q hq
  have b5 : @LT.lt Nat instLTNat c5 bd := bgt (c5, o5) (List.mem_append_right _ (.tail _ (.head _)))
  -- the ways
  refine wpAny_execs_cons ?_
  have rep0 : Rep [(st, Value.int 1 tb)] (ceOn (fun _ => none) st 1) := fun k => by
    unfold valueAt
    simp only [ceOn, List.find?_cons]
    by_cases hk : k = st
    · subst hk; simp
    · rw [if_neg hk, decide_eq_false (fun e => hk e.symm)]; simp
  have sup0 : ∀ k, (ceOn (fun _ => none) st 1 k).isSome = true → 0 ≤ k ∧ k < (n : Int) := fun k hk => by
    simp only [ceOn] at hk
    by_cases e : k = st
    · rw [e]; exact ⟨hs0, hsn⟩
    · rw [if_neg e] at hk; cases hk
  refine bf_all (o1 := o1) (ts1 := ts1) (M := n) (len := lenOf ns) (n := n) B X T hd hu F2 N2 (List.mem_append_right _ (.tail _ (.tail _ (.tail _ (.tail _ (.tail _ (.head _))))))) k1' (hL.mono fun p hp => List.mem_append_left _ hp) rfl (by omega) lbd (neAll al2) hE db rep0 sup0 ((if_neg (by decide)).trans (if_pos rfl)) (if_pos rfl) fun h3 tk3 ob3 kb m3 F3 N3 d3 r3 sup3 hm3 => ?_
  have Bs : Best n (lenOf ns) st (bfT (lenOf ns) n n (ceOn (fun _ => none) st 1)) := best_of hn5 (fun p x => (hlen p x).2) hs0 hsn
  generalize bfT (lenOf ns) n n (ceOn (fun _ => none) st 1) = b at r3 sup3 Bs
  have m3s : m3 "start" = some (.int st ts0) := (hm3 _ (by decide) (by decide) (by decide) (by decide)).trans ((if_neg (by decide)).trans ((if_neg (by decide)).trans ms))
  have m3l : m3 "lengths" = some (.ref ld) := (hm3 _ (by decide) (by decide) (by decide) (by decide)).trans ((if_neg (by decide)).trans (if_pos rfl))
  have m3b : m3 "best" = some (.ref bd) := (hm3 _ (by decide) (by decide) (by decide) (by decide)).trans (if_pos rfl)
  -- hour, clock, end
  refine wpAny_execs_app (a := [su6, su7, su8]) (l := [su9, su10, su11, su12, whS, retS]) ?_
  have N3' : News h₀ L h3 ((c5, o5) :: (1249, tabObj #[]) :: (bd, ob3) :: (c2, o2) :: (c3, o3) :: (c4, o4) :: (c1, o1) :: ll) := fun p hp => N3 p (by
    simp only [List.mem_cons, List.mem_append] at hp ⊢
    rcases hp with h | h | h | h | h | h | h | h <;> simp only [h, true_or, or_true])
  refine su_fns (o1 := o1) (o2 := o2) (o3 := o3) (o4 := o4) B X T hd hu hCd hL1 F3 N3' k5' ?_ ?_ (by omega) fun h4 tk4 hl cc clk tc ttu occ och otc ps vs1 vs2 tv1 tv2 tH doc1 pm1 ct1 doc2 pm2 ct2 F4 N4 hoc hoc1 hch hot hot1 p1 p2 p3 p4 p5 al4 => ?_
  · refine List.forall_mem_cons.mpr ⟨Nat.ne_of_gt b5, List.forall_mem_cons.mpr ⟨Nat.ne_of_lt (by omega), List.forall_mem_cons.mpr ⟨Nat.ne_of_lt (by omega), List.forall_mem_cons.mpr ⟨Nat.ne_of_lt (by omega), List.forall_mem_cons.mpr ⟨Nat.ne_of_lt (by omega), nl5⟩⟩⟩⟩⟩
  · refine List.forall_mem_cons.mpr ⟨Nat.ne_of_gt (by omega), List.forall_mem_cons.mpr ⟨Nat.ne_of_gt (by omega), List.forall_mem_cons.mpr ⟨Nat.ne_of_gt (by omega), List.forall_mem_cons.mpr ⟨Nat.ne_of_gt (by omega), List.forall_mem_cons.mpr ⟨Nat.ne_of_gt (by omega), nl9⟩⟩⟩⟩⟩
  have h4lt := allLt_mem al4
  have m4 : ∀ z : Str, z ≠ "end" → z ≠ "clock" → (fun y : Str => if y = "end" then some (Value.ref ttu) else if y = "clock" then some (Value.ref clk) else m3 y) z = m3 z := fun z z1 z2 => (if_neg z1).trans (if_neg z2)
  -- the calendar
  refine wpAny_execs_cons ?_
  have N4' : News h₀ L h4 ((ttu, endO doc2 pm2 tc ct2) :: (tc, otc) :: (clk, clkO c5 doc1 pm1 cc ct1) :: (cc, occ) :: (hl, listOf #[.int 0 tH] 0) :: (c5, och) :: (c2, o2) :: (bd, ob3) :: (c3, o3) :: (c4, o4) :: (c1, o1) :: (1249, tabObj ps) :: ll) := fun p hp => N4 p (by
    simp only [List.mem_cons] at hp ⊢
    rcases hp with h | h | h | h | h | h | h | h | h | h | h | h | h <;> simp only [h, true_or, or_true])
  refine su_cal (M := n) (ts1 := ts1) (o1 := o1) B X T hd hu F4 N4' (.tail _ (.tail _ (.tail _ (.head _)))) k1' k2' ?_ (by omega) p1 p2 p3 p4 p5 (by omega) (if_pos rfl) ((if_neg (by decide)).trans (if_pos rfl)) fun h5 tk5 c dc da dt tm di od t1 t2 t3 t4 t5 t6 t7 u1 u2 tcur tk0 tM oda odi o2' F5 N5 k2'' q1 q2 q3 q4 q5 q6 q7 al5 lda ldi dda ddi => ?_
  · refine List.forall_mem_cons.mpr ⟨Nat.ne_of_gt (by omega), List.forall_mem_cons.mpr ⟨Nat.ne_of_gt (by omega), List.forall_mem_cons.mpr ⟨Nat.ne_of_gt (by omega), List.forall_mem_cons.mpr ⟨Nat.ne_of_lt (by omega), List.forall_mem_cons.mpr ⟨Nat.ne_of_lt (by omega), nl2⟩⟩⟩⟩⟩
  have O : Ords c dc tm dt da di clk cc c5 hl ttu tc := ⟨p1, p2, p3, p4, p5, q1, q2, q3, q4, q5, q6, lda, ldi⟩
  -- calendar[start] = 1
  refine wpAny_execs_cons ?_
  refine su_first (M := n) (st := st) (ts0 := ts0) (own := (c2, o2') :: (bd, ob3) :: (c3, o3) :: (c4, o4) :: (c1, o1) :: (1249, tabObj ps) :: ll) B X T hd hu F5 N5 hoc hoc1 hch hot hot1 hCd O q7 ⟨by omega, al5⟩ k2'' dda ddi (by omega) (by omega) hs0 hsn ((m4 _ (by decide) (by decide)).trans m3s) (fun _ h => h) fun h6 tk6 led6 F6 N6 C6 _ => ?_
  have cgt : ∀ d ∈ ([c, dc, tm, dt, da, di, clk, cc, c5, hl, ttu, tc] : List Addr), @LE.le Nat instLENat c5 d := fun d hd => by
    simp only [List.mem_cons, List.not_mem_nil, or_false] at hd
    rcases hd with h | h | h | h | h | h | h | h | h | h | h | h <;> rw [h] <;> omega
  have sp := C6.split (mu := [(c3, o3), (c4, o4)]) (own' := (c2, o2') :: (bd, ob3) :: (c1, o1) :: (1249, tabObj ps) :: ll) N6 (fun q hq => ?_) (fun q hq => ?_) (fun q hq p hp => ?_) (fun q hq => ?_) (fun q hq => ?_) (fun q hq d hd => ?_)
  rotate_left
  · rcases List.mem_cons.mp hq with rfl | hq
    · exact .tail _ (.tail _ (.head _))
    · rw [List.mem_singleton.mp hq]; exact .tail _ (.tail _ (.tail _ (.head _)))
  · simp only [List.mem_cons] at hq ⊢
    rcases hq with h | h | h | h | h <;> simp only [h, true_or, or_true]
  · have hq' : q = (c3, o3) ∨ q = (c4, o4) := by simpa using hq
    rcases hq' with rfl | rfl <;> rcases List.mem_cons.mp hp with rfl | hp
    · exact Nat.ne_of_lt l3
    · rcases List.mem_cons.mp hp with rfl | hp
      · exact Nat.ne_of_gt (by omega)
      · rcases List.mem_cons.mp hp with rfl | hp
        · exact Nat.ne_of_lt (by omega)
        · rcases List.mem_cons.mp hp with rfl | hp
          · exact Nat.ne_of_lt (by omega)
          · exact nl3 p hp
    · exact Nat.ne_of_lt (by omega)
    · rcases List.mem_cons.mp hp with rfl | hp
      · exact Nat.ne_of_gt (by omega)
      · rcases List.mem_cons.mp hp with rfl | hp
        · exact Nat.ne_of_lt (by omega)
        · rcases List.mem_cons.mp hp with rfl | hp
          · exact Nat.ne_of_lt (by omega)
          · exact nl4 p hp
  · have hq' : q = (c3, o3) ∨ q = (c4, o4) := by simpa using hq
    rcases hq' with rfl | rfl
    · exact fun _ => notIt_cell k3'
    · exact fun _ => notIt_cell k4'
  · have hq' : q = (c3, o3) ∨ q = (c4, o4) := by simpa using hq
    rcases hq' with rfl | rfl
    · exact ne_cell k3'
    · exact ne_cell k4'
  · have hq' : q = (c3, o3) ∨ q = (c4, o4) := by simpa using hq
    have := cgt d hd
    rcases hq' with rfl | rfl
    · exact Nat.ne_of_gt (by show @LT.lt Nat instLTNat c3 d; omega)
    · exact Nat.ne_of_gt (by show @LT.lt Nat instLTNat c4 d; omega)
  obtain ⟨rest6, N6', Ap6, C6'⟩ := sp
  have off3 : ∀ p ∈ rest6, p.1 ≠ c3 := fun p hp => Ap6 (c3, o3) (.head _) p hp
  have off4 : ∀ p ∈ rest6, p.1 ≠ c4 := fun p hp => Ap6 (c4, o4) (.tail _ (.head _)) p hp
  -- known
  refine wpAny_execs_cons ?_
  refine su_known (st := st) (ts0 := ts0) (o3 := o3) (rest0 := (c4, o4) :: rest6) B X T hd hu F6 N6' k3' (List.forall_mem_cons.mpr ⟨Nat.ne_of_gt l4, off3⟩) ((m4 _ (by decide) (by decide)).trans m3s) fun h7 tk7 kn okn o3' tn F7 N7 k3'' dk lkn al7 => ?_
  have kgt := allLt_mem al7
  -- reached
  refine wpAny_execs_cons ?_
  have kn3 := kgt (c3, o3') (.head _)
  have kn4 := kgt (c4, o4) (.tail _ (.head _))
  have N7' : News h₀ L h7 ((c4, o4) :: (kn, okn) :: (c3, o3') :: rest6) := fun p hp => N7 p (by
    simp only [List.mem_cons] at hp ⊢
    rcases hp with h | h | h | h <;> simp only [h, true_or, or_true])
  refine su_reached (o4 := o4) B X T hd hu F7 N7' k4' (List.forall_mem_cons.mpr ⟨Nat.ne_of_gt kn4, List.forall_mem_cons.mpr ⟨Nat.ne_of_lt l4, off4⟩⟩) fun h8 tk8 rd ord o4' F8 N8 k4'' dr lrd al8 => ?_
  have rgt := allLt_mem al8
  have rdk : @LT.lt Nat instLTNat kn rd := rgt (kn, okn) (.tail _ (.head _))
  have rd4 : @LT.lt Nat instLTNat c4 rd := rgt (c4, o4') (.head _)
  have rd3 : @LT.lt Nat instLTNat c3 rd := rgt (c3, o3') (.tail _ (.tail _ (.head _)))
  -- the hours
  have C8 := C6'.grow (mu := [(c4, o4'), (c3, o3')]) (fun q hq p hp => by
    have hp' : p = (c4, o4') ∨ p = (c3, o3') := by simpa using hp
    rcases hp' with rfl | rfl
    · exact Ne.symm (off4 q hq)
    · exact Ne.symm (off3 q hq))
  have C9 := C8.congr (ce' := ceR (fun _ => none) (ceOn (fun _ => none) st 1)) fun k => by simp [ceR]
  refine wpAny_execs_cons ?_
  have N8' : News h₀ L h8 ([(rd, ord), (kn, okn)] ++ ([(c4, o4'), (c3, o3')] ++ rest6)) := fun p hp => N8 p (by
    simp only [List.mem_cons, List.mem_append, List.not_mem_nil, or_false] at hp ⊢
    rcases hp with (h | h) | (h | h) | h <;> simp only [h, true_or, or_true])
  have Ap8 : Apart [(rd, ord), (kn, okn)] ([(c4, o4'), (c3, o3')] ++ rest6) := fun q hq p hp => by
    have hq' : q = (rd, ord) ∨ q = (kn, okn) := by simpa using hq
    rcases hq' with rfl | rfl
    · refine Nat.ne_of_lt (rgt p ?_)
      simp only [List.mem_cons, List.mem_append, List.not_mem_nil, or_false] at hp ⊢
      rcases hp with (h | h) | h <;> simp only [h, true_or, or_true]
    · rcases List.mem_append.mp hp with hp | hp
      · have hp' : p = (c4, o4') ∨ p = (c3, o3') := by simpa using hp
        rcases hp' with rfl | rfl
        · exact Nat.ne_of_lt kn4
        · exact Nat.ne_of_lt kn3
      · exact Nat.ne_of_lt (kgt p (.tail _ (.tail _ hp)))
  have W8 : WhSt prog w h₀ c dc tm dt da di clk cc c5 hl ttu tc rd kn n st n (lenOf ns) b ([(c4, o4'), (c3, o3')] ++ ((c2, o2') :: (bd, ob3) :: (c1, o1) :: (1249, tabObj ps) :: ll)) (3 * n) ([(rd, ord), (kn, okn)] ++ ([(c4, o4'), (c3, o3')] ++ rest6)) :=
    .mk 0 True 1 ord okn [] [(st, Value.int 1 tn)] (fun _ => none) (ceOn (fun _ => none) st 1) _ rfl (by omega) (by omega) (by omega) Ap8 C9 dr (fun k => ⟨fun _ => rfl, fun _ h => nomatch h⟩) dk (by
      intro k
      unfold valueAt
      simp only [ceOn, List.find?_cons]
      by_cases hk : k = st
      · subst hk; simp
      · rw [if_neg hk, decide_eq_false (fun e => hk e.symm)]; simp) (List.cons_ne_nil _ _) (.inr ⟨trivial, fun k e he => by
        have he2 : ceOn (fun _ => none) st 1 k = some e := by simpa [ceR] using he
        simp only [ceOn] at he2
        by_cases hk : k = st
        · rw [if_pos hk] at he2; cases he2; omega
        · rw [if_neg hk] at he2; cases he2⟩) (hour0 Bs)
  refine wh_loop (c1 := c1) (c2 := c2) (c3 := c3) (c4 := c4) (o1 := o1) (o2 := o2') (o3 := o3') (o4 := o4') (ts1 := ts1) (M := n) (st := st) (n := n) (ld := ld) (len := lenOf ns) (b := b) B X XB TB T hd hu O rfl (by omega) (List.mem_append_right _ (.tail _ (.tail _ (.head _)))) k1' (List.mem_append_right _ (.head _)) k2'' (.tail _ (.head _)) k3'' (.head _) k4'' (hL.mono fun p hp => List.mem_append_right _ (.tail _ (.tail _ (.tail _ (.tail _ hp))))) hlen lrd lkn (Nat.ne_of_gt rdk) ?_ ?_ hE Bs F8 N8' W8 ((m4 _ (by decide) (by decide)).trans m3l) fun h9 tk9 ord9 okn9 kvsR R rest9 m9 F9 N9 own9 Ap9 d9 r9 e9 hm9 => ?_
  · intro q hq hcls
    simp only [List.mem_cons, List.mem_append, List.not_mem_nil, or_false] at hq
    rcases hq with (rfl | rfl) | rfl | rfl | rfl | rfl | hq
    · exact notIt_cell k4''
    · exact notIt_cell k3''
    · exact notIt_cell k2''
    · rw [dof_cls d3] at hcls; cases hcls
    · exact notIt_cell k1'
    · cases hcls
    · rw [hl1 q hq] at hcls; cases hcls
  · intro q hq
    simp only [List.mem_cons, List.mem_append, List.not_mem_nil, or_false] at hq
    rcases hq with (rfl | rfl) | rfl | rfl | rfl | rfl | hq
    · exact Nat.ne_of_lt (by omega)
    · exact Nat.ne_of_lt (by omega)
    · exact Nat.ne_of_lt (by omega)
    · exact Nat.ne_of_lt (h4lt (bd, ob3) (.head _))
    · exact Nat.ne_of_lt (by omega)
    · exact Nat.ne_of_lt (by omega)
    · exact Nat.ne_of_lt (h4lt q (.tail _ (.tail _ (.tail _ (.tail _ (.tail _ hq))))))
  -- the answer
  refine wpAny_execs_cons ?_
  have i4 : (c4, o4') ∈ rest9 := own9 _ (.head _)
  have ib : (bd, ob3) ∈ rest9 := own9 _ (List.mem_append_right _ (.tail _ (.head _)))
  have it : (1249, tabObj ps) ∈ rest9 := own9 _ (List.mem_append_right _ (.tail _ (.tail _ (.tail _ (.head _)))))
  have N9' : News h₀ L h9 ((rd, ord9) :: (bd, ob3) :: [(c4, o4'), (1249, tabObj ps)]) := fun p hp => N9 p (by
    simp only [List.mem_cons, List.not_mem_nil, or_false] at hp
    rcases hp with rfl | rfl | rfl | rfl
    · exact .head _
    · exact List.mem_append_right _ ib
    · exact List.mem_append_right _ i4
    · exact List.mem_append_right _ it)
  exact law_ret B X T hd hu F9 N9' (.head _) k4'' ((hm9 _ (by decide) (by decide) (by decide) (by decide) (by decide) (by decide)).trans ((m4 _ (by decide) (by decide)).trans m3b)) d9 r9 d3 r3 e9 lrd lbd fun h' tk' F' N' => ret h' tk' m9 ps F' fun p hp => N' p (by rw [List.mem_singleton.mp hp]; exact .tail _ (.tail _ (.tail _ (.head _))))

end
end
theorem top.tw2601905985415302144 : True := trivial
theorem top.tw14794233151107227712 : True := trivial
theorem top.tw11582926029173025856 : True := trivial
theorem top.tw8069049012094873728 : True := trivial
theorem top.tw14142502885225118848 : True := trivial
theorem top.tw16041952860524086432 : True := trivial
theorem top.tw14324524114694690976 : True := trivial
theorem top.tw5472114250418208992 : True := trivial
theorem top.tw2443761850234742048 : True := trivial
theorem top.tw12335951662036464928 : True := trivial
theorem top.tw6432616177841060128 : True := trivial
theorem top.tw984902984118615328 : True := trivial
theorem top.tw15360274220829721888 : True := trivial
theorem top.tw13370185576492129568 : True := trivial
theorem top.tw2490961656353796416 : True := trivial
theorem top.tw15491019914900986176 : True := trivial
theorem top.tw304654302220672320 : True := trivial
theorem top.tw2218668502564051296 : True := trivial
theorem top.tw6383910037826713952 : True := trivial
theorem top.tw4154345032738424160 : True := trivial
theorem top.tw15542334942015070624 : True := trivial
theorem top.tw13160728816969591200 : True := trivial
theorem top.tw13223034962123697568 : True := trivial
theorem top.tw8648649013731713440 : True := trivial
theorem top.tw8722410040271553984 : True := trivial
theorem top.tw14168018189251442112 : True := trivial
theorem top.tw17009415399725018624 : True := trivial
theorem top.tw17861464445857800736 : True := trivial
theorem top.tw2417791160451022400 : True := trivial
theorem top.tw4597200072644226624 : True := trivial
theorem top.tw76412952228603488 : True := trivial
theorem top.tw2741389259953327712 : True := trivial
theorem top.tw1732150942055357024 : True := trivial
theorem top.tw15874363893724204672 : True := trivial
theorem top.tw6065713072024180384 : True := trivial
theorem top.tw4770301895538212512 : True := trivial
theorem top.tw7438316178485321408 : True := trivial
theorem top.tw3953060242463306432 : True := trivial
theorem top.tw1971433849790844608 : True := trivial
theorem top.tw13555056430796034752 : True := trivial
theorem top.tw16663787254893796032 : True := trivial
theorem top.tw16017588280909827808 : True := trivial
theorem top.tw7847650389618582240 : True := trivial
theorem top.tw4468942710605802240 : True := trivial
theorem top.tw883204658943608608 : True := trivial
theorem top.tw16104615914030681952 : True := trivial
theorem top.tw8687831153774095200 : True := trivial
theorem top.tw16659674399394625376 : True := trivial
theorem top.tw14713311804777202560 : True := trivial
theorem top.tw114735475811551136 : True := trivial
theorem top.tw2424727229257130912 : True := trivial
theorem top.tw12896061891902650272 : True := trivial
theorem top.tw3764141193738528704 : True := trivial
theorem top.tw17953984050398360512 : True := trivial
theorem top.tw3562087437824096192 : True := trivial
theorem top.tw6923572534111837185 : True := trivial
theorem top.tw10947151441379659809 : True := trivial
theorem top.tw2847958352784047137 : True := trivial
theorem top.tw17787025807973474337 : True := trivial
theorem top.tw9666326922614434849 : True := trivial
theorem top.tw17795014544551873601 : True := trivial
theorem top.tw14708653179930882113 : True := trivial
theorem top.tw18236624570336363585 : True := trivial
theorem top.tw7761843605638006849 : True := trivial
theorem top.tw9953747333497923681 : True := trivial
theorem top.tw2529601377429677153 : True := trivial
theorem top.tw1400011881503588481 : True := trivial
theorem top.tw4244247436837438593 : True := trivial
theorem top.tw10892192912376451201 : True := trivial
theorem top.tw4319933232329478273 : True := trivial
theorem top.tw7213333562754528385 : True := trivial
theorem top.tw2896640688883821729 : True := trivial
theorem top.tw8507776931139520737 : True := trivial
theorem top.tw2770563814800254177 : True := trivial
theorem top.tw1068965626710143233 : True := trivial
theorem top.tw17104280840954017025 : True := trivial
theorem top.tw1227046207026093345 : True := trivial
theorem top.tw443688265066261825 : True := trivial
theorem top.tw4859757453598101857 : True := trivial
theorem top.tw11097516264722214241 : True := trivial
theorem top.tw1584292188352093569 : True := trivial
theorem top.tw15506382734810221985 : True := trivial
theorem top.tw18289109515434150305 : True := trivial
theorem top.tw13664746368384525793 : True := trivial
theorem top.tw13985988839938425345 : True := trivial
theorem top.tw8331510271201683969 : True := trivial
theorem top.tw18406745751167198721 : True := trivial
theorem top.tw15177526630643400193 : True := trivial
theorem top.tw8833944927944761889 : True := trivial
theorem top.tw6480638250107114081 : True := trivial
theorem top.tw17919466655298401889 : True := trivial
theorem top.tw8485949089215259265 : True := trivial
theorem top.tw12643520174271941249 : True := trivial
theorem top.tw6833098755767127681 : True := trivial
theorem top.tw11045010717311733409 : True := trivial
theorem top.tw6381231289166406305 : True := trivial
theorem top.tw973536883528116897 : True := trivial
theorem top.tw15248220891095644897 : True := trivial
theorem top.tw11845233108574324481 : True := trivial
theorem top.tw1043701613660472097 : True := trivial
theorem top.tw1601500998369573665 : True := trivial
theorem top.tw999761390096101185 : True := trivial
theorem top.tw9016798869158615873 : True := trivial
theorem top.tw462939625794472801 : True := trivial
theorem top.tw3696473221133414273 : True := trivial
theorem top.tw17251966155330892705 : True := trivial
theorem top.tw10005945817407372193 : True := trivial
theorem top.tw5303079699428457377 : True := trivial
theorem top.tw9272544492142499777 : True := trivial
theorem top.tw11807254521293257697 : True := trivial
theorem top.tw4856909995586565122 : True := trivial
theorem top.tw5647976800219259906 : True := trivial
theorem top.tw2405475915293451298 : True := trivial
theorem top.tw15508944514630427714 : True := trivial
theorem top.tw5184313038246851650 : True := trivial
theorem top.tw11862920568910387298 : True := trivial
theorem top.tw16542083797698202722 : True := trivial
theorem top.tw15638134915423963266 : True := trivial
theorem top.tw4177254973167742082 : True := trivial
theorem top.tw2029088862249889922 : True := trivial
theorem top.tw14428541309147478210 : True := trivial
theorem top.tw728428047077509346 : True := trivial
theorem top.tw2060606604349329634 : True := trivial
theorem top.tw18404935858338921730 : True := trivial
theorem top.tw3217022616335106338 : True := trivial
theorem top.tw2531698151371588898 : True := trivial
theorem top.tw7314081408670574914 : True := trivial
theorem top.tw6756851087969907010 : True := trivial
theorem top.tw12888344698797411682 : True := trivial
theorem top.tw2972514686349903234 : True := trivial
theorem top.tw10374177456207612290 : True := trivial
theorem top.tw12375278175546891650 : True := trivial
theorem top.tw13922054642007902626 : True := trivial
theorem top.tw2670627174450433442 : True := trivial
theorem top.tw823594102574977474 : True := trivial
theorem top.tw16441578918305252802 : True := trivial
theorem top.tw16351618207761363394 : True := trivial
theorem top.tw2962726602996462050 : True := trivial
theorem top.tw3767615275625035234 : True := trivial
theorem top.tw1291508964198565346 : True := trivial
theorem top.tw17545328352263074274 : True := trivial
theorem top.tw17610912877558404610 : True := trivial
theorem top.tw17198216790686304802 : True := trivial
theorem top.tw4572181111150054946 : True := trivial
theorem top.tw11153979150802330146 : True := trivial
theorem top.tw1016984595167383106 : True := trivial
theorem top.tw11620634932572840514 : True := trivial
theorem top.tw11263669390164206178 : True := trivial
theorem top.tw15213620147059012194 : True := trivial
theorem top.tw8566151710794823266 : True := trivial
theorem top.tw4258143625173308034 : True := trivial
theorem top.tw15495528023904957058 : True := trivial
theorem top.tw15823732540823425666 : True := trivial
theorem top.tw15748125925826647682 : True := trivial
theorem top.tw5958459099580689026 : True := trivial
theorem top.tw15254643099363442306 : True := trivial
theorem top.tw16721989186581611170 : True := trivial
theorem top.tw9739860059890490050 : True := trivial
theorem top.tw15234444972351076034 : True := trivial
theorem top.tw12502491890553978562 : True := trivial
theorem top.tw5728218623943512802 : True := trivial
theorem top.tw3302753350502126306 : True := trivial
theorem top.tw7538252964068480738 : True := trivial
theorem top.tw11470690223818410786 : True := trivial
theorem top.tw2592109501493986082 : True := trivial
theorem top.tw12425085872883035938 : True := trivial
theorem top.tw4730768163679209282 : True := trivial
theorem top.tw4392038535549328194 : True := trivial
theorem top.tw17103177528636943170 : True := trivial
theorem top.tw14751435942891637570 : True := trivial
theorem top.tw8459388253790504802 : True := trivial
theorem top.tw14690541622480643938 : True := trivial
theorem top.tw9930815651645962114 : True := trivial
theorem top.tw6220391956798857122 : True := trivial
theorem top.tw13601388653525337026 : True := trivial
theorem top.tw11735923915801401282 : True := trivial
theorem top.tw450566749975022562 : True := trivial
theorem top.tw16878204669230926818 : True := trivial
theorem top.tw2988451766255067171 : True := trivial
theorem top.tw3644161924160858147 : True := trivial
theorem top.tw8321918168302905379 : True := trivial
theorem top.tw13707436461551712291 : True := trivial
theorem top.tw14235281626263879747 : True := trivial
theorem top.tw9961057766049560675 : True := trivial
theorem top.tw4615418542455507075 : True := trivial
theorem top.tw13990698242589431971 : True := trivial
theorem top.tw4027433550071603363 : True := trivial
theorem top.tw4016702492250564771 : True := trivial
theorem top.tw10414433010598505635 : True := trivial
theorem top.tw8311017846404947139 : True := trivial
theorem top.tw6756868429301003459 : True := trivial
theorem top.tw9518616326571223235 : True := trivial
theorem top.tw10505224238033894595 : True := trivial
theorem top.tw10721205961895607491 : True := trivial
theorem top.tw6761616313442571491 : True := trivial
theorem top.tw4010397242664982755 : True := trivial
theorem top.tw15696354942287192291 : True := trivial
theorem top.tw4460784670865034499 : True := trivial
theorem top.tw15687709949711836451 : True := trivial
theorem top.tw9835852885743449411 : True := trivial
theorem top.tw3704924817259034979 : True := trivial
theorem top.tw8789530184286586243 : True := trivial
theorem top.tw4977374598719398275 : True := trivial
theorem top.tw1212798325632107971 : True := trivial
theorem top.tw3417483189173427683 : True := trivial
theorem top.tw6131151493204398563 : True := trivial
theorem top.tw5405092056839124451 : True := trivial
theorem top.tw5163715390036670947 : True := trivial
theorem top.tw16683314542722419203 : True := trivial
theorem top.tw6821124136996835843 : True := trivial
theorem top.tw11384800866962632227 : True := trivial
theorem top.tw9110929993984733763 : True := trivial
theorem top.tw65929781887070819 : True := trivial
theorem top.tw10936122117785486979 : True := trivial
theorem top.tw11939397010239605379 : True := trivial
theorem top.tw3871027444623705763 : True := trivial
theorem top.tw17474498911051797155 : True := trivial
theorem top.tw7698691723737959107 : True := trivial
theorem top.tw16581122684658428611 : True := trivial
theorem top.tw7891831236481173187 : True := trivial
theorem top.tw9149571693438533347 : True := trivial
theorem top.tw4532190169414405891 : True := trivial
theorem top.tw3486343465515733763 : True := trivial
theorem top.tw14632489290957082403 : True := trivial
theorem top.tw15692696079080839971 : True := trivial
theorem top.tw15740088241188596515 : True := trivial
theorem top.tw8671780806285394819 : True := trivial
theorem top.tw3095723055068941187 : True := trivial
theorem top.tw15024216053386777475 : True := trivial
theorem top.tw7271127688002547587 : True := trivial
theorem top.tw12521587561680038787 : True := trivial
theorem top.tw16928437109215666083 : True := trivial
theorem top.tw13305523845174962083 : True := trivial
theorem top.tw1297684725254868899 : True := trivial
theorem top.tw9188774459677099971 : True := trivial
theorem top.tw9590619109379692515 : True := trivial
theorem top.tw2367422256012758020 : True := trivial
theorem top.tw18338267663776618500 : True := trivial
theorem top.tw16054190913257422852 : True := trivial
theorem top.tw14920630486856261636 : True := trivial
theorem top.tw3848903353894205444 : True := trivial
theorem top.tw15836908640704697380 : True := trivial
theorem top.tw7847352863974893604 : True := trivial
theorem top.tw14608685727046917156 : True := trivial
theorem top.tw2287823674025257028 : True := trivial
theorem top.tw12449803176593602628 : True := trivial
theorem top.tw2737145857125637188 : True := trivial
theorem top.tw8155677260382574692 : True := trivial
theorem top.tw15740948416001004644 : True := trivial
theorem top.tw18210321327974783108 : True := trivial
theorem top.tw6292954644110606532 : True := trivial
theorem top.tw12787338502077490372 : True := trivial
theorem top.tw15212760480394562756 : True := trivial
theorem top.tw16734371015571099844 : True := trivial
theorem top.tw8281120267493503204 : True := trivial
theorem top.tw13710211086531791108 : True := trivial
theorem top.tw9831455883205970180 : True := trivial
theorem top.tw3831216023754155268 : True := trivial
theorem top.tw10694878333477680388 : True := trivial
theorem top.tw401921906979044612 : True := trivial
theorem top.tw17420174224997489956 : True := trivial
theorem top.tw13359975269449299268 : True := trivial
theorem top.tw146815374380898660 : True := trivial
theorem top.tw14987219478266130788 : True := trivial
theorem top.tw18220982256708146532 : True := trivial
theorem top.tw7033079012710635876 : True := trivial
theorem top.tw305557533498188196 : True := trivial
theorem top.tw1717825165581474212 : True := trivial
theorem top.tw8672883130414831044 : True := trivial
theorem top.tw7817637940432870852 : True := trivial
theorem top.tw8746584487950033348 : True := trivial
theorem top.tw12764151676501842404 : True := trivial
theorem top.tw15498596964979890660 : True := trivial
theorem top.tw16058212318047004132 : True := trivial
theorem top.tw10248073240650190340 : True := trivial
theorem top.tw9406335951388923396 : True := trivial
theorem top.tw13012589842206080548 : True := trivial
theorem top.tw9037230937194559044 : True := trivial
theorem top.tw13364640907079947876 : True := trivial
theorem top.tw14459580976405569124 : True := trivial
theorem top.tw3418912648064540324 : True := trivial
theorem top.tw7717140707237438116 : True := trivial
theorem top.tw12483720753089274532 : True := trivial
theorem top.tw7862098318515669700 : True := trivial
theorem top.tw18144237087569449668 : True := trivial
theorem top.tw15262977503361262276 : True := trivial
theorem top.tw13896958669275611876 : True := trivial
theorem top.tw4282000862649549572 : True := trivial
theorem top.tw814325599930780420 : True := trivial
theorem top.tw2700199365505918788 : True := trivial
theorem top.tw8355760468068845380 : True := trivial
theorem top.tw4552017545936432964 : True := trivial
theorem top.tw1473756932936316772 : True := trivial
theorem top.tw4292522238394942308 : True := trivial
theorem top.tw11093206078495630212 : True := trivial
theorem top.tw16258771989139608452 : True := trivial
theorem top.tw6763507551630497732 : True := trivial
theorem top.tw7671549972530922468 : True := trivial
theorem top.tw17412589854805754852 : True := trivial
theorem top.tw16121859358006354916 : True := trivial
theorem top.tw15831563136056903652 : True := trivial
theorem top.tw3735150638455610340 : True := trivial
theorem top.tw10280702661035681764 : True := trivial
theorem top.tw4656485037274611717 : True := trivial
theorem top.tw16120041803238788101 : True := trivial
theorem top.tw15646934709686841381 : True := trivial
theorem top.tw17100552203424759909 : True := trivial
theorem top.tw2862427694079412325 : True := trivial
theorem top.tw2565563351968343141 : True := trivial
theorem top.tw18330144715369815205 : True := trivial
theorem top.tw1120081032781085861 : True := trivial
theorem top.tw4691186174975459493 : True := trivial
theorem top.tw3796891538752321733 : True := trivial
theorem top.tw7280543176740627685 : True := trivial
theorem top.tw4206186482017397989 : True := trivial
theorem top.tw3657543652526465285 : True := trivial
theorem top.tw15833254233020807429 : True := trivial
theorem top.tw17964936387383312645 : True := trivial
theorem top.tw8892184565913893157 : True := trivial
theorem top.tw17291599732995809605 : True := trivial
theorem top.tw2685012915969955173 : True := trivial
theorem top.tw3695669965767098725 : True := trivial
theorem top.tw7069076742222632293 : True := trivial
theorem top.tw14284513296747267461 : True := trivial
theorem top.tw13001836021917841797 : True := trivial
theorem top.tw10708862687904276901 : True := trivial
theorem top.tw18201758440048473509 : True := trivial
theorem top.tw679676368844127653 : True := trivial
theorem top.tw13761928331744482757 : True := trivial
theorem top.tw9227541089923242437 : True := trivial
theorem top.tw5254037755948148165 : True := trivial
theorem top.tw4358916807033596357 : True := trivial
theorem top.tw12210559395081530917 : True := trivial
theorem top.tw3976154599441133093 : True := trivial
theorem top.tw81815255157605957 : True := trivial
theorem top.tw11913080699447454277 : True := trivial
theorem top.tw196536941598035525 : True := trivial
theorem top.tw7313339093194340965 : True := trivial
theorem top.tw7925146906966333093 : True := trivial
theorem top.tw17958242493519219365 : True := trivial
theorem top.tw2933308724806544037 : True := trivial
theorem top.tw1236304545764765349 : True := trivial
theorem top.tw8212240652046128837 : True := trivial
theorem top.tw6100099954607521509 : True := trivial
theorem top.tw9059832203979395877 : True := trivial
theorem top.tw17033825039287860005 : True := trivial
theorem top.tw13243480195906806629 : True := trivial
theorem top.tw9685713192446186341 : True := trivial
theorem top.tw5555381166584804229 : True := trivial
theorem top.tw8363718466572441477 : True := trivial
theorem top.tw15415608290686147493 : True := trivial
theorem top.tw11592465598724292549 : True := trivial
theorem top.tw8500755437990461381 : True := trivial
theorem top.tw4588974688590490565 : True := trivial
theorem top.tw3669314199184481253 : True := trivial
theorem top.tw1294077662247117797 : True := trivial
theorem top.tw2394881407643693062 : True := trivial
theorem top.tw11266629392599560198 : True := trivial
theorem top.tw3676687333765336102 : True := trivial
theorem top.tw15969955802940969030 : True := trivial
theorem top.tw4840481374290595910 : True := trivial
theorem top.tw3570499242123996262 : True := trivial
theorem top.tw12879618353801967718 : True := trivial
theorem top.tw16736118626332596326 : True := trivial
theorem top.tw6520327441239513222 : True := trivial
theorem top.tw13501252493785611398 : True := trivial
theorem top.tw5379463472682653830 : True := trivial
theorem top.tw6222441543613929606 : True := trivial
theorem top.tw9684699057600944294 : True := trivial
theorem top.tw3140898538269762758 : True := trivial
theorem top.tw5590232498371695878 : True := trivial
theorem top.tw11383000496634168614 : True := trivial
theorem top.tw297971269722091814 : True := trivial
theorem top.tw6151240786027576614 : True := trivial
theorem top.tw6749217079512962374 : True := trivial
theorem top.tw8491569201557804390 : True := trivial
theorem top.tw11134249225346278790 : True := trivial
theorem top.tw14645912567700417926 : True := trivial
theorem top.tw11917448952958348678 : True := trivial
theorem top.tw8541664164027344294 : True := trivial
theorem top.tw5824579528651436486 : True := trivial
theorem top.tw8435561252592420358 : True := trivial
theorem top.tw3992022051434115590 : True := trivial
theorem top.tw5969682004907312646 : True := trivial
theorem top.tw9514800995652322822 : True := trivial
theorem top.tw8640399195822439974 : True := trivial
theorem top.tw14042817526060737062 : True := trivial
theorem top.tw17426890637625606726 : True := trivial
theorem top.tw10617020205504526918 : True := trivial
theorem top.tw10016850226790009446 : True := trivial
theorem top.tw5616744882793150054 : True := trivial
theorem top.tw84039136719796838 : True := trivial
theorem top.tw10110908995651307174 : True := trivial
theorem top.tw8420165910927482534 : True := trivial
theorem top.tw1736530178072539846 : True := trivial
theorem top.tw7715697345341360870 : True := trivial
theorem top.tw9614876229902214918 : True := trivial
theorem top.tw731822037213393670 : True := trivial
theorem top.tw14526540143163920134 : True := trivial
theorem top.tw8928314200352762662 : True := trivial
theorem top.tw18007466009053225766 : True := trivial
theorem top.tw4691147966431033126 : True := trivial
theorem top.tw12939556761933837126 : True := trivial
theorem top.tw4835499133494076262 : True := trivial
theorem top.tw7615525527098106726 : True := trivial
theorem top.tw10758285177947603814 : True := trivial
theorem top.tw15690355392615275366 : True := trivial
theorem top.tw8985709366574770022 : True := trivial
theorem top.tw14671331368771545958 : True := trivial
theorem top.tw9694206877528517478 : True := trivial
theorem top.tw5860347150701562758 : True := trivial
theorem top.tw2506305409684761478 : True := trivial
theorem top.tw10783980745131425670 : True := trivial
theorem top.tw8679839319945467846 : True := trivial
theorem top.tw4870201379501977574 : True := trivial
theorem top.tw4807402645868434406 : True := trivial
theorem top.tw10467260515200827399 : True := trivial
theorem top.tw4929559695531247623 : True := trivial
theorem top.tw3195968871104189447 : True := trivial
theorem top.tw16840627104734473223 : True := trivial
theorem top.tw2459879158125000711 : True := trivial
theorem top.tw9572121911122791463 : True := trivial
theorem top.tw11189890337720088615 : True := trivial
theorem top.tw6491118196486620199 : True := trivial
theorem top.tw5078243831526850631 : True := trivial
theorem top.tw8959181455063258183 : True := trivial
theorem top.tw860223938195835975 : True := trivial
theorem top.tw7557910624720293991 : True := trivial
theorem top.tw10017641377398992999 : True := trivial
theorem top.tw11459358961799972967 : True := trivial
theorem top.tw953821971998124167 : True := trivial
theorem top.tw12256363837256957063 : True := trivial
theorem top.tw15391776030834729127 : True := trivial
theorem top.tw8043003576528973991 : True := trivial
theorem top.tw538775485977985223 : True := trivial
theorem top.tw53344730913325255 : True := trivial
theorem top.tw11443710868159068359 : True := trivial
theorem top.tw6864621766316454119 : True := trivial
theorem top.tw1697544655201012999 : True := trivial
theorem top.tw13532860479073427719 : True := trivial
theorem top.tw9547732980113122599 : True := trivial
theorem top.tw13991078252803082535 : True := trivial
theorem top.tw1054488965285714247 : True := trivial
theorem top.tw5044145427952709959 : True := trivial
theorem top.tw1950521091445644615 : True := trivial
theorem top.tw1255372629129633127 : True := trivial
theorem top.tw5778982233495518567 : True := trivial
theorem top.tw6176384092110617959 : True := trivial
theorem top.tw2731995056826638727 : True := trivial
theorem top.tw6235009490921287079 : True := trivial
theorem top.tw6286779285267259847 : True := trivial
theorem top.tw14214845130331304391 : True := trivial
theorem top.tw15735037969156040135 : True := trivial
theorem top.tw12931362102233154023 : True := trivial
theorem top.tw9165953624949470791 : True := trivial
theorem top.tw15448911298082324039 : True := trivial
theorem top.tw4111001743050654279 : True := trivial
theorem top.tw2050295075708095047 : True := trivial
theorem top.tw12545222027267286695 : True := trivial
theorem top.tw6539278689137496775 : True := trivial
theorem top.tw6883741973766446791 : True := trivial
theorem top.tw1209819496270969543 : True := trivial
theorem top.tw10864713392326063847 : True := trivial
theorem top.tw2654276937334245095 : True := trivial
theorem top.tw6829641428016954087 : True := trivial
theorem top.tw1211273890690569991 : True := trivial
theorem top.tw2404127567346610951 : True := trivial
theorem top.tw13968125046926948103 : True := trivial
theorem top.tw13090165191389475591 : True := trivial
theorem top.tw5186518429493523239 : True := trivial
theorem top.tw775762912060472103 : True := trivial
theorem top.tw7323588581883375431 : True := trivial
theorem top.tw13385244156195431271 : True := trivial
theorem top.tw14214649769353832295 : True := trivial
theorem top.tw10361075674979980167 : True := trivial
theorem top.tw3581848524822189991 : True := trivial
theorem top.tw2859833716702649255 : True := trivial
theorem top.tw12317137736924338119 : True := trivial
theorem top.tw4149876101866662855 : True := trivial
theorem top.tw9658252868779316199 : True := trivial
theorem top.tw4090274040601096167 : True := trivial
theorem top.tw7657828476027519975 : True := trivial
theorem top.tw4941665152112744456 : True := trivial
theorem top.tw14748193400025696296 : True := trivial
theorem top.tw8013090884974467112 : True := trivial
theorem top.tw12070093620155163720 : True := trivial
theorem top.tw5244899138074338376 : True := trivial
theorem top.tw3484022092364678248 : True := trivial
theorem top.tw16982378080980825192 : True := trivial
theorem top.tw5535988348211436712 : True := trivial
theorem top.tw10643057118474118344 : True := trivial
theorem top.tw16770000883354449096 : True := trivial
theorem top.tw9487724021038755048 : True := trivial
theorem top.tw9015062603351736552 : True := trivial
theorem top.tw16439428074185983240 : True := trivial
theorem top.tw13864677062968915208 : True := trivial
theorem top.tw708234853630380328 : True := trivial
theorem top.tw2685745773621513544 : True := trivial
theorem top.tw5240389563564037448 : True := trivial
theorem top.tw9757572049824486728 : True := trivial
theorem top.tw151297168226168136 : True := trivial
theorem top.tw3261557481417251176 : True := trivial
theorem top.tw7108139096449030536 : True := trivial
theorem top.tw14512255991650004360 : True := trivial
theorem top.tw4205137553216949640 : True := trivial
theorem top.tw18063644159110109576 : True := trivial
theorem top.tw83393220934416808 : True := trivial
theorem top.tw6370870915552960936 : True := trivial
theorem top.tw15504003422832357800 : True := trivial
theorem top.tw9792400638117812680 : True := trivial
theorem top.tw13915387964903991752 : True := trivial
theorem top.tw15817181387143870920 : True := trivial
theorem top.tw3603051052118289896 : True := trivial
theorem top.tw12865423146811077096 : True := trivial
theorem top.tw15743347864482560488 : True := trivial
theorem top.tw12622177474791663080 : True := trivial
theorem top.tw17916939684832112104 : True := trivial
theorem top.tw9723989250521069032 : True := trivial
theorem top.tw14481524164817573384 : True := trivial
theorem top.tw1007261125770478088 : True := trivial
theorem top.tw16414630628198896168 : True := trivial
theorem top.tw2564807258711394888 : True := trivial
theorem top.tw4705723845826882120 : True := trivial
theorem top.tw11828478481110319688 : True := trivial
theorem top.tw12638030207367898728 : True := trivial
theorem top.tw12944596839952905832 : True := trivial
theorem top.tw10657950659306570408 : True := trivial
theorem top.tw6460121766331871944 : True := trivial
theorem top.tw17595191090738125544 : True := trivial
theorem top.tw10648311167861321448 : True := trivial
theorem top.tw14787300247439345416 : True := trivial
theorem top.tw14677765105775291144 : True := trivial
theorem top.tw6583428906209883912 : True := trivial
theorem top.tw17080965409110220552 : True := trivial
theorem top.tw11408453963512735496 : True := trivial
theorem top.tw2249405535684624136 : True := trivial
theorem top.tw10233937372900511528 : True := trivial
theorem top.tw6562079832440513352 : True := trivial
theorem top.tw594810645892935528 : True := trivial
theorem top.tw6042063481754889096 : True := trivial
theorem top.tw137813150952109960 : True := trivial
theorem top.tw4501217679856968648 : True := trivial
theorem top.tw7230903212357928904 : True := trivial
theorem top.tw517144808224063464 : True := trivial
theorem top.tw479018264907363369 : True := trivial
theorem top.tw1792224892710378537 : True := trivial
theorem top.tw12573315948526539849 : True := trivial
theorem top.tw1662615917716656201 : True := trivial
theorem top.tw6906291655842520137 : True := trivial
theorem top.tw32865551896584297 : True := trivial
theorem top.tw13177472732611162249 : True := trivial
theorem top.tw11137450243234157737 : True := trivial
theorem top.tw2047500489365003465 : True := trivial
theorem top.tw15878805988109762761 : True := trivial
theorem top.tw7896245365604500681 : True := trivial
theorem top.tw12397598024624889033 : True := trivial
theorem top.tw2561068854174623977 : True := trivial
theorem top.tw10548783162686979305 : True := trivial
theorem top.tw10549977736560136457 : True := trivial
theorem top.tw15860264024139754761 : True := trivial
theorem top.tw4307495973949587753 : True := trivial
theorem top.tw13303987763403120937 : True := trivial
theorem top.tw12287887523310495049 : True := trivial
theorem top.tw3909029901177050473 : True := trivial
theorem top.tw8767778932378041705 : True := trivial
theorem top.tw17103585973383926153 : True := trivial
theorem top.tw11063591780476770729 : True := trivial
theorem top.tw13562833436174130633 : True := trivial
theorem top.tw2580922434103091657 : True := trivial
theorem top.tw16109152158012514761 : True := trivial
theorem top.tw5290597957214086601 : True := trivial
theorem top.tw17128428258758909385 : True := trivial
theorem top.tw6786057226368545225 : True := trivial
theorem top.tw14082171712413598185 : True := trivial
theorem top.tw10512489437642701289 : True := trivial
theorem top.tw13135920212223677929 : True := trivial
theorem top.tw3618190572293784073 : True := trivial
theorem top.tw15362585471772962313 : True := trivial
theorem top.tw18097601915332485641 : True := trivial
theorem top.tw3239789565323094569 : True := trivial
theorem top.tw16123964013534891561 : True := trivial
theorem top.tw11561827921928013385 : True := trivial
theorem top.tw4555866861457887817 : True := trivial
theorem top.tw13290321428070320777 : True := trivial
theorem top.tw15569959144833144457 : True := trivial
theorem top.tw7675417749720738473 : True := trivial
theorem top.tw7980593446034420393 : True := trivial
theorem top.tw14687197162769931945 : True := trivial
theorem top.tw16782997733028217545 : True := trivial
theorem top.tw8637452081102412489 : True := trivial
theorem top.tw12625694945159114441 : True := trivial
theorem top.tw13571448547899197161 : True := trivial
theorem top.tw8847220945193143081 : True := trivial
theorem top.tw7845129631348957993 : True := trivial
theorem top.tw12575868409027273513 : True := trivial
theorem top.tw4512453853342314281 : True := trivial
theorem top.tw12235425159663433513 : True := trivial
theorem top.tw12777601194060584777 : True := trivial
theorem top.tw9883271218011376521 : True := trivial
theorem top.tw657111498738832265 : True := trivial
theorem top.tw3087888393795971977 : True := trivial
theorem top.tw9326722878772556681 : True := trivial
theorem top.tw870585541968153481 : True := trivial
theorem top.tw3378803678994701225 : True := trivial
theorem top.tw17788931634197215145 : True := trivial
theorem top.tw516228168201391017 : True := trivial
theorem top.tw4671429814451907529 : True := trivial
theorem top.tw7855079511596107753 : True := trivial
theorem top.tw9066153245119067113 : True := trivial
theorem top.tw10915162052029792233 : True := trivial
theorem top.tw2770239361232196585 : True := trivial
theorem top.tw13187519465064655849 : True := trivial
theorem top.tw8622502720953521162 : True := trivial
theorem top.tw12043218685254973450 : True := trivial
theorem top.tw12340227926317113386 : True := trivial
theorem top.tw13173430934344474666 : True := trivial
theorem top.tw3265191590900254762 : True := trivial
theorem top.tw339143206060000330 : True := trivial
theorem top.tw6600658504840714314 : True := trivial
theorem top.tw2732273902793177162 : True := trivial
theorem top.tw8729362747519067210 : True := trivial
theorem top.tw3315250197877816394 : True := trivial
theorem top.tw16674975167109581930 : True := trivial
theorem top.tw12756434147638494346 : True := trivial
theorem top.tw10763682846017881258 : True := trivial
theorem top.tw9059672392935016618 : True := trivial
theorem top.tw12166907935582030026 : True := trivial
theorem top.tw6673648511845087434 : True := trivial
theorem top.tw10187724287525710026 : True := trivial
theorem top.tw8523463495250067690 : True := trivial
theorem top.tw7204493036743257322 : True := trivial
theorem top.tw14317375437502057738 : True := trivial
theorem top.tw2623939120245140746 : True := trivial
theorem top.tw9233715247699887402 : True := trivial
theorem top.tw10960156491385609514 : True := trivial
theorem top.tw5483185372664623402 : True := trivial
theorem top.tw5058314954733539658 : True := trivial
theorem top.tw17160434163424456010 : True := trivial
theorem top.tw342308947776675178 : True := trivial
theorem top.tw5804503181746721162 : True := trivial
theorem top.tw6885214360128481674 : True := trivial
theorem top.tw501154541418245514 : True := trivial
theorem top.tw655273500819249578 : True := trivial
theorem top.tw12700269652351315370 : True := trivial
theorem top.tw16004416686337608138 : True := trivial
theorem top.tw14372152842798730730 : True := trivial
theorem top.tw7686822618672477738 : True := trivial
theorem top.tw15976228082101565994 : True := trivial
theorem top.tw2788377495573325354 : True := trivial
theorem top.tw1595350964381101642 : True := trivial
theorem top.tw2125386657190883914 : True := trivial
theorem top.tw12218787953657430602 : True := trivial
theorem top.tw1999819345807860298 : True := trivial
theorem top.tw11646254648710591050 : True := trivial
theorem top.tw8184561461823581802 : True := trivial
theorem top.tw8656237869306729066 : True := trivial
theorem top.tw12193372218175167114 : True := trivial
theorem top.tw17085176360113175178 : True := trivial
theorem top.tw10501702545626575530 : True := trivial
theorem top.tw1502812360938880682 : True := trivial
theorem top.tw13844505572957833930 : True := trivial
theorem top.tw9919435345466941130 : True := trivial
theorem top.tw17469865338272021226 : True := trivial
theorem top.tw2258321901769554666 : True := trivial
theorem top.tw13889309363888878346 : True := trivial
theorem top.tw16068562728529669930 : True := trivial
theorem top.tw1655259298481077034 : True := trivial
theorem top.tw1321871150748368714 : True := trivial
theorem top.tw10633655126359591786 : True := trivial
theorem top.tw14724332232928298890 : True := trivial
theorem top.tw9738306379648240522 : True := trivial
theorem top.tw3299242776949789610 : True := trivial
theorem top.tw8443935842833279946 : True := trivial
theorem top.tw16525863338940772298 : True := trivial
theorem top.tw9951221954081769418 : True := trivial
theorem top.tw5513142621748847562 : True := trivial
theorem top.tw8975108423156789194 : True := trivial
theorem top.tw6624316729101989866 : True := trivial
theorem top.tw6057728870046649322 : True := trivial
theorem top.tw3405280662959819787 : True := trivial
theorem top.tw9336304154783622155 : True := trivial
theorem top.tw2232070626678158379 : True := trivial
theorem top.tw4892573175548565547 : True := trivial
theorem top.tw9308151640839208011 : True := trivial
theorem top.tw5005317128667965579 : True := trivial
theorem top.tw16149628235652541579 : True := trivial
theorem top.tw13388941689218983051 : True := trivial
theorem top.tw14248925298954806443 : True := trivial
theorem top.tw6919701780365589675 : True := trivial
theorem top.tw17794366733547915435 : True := trivial
theorem top.tw13178059906610389163 : True := trivial
theorem top.tw9926289677982984363 : True := trivial
theorem top.tw13370750898655102155 : True := trivial
theorem top.tw2683898200743741643 : True := trivial
theorem top.tw7488472494771415243 : True := trivial
theorem top.tw4828031223510198475 : True := trivial
theorem top.tw1524482435131546859 : True := trivial
theorem top.tw15991749640594237675 : True := trivial
theorem top.tw10925976863808437483 : True := trivial
theorem top.tw11532016030710369547 : True := trivial
theorem top.tw4242485159881550091 : True := trivial
theorem top.tw3002795768020413707 : True := trivial
theorem top.tw14810493832863049995 : True := trivial
theorem top.tw9908339238214195531 : True := trivial
theorem top.tw10328360990557673835 : True := trivial
theorem top.tw1312780250039628139 : True := trivial
theorem top.tw8598144960395782539 : True := trivial
theorem top.tw6812286434817487243 : True := trivial
theorem top.tw9622763587122877835 : True := trivial
theorem top.tw12031303853943761323 : True := trivial
theorem top.tw6431110157172167083 : True := trivial
theorem top.tw9111341701214203307 : True := trivial
theorem top.tw13706816188851595723 : True := trivial
theorem top.tw6430265229019958763 : True := trivial
theorem top.tw9806617501295524395 : True := trivial
theorem top.tw17785818512168800811 : True := trivial
theorem top.tw7587601194962177611 : True := trivial
theorem top.tw6674990990233134667 : True := trivial
theorem top.tw16415559393655328363 : True := trivial
theorem top.tw6695526894932562539 : True := trivial
theorem top.tw9936536881743500907 : True := trivial
theorem top.tw10252623693936335467 : True := trivial
theorem top.tw8779778587388263019 : True := trivial
theorem top.tw15350006587542526571 : True := trivial
theorem top.tw17316021358764173963 : True := trivial
theorem top.tw1522322319653140107 : True := trivial
theorem top.tw8140125068956082859 : True := trivial
theorem top.tw14709367294833977003 : True := trivial
theorem top.tw17444329988762607307 : True := trivial
theorem top.tw17391775962083533515 : True := trivial
theorem top.tw956942650209027819 : True := trivial
theorem top.tw15766219058475960075 : True := trivial
theorem top.tw2170277104671012619 : True := trivial
theorem top.tw17315540178315561739 : True := trivial
theorem top.tw7673058066778466091 : True := trivial
theorem top.tw6555642035190443819 : True := trivial
theorem top.tw17489137672866753323 : True := trivial
theorem top.tw14282377253939248939 : True := trivial
theorem top.tw15271675978053873483 : True := trivial
theorem top.tw3671754024666584971 : True := trivial
theorem top.tw17774833976778514315 : True := trivial
theorem top.tw9962302188120564619 : True := trivial
theorem top.tw2063449620868658059 : True := trivial
theorem top.tw9233335307524088747 : True := trivial
theorem top.tw13713866747541496747 : True := trivial
theorem top.tw5786237608948540331 : True := trivial
theorem top.tw5840899811013637067 : True := trivial
theorem top.tw17576975557295073227 : True := trivial
theorem top.tw15776690700403996651 : True := trivial
theorem top.tw10871174231137468428 : True := trivial
theorem top.tw9227057690007400460 : True := trivial
theorem top.tw10479390001358131244 : True := trivial
theorem top.tw5915399644114372684 : True := trivial
theorem top.tw15985680467844229196 : True := trivial
theorem top.tw11033384787205323852 : True := trivial
theorem top.tw7191137982244381804 : True := trivial
theorem top.tw9776112803966576748 : True := trivial
theorem top.tw16689171030330870956 : True := trivial
theorem top.tw15525045674326312108 : True := trivial
theorem top.tw7926136590108786892 : True := trivial
theorem top.tw13029900630750994668 : True := trivial
theorem top.tw5077617475879078156 : True := trivial
theorem top.tw12704153843328093452 : True := trivial
theorem top.tw16390659713022370060 : True := trivial
theorem top.tw15744752440731449612 : True := trivial
theorem top.tw16968614967392854284 : True := trivial
theorem top.tw2443449257678562572 : True := trivial
theorem top.tw17470836177267949868 : True := trivial
theorem top.tw16919938111736474924 : True := trivial
theorem top.tw17100602668113417548 : True := trivial
theorem top.tw1520922878988510540 : True := trivial
theorem top.tw5609151216138764652 : True := trivial
theorem top.tw9833397302626899308 : True := trivial
theorem top.tw4058360122049881452 : True := trivial
theorem top.tw7870587939034429804 : True := trivial
theorem top.tw6137580940623545740 : True := trivial
theorem top.tw17046948494117081484 : True := trivial
theorem top.tw3331421620988305804 : True := trivial
theorem top.tw3969286963782609292 : True := trivial
theorem top.tw13671191487549972908 : True := trivial
theorem top.tw8347795973495727564 : True := trivial
theorem top.tw13799840507378627052 : True := trivial
theorem top.tw6333448901615975916 : True := trivial
theorem top.tw9195894827357321740 : True := trivial
theorem top.tw10768140376307724812 : True := trivial
theorem top.tw6503730183909636620 : True := trivial
theorem top.tw2099580273886176844 : True := trivial
theorem top.tw1752352281038534220 : True := trivial
theorem top.tw93012567124736588 : True := trivial
theorem top.tw8746941081350896204 : True := trivial
theorem top.tw11542710104232473196 : True := trivial
theorem top.tw17781115878593249900 : True := trivial
theorem top.tw3064317992647729804 : True := trivial
theorem top.tw3254097082911018636 : True := trivial
theorem top.tw17377934564383891116 : True := trivial
theorem top.tw8945821146733600428 : True := trivial
theorem top.tw12603656398198563500 : True := trivial
theorem top.tw4951766788466123468 : True := trivial
theorem top.tw18340944521032412876 : True := trivial
theorem top.tw12958664272152378060 : True := trivial
theorem top.tw2511388062720753356 : True := trivial
theorem top.tw9358617607463016204 : True := trivial
theorem top.tw6184301603544957740 : True := trivial
theorem top.tw15269923463741196076 : True := trivial
theorem top.tw17174265414373007148 : True := trivial
theorem top.tw9158089842355224396 : True := trivial
theorem top.tw16240068400928781132 : True := trivial
theorem top.tw6210217950698413964 : True := trivial
theorem top.tw3285967332007590796 : True := trivial
theorem top.tw14429954968415203212 : True := trivial
theorem top.tw2680655200719965100 : True := trivial
theorem top.tw1974491046962670508 : True := trivial
theorem top.tw1830471551772147628 : True := trivial
theorem top.tw13902025155065610156 : True := trivial
theorem top.tw13546161746385187788 : True := trivial
theorem top.tw10404823597219466188 : True := trivial
theorem top.tw17323899518341599180 : True := trivial
theorem top.tw4287601815617262540 : True := trivial
theorem top.tw4662799019914224588 : True := trivial
theorem top.tw13987285891283452908 : True := trivial
theorem top.tw16326585352142918636 : True := trivial
theorem top.tw2365566498512967660 : True := trivial
theorem top.tw16663450692288620524 : True := trivial
theorem top.tw8869878388834624492 : True := trivial
theorem top.tw6942226510957090829 : True := trivial
theorem top.tw5973993481075475469 : True := trivial
theorem top.tw372964977893139469 : True := trivial
theorem top.tw15151295755643613229 : True := trivial
theorem top.tw6092573690812238925 : True := trivial
theorem top.tw15383718091736126541 : True := trivial
theorem top.tw2165817408578904141 : True := trivial
theorem top.tw13822267516522204269 : True := trivial
theorem top.tw11486899447661077613 : True := trivial
theorem top.tw55027467381167213 : True := trivial
theorem top.tw18137363274558907533 : True := trivial
theorem top.tw4464885659457858701 : True := trivial
theorem top.tw599783675121096845 : True := trivial
theorem top.tw16174758807025615021 : True := trivial
theorem top.tw7527032243904285869 : True := trivial
theorem top.tw17135812771915316397 : True := trivial
theorem top.tw16352630495959832749 : True := trivial
theorem top.tw2958329182339262637 : True := trivial
theorem top.tw17555251805378815213 : True := trivial
theorem top.tw7744093853086628109 : True := trivial
theorem top.tw11013087226569439501 : True := trivial
theorem top.tw15542300402876303629 : True := trivial
theorem top.tw17337222044243258637 : True := trivial
theorem top.tw16844067456194695469 : True := trivial
theorem top.tw4586369020291528013 : True := trivial
theorem top.tw14510474431719978317 : True := trivial
theorem top.tw2919742780150501709 : True := trivial
theorem top.tw1112988674713690477 : True := trivial
theorem top.tw11038064363049568621 : True := trivial
theorem top.tw15125931889511115149 : True := trivial
theorem top.tw8330300561463054765 : True := trivial
theorem top.tw3479634599624807885 : True := trivial
theorem top.tw3715792687998586317 : True := trivial
theorem top.tw4047667213573674445 : True := trivial
theorem top.tw11560640370269393389 : True := trivial
theorem top.tw13743916774706631149 : True := trivial
theorem top.tw2924768665947510285 : True := trivial
theorem top.tw16201331356089659981 : True := trivial
theorem top.tw3150275107402339917 : True := trivial
theorem top.tw10989070937934888525 : True := trivial
theorem top.tw16470711423033216621 : True := trivial
theorem top.tw10774637447528242797 : True := trivial
theorem top.tw2742194189697913485 : True := trivial
theorem top.tw11410361304710592141 : True := trivial
theorem top.tw283044589724301 : True := trivial
theorem top.tw12356875383205683853 : True := trivial
theorem top.tw682014064893787789 : True := trivial
theorem top.tw597104306152710829 : True := trivial
theorem top.tw3898986832967938733 : True := trivial
theorem top.tw13830271770371739309 : True := trivial
theorem top.tw3598397861257662125 : True := trivial
theorem top.tw6590131615821357773 : True := trivial
theorem top.tw4940147422707163885 : True := trivial
theorem top.tw16719718919923625709 : True := trivial
theorem top.tw2581206410525282061 : True := trivial
theorem top.tw1814787853859245837 : True := trivial
theorem top.tw12080426169559351053 : True := trivial
theorem top.tw834087596736735021 : True := trivial
theorem top.tw10334825999990328141 : True := trivial
theorem top.tw6187692044913252173 : True := trivial
theorem top.tw17964300760807480141 : True := trivial
theorem top.tw8265191368974092141 : True := trivial
theorem top.tw17921175469725437805 : True := trivial
theorem top.tw4700017125552149357 : True := trivial
theorem top.tw16869365282274683789 : True := trivial
theorem top.tw672699306608606093 : True := trivial
theorem top.tw13701811295701783437 : True := trivial
theorem top.tw10574840078274726829 : True := trivial
theorem top.tw661290744650703789 : True := trivial
theorem top.tw1516213087968936877 : True := trivial
theorem top.tw18362437273917381549 : True := trivial
theorem top.tw12427389293880184781 : True := trivial
theorem top.tw9076350847974150093 : True := trivial
theorem top.tw13191473780850816973 : True := trivial
theorem top.tw13318506193475082254 : True := trivial
theorem top.tw7439886461454727182 : True := trivial
theorem top.tw2104741419117168686 : True := trivial
theorem top.tw1974259917200649262 : True := trivial
theorem top.tw16426902794028739630 : True := trivial
theorem top.tw14502225709538309166 : True := trivial
theorem top.tw16994376123345812558 : True := trivial
theorem top.tw11840804652615492782 : True := trivial
theorem top.tw4636308790740814030 : True := trivial
theorem top.tw12385144161495827662 : True := trivial
theorem top.tw2809488002615124206 : True := trivial
theorem top.tw2723774447920314638 : True := trivial
theorem top.tw12209182163369298222 : True := trivial
theorem top.tw8120170916308422958 : True := trivial
theorem top.tw8472579005086612782 : True := trivial
theorem top.tw15451780782824253742 : True := trivial
theorem top.tw11642018336771016014 : True := trivial
theorem top.tw7297446738713254254 : True := trivial
theorem top.tw4131498621145694574 : True := trivial
theorem top.tw14429230371299607918 : True := trivial
theorem top.tw7291117980406417806 : True := trivial
theorem top.tw15410480413792054670 : True := trivial
theorem top.tw6506245621856685454 : True := trivial
theorem top.tw405421117753717134 : True := trivial
theorem top.tw13849670389092681134 : True := trivial
theorem top.tw12421269537071605166 : True := trivial
theorem top.tw5476889619067714990 : True := trivial
theorem top.tw12333849778787605934 : True := trivial
theorem top.tw18386854893347148238 : True := trivial
theorem top.tw13474863142627684814 : True := trivial
theorem top.tw5571243529121415630 : True := trivial
theorem top.tw6916252892733821390 : True := trivial
theorem top.tw6647988282438417870 : True := trivial
theorem top.tw12894197372075662830 : True := trivial
theorem top.tw15404454927644166670 : True := trivial
theorem top.tw12545136513106729486 : True := trivial
theorem top.tw2462062305354472974 : True := trivial
theorem top.tw9822532417609929294 : True := trivial
theorem top.tw9250549774821547598 : True := trivial
theorem top.tw17902423013329461838 : True := trivial
theorem top.tw10558761922227201614 : True := trivial
theorem top.tw1142415686869020238 : True := trivial
theorem top.tw893595371883084398 : True := trivial
theorem top.tw14611434983143301774 : True := trivial
theorem top.tw1803303928475200142 : True := trivial
theorem top.tw16290336690776382126 : True := trivial
theorem top.tw2008265615402657454 : True := trivial
theorem top.tw8248536392134357678 : True := trivial
theorem top.tw14550913141266643630 : True := trivial
theorem top.tw10362775142378211054 : True := trivial
theorem top.tw17542608870123051758 : True := trivial
theorem top.tw5380135791562185454 : True := trivial
theorem top.tw8922926602274725614 : True := trivial
theorem top.tw1079221192987090702 : True := trivial
theorem top.tw6553124395847675662 : True := trivial
theorem top.tw3546890252610351918 : True := trivial
theorem top.tw10367675484739944270 : True := trivial
theorem top.tw11718797996978030414 : True := trivial
theorem top.tw15299407806266782574 : True := trivial
theorem top.tw12693500166999166830 : True := trivial
theorem top.tw12718909917080609646 : True := trivial
theorem top.tw15503665604740900718 : True := trivial
theorem top.tw4547113066930546574 : True := trivial
theorem top.tw10317287140990440334 : True := trivial
theorem top.tw12958502747184954254 : True := trivial
theorem top.tw643623743707283342 : True := trivial
theorem top.tw15438179002428589006 : True := trivial
theorem top.tw3453223234828964814 : True := trivial
theorem top.tw15985961358823992270 : True := trivial
theorem top.tw5938664839603501006 : True := trivial
theorem top.tw10752159689236168654 : True := trivial
theorem top.tw17733704697253940239 : True := trivial
theorem top.tw11503242561204267055 : True := trivial
theorem top.tw387204362621204559 : True := trivial
theorem top.tw17176029603704830031 : True := trivial
theorem top.tw13759081321499198575 : True := trivial
theorem top.tw18185382058313985135 : True := trivial
theorem top.tw8640417174963836015 : True := trivial
theorem top.tw11994598468166393999 : True := trivial
theorem top.tw2910609919460849807 : True := trivial
theorem top.tw6898770573198911631 : True := trivial
theorem top.tw1759469698184221871 : True := trivial
theorem top.tw1788358410763864271 : True := trivial
theorem top.tw11334350811105764591 : True := trivial
theorem top.tw1638113669730673903 : True := trivial
theorem top.tw1123975283337734383 : True := trivial
theorem top.tw9190159020981308655 : True := trivial
theorem top.tw14697636140705633519 : True := trivial
theorem top.tw8560541052185303311 : True := trivial
theorem top.tw381845443943030031 : True := trivial
theorem top.tw14787083808153301263 : True := trivial
theorem top.tw16900427199656544559 : True := trivial
theorem top.tw2707679213066786127 : True := trivial
theorem top.tw5596365628329696591 : True := trivial
theorem top.tw4655869559712951663 : True := trivial
theorem top.tw5311694039014081935 : True := trivial
theorem top.tw1504282548918817167 : True := trivial
theorem top.tw7737320934136571279 : True := trivial
theorem top.tw7198060816514059695 : True := trivial
theorem top.tw9511011655687381423 : True := trivial
theorem top.tw17240160907184977327 : True := trivial
theorem top.tw2422214840401454511 : True := trivial
theorem top.tw13326734554550294991 : True := trivial
theorem top.tw11765434788231831023 : True := trivial
theorem top.tw4381239804790494735 : True := trivial
theorem top.tw1880918794155911695 : True := trivial
theorem top.tw16809779246217341487 : True := trivial
theorem top.tw11779653239440661071 : True := trivial
theorem top.tw10010203797729834575 : True := trivial
theorem top.tw9590735534726013551 : True := trivial
theorem top.tw10606312069826294415 : True := trivial
theorem top.tw11145643937294416527 : True := trivial
theorem top.tw17138679496734019247 : True := trivial
theorem top.tw2103985501979894447 : True := trivial
theorem top.tw17756194745548210895 : True := trivial
theorem top.tw5581607755468803823 : True := trivial
theorem top.tw17034844141397641999 : True := trivial
theorem top.tw46980244435833615 : True := trivial
theorem top.tw5341432206176310031 : True := trivial
theorem top.tw10296497611174029103 : True := trivial
theorem top.tw10567129059001840431 : True := trivial
theorem top.tw7883991259331220303 : True := trivial
theorem top.tw2126296398998916975 : True := trivial
theorem top.tw9319964216562750351 : True := trivial
theorem top.tw4462018665069346703 : True := trivial
theorem top.tw352232786441526191 : True := trivial
theorem top.tw17005224823134425039 : True := trivial
theorem top.tw9378254376102152143 : True := trivial
theorem top.tw1559226430018442191 : True := trivial
theorem top.tw14041154887136619503 : True := trivial
theorem top.tw5267100079726960656 : True := trivial
theorem top.tw1040915598704419856 : True := trivial
theorem top.tw3938735190981452848 : True := trivial
theorem top.tw16793365374058956912 : True := trivial
theorem top.tw2479098249498791024 : True := trivial
theorem top.tw4186445540838780016 : True := trivial
theorem top.tw1843344800811705456 : True := trivial
theorem top.tw2145171640123136144 : True := trivial
theorem top.tw12392516345856041104 : True := trivial
theorem top.tw10968536479657739408 : True := trivial
theorem top.tw6893477703608230032 : True := trivial
theorem top.tw3591793333600012464 : True := trivial
theorem top.tw390997316461189296 : True := trivial
theorem top.tw17975116700906586320 : True := trivial
theorem top.tw3664424711883983056 : True := trivial
theorem top.tw5235370132326077648 : True := trivial
theorem top.tw11982747722937265360 : True := trivial
theorem top.tw7414872774492366064 : True := trivial
theorem top.tw10276331973627342096 : True := trivial
theorem top.tw104434173382791472 : True := trivial
theorem top.tw12554540806306477360 : True := trivial
theorem top.tw13901205277877782832 : True := trivial
theorem top.tw11077603846336306480 : True := trivial
theorem top.tw5832136361415523664 : True := trivial
theorem top.tw9382581127745807760 : True := trivial
theorem top.tw2009410202504348048 : True := trivial
theorem top.tw5341934141677670832 : True := trivial
theorem top.tw1087035825440036272 : True := trivial
theorem top.tw8735323631387419056 : True := trivial
theorem top.tw2712389131950775728 : True := trivial
theorem top.tw7444641836354208208 : True := trivial
theorem top.tw7908083297732987344 : True := trivial
theorem top.tw17576949682797635024 : True := trivial
theorem top.tw3061314461118691792 : True := trivial
theorem top.tw802326456924717552 : True := trivial
theorem top.tw7849799639701767664 : True := trivial
theorem top.tw2752453847809088016 : True := trivial
theorem top.tw7273676953221729872 : True := trivial
theorem top.tw602653604445443664 : True := trivial
theorem top.tw2968346561183084112 : True := trivial
theorem top.tw11067987395744638608 : True := trivial
theorem top.tw11873480291556300464 : True := trivial
theorem top.tw14537839394382259888 : True := trivial
theorem top.tw15327166235007040176 : True := trivial
theorem top.tw10577396366154187472 : True := trivial
theorem top.tw14097179328758322960 : True := trivial
theorem top.tw8410488445778877200 : True := trivial
theorem top.tw7600245330811189008 : True := trivial
theorem top.tw11842451847925006096 : True := trivial
theorem top.tw9765863564114394896 : True := trivial
theorem top.tw15095372191486117680 : True := trivial
theorem top.tw12342655685612074800 : True := trivial
theorem top.tw7360070258638436176 : True := trivial
theorem top.tw6900192571869012848 : True := trivial
theorem top.tw15004227410876298096 : True := trivial
theorem top.tw14861896470697024400 : True := trivial
theorem top.tw3242435153667248048 : True := trivial
theorem top.tw12610894086807397328 : True := trivial
theorem top.tw9336646079559772112 : True := trivial
theorem top.tw4383139521930768336 : True := trivial
theorem top.tw8393700709775954928 : True := trivial
theorem top.tw12330048316760512561 : True := trivial
theorem top.tw15551540618787811377 : True := trivial
theorem top.tw16093477998290202673 : True := trivial
theorem top.tw6263863080660174929 : True := trivial
theorem top.tw11689902799995417681 : True := trivial
theorem top.tw7429413206186439793 : True := trivial
theorem top.tw6196800358849779857 : True := trivial
theorem top.tw10596656941412748465 : True := trivial
theorem top.tw3820434133910038737 : True := trivial
theorem top.tw18359398811046599889 : True := trivial
theorem top.tw18086089286151905521 : True := trivial
theorem top.tw6143595290313323761 : True := trivial
theorem top.tw539200881039706385 : True := trivial
theorem top.tw17478808461893265681 : True := trivial
theorem top.tw10996937224433265937 : True := trivial
theorem top.tw5039652171057955121 : True := trivial
theorem top.tw8944566363861359921 : True := trivial
theorem top.tw10192742651200185649 : True := trivial
theorem top.tw7826773606061359409 : True := trivial
theorem top.tw1245559373397905713 : True := trivial
theorem top.tw17226846203573267761 : True := trivial
theorem top.tw8547604310838440241 : True := trivial
theorem top.tw7250933059871147345 : True := trivial
theorem top.tw7213545830805801297 : True := trivial
theorem top.tw16639962658650213713 : True := trivial
theorem top.tw16634809260590126417 : True := trivial
theorem top.tw870079450109401425 : True := trivial
theorem top.tw8297286125493194097 : True := trivial
theorem top.tw5151264090131730833 : True := trivial
theorem top.tw14597223018079223185 : True := trivial
theorem top.tw8823455108540655025 : True := trivial
theorem top.tw7913636548009798097 : True := trivial
theorem top.tw17828378304095215089 : True := trivial
theorem top.tw8204474986945543665 : True := trivial
theorem top.tw11457754044182789617 : True := trivial
theorem top.tw9305691244287143441 : True := trivial
theorem top.tw12157469981806238225 : True := trivial
theorem top.tw2835187731363253809 : True := trivial
theorem top.tw7522852383072776753 : True := trivial
theorem top.tw2630061898475652689 : True := trivial
theorem top.tw2932060972884176497 : True := trivial
theorem top.tw8693662901424576113 : True := trivial
theorem top.tw1706793611546318481 : True := trivial
theorem top.tw14301671488300290737 : True := trivial
theorem top.tw13082172420362813105 : True := trivial
theorem top.tw408693308722189009 : True := trivial
theorem top.tw1296078479386056401 : True := trivial
theorem top.tw9166809390415177425 : True := trivial
theorem top.tw5225153198818245361 : True := trivial
theorem top.tw14453411104918675217 : True := trivial
theorem top.tw2446451932059125521 : True := trivial
theorem top.tw9335426496214029073 : True := trivial
theorem top.tw491388799293289233 : True := trivial
theorem top.tw2095105360761779985 : True := trivial
theorem top.tw13307591127769906961 : True := trivial
theorem top.tw18008055252877512497 : True := trivial
theorem top.tw7326723310030351153 : True := trivial
theorem top.tw4158126171336067921 : True := trivial
theorem top.tw17746469131012936561 : True := trivial
theorem top.tw1990408344712342385 : True := trivial
theorem top.tw9578543543203736465 : True := trivial
theorem top.tw3850330929428972433 : True := trivial
theorem top.tw2822501910515967889 : True := trivial
theorem top.tw4787026646496494513 : True := trivial
theorem top.tw7138430578808182737 : True := trivial
theorem top.tw9811366534603930577 : True := trivial
theorem top.tw16636524876913346578 : True := trivial
theorem top.tw10836530967397901330 : True := trivial
theorem top.tw9386807721413918738 : True := trivial
theorem top.tw4076138812419527698 : True := trivial
theorem top.tw12564220515667953714 : True := trivial
theorem top.tw908825868028484722 : True := trivial
theorem top.tw2370049365348687986 : True := trivial
theorem top.tw987869383939708018 : True := trivial
theorem top.tw16597617366809209970 : True := trivial
theorem top.tw7188692134583612594 : True := trivial
theorem top.tw9342458669322021074 : True := trivial
theorem top.tw12960919825447276754 : True := trivial
theorem top.tw16180514474280933586 : True := trivial
theorem top.tw2287362676942042354 : True := trivial
theorem top.tw9259421805112917234 : True := trivial
theorem top.tw13909339544664514834 : True := trivial
theorem top.tw1466696840391651602 : True := trivial
theorem top.tw3788345659303708978 : True := trivial
theorem top.tw16285465295148142898 : True := trivial
theorem top.tw8372035913837991250 : True := trivial
theorem top.tw2907113945770861938 : True := trivial
theorem top.tw3951254518941146482 : True := trivial
theorem top.tw15877122091014420850 : True := trivial
theorem top.tw5536038536531405202 : True := trivial
theorem top.tw10599846019592692146 : True := trivial
theorem top.tw6611394975416003026 : True := trivial
theorem top.tw8292330764949567954 : True := trivial
theorem top.tw11686549101559664082 : True := trivial
theorem top.tw14657780768301432306 : True := trivial
theorem top.tw16354691339474908690 : True := trivial
theorem top.tw5721375795907228178 : True := trivial
theorem top.tw156775121503410738 : True := trivial
theorem top.tw4132386807135573586 : True := trivial
theorem top.tw8720027088463671890 : True := trivial
theorem top.tw17504273579162756690 : True := trivial
theorem top.tw13712541454249873010 : True := trivial
theorem top.tw13947007510445982354 : True := trivial
theorem top.tw10497668490954998418 : True := trivial
theorem top.tw3843465024185675410 : True := trivial
theorem top.tw6468107147075657394 : True := trivial
theorem top.tw1137235612907882162 : True := trivial
theorem top.tw132903981291199154 : True := trivial
theorem top.tw16866024460163772082 : True := trivial
theorem top.tw427420600052151026 : True := trivial
theorem top.tw8645369167282567922 : True := trivial
theorem top.tw9328819404386307858 : True := trivial
theorem top.tw705360758644809490 : True := trivial
theorem top.tw14399976873020721970 : True := trivial
theorem top.tw13261893007816960818 : True := trivial
theorem top.tw3357215229441099570 : True := trivial
theorem top.tw10987319290404115282 : True := trivial
theorem top.tw15092371282622821202 : True := trivial
theorem top.tw2555059585816410962 : True := trivial
theorem top.tw12540527436937284434 : True := trivial
theorem top.tw10090393231696489298 : True := trivial
theorem top.tw4232285709927190386 : True := trivial
theorem top.tw2175343399519668082 : True := trivial
theorem top.tw2619622883677149074 : True := trivial
theorem top.tw16550210197400561554 : True := trivial
theorem top.tw11318228943295840146 : True := trivial
theorem top.tw4699463449715708850 : True := trivial
theorem top.tw8148004212497801138 : True := trivial
theorem top.tw17177869089781658578 : True := trivial
theorem top.tw17790942634138044402 : True := trivial
theorem top.tw16795567611416646642 : True := trivial
theorem top.tw5270966168741059570 : True := trivial
theorem top.tw6225052860428787731 : True := trivial
theorem top.tw887695700811335699 : True := trivial
theorem top.tw18297691965846887475 : True := trivial
theorem top.tw6700739122468367443 : True := trivial
theorem top.tw4571971715460732019 : True := trivial
theorem top.tw5507162329139097715 : True := trivial
theorem top.tw9229161468869434483 : True := trivial
theorem top.tw4345882819342510227 : True := trivial
theorem top.tw9126367365738948755 : True := trivial
theorem top.tw7387763944681370771 : True := trivial
theorem top.tw2007660962349395123 : True := trivial
theorem top.tw17711048686666255571 : True := trivial
theorem top.tw16204670001084760307 : True := trivial
theorem top.tw10077213203867573491 : True := trivial
theorem top.tw5705847716771211507 : True := trivial
theorem top.tw13432635357386499347 : True := trivial
theorem top.tw2920149284261455155 : True := trivial
theorem top.tw16559165787328509235 : True := trivial
theorem top.tw11141966352661209427 : True := trivial
theorem top.tw5111187125899822451 : True := trivial
theorem top.tw5339200472997735827 : True := trivial
theorem top.tw9879622307821149587 : True := trivial
theorem top.tw5088376156974544275 : True := trivial
theorem top.tw11133666699803404755 : True := trivial
theorem top.tw6662652255960138227 : True := trivial
theorem top.tw729201693064108563 : True := trivial
theorem top.tw11732849358908057107 : True := trivial
theorem top.tw14877882586016980531 : True := trivial
theorem top.tw4308710828163253811 : True := trivial
theorem top.tw16752354649701903923 : True := trivial
theorem top.tw5398424786039705171 : True := trivial
theorem top.tw16157251822727197267 : True := trivial
theorem top.tw8879822979380727411 : True := trivial
theorem top.tw8450641986135516787 : True := trivial
theorem top.tw8903290554218469011 : True := trivial
theorem top.tw13007260833023717011 : True := trivial
theorem top.tw14558130701515357843 : True := trivial
theorem top.tw13420762306968818387 : True := trivial
theorem top.tw16612331741718818515 : True := trivial
theorem top.tw877433047237710547 : True := trivial
theorem top.tw9843949296442739443 : True := trivial
theorem top.tw3450503163055503091 : True := trivial
theorem top.tw12117888159696746259 : True := trivial
theorem top.tw13447057400892496723 : True := trivial
theorem top.tw7160873610591055699 : True := trivial
theorem top.tw1924644684860415827 : True := trivial
theorem top.tw5278709424875269971 : True := trivial
theorem top.tw8874702517807110003 : True := trivial
theorem top.tw1492452104121835379 : True := trivial
theorem top.tw5713641115313736595 : True := trivial
theorem top.tw15326197761399077779 : True := trivial
theorem top.tw9443507856486587283 : True := trivial
theorem top.tw4075633347945664435 : True := trivial
theorem top.tw17486766287000646611 : True := trivial
theorem top.tw11133537522755846099 : True := trivial
theorem top.tw2758071753971750899 : True := trivial
theorem top.tw15166127791298437107 : True := trivial
theorem top.tw12643491718579748851 : True := trivial
theorem top.tw4526881389914513428 : True := trivial
theorem top.tw5771795636922677268 : True := trivial
theorem top.tw9635476784945057844 : True := trivial
theorem top.tw6265675901050258516 : True := trivial
theorem top.tw4181406029030974548 : True := trivial
theorem top.tw14008832579561897076 : True := trivial
theorem top.tw1676862907878916244 : True := trivial
theorem top.tw15918733279669447828 : True := trivial
theorem top.tw16509065781470453940 : True := trivial
theorem top.tw13975414291046593716 : True := trivial
theorem top.tw11803689641445798100 : True := trivial
theorem top.tw16342770487823414484 : True := trivial
theorem top.tw12415523145999629524 : True := trivial
theorem top.tw16846067583931598068 : True := trivial
theorem top.tw1394568958698188020 : True := trivial
theorem top.tw2505292906621050132 : True := trivial
theorem top.tw9442318146202087700 : True := trivial
theorem top.tw84136930442132756 : True := trivial
theorem top.tw17830291351795818772 : True := trivial
theorem top.tw9407396174263392564 : True := trivial
theorem top.tw3221109542493990196 : True := trivial
theorem top.tw4764630281523977524 : True := trivial
theorem top.tw3399664622123363668 : True := trivial
theorem top.tw3656269831002480980 : True := trivial
theorem top.tw14691166412244345204 : True := trivial
theorem top.tw14789260269991461300 : True := trivial
theorem top.tw9410359166525395380 : True := trivial
theorem top.tw8400217882017833428 : True := trivial
theorem top.tw14962583275151203828 : True := trivial
theorem top.tw14309182039651084788 : True := trivial
theorem top.tw17676611151829563924 : True := trivial
theorem top.tw17022078359063049780 : True := trivial
theorem top.tw14562072457839527476 : True := trivial
theorem top.tw5691087667936548404 : True := trivial
theorem top.tw8800459187187324500 : True := trivial
theorem top.tw11760055953109336660 : True := trivial
theorem top.tw9610803787381497428 : True := trivial
theorem top.tw1617357707322924660 : True := trivial
theorem top.tw3698484244233388692 : True := trivial
theorem top.tw1284575025550258836 : True := trivial
theorem top.tw4159251561096739476 : True := trivial
theorem top.tw521701566708251284 : True := trivial
theorem top.tw11171499565569160884 : True := trivial
theorem top.tw11922380849998532372 : True := trivial
theorem top.tw12535971307161669396 : True := trivial
theorem top.tw1897025099450329940 : True := trivial
theorem top.tw16759092144687519636 : True := trivial
theorem top.tw6694047246710070196 : True := trivial
theorem top.tw6265701101103706036 : True := trivial
theorem top.tw13075818999978440660 : True := trivial
theorem top.tw13983857475226248213 : True := trivial
theorem top.tw4784893810139332661 : True := trivial
theorem top.tw12306412976881803317 : True := trivial
theorem top.tw5225916559131626549 : True := trivial
theorem top.tw14707807475535933493 : True := trivial
theorem top.tw10577272966987657301 : True := trivial
theorem top.tw17157282023139344501 : True := trivial
theorem top.tw8340158742958640245 : True := trivial
theorem top.tw2686433634493928565 : True := trivial
theorem top.tw7406788666689262709 : True := trivial
theorem top.tw4796303294375832693 : True := trivial
theorem top.tw2924597203103170677 : True := trivial
theorem top.tw4778504736273101941 : True := trivial
theorem top.tw7823370413445381237 : True := trivial
theorem top.tw9854493187847425173 : True := trivial
theorem top.tw6664487174759623829 : True := trivial
theorem top.tw12268275431932049557 : True := trivial
theorem top.tw1867163669062818997 : True := trivial
theorem top.tw650146959520709813 : True := trivial
theorem top.tw13047834502658803893 : True := trivial
theorem top.tw11994683656316670133 : True := trivial
theorem top.tw10562855833978642645 : True := trivial
theorem top.tw7008692893051332821 : True := trivial
theorem top.tw17436223376688869589 : True := trivial
theorem top.tw11468358511172941013 : True := trivial
theorem top.tw16882738081622503669 : True := trivial
theorem top.tw18374746225686918389 : True := trivial
theorem top.tw14166325574356235509 : True := trivial
theorem top.tw8817415213059835157 : True := trivial
theorem top.tw14402358008270493973 : True := trivial
theorem top.tw8555084018257670421 : True := trivial
theorem top.tw4791253341166991637 : True := trivial
theorem top.tw2167618695193717045 : True := trivial
theorem top.tw13549259019975226677 : True := trivial
theorem top.tw15431936980592406869 : True := trivial
theorem top.tw11960245374511038805 : True := trivial
theorem top.tw859137505422859605 : True := trivial
theorem top.tw1988063486488863061 : True := trivial
theorem top.tw17579126119182176629 : True := trivial
theorem top.tw11334203419191126389 : True := trivial
theorem top.tw6276886402236213621 : True := trivial
theorem top.tw2775996971336869269 : True := trivial
theorem top.tw7386116660499605909 : True := trivial
theorem top.tw439095664309466517 : True := trivial
theorem top.tw2220570432770164149 : True := trivial
theorem top.tw1468610705733330389 : True := trivial
theorem top.tw12079853824583626197 : True := trivial
theorem top.tw575894324575664597 : True := trivial
theorem top.tw13422432716488540661 : True := trivial
theorem top.tw7740461459972228597 : True := trivial
theorem top.tw4213018616267185653 : True := trivial
theorem top.tw2175593866937868789 : True := trivial
theorem top.tw11203750815551599093 : True := trivial
theorem top.tw18371284783138465269 : True := trivial
theorem top.tw11533307084868028949 : True := trivial
theorem top.tw72247145696351765 : True := trivial
theorem top.tw5223088405539125781 : True := trivial
theorem top.tw11279815685858477653 : True := trivial
theorem top.tw16034636559557993077 : True := trivial
theorem top.tw1855703400311466645 : True := trivial
theorem top.tw10558703055813201557 : True := trivial
theorem top.tw14302626303956677269 : True := trivial
theorem top.tw10797620697341660853 : True := trivial
theorem top.tw15242500199121756853 : True := trivial
theorem top.tw4058662728301269685 : True := trivial
theorem top.tw864819663365544661 : True := trivial
theorem top.tw8017866829061265141 : True := trivial
theorem top.tw10242591131026960117 : True := trivial
theorem top.tw4355397880650475285 : True := trivial
theorem top.tw2126313633149875989 : True := trivial
theorem top.tw13345470168829271861 : True := trivial
theorem top.tw5196900775432865589 : True := trivial
theorem top.tw8376340351077217077 : True := trivial
theorem top.tw9777375502002234229 : True := trivial
theorem top.tw350670483859837877 : True := trivial
theorem top.tw10372856604765933493 : True := trivial
theorem top.tw492879137614061493 : True := trivial
theorem top.tw18367679650794681301 : True := trivial
theorem top.tw1366310378809935829 : True := trivial
theorem top.tw4898356984482387957 : True := trivial
theorem top.tw9168444457792992245 : True := trivial
theorem top.tw17342085116792181814 : True := trivial
theorem top.tw8813761850579938390 : True := trivial
theorem top.tw14705559076539443318 : True := trivial
theorem top.tw13044034144603486326 : True := trivial
theorem top.tw9800703332001039478 : True := trivial
theorem top.tw4626048006780466326 : True := trivial
theorem top.tw8265311939077410998 : True := trivial
theorem top.tw12443789822770055382 : True := trivial
theorem top.tw9287724387753133302 : True := trivial
theorem top.tw17005921009465767190 : True := trivial
theorem top.tw832561496525075734 : True := trivial
theorem top.tw10801874191123338550 : True := trivial
theorem top.tw5747930933684130134 : True := trivial
theorem top.tw8054331753737935190 : True := trivial
theorem top.tw17346259052997144950 : True := trivial
theorem top.tw4023782888421380502 : True := trivial
theorem top.tw15750741303248850358 : True := trivial
theorem top.tw2709884765895845302 : True := trivial
theorem top.tw5648408011753718230 : True := trivial
theorem top.tw13264354339760550358 : True := trivial
theorem top.tw6589271042533282262 : True := trivial
theorem top.tw5524634199066008022 : True := trivial
theorem top.tw4736427724481360342 : True := trivial
theorem top.tw17003929029777066486 : True := trivial
theorem top.tw13805588055438515702 : True := trivial
theorem top.tw15362295582089109014 : True := trivial
theorem top.tw11159431927160009238 : True := trivial
theorem top.tw231919175587332662 : True := trivial
theorem top.tw15003358760713899574 : True := trivial
theorem top.tw17186706881943546454 : True := trivial
theorem top.tw9366391650621772374 : True := trivial
theorem top.tw15638586536077026902 : True := trivial
theorem top.tw5568030912866071158 : True := trivial
theorem top.tw2553190468875700854 : True := trivial
theorem top.tw10353446712322349686 : True := trivial
theorem top.tw8592021508287100534 : True := trivial
theorem top.tw15169761463676818070 : True := trivial
theorem top.tw17050326753033342646 : True := trivial
theorem top.tw1195175773429642966 : True := trivial
theorem top.tw4166218997396506358 : True := trivial
theorem top.tw10362341586661529334 : True := trivial
theorem top.tw9429129263215473398 : True := trivial
theorem top.tw14920640734033978166 : True := trivial
theorem top.tw10543866864418404150 : True := trivial
theorem top.tw3473093325804163894 : True := trivial
theorem top.tw8657480035899644758 : True := trivial
theorem top.tw342533417859699542 : True := trivial
theorem top.tw541278045210986358 : True := trivial
theorem top.tw16739174306508632950 : True := trivial
theorem top.tw11646828089304223638 : True := trivial
theorem top.tw11948191338118607766 : True := trivial
theorem top.tw3584897518013459382 : True := trivial
theorem top.tw14335888862398917558 : True := trivial
theorem top.tw15330153412207162294 : True := trivial
theorem top.tw9488912822248978358 : True := trivial
theorem top.tw2985252069258134486 : True := trivial
theorem top.tw913810622518204374 : True := trivial
theorem top.tw7549577893838418902 : True := trivial
theorem top.tw10194810499950245846 : True := trivial
theorem top.tw16281582537960229878 : True := trivial
theorem top.tw419386298079150103 : True := trivial
theorem top.tw7009565003354663959 : True := trivial
theorem top.tw6438537300738474071 : True := trivial
theorem top.tw11053662475850362967 : True := trivial
theorem top.tw14466935161476858967 : True := trivial
theorem top.tw17492772389151264855 : True := trivial
theorem top.tw11310115315172280439 : True := trivial
theorem top.tw620129878449983639 : True := trivial
theorem top.tw16735530243724565655 : True := trivial
theorem top.tw4052878762203253943 : True := trivial
theorem top.tw7458633546980236471 : True := trivial
theorem top.tw1970226141267450039 : True := trivial
theorem top.tw16885616592811714743 : True := trivial
theorem top.tw12318557346453588183 : True := trivial
theorem top.tw13008252399013299447 : True := trivial
theorem top.tw7204998973626084599 : True := trivial
theorem top.tw17963542742181573879 : True := trivial
theorem top.tw6499163296664870231 : True := trivial
theorem top.tw3712731000106771831 : True := trivial
theorem top.tw9332579688445097367 : True := trivial
theorem top.tw12751139281825843639 : True := trivial
theorem top.tw7381879191629600215 : True := trivial
theorem top.tw3389129807090800087 : True := trivial
theorem top.tw14996135249977892343 : True := trivial
theorem top.tw2038905538221499895 : True := trivial
theorem top.tw3120133295221510679 : True := trivial
theorem top.tw8764449611300163095 : True := trivial
theorem top.tw9576743257966636567 : True := trivial
theorem top.tw14065501367340364311 : True := trivial
theorem top.tw1302751319478683191 : True := trivial
theorem top.tw2312856594315299383 : True := trivial
theorem top.tw8388089289598778967 : True := trivial
theorem top.tw16264823338695392855 : True := trivial
theorem top.tw11889597043561437815 : True := trivial
theorem top.tw7353581349043158647 : True := trivial
theorem top.tw4299629679881509495 : True := trivial
theorem top.tw14120148312427719287 : True := trivial
theorem top.tw18444284757076569719 : True := trivial
theorem top.tw15349318334595610263 : True := trivial
theorem top.tw12182655422080760471 : True := trivial
theorem top.tw8143265674769528471 : True := trivial
theorem top.tw8139039716903228087 : True := trivial
theorem top.tw12012865196380796599 : True := trivial
theorem top.tw12512182704957400791 : True := trivial
theorem top.tw4721632059943922391 : True := trivial
theorem top.tw5779811907627552535 : True := trivial
theorem top.tw1981915974141516567 : True := trivial
theorem top.tw7830913209206220567 : True := trivial
theorem top.tw9104712851299545879 : True := trivial
theorem top.tw15722756333993289495 : True := trivial
theorem top.tw4395346232132896567 : True := trivial
theorem top.tw819703080448862007 : True := trivial
theorem top.tw7781603739153083191 : True := trivial
theorem top.tw12281417065363983159 : True := trivial
theorem top.tw16487795177693110071 : True := trivial
theorem top.tw9238823003894178615 : True := trivial
theorem top.tw11520865232209809239 : True := trivial
theorem top.tw3561193834555079511 : True := trivial
theorem top.tw5868845118606482295 : True := trivial
theorem top.tw1290905783203522423 : True := trivial
theorem top.tw14319750081657075607 : True := trivial
theorem top.tw15260487479420979127 : True := trivial
theorem top.tw6944692141674955735 : True := trivial
theorem top.tw16991472136265080791 : True := trivial
theorem top.tw12017524575131308023 : True := trivial
theorem top.tw12196405866082620407 : True := trivial
theorem top.tw7727313255960572919 : True := trivial
theorem top.tw4331257952254489624 : True := trivial
theorem top.tw17594962761535629368 : True := trivial
theorem top.tw9843447840031818808 : True := trivial
theorem top.tw1131157812783598648 : True := trivial
theorem top.tw10008474027749305400 : True := trivial
theorem top.tw11199710921928265848 : True := trivial
theorem top.tw18134043772397237400 : True := trivial
theorem top.tw3033006917804047512 : True := trivial
theorem top.tw681777741448182936 : True := trivial
theorem top.tw6383614241601562808 : True := trivial
theorem top.tw6623532728838073528 : True := trivial
theorem top.tw5386005190664262872 : True := trivial
theorem top.tw6487610083215253720 : True := trivial
theorem top.tw3347922821702440152 : True := trivial
theorem top.tw9063741608606530840 : True := trivial
theorem top.tw16166457384891526456 : True := trivial
theorem top.tw12725264436868645240 : True := trivial
theorem top.tw2812155379371279736 : True := trivial
theorem top.tw7158002623345892728 : True := trivial
theorem top.tw16262243036561855896 : True := trivial
theorem top.tw18326957874037197240 : True := trivial
theorem top.tw4498253355057717688 : True := trivial
theorem top.tw7985608403216412088 : True := trivial
theorem top.tw3347751986685803960 : True := trivial
theorem top.tw12783364522390391256 : True := trivial
theorem top.tw4551080515912023512 : True := trivial
theorem top.tw6211089042160764376 : True := trivial
theorem top.tw13500427573557490136 : True := trivial
theorem top.tw8500458220134822360 : True := trivial
theorem top.tw9768079942903668216 : True := trivial
theorem top.tw8107780213005350392 : True := trivial
theorem top.tw8599977235414819352 : True := trivial
theorem top.tw2617719716777270872 : True := trivial
theorem top.tw1149218181149386328 : True := trivial
theorem top.tw8810280945414196856 : True := trivial
theorem top.tw8237333600419904120 : True := trivial
theorem top.tw18164388396756303480 : True := trivial
theorem top.tw6746510453823603384 : True := trivial
theorem top.tw1592229195962567352 : True := trivial
theorem top.tw16713831800681072344 : True := trivial
theorem top.tw2617181576586992344 : True := trivial
theorem top.tw6572447435987645144 : True := trivial
theorem top.tw7426144528321526552 : True := trivial
theorem top.tw2082186267397930776 : True := trivial
theorem top.tw3995942328266245912 : True := trivial
theorem top.tw13128134590637569816 : True := trivial
theorem top.tw13189168272385026872 : True := trivial
theorem top.tw8144448655795402552 : True := trivial
theorem top.tw11415020789823853368 : True := trivial
theorem top.tw2975709217455756120 : True := trivial
theorem top.tw9516688046558066552 : True := trivial
theorem top.tw17886615442053742456 : True := trivial
theorem top.tw2722852734226103192 : True := trivial
theorem top.tw6583040956863952856 : True := trivial
theorem top.tw9768799621948592088 : True := trivial
theorem top.tw15245507539482535896 : True := trivial
theorem top.tw5790966258338625528 : True := trivial
theorem top.tw7160130303325142008 : True := trivial
theorem top.tw5889316905344633881 : True := trivial
theorem top.tw6908635100366463001 : True := trivial
theorem top.tw4330835200457679929 : True := trivial
theorem top.tw16273406610938067001 : True := trivial
theorem top.tw9038659593494541401 : True := trivial
theorem top.tw13936423569485690969 : True := trivial
theorem top.tw287052620863770745 : True := trivial
theorem top.tw8235891563360409721 : True := trivial
theorem top.tw2596539476470345881 : True := trivial
theorem top.tw4695670854781333657 : True := trivial
theorem top.tw12510832073165198521 : True := trivial
theorem top.tw10001883323181062329 : True := trivial
theorem top.tw13359135706311490777 : True := trivial
theorem top.tw16352725718246490361 : True := trivial
theorem top.tw11072019736110318841 : True := trivial
theorem top.tw13576654369662418201 : True := trivial
theorem top.tw12777874194979280185 : True := trivial
theorem top.tw17253974145678602553 : True := trivial
theorem top.tw2387695369934537081 : True := trivial
theorem top.tw3605147657684821369 : True := trivial
theorem top.tw9762860909235816825 : True := trivial
theorem top.tw13385996262653078937 : True := trivial
theorem top.tw5081992315972825529 : True := trivial
theorem top.tw1256179869646671321 : True := trivial
theorem top.tw5251713544086459897 : True := trivial
theorem top.tw1551491737661789689 : True := trivial
theorem top.tw5365650347091420665 : True := trivial
theorem top.tw15799541711010589177 : True := trivial
theorem top.tw17687602583917657593 : True := trivial
theorem top.tw9851269098105209369 : True := trivial
theorem top.tw302023382947574297 : True := trivial
theorem top.tw8327351992414209593 : True := trivial
theorem top.tw10142767867975636537 : True := trivial
theorem top.tw17741875731164886585 : True := trivial
theorem top.tw14349089067433371257 : True := trivial
theorem top.tw18394268562011335289 : True := trivial
theorem top.tw13801001471459214969 : True := trivial
theorem top.tw16738887294677167769 : True := trivial
theorem top.tw8620165645458168473 : True := trivial
theorem top.tw6189502492464219833 : True := trivial
theorem top.tw795583310449317561 : True := trivial
theorem top.tw16778365867079768761 : True := trivial
theorem top.tw15682138244387914425 : True := trivial
theorem top.tw295887149788826329 : True := trivial
theorem top.tw17735899436944072409 : True := trivial
theorem top.tw10180943152330463961 : True := trivial
theorem top.tw6591791252116472569 : True := trivial
theorem top.tw7937261575306220281 : True := trivial
theorem top.tw14444772815565543193 : True := trivial
theorem top.tw9178861053002065721 : True := trivial
theorem top.tw3901323768455840569 : True := trivial
theorem top.tw1670607248958778201 : True := trivial
theorem top.tw6659320528611288953 : True := trivial
theorem top.tw16128028805679967097 : True := trivial
theorem top.tw16196420915677631385 : True := trivial
theorem top.tw5071412327939943321 : True := trivial
theorem top.tw14380302785272570777 : True := trivial
theorem top.tw12227004286151620505 : True := trivial
theorem top.tw9774002125179997113 : True := trivial
theorem top.tw1304757597395314617 : True := trivial
theorem top.tw10514134241803904985 : True := trivial
theorem top.tw1147548669246485465 : True := trivial
theorem top.tw3302520138088036313 : True := trivial
theorem top.tw17395277212465857529 : True := trivial
theorem top.tw17648858347573828601 : True := trivial
theorem top.tw1963894131523512313 : True := trivial
theorem top.tw3033011743614583834 : True := trivial
theorem top.tw5176459694589498394 : True := trivial
theorem top.tw11199532085631943738 : True := trivial
theorem top.tw12303217866278251578 : True := trivial
theorem top.tw9743097575036673082 : True := trivial
theorem top.tw1172053932713935962 : True := trivial
theorem top.tw6973401727384321114 : True := trivial
theorem top.tw422332259418457210 : True := trivial
theorem top.tw1106205760705221754 : True := trivial
theorem top.tw4827538265410502810 : True := trivial
theorem top.tw6476568962619736250 : True := trivial
theorem top.tw13525443076416275642 : True := trivial
theorem top.tw7681529838311687354 : True := trivial
theorem top.tw2411195145006440666 : True := trivial
theorem top.tw17620759639134147866 : True := trivial
theorem top.tw14277827659066580250 : True := trivial
theorem top.tw1047907039808853306 : True := trivial
theorem top.tw17366924284538989914 : True := trivial
theorem top.tw3195522803047326042 : True := trivial
theorem top.tw3322191206668722522 : True := trivial
theorem top.tw3512812017678644602 : True := trivial
theorem top.tw7731166668241504666 : True := trivial
theorem top.tw16307090917165222298 : True := trivial
theorem top.tw11961350612320602522 : True := trivial
theorem top.tw14627593546857162170 : True := trivial
theorem top.tw10448899703829047738 : True := trivial
theorem top.tw16136556615408233914 : True := trivial
theorem top.tw411662067469150650 : True := trivial
theorem top.tw9673933992889287130 : True := trivial
theorem top.tw2047080938173012442 : True := trivial
theorem top.tw10031189108619191770 : True := trivial
theorem top.tw3949973439248644570 : True := trivial
theorem top.tw1107088416671253978 : True := trivial
theorem top.tw16843226685827341786 : True := trivial
theorem top.tw6345181382737326586 : True := trivial
theorem top.tw12475311842438498842 : True := trivial
theorem top.tw7192238338332138042 : True := trivial
theorem top.tw17807222030613408314 : True := trivial
theorem top.tw1108800333578037850 : True := trivial
theorem top.tw8912170899635468890 : True := trivial
theorem top.tw5105846836358774362 : True := trivial
theorem top.tw2341375176344054394 : True := trivial
theorem top.tw11352594458161858170 : True := trivial
theorem top.tw10885322118463539834 : True := trivial
theorem top.tw12937442407143330426 : True := trivial
theorem top.tw10277577785322916506 : True := trivial
theorem top.tw5702910450625016506 : True := trivial
theorem top.tw8437920739231509210 : True := trivial
theorem top.tw7215319984434753242 : True := trivial
theorem top.tw5591473977707886298 : True := trivial
theorem top.tw16420938139371093754 : True := trivial
theorem top.tw3143785405151724282 : True := trivial
theorem top.tw6075534854705499898 : True := trivial
theorem top.tw12105128591322288922 : True := trivial
theorem top.tw17069463140951725850 : True := trivial
theorem top.tw14885488134526808858 : True := trivial
theorem top.tw17219337458794519322 : True := trivial
theorem top.tw877965128950079258 : True := trivial
theorem top.tw12379415707883124570 : True := trivial
theorem top.tw5401962416370384730 : True := trivial
theorem top.tw4713442408853163898 : True := trivial
theorem top.tw17566744294597663674 : True := trivial
theorem top.tw2675166985342186458 : True := trivial
theorem top.tw99440450732166138 : True := trivial
theorem top.tw13068111086705522682 : True := trivial
theorem top.tw2121329655564466170 : True := trivial
theorem top.tw6721443069060727835 : True := trivial
theorem top.tw16405064166480675899 : True := trivial
theorem top.tw427269002284569659 : True := trivial
theorem top.tw8926324418489980987 : True := trivial
theorem top.tw10187264123177260123 : True := trivial
theorem top.tw6699709698940308603 : True := trivial
theorem top.tw18415971267559613563 : True := trivial
theorem top.tw14983691940233647259 : True := trivial
theorem top.tw4773702212245658779 : True := trivial
theorem top.tw7892811243723596987 : True := trivial
theorem top.tw4002441696211005659 : True := trivial
theorem top.tw12559286593441436923 : True := trivial
theorem top.tw485662357110503675 : True := trivial
theorem top.tw16836452506482946331 : True := trivial
theorem top.tw17089494485692210459 : True := trivial
theorem top.tw17981982808018919739 : True := trivial
theorem top.tw17301418000779511131 : True := trivial
theorem top.tw995497684801637723 : True := trivial
theorem top.tw13207133111312076123 : True := trivial
theorem top.tw1353657120722975067 : True := trivial
theorem top.tw11327840254879628635 : True := trivial
theorem top.tw4250876409542091131 : True := trivial
theorem top.tw16896751376397280635 : True := trivial
theorem top.tw4566856676736034171 : True := trivial
theorem top.tw10017263926548143515 : True := trivial
theorem top.tw6885792244966796699 : True := trivial
theorem top.tw5922324665105752571 : True := trivial
theorem top.tw4081133612924020251 : True := trivial
theorem top.tw12157284967251751451 : True := trivial
theorem top.tw4941098707138623003 : True := trivial
theorem top.tw1127509955266927131 : True := trivial
theorem top.tw11726560247610144283 : True := trivial
theorem top.tw5970215366352900667 : True := trivial
theorem top.tw15755962551988530747 : True := trivial
theorem top.tw15911569825323301435 : True := trivial
theorem top.tw3775456426085767739 : True := trivial
theorem top.tw4134505453457115739 : True := trivial
theorem top.tw9970083954262585947 : True := trivial
theorem top.tw3422688185749166683 : True := trivial
theorem top.tw16800595933775061595 : True := trivial
theorem top.tw16821654228018055803 : True := trivial
theorem top.tw4375533603054770811 : True := trivial
theorem top.tw9285400480714544795 : True := trivial
theorem top.tw1368107221856924347 : True := trivial
theorem top.tw3337584539547039419 : True := trivial
theorem top.tw4986393039028037339 : True := trivial
theorem top.tw8453322611197133531 : True := trivial
theorem top.tw4124209509118139099 : True := trivial
theorem top.tw14456272776232333019 : True := trivial
theorem top.tw9804163596284499707 : True := trivial
theorem top.tw17176153746220573435 : True := trivial
theorem top.tw7059692629156357883 : True := trivial
theorem top.tw11858546649754279707 : True := trivial
theorem top.tw11131206648525784891 : True := trivial
theorem top.tw1780923252572096315 : True := trivial
theorem top.tw7543188655086282555 : True := trivial
theorem top.tw9152664641465651067 : True := trivial
theorem top.tw10461583382323648379 : True := trivial
theorem top.tw16759193500350966715 : True := trivial
theorem top.tw14637200095286265819 : True := trivial
theorem top.tw6127594578889010139 : True := trivial
theorem top.tw1192657577511650299 : True := trivial
theorem top.tw12520176845478516731 : True := trivial
theorem top.tw13120753694373217308 : True := trivial
theorem top.tw1169771345039838236 : True := trivial
theorem top.tw3846797119572299804 : True := trivial
theorem top.tw15996449679401966620 : True := trivial
theorem top.tw6240597372359344220 : True := trivial
theorem top.tw13134186033006778460 : True := trivial
theorem top.tw8350491469670405244 : True := trivial
theorem top.tw11334415319851112604 : True := trivial
theorem top.tw3465488137227279516 : True := trivial
theorem top.tw7995792434782610588 : True := trivial
theorem top.tw5523086135645875356 : True := trivial
theorem top.tw3826220196128901276 : True := trivial
theorem top.tw18245740138792012028 : True := trivial
theorem top.tw15286249088069653756 : True := trivial
theorem top.tw2105017259488925948 : True := trivial
theorem top.tw7982496303663112444 : True := trivial
theorem top.tw3423177367516475676 : True := trivial
theorem top.tw2377541652452675900 : True := trivial
theorem top.tw11593399256984752444 : True := trivial
theorem top.tw14826035006057030972 : True := trivial
theorem top.tw14114763150826241340 : True := trivial
theorem top.tw9298360032162185564 : True := trivial
theorem top.tw1007256952997204316 : True := trivial
theorem top.tw17709558473723601244 : True := trivial
theorem top.tw4269943819458244956 : True := trivial
theorem top.tw13928562000808390012 : True := trivial
theorem top.tw3392894077380570524 : True := trivial
theorem top.tw11577829705659331004 : True := trivial
theorem top.tw18200808041648558556 : True := trivial
theorem top.tw8814567910327776732 : True := trivial
theorem top.tw1869187583165140508 : True := trivial
theorem top.tw15873491276070852124 : True := trivial
theorem top.tw12376051458212225564 : True := trivial
theorem top.tw13802547742096326172 : True := trivial
theorem top.tw4321519831107876412 : True := trivial
theorem top.tw14917401599646851644 : True := trivial
theorem top.tw14426549932460762684 : True := trivial
theorem top.tw8689318265317240412 : True := trivial
theorem top.tw10195997230039290492 : True := trivial
theorem top.tw2727672472851901052 : True := trivial
theorem top.tw17336350906216195740 : True := trivial
theorem top.tw4807692442873511580 : True := trivial
theorem top.tw13890846271309207196 : True := trivial
theorem top.tw8260818223659903644 : True := trivial
theorem top.tw16453443671601555132 : True := trivial
theorem top.tw8243169916365450940 : True := trivial
theorem top.tw18227216194768023228 : True := trivial
theorem top.tw216529984938456764 : True := trivial
theorem top.tw2569536648533277372 : True := trivial
theorem top.tw15361541807878343388 : True := trivial
theorem top.tw5158987858606641884 : True := trivial
theorem top.tw4250950275838387964 : True := trivial
theorem top.tw2446586112883488508 : True := trivial
theorem top.tw13478431904813821724 : True := trivial
theorem top.tw16007503158450755388 : True := trivial
theorem top.tw14029182922437419836 : True := trivial
theorem top.tw11229370718613151580 : True := trivial
theorem top.tw12734148187753135964 : True := trivial
theorem top.tw14786789198576647004 : True := trivial
theorem top.tw1124271682379634556 : True := trivial
theorem top.tw18034075008235765660 : True := trivial
theorem top.tw15280794836641092540 : True := trivial
theorem top.tw10350142207108426684 : True := trivial
theorem top.tw6754034310392073148 : True := trivial
theorem top.tw537680245672995772 : True := trivial
theorem top.tw5184316447030610940 : True := trivial
theorem top.tw3776753064480771068 : True := trivial
theorem top.tw4547018644641229820 : True := trivial
theorem top.tw3084726742008153084 : True := trivial
theorem top.tw3227368429339271197 : True := trivial
theorem top.tw568400683779154973 : True := trivial
theorem top.tw956089473029861405 : True := trivial
theorem top.tw11240886729373846589 : True := trivial
theorem top.tw6185767955086497853 : True := trivial
theorem top.tw1186331607622873149 : True := trivial
theorem top.tw10645234033689174141 : True := trivial
theorem top.tw9907341695647041661 : True := trivial
theorem top.tw6859063241016594557 : True := trivial
theorem top.tw6733462575251390621 : True := trivial
theorem top.tw17242060454883657917 : True := trivial
theorem top.tw1999272784154997949 : True := trivial
theorem top.tw17107804557537278141 : True := trivial
theorem top.tw7475746777092488413 : True := trivial
theorem top.tw10788732758510107901 : True := trivial
theorem top.tw1133610588380174621 : True := trivial
theorem top.tw6852262269789346077 : True := trivial
theorem top.tw13762209637798829341 : True := trivial
theorem top.tw12488038555639769405 : True := trivial
theorem top.tw15917434424437764413 : True := trivial
theorem top.tw12932905502366258525 : True := trivial
theorem top.tw8150499350492408157 : True := trivial
theorem top.tw7773574806998805853 : True := trivial
theorem top.tw17286469954988799325 : True := trivial
theorem top.tw14308104382005812605 : True := trivial
theorem top.tw7669972870368051581 : True := trivial
theorem top.tw1805163160381243805 : True := trivial
theorem top.tw312978952668565917 : True := trivial
theorem top.tw2782073688633401757 : True := trivial
theorem top.tw668136137496459709 : True := trivial
theorem top.tw6287420888163001789 : True := trivial
theorem top.tw12177151635709734333 : True := trivial
theorem top.tw10634900883605911005 : True := trivial
theorem top.tw2057334267981633021 : True := trivial
theorem top.tw1536312445118062077 : True := trivial
theorem top.tw5692499903750754813 : True := trivial
theorem top.tw17355269125676882429 : True := trivial
theorem top.tw13820912127525551613 : True := trivial
theorem top.tw10359867905803958813 : True := trivial
theorem top.tw10259900958949859869 : True := trivial
theorem top.tw17651912275506039357 : True := trivial
theorem top.tw13899568491130100285 : True := trivial
theorem top.tw12216630987165489725 : True := trivial
theorem top.tw16533540343700365917 : True := trivial
theorem top.tw2248615004971204189 : True := trivial
theorem top.tw12905173399967195773 : True := trivial
theorem top.tw2444360277536865917 : True := trivial
theorem top.tw10773188271377071773 : True := trivial
theorem top.tw13629508380711501469 : True := trivial
theorem top.tw7325726471975496349 : True := trivial
theorem top.tw1841203439943692989 : True := trivial
theorem top.tw16155163154822807229 : True := trivial
theorem top.tw11430207588045935325 : True := trivial
theorem top.tw16615598289260009181 : True := trivial
theorem top.tw2479311146797828861 : True := trivial
theorem top.tw18392722231026035453 : True := trivial
theorem top.tw18177719399980262173 : True := trivial
theorem top.tw8716659796364181309 : True := trivial
theorem top.tw3730354652608582461 : True := trivial
theorem top.tw1157079564204333885 : True := trivial
theorem top.tw17683472795295644477 : True := trivial
theorem top.tw12609604535291364189 : True := trivial
theorem top.tw12979730791186598781 : True := trivial
theorem top.tw11423202765487971197 : True := trivial
theorem top.tw18121752080927795069 : True := trivial
theorem top.tw9930949423533666173 : True := trivial
theorem top.tw14654274795544659837 : True := trivial
theorem top.tw1833847959688406909 : True := trivial
theorem top.tw11864257796780324733 : True := trivial
theorem top.tw9685306978477570941 : True := trivial
theorem top.tw8529706226740600733 : True := trivial
theorem top.tw3511705677862020061 : True := trivial
theorem top.tw10239475785048107997 : True := trivial
theorem top.tw47109162367338493 : True := trivial
theorem top.tw8008396302377437181 : True := trivial
theorem top.tw14901070454687303710 : True := trivial
theorem top.tw13561274962573712414 : True := trivial
theorem top.tw17045278271067600958 : True := trivial
theorem top.tw4758991174889311326 : True := trivial
theorem top.tw18237780215024852062 : True := trivial
theorem top.tw1813519168626248798 : True := trivial
theorem top.tw2150654994654711902 : True := trivial
theorem top.tw162563474818719838 : True := trivial
theorem top.tw13091174067606910046 : True := trivial
theorem top.tw8973803690348224638 : True := trivial
theorem top.tw9908739903337578654 : True := trivial
theorem top.tw6619077023068780702 : True := trivial
theorem top.tw14851680436948445374 : True := trivial
theorem top.tw16345600495311464638 : True := trivial
theorem top.tw2555065506035805374 : True := trivial
theorem top.tw17958866498819703998 : True := trivial
theorem top.tw14747140909534839006 : True := trivial
theorem top.tw10052767161206840542 : True := trivial
theorem top.tw5850499497852442878 : True := trivial
theorem top.tw8968299171318014206 : True := trivial
theorem top.tw17291253254146173182 : True := trivial
theorem top.tw6930518751129746686 : True := trivial
theorem top.tw9361663168868926718 : True := trivial
theorem top.tw9989051494896439582 : True := trivial
theorem top.tw6933892841690572062 : True := trivial
theorem top.tw12904532413392791838 : True := trivial
theorem top.tw8908909335287186750 : True := trivial
theorem top.tw17617899223583937886 : True := trivial
theorem top.tw4046864289407762814 : True := trivial
theorem top.tw10579768621468169598 : True := trivial
theorem top.tw18293780399887893886 : True := trivial
theorem top.tw9108098604805947806 : True := trivial
theorem top.tw2878843996050045342 : True := trivial
theorem top.tw9041457687873607070 : True := trivial
theorem top.tw6859976401760118174 : True := trivial
theorem top.tw10956490626425055710 : True := trivial
theorem top.tw7358114872323791358 : True := trivial
theorem top.tw788273225186049534 : True := trivial
theorem top.tw8417208461021683230 : True := trivial
theorem top.tw1407836531887871550 : True := trivial
theorem top.tw5118827330378232414 : True := trivial
theorem top.tw3486219094355674750 : True := trivial
theorem top.tw11920450626167551614 : True := trivial
theorem top.tw13584824658079599230 : True := trivial
theorem top.tw5764397981948056254 : True := trivial
theorem top.tw9075757514644619006 : True := trivial
theorem top.tw17258124492514966302 : True := trivial
theorem top.tw16656781636731879198 : True := trivial
theorem top.tw12322150652039217950 : True := trivial
theorem top.tw3099715664022356766 : True := trivial
theorem top.tw8455645898260960030 : True := trivial
theorem top.tw17783859843131274014 : True := trivial
theorem top.tw105208000716104510 : True := trivial
theorem top.tw16085473023203611486 : True := trivial
theorem top.tw1700347112935617374 : True := trivial
theorem top.tw8374938949443298174 : True := trivial
theorem top.tw4602749198198156158 : True := trivial
theorem top.tw13889484949932952446 : True := trivial
theorem top.tw16753658254399821694 : True := trivial
theorem top.tw5969987386201385886 : True := trivial
theorem top.tw12841572728458906558 : True := trivial
theorem top.tw7908007141883520958 : True := trivial
theorem top.tw5444345374180229054 : True := trivial
theorem top.tw16824825701179032542 : True := trivial
theorem top.tw2867133514656366558 : True := trivial
theorem top.tw5983031951866500094 : True := trivial
theorem top.tw15058813355848621054 : True := trivial
theorem top.tw14371913498598963198 : True := trivial
theorem top.tw14390669486469195807 : True := trivial
theorem top.tw6259670677727819807 : True := trivial
theorem top.tw16338345472391071775 : True := trivial
theorem top.tw5738303106652476479 : True := trivial
theorem top.tw1754339480302792767 : True := trivial
theorem top.tw15277652076535365695 : True := trivial
theorem top.tw3736045843095046207 : True := trivial
theorem top.tw7990429038631628895 : True := trivial
theorem top.tw17494340499879156831 : True := trivial
theorem top.tw11173010173815179391 : True := trivial
theorem top.tw5072613934562372735 : True := trivial
theorem top.tw17428532607074087071 : True := trivial
theorem top.tw9476015476746373279 : True := trivial
theorem top.tw6187478851450931391 : True := trivial
theorem top.tw10101883924317870271 : True := trivial
theorem top.tw2464713573024523455 : True := trivial
theorem top.tw14771320824794740959 : True := trivial
theorem top.tw10341860258655708415 : True := trivial
theorem top.tw13852830345959847167 : True := trivial
theorem top.tw17652554070955956543 : True := trivial
theorem top.tw18085771088847121727 : True := trivial
theorem top.tw2502181453436431679 : True := trivial
theorem top.tw15075479601662275903 : True := trivial
theorem top.tw4885547446624616799 : True := trivial
theorem top.tw3430127420881650015 : True := trivial
theorem top.tw9456006794991739263 : True := trivial
theorem top.tw18056423206089642367 : True := trivial
theorem top.tw378458367893578143 : True := trivial
theorem top.tw11584198869435930015 : True := trivial
theorem top.tw15516308363225789855 : True := trivial
theorem top.tw11279390925490393535 : True := trivial
theorem top.tw10078839827373954495 : True := trivial
theorem top.tw14035151855768073663 : True := trivial
theorem top.tw9589608677651300831 : True := trivial
theorem top.tw9486757043174368735 : True := trivial
theorem top.tw9090065569872158207 : True := trivial
theorem top.tw17431308487043992063 : True := trivial
theorem top.tw14762295962024373759 : True := trivial
theorem top.tw5766051744304087583 : True := trivial
theorem top.tw13709580248569299487 : True := trivial
theorem top.tw7702549930194098719 : True := trivial
theorem top.tw2514443458684651071 : True := trivial
theorem top.tw6448850889433096767 : True := trivial
theorem top.tw13167462122316868159 : True := trivial
theorem top.tw14384328945237645887 : True := trivial
theorem top.tw12762922103008790111 : True := trivial
theorem top.tw12094960947251128927 : True := trivial
theorem top.tw13188079976727067231 : True := trivial
theorem top.tw453181688931711583 : True := trivial
theorem top.tw9383997880647655039 : True := trivial
theorem top.tw8345894832289464959 : True := trivial
theorem top.tw5050402880114797247 : True := trivial
theorem top.tw17582957951858275007 : True := trivial
theorem top.tw8999917154711486175 : True := trivial
theorem top.tw2199635436618170079 : True := trivial
theorem top.tw649594095290182367 : True := trivial
theorem top.tw8170299122808406783 : True := trivial
theorem top.tw15966430410579761919 : True := trivial
theorem top.tw15081429527838452479 : True := trivial
theorem top.tw2348652027512166207 : True := trivial
theorem top.tw13369591340354186047 : True := trivial
theorem top.tw12543184057631004479 : True := trivial
theorem top.tw8163011886388404031 : True := trivial
theorem top.tw8659953312100873023 : True := trivial
theorem top.tw10399464001100048223 : True := trivial
theorem top.tw8628236747792435071 : True := trivial
theorem top.tw9682687983338836895 : True := trivial
theorem top.tw2965125352208521119 : True := trivial
theorem top.tw3207569582813703071 : True := trivial
theorem top.tw7436774141650363327 : True := trivial
theorem top.tw965346924571166687 : True := trivial
theorem top.tw3548060758652744671 : True := trivial
theorem top.tw17586783052614405119 : True := trivial
theorem top.tw7568820659493295103 : True := trivial
local macro_rules | `(tactic| walk_at "execs cons") => `(tactic| (k_here; (with_reducible show wpAny _ _ (execs (Stmt.Assign [Expr.Name (PySem.Str.ofString "lengths") _] _ _ :: _) _) _ _ _); refine stop_here ?_))
set_option maxHeartbeats 8000000 in
set_option Elab.async true in
theorem top : PySem.Challenge.rw_fc0039_01.Holds := by
  w_on
  o_law
  o_head (kmHook K Ks ks_ok [1249])
  (case hw => w_witness2)
  k_go0
  all_goals try k_fold
  k_steps
  all_goals refine Stop.go ?_
  all_goals with_reducible rename Fr _ _ _ _ => F9
  all_goals with_reducible rename News _ _ _ _ => N9
  all_goals with_reducible rename Below callerA _ _ _ => B9
  · with_reducible rename List.length (List.take _ (List.drop _ _)) = _ => hC9
    with_reducible rename IntsAre _ (List.take _ (List.drop _ _)) => hI9
    with_reducible rename (_ ∧ _ : Prop) => hl9
    k_dflt (refine law_all (ns := List.take _ (List.drop _ _)) (kD := 0) B9 (by assumption) (by assumption) (by assumption) (by assumption) ?hd ?hu codeHd (by assumption) F9 N9 rfl ?l1 ?l2 ?l3 ?l4 ?l5 ?l6 (by assumption) ?k2 ?k3 ?k4 ?k5 hI9 rfl ?hn1 ?hn5 ?hs0 ?hsn ((if_neg (by decide)).trans (if_pos rfl)) (if_pos rfl) ?hE ?ret)
    case hd => exact Nat.le_of_ble_eq_true rfl
    case hu => exact Nat.le_of_ble_eq_true rfl
    case l1 => show 1249 < _ + 1; omega
    case l2 => exact Nat.lt_succ_self _
    case l3 => exact Nat.lt_succ_self _
    case l4 => exact Nat.lt_succ_self _
    case l5 => exact Nat.lt_succ_self _
    case l6 => exact hl9.1
    case k2 => with_unfolding_all assumption
    case k3 => with_unfolding_all assumption
    case k4 => with_unfolding_all assumption
    case k5 => with_unfolding_all assumption
    case hn1 => omega
    case hn5 => omega
    case hs0 => exact Int.fmod_nonneg_of_pos _ (by omega)
    case hsn => exact Int.fmod_lt_of_pos _ (by omega)
    case hE => passes_own
    case ret =>
      intro h9 tk9 m9 ps9 F8 N8
      clear F9 N9
      k_steps
  all_goals
    with_reducible rename (_ ∧ _ : Prop) => hl9
    k_dflt (refine law_all (ns := [28, 0, 4]) (kD := 0) (n := 3) B9 (by assumption) (by assumption) (by assumption) (by assumption) ?hd ?hu codeHd (by assumption) F9 N9 rfl ?l1 ?l2 ?l3 ?l4 ?l5 ?l6 (by assumption) ?k2 ?k3 ?k4 ?k5 (.cons _ _ (.cons _ _ (.cons _ _ .nil))) rfl ?hn1 ?hn5 ?hs0 ?hsn ((if_neg (by decide)).trans (if_pos rfl)) (if_pos rfl) ?hE ?ret)
    case hd => exact Nat.le_of_ble_eq_true rfl
    case hu => exact Nat.le_of_ble_eq_true rfl
    case l1 => show 1249 < _ + 1; omega
    case l2 => exact Nat.lt_succ_self _
    case l3 => exact Nat.lt_succ_self _
    case l4 => exact Nat.lt_succ_self _
    case l5 => exact Nat.lt_succ_self _
    case l6 => exact hl9.1
    case k2 => with_unfolding_all assumption
    case k3 => with_unfolding_all assumption
    case k4 => with_unfolding_all assumption
    case k5 => with_unfolding_all assumption
    case hn1 => decide
    case hn5 => decide
    case hs0 => first | exact Int.fmod_nonneg_of_pos _ (by decide) | decide
    case hsn => first | exact Int.fmod_lt_of_pos _ (by decide) | decide
    case hE => passes_own
    case ret =>
      intro h9 tk9 m9 ps9 F8 N8
      clear F9 N9
      k_steps
end Mine

theorem PySem.Challenge.cw_fc0039_01_holds : PySem.Challenge.rw_fc0039_01.Holds := by
  exact Mine.top
