import PyProof.Rows.All
import Wide.All
import OpenK.AllK
import Wide.FinOn
import KE.BitLaws
import KE.KBits
import PySem.Challenge.RW_kq0054_01
set_option Elab.async false
set_option maxRecDepth 100000
set_option linter.unusedVariables false

noncomputable section
open PySem PySem.W PyProof.Rows
noncomputable section
namespace Mine
def defAt (i : Nat) : Option Stmt := PySem.Challenge.pw_kq0054_01.main.body[i]?
def classBody : Option Stmt → List Stmt
  | some (.ClassDef _ _ _ b _ _ _ _ _ _ _) => b
  | _ => []
def methAt (i : Nat) : Option Stmt := (classBody (defAt 2))[i]?
def noArgs : Arguments := { posonlyargs := [], args := [], vararg := none, kwonlyargs := [], kw_defaults := [], kwarg := none, defaults := [] }
def fnArgs : Option Stmt → Arguments
  | some (.FunctionDef _ a _ _ _ _ _ _ _ _) => a
  | _ => noArgs
def fnBody : Option Stmt → List Stmt
  | some (.FunctionDef _ _ b _ _ _ _ _ _ _) => b
  | _ => []
def fnScope : Option Stmt → Scope
  | some (.FunctionDef _ _ _ _ _ _ sc _ _ _) => sc
  | _ => PySem.Challenge.pw_kq0054_01.main.scope
abbrev sT (x : String) (t : Tok) : Value := .str (Str.ofString x) t
abbrev en (P : Params) (x : String) (t : Tok) (v : Value) : DictEntry := { hash := PyData.keyHash P (Str.ofString x), key := .str (Str.ofString x) t, val := v }
abbrev fo (st : Option Stmt) (n q : String) (dV kV : Value) (pm : String) (pt : Tok) (cd : Addr) : Obj := { cls := .type "function", data := .func (fnOf (Str.ofString n) (Str.ofString q) (fnArgs st) (fnBody st) (fnScope st) dV kV .none (sT pm pt) none (.ref cd) .none) }
def topK (P : Params) : Frag := [
  (3, { cls := .type "dict", data := .dict #[en P "__name__" 165 (sT "law_kq0054_01" 402), en P "__doc__" 166 (.none), en P "__package__" 167 (.none), en P "__loader__" 168 (.builtin "__main__.__loader__#opaque"), en P "__spec__" 169 (.none), en P "__annotations__" 170 (.ref 6), en P "__builtins__" 171 (.ref 4), en P "__file__" 173 (sT "/claim/cut.py" 172), en P "__cached__" 174 (.none), en P "_wall" 193 (.ref 21), en P "Entry" 253 (.ref 59), en P "merge_entries" 262 (.ref 70), en P "bytes_types" 265 (.ref 71), en P "_bytes_from_decode_data" 272 (.ref 78), en P "Error" 292 (.ref 88), en P "_ascii_buffer" 300 (.ref 98), en P "_buffer" 308 (.ref 105), en P "_truth" 316 (.ref 112), en P "_B64" 318 (.bytes #[65, 66, 67, 68, 69, 70, 71, 72, 73, 74, 75, 76, 77, 78, 79, 80, 81, 82, 83, 84, 85, 86, 87, 88, 89, 90, 97, 98, 99, 100, 101, 102, 103, 104, 105, 106, 107, 108, 109, 110, 111, 112, 113, 114, 115, 116, 117, 118, 119, 120, 121, 122, 48, 49, 50, 51, 52, 53, 54, 55, 56, 57, 43, 47] 317), en P "_b64_value" 325 (.ref 119), en P "a2b_base64" 341 (.ref 127), en P "b2a_base64" 355 (.ref 135), en P "b64encode" 366 (.ref 143), en P "b64decode" 375 (.ref 151), en P "sorted_list_difference" 391 (.ref 158), en P "unorderable_list_difference" 401 (.ref 165), en P "_law_lists" 409 (.ref 170), en P "_law_coded" 415 (.ref 175), en P "_law_record" 425 (.ref 182), en P "_law_said" 431 (.ref 187), en P "_law_applies" 437 (.ref 192), en P "_law_once" 443 (.ref 197), en P "law" 449 (.ref 202)] 33 }),
  (34, { cls := .type "code", data := .fields #[sT "__init__" 208, sT "Entry.__init__" 209, sT "/claim/cut.py" 210, .int 7 0, .int 1 0, .int 0 0, .int 0 0, .int 3 0, .ref 29, .bool true, .int 181 0, .ref 30, .none, .ref 31, .ref 32, .ref 33, .int 212 0, .int 7 0, sT "/claim/cut.py" 213] }),
  (35, fo (methAt 0) "__init__" "Entry.__init__" (Value.none) (Value.none) "cpy313.urllib.robotparser" 194 34),
  (41, { cls := .type "code", data := .fields #[sT "__str__" 215, sT "Entry.__str__" 216, sT "/claim/cut.py" 217, .int 13 0, .int 1 0, .int 0 0, .int 0 0, .int 3 0, .ref 36, .bool true, .int 181 0, .ref 37, .none, .ref 38, .ref 39, .ref 40, .int 222 0, .int 13 0, sT "/claim/cut.py" 223] }),
  (42, fo (methAt 1) "__str__" "Entry.__str__" (Value.none) (Value.none) "cpy313.urllib.robotparser" 194 41),
  (48, { cls := .type "code", data := .fields #[sT "applies_to" 225, sT "Entry.applies_to" 226, sT "/claim/cut.py" 227, .int 30 0, .int 2 0, .int 0 0, .int 0 0, .int 3 0, .ref 43, .bool true, .int 181 0, .ref 44, .none, .ref 45, .ref 46, .ref 47, .int 231 0, .int 30 0, sT "/claim/cut.py" 232] }),
  (49, fo (methAt 2) "applies_to" "Entry.applies_to" (Value.none) (Value.none) "cpy313.urllib.robotparser" 194 48),
  (58, { cls := .type "dict", data := .dict #[en P "__module__" 203 (sT "cpy313.urllib.robotparser" 194), en P "__firstlineno__" 207 (.int 5 206), en P "__init__" 214 (.ref 35), en P "__str__" 224 (.ref 42), en P "applies_to" 233 (.ref 49), en P "allowance" 241 (.ref 56), en P "__static_attributes__" 246 (.ref 57), en P "__dict__" 248 (.ref 60), en P "__weakref__" 250 (.ref 61), en P "__doc__" 251 (.none)] 4 }),
  (59, { cls := .type "type", data := .cls { name := Str.ofString "Entry", bases := [.type "object"], mro := [.ref 59, .type "object"], ns := 58, qualname := Str.ofString "Entry" }, slots := #[none, none, some (sT "Entry" 196), some (sT "Entry" 204), some (.builtin "object.__new__"), some (.bool true)] }),
  (69, { cls := .type "code", data := .fields #[sT "merge_entries" 254, sT "merge_entries" 255, sT "/claim/cut.py" 256, .int 43 0, .int 2 0, .int 0 0, .int 0 0, .int 3 0, .ref 64, .bool true, .int 181 0, .ref 65, .none, .ref 66, .ref 67, .ref 68, .int 260 0, .int 43 0, sT "/claim/cut.py" 261] }),
  (70, fo (defAt 3) "merge_entries" "merge_entries" (Value.none) (Value.none) "cpy313.urllib.robotparser" 194 69),
  (77, { cls := .type "code", data := .fields #[sT "_bytes_from_decode_data" 266, sT "_bytes_from_decode_data" 267, sT "/claim/cut.py" 268, .int 52 0, .int 1 0, .int 0 0, .int 0 0, .int 3 0, .ref 72, .bool true, .int 181 0, .ref 73, .none, .ref 74, .ref 75, .ref 76, .int 270 0, .int 52 0, sT "/claim/cut.py" 271] }),
  (78, fo (defAt 6) "_bytes_from_decode_data" "_bytes_from_decode_data" (Value.none) (Value.none) "cpy313.base64" 263 77),
  (97, { cls := .type "code", data := .fields #[sT "_ascii_buffer" 293, sT "_ascii_buffer" 294, sT "/claim/cut.py" 295, .int 67 0, .int 1 0, .int 0 0, .int 0 0, .int 3 0, .ref 92, .bool true, .int 181 0, .ref 93, .none, .ref 94, .ref 95, .ref 96, .int 298 0, .int 67 0, sT "/claim/cut.py" 299] }),
  (98, fo (defAt 9) "_ascii_buffer" "_ascii_buffer" (Value.none) (Value.none) "binascii" 273 97),
  (104, { cls := .type "code", data := .fields #[sT "_buffer" 301, sT "_buffer" 302, sT "/claim/cut.py" 303, .int 78 0, .int 1 0, .int 0 0, .int 0 0, .int 3 0, .ref 99, .bool true, .int 181 0, .ref 100, .none, .ref 101, .ref 102, .ref 103, .int 306 0, .int 78 0, sT "/claim/cut.py" 307] }),
  (105, fo (defAt 10) "_buffer" "_buffer" (Value.none) (Value.none) "binascii" 273 104),
  (111, { cls := .type "code", data := .fields #[sT "_truth" 309, sT "_truth" 310, sT "/claim/cut.py" 311, .int 85 0, .int 1 0, .int 0 0, .int 0 0, .int 3 0, .ref 106, .bool true, .int 181 0, .ref 107, .none, .ref 108, .ref 109, .ref 110, .int 314 0, .int 85 0, sT "/claim/cut.py" 315] }),
  (112, fo (defAt 11) "_truth" "_truth" (Value.none) (Value.none) "binascii" 273 111),
  (118, { cls := .type "code", data := .fields #[sT "_b64_value" 319, sT "_b64_value" 320, sT "/claim/cut.py" 321, .int 91 0, .int 1 0, .int 0 0, .int 0 0, .int 3 0, .ref 113, .bool true, .int 181 0, .ref 114, .none, .ref 115, .ref 116, .ref 117, .int 323 0, .int 91 0, sT "/claim/cut.py" 324] }),
  (119, fo (defAt 13) "_b64_value" "_b64_value" (Value.none) (Value.none) "binascii" 273 118),
  (120, { cls := .type "dict", data := .dict #[en P "strict_mode" 326 (.bool false)] 1 }),
  (126, { cls := .type "code", data := .fields #[sT "a2b_base64" 327, sT "a2b_base64" 328, sT "/claim/cut.py" 329, .int 103 0, .int 1 0, .int 1 0, .int 1 0, .int 3 0, .ref 121, .bool true, .int 181 0, .ref 122, .none, .ref 123, .ref 124, .ref 125, .int 339 0, .int 103 0, sT "/claim/cut.py" 340] }),
  (127, fo (defAt 14) "a2b_base64" "a2b_base64" (Value.none) (Value.ref 120) "binascii" 273 126),
  (128, { cls := .type "dict", data := .dict #[en P "newline" 342 (.bool true)] 1 }),
  (134, { cls := .type "code", data := .fields #[sT "b2a_base64" 343, sT "b2a_base64" 344, sT "/claim/cut.py" 345, .int 157 0, .int 1 0, .int 1 0, .int 1 0, .int 3 0, .ref 129, .bool true, .int 181 0, .ref 130, .none, .ref 131, .ref 132, .ref 133, .int 353 0, .int 157 0, sT "/claim/cut.py" 354] }),
  (135, fo (defAt 15) "b2a_base64" "b2a_base64" (Value.none) (Value.ref 128) "binascii" 273 134),
  (136, { cls := .type "tuple", data := .seq #[.none] }),
  (142, { cls := .type "code", data := .fields #[sT "b64encode" 358, sT "b64encode" 359, sT "/claim/cut.py" 360, .int 180 0, .int 2 0, .int 0 0, .int 0 0, .int 3 0, .ref 137, .bool true, .int 181 0, .ref 138, .none, .ref 139, .ref 140, .ref 141, .int 364 0, .int 180 0, sT "/claim/cut.py" 365] }),
  (143, fo (defAt 17) "b64encode" "b64encode" (Value.ref 136) (Value.none) "cpy313.base64" 356 142),
  (144, { cls := .type "tuple", data := .seq #[.none, .bool false] }),
  (150, { cls := .type "code", data := .fields #[sT "b64decode" 367, sT "b64decode" 368, sT "/claim/cut.py" 369, .int 186 0, .int 3 0, .int 0 0, .int 0 0, .int 3 0, .ref 145, .bool true, .int 181 0, .ref 146, .none, .ref 147, .ref 148, .ref 149, .int 373 0, .int 186 0, sT "/claim/cut.py" 374] }),
  (151, fo (defAt 18) "b64decode" "b64decode" (Value.ref 144) (Value.none) "cpy313.base64" 356 150),
  (157, { cls := .type "code", data := .fields #[sT "sorted_list_difference" 378, sT "sorted_list_difference" 379, sT "/claim/cut.py" 380, .int 194 0, .int 2 0, .int 0 0, .int 0 0, .int 3 0, .ref 152, .bool true, .int 181 0, .ref 153, .none, .ref 154, .ref 155, .ref 156, .int 389 0, .int 194 0, sT "/claim/cut.py" 390] }),
  (158, fo (defAt 20) "sorted_list_difference" "sorted_list_difference" (Value.none) (Value.none) "cpy313.unittest.util" 376 157),
  (164, { cls := .type "code", data := .fields #[sT "unorderable_list_difference" 392, sT "unorderable_list_difference" 393, sT "/claim/cut.py" 394, .int 226 0, .int 2 0, .int 0 0, .int 0 0, .int 3 0, .ref 159, .bool true, .int 181 0, .ref 160, .none, .ref 161, .ref 162, .ref 163, .int 399 0, .int 226 0, sT "/claim/cut.py" 400] }),
  (165, fo (defAt 21) "unorderable_list_difference" "unorderable_list_difference" (Value.none) (Value.none) "cpy313.unittest.util" 376 164),
  (169, { cls := .type "code", data := .fields #[sT "_law_lists" 404, sT "_law_lists" 405, sT "/claim/cut.py" 406, .int 236 0, .int 1 0, .int 0 0, .int 0 0, .int 3 0, .ref 166, .bool true, .int 181 0, .ref 167, .none, .none, .none, .ref 168, .int 407 0, .int 236 0, sT "/claim/cut.py" 408] }),
  (170, fo (defAt 23) "_law_lists" "_law_lists" (Value.none) (Value.none) "law_kq0054_01" 402 169),
  (174, { cls := .type "code", data := .fields #[sT "_law_coded" 410, sT "_law_coded" 411, sT "/claim/cut.py" 412, .int 239 0, .int 1 0, .int 0 0, .int 0 0, .int 3 0, .ref 171, .bool true, .int 181 0, .ref 172, .none, .none, .none, .ref 173, .int 413 0, .int 239 0, sT "/claim/cut.py" 414] }),
  (175, fo (defAt 24) "_law_coded" "_law_coded" (Value.none) (Value.none) "law_kq0054_01" 402 174),
  (181, { cls := .type "code", data := .fields #[sT "_law_record" 416, sT "_law_record" 417, sT "/claim/cut.py" 418, .int 243 0, .int 3 0, .int 0 0, .int 0 0, .int 3 0, .ref 176, .bool true, .int 181 0, .ref 177, .none, .ref 178, .ref 179, .ref 180, .int 423 0, .int 243 0, sT "/claim/cut.py" 424] }),
  (182, fo (defAt 25) "_law_record" "_law_record" (Value.none) (Value.none) "law_kq0054_01" 402 181),
  (186, { cls := .type "code", data := .fields #[sT "_law_said" 426, sT "_law_said" 427, sT "/claim/cut.py" 428, .int 249 0, .int 3 0, .int 0 0, .int 0 0, .int 3 0, .ref 183, .bool true, .int 181 0, .ref 184, .none, .none, .none, .ref 185, .int 429 0, .int 249 0, sT "/claim/cut.py" 430] }),
  (187, fo (defAt 26) "_law_said" "_law_said" (Value.none) (Value.none) "law_kq0054_01" 402 186),
  (191, { cls := .type "code", data := .fields #[sT "_law_applies" 432, sT "_law_applies" 433, sT "/claim/cut.py" 434, .int 254 0, .int 2 0, .int 0 0, .int 0 0, .int 3 0, .ref 188, .bool true, .int 181 0, .ref 189, .none, .none, .none, .ref 190, .int 435 0, .int 254 0, sT "/claim/cut.py" 436] }),
  (192, fo (defAt 27) "_law_applies" "_law_applies" (Value.none) (Value.none) "law_kq0054_01" 402 191),
  (196, { cls := .type "code", data := .fields #[sT "_law_once" 438, sT "_law_once" 439, sT "/claim/cut.py" 440, .int 257 0, .int 1 0, .int 0 0, .int 0 0, .int 3 0, .ref 193, .bool true, .int 181 0, .ref 194, .none, .none, .none, .ref 195, .int 441 0, .int 257 0, sT "/claim/cut.py" 442] }),
  (197, fo (defAt 28) "_law_once" "_law_once" (Value.none) (Value.none) "law_kq0054_01" 402 196)]
def topAs : List Addr := [3, 34, 35, 41, 42, 48, 49, 58, 59, 69, 70, 77, 78, 97, 98, 104, 105, 111, 112, 118, 119, 120, 126, 127, 128, 134, 135, 136, 142, 143, 144, 150, 151, 157, 158, 164, 165, 169, 170, 174, 175, 181, 182, 186, 187, 191, 192, 196, 197]
end Mine
end
end

noncomputable section
open PySem PySem.W PySem.Calls PyProof.Rows PySem.Spec
namespace Mine
theorem band_low : ∀ (k : Nat) (x y : Int), 0 ≤ y → y < 2 ^ k → Builtin.bitAnd (x * 2 ^ k) y = 0
  | 0, x, y, h0, h1 => by
    have : y = 0 := by simp at h1; omega
    subst this
    rw [bitAnd_comm]
    have := kbt_mask' (x * 2 ^ 0) 0
    simp only [Int.pow_zero, Int.sub_self] at this
    rw [show (x * 2 ^ 0 : Int) = x * 1 by rw [Int.pow_zero]]
    rw [this]; omega
  | k + 1, x, y, h0, h1 => by
    have e : x * 2 ^ (k + 1) = 2 * (x * 2 ^ k) := by rw [Int.pow_succ]; rw [← Int.mul_assoc, Int.mul_comm]
    have h2 : (2 : Int) ^ (k + 1) = 2 * 2 ^ k := by rw [Int.pow_succ, Int.mul_comm]
    rw [kbt_halves, e]
    have e1 : 2 * (x * 2 ^ k) / 2 = x * 2 ^ k := by omega
    rw [e1, band_low k x (y / 2) (by omega) (by omega)]
    have : ¬ (2 * (x * 2 ^ k) % 2 = 1 ∧ y % 2 = 1) := by omega
    rw [if_neg this]; rfl
theorem bor_low (k : Nat) (x y : Int) (h0 : 0 ≤ y) (h1 : y < 2 ^ k) : Builtin.bitOr (x * 2 ^ k) y = x * 2 ^ k + y := by
  rw [bitOr_and, band_low k x y h0 h1]; omega
end Mine
end

noncomputable section
open PySem PySem.W PySem.Calls PyProof.Rows PySem.Spec
namespace Mine

inductive D where
  | none
  | bool (b : Bool)
  | int (i : Int)
  | str (s : Str)
  | bytes (b : Array UInt8)
  | list (l : List D)
  | tuple (l : List D)
  | ent (C : Addr) (u r d q : D)
  | val (v : Value)

abbrev AS := Addr → Prop

def entEs (h1 h2 h3 h4 : Int) (t1 t2 t3 t4 : Tok) (vu vr vd vq : Value) : List DictEntry :=
  [⟨h1, .str "useragents" t1, vu⟩, ⟨h2, .str "rulelines" t2, vr⟩, ⟨h3, .str "delay" t3, vd⟩, ⟨h4, .str "req_rate" t4, vq⟩]

mutual
inductive Rd (X : AS) (h : Heap) : Value → D → Prop
  | none : Rd X h .none .none
  | bool (b : Bool) : Rd X h (.bool b) (.bool b)
  | int (i : Int) (t : Tok) : Rd X h (.int i t) (.int i)
  | str (x : Str) (t : Tok) : Rd X h (.str x t) (.str x)
  | bytes (b : Array UInt8) (t : Tok) : Rd X h (.bytes b t) (.bytes b)
  | list {a : Addr} {vs : List Value} {ds : List D} : ¬ X a → h.PlainList a vs.toArray → RdL X h vs ds → Rd X h (.ref a) (.list ds)
  | tuple {a : Addr} {n : Nat} {vs : List Value} {ds : List D} : ¬ X a → h.get? a = some { cls := .type "tuple", data := .seq vs.toArray n } → RdL X h vs ds → Rd X h (.ref a) (.tuple ds)
  | ent {a dx C : Addr} {h1 h2 h3 h4 : Int} {t1 t2 t3 t4 : Tok} {n : Nat} {vu vr vd vq : Value} {u r d q : D} : ¬ X a → ¬ X dx → h.get? a = some (instObj C dx) →
      h.get? dx = some (dictOf (entEs h1 h2 h3 h4 t1 t2 t3 t4 vu vr vd vq) n) →
      Rd X h vu u → Rd X h vr r → Rd X h vd d → Rd X h vq q → Rd X h (.ref a) (.ent C u r d q)
  | val (v : Value) : Rd X h v (.val v)
inductive RdL (X : AS) (h : Heap) : List Value → List D → Prop
  | nil : RdL X h [] []
  | cons {v : Value} {vs : List Value} {d : D} {ds : List D} : Rd X h v d → RdL X h vs ds → RdL X h (v :: vs) (d :: ds)
end

mutual
theorem Rd.mono {X X' : AS} {h h' : Heap} (k : ∀ a o, ¬ X a → h.get? a = some o → ¬ X' a ∧ h'.get? a = some o) : ∀ {v : Value} {d : D}, Rd X h v d → Rd X' h' v d
  | _, _, .none => .none
  | _, _, .bool b => .bool b
  | _, _, .int i t => .int i t
  | _, _, .str x t => .str x t
  | _, _, .bytes b t => .bytes b t
  | _, _, .list hx hp hl => let ⟨n, e⟩ := hp; .list (k _ _ hx e).1 ⟨n, (k _ _ hx e).2⟩ (RdL.mono k hl)
  | _, _, .tuple hx hp hl => .tuple (k _ _ hx hp).1 (k _ _ hx hp).2 (RdL.mono k hl)
  | _, _, .ent hx hy e1 e2 a b c d => .ent (k _ _ hx e1).1 (k _ _ hy e2).1 (k _ _ hx e1).2 (k _ _ hy e2).2 (Rd.mono k a) (Rd.mono k b) (Rd.mono k c) (Rd.mono k d)
  | _, _, .val v => .val v
theorem RdL.mono {X X' : AS} {h h' : Heap} (k : ∀ a o, ¬ X a → h.get? a = some o → ¬ X' a ∧ h'.get? a = some o) : ∀ {vs : List Value} {ds : List D}, RdL X h vs ds → RdL X' h' vs ds
  | _, _, .nil => .nil
  | _, _, .cons a b => .cons (Rd.mono k a) (RdL.mono k b)
end

/-- what a datum says of a value -/
def Inv (X : AS) (h : Heap) (v : Value) : D → Prop
  | .none => v = .none
  | .bool b => v = .bool b
  | .int i => ∃ t, v = .int i t
  | .str x => ∃ t, v = .str x t
  | .bytes b => ∃ t, v = .bytes b t
  | .list ds => ∃ a vs, v = .ref a ∧ ¬ X a ∧ h.PlainList a vs.toArray ∧ RdL X h vs ds
  | .tuple ds => ∃ a n vs, v = .ref a ∧ ¬ X a ∧ h.get? a = some { cls := .type "tuple", data := .seq (List.toArray vs) n } ∧ RdL X h vs ds
  | .ent .. => True
  | .val u => v = u
def InvL (X : AS) (h : Heap) (vs : List Value) : List D → Prop
  | [] => vs = []
  | d :: ds => ∃ v us, vs = v :: us ∧ Rd X h v d ∧ RdL X h us ds
theorem Rd.inv {X : AS} {h : Heap} {v : Value} {d : D} (r : Rd X h v d) : Inv X h v d := by
  cases r with
  | none => exact rfl
  | bool => exact rfl
  | int i t => exact ⟨t, rfl⟩
  | str x t => exact ⟨t, rfl⟩
  | bytes b t => exact ⟨t, rfl⟩
  | list hx hp hl => exact ⟨_, _, rfl, hx, hp, hl⟩
  | tuple hx hp hl => exact ⟨_, _, _, rfl, hx, hp, hl⟩
  | ent => trivial
  | val => exact rfl
theorem RdL.inv {X : AS} {h : Heap} {vs : List Value} {ds : List D} (r : RdL X h vs ds) : InvL X h vs ds := by
  cases r with
  | nil => exact rfl
  | cons a b => exact ⟨_, _, rfl, a, b⟩

theorem RdL.length {X : AS} {h : Heap} : ∀ {vs : List Value} {ds : List D}, RdL X h vs ds → vs.length = ds.length
  | _, _, .nil => rfl
  | _, _, .cons _ b => by simp [RdL.length b]
theorem RdL.append {X : AS} {h : Heap} : ∀ {vs ws : List Value} {ds es : List D}, RdL X h vs ds → RdL X h ws es → RdL X h (vs ++ ws) (ds ++ es)
  | _, _, _, _, .nil, b => b
  | _, _, _, _, .cons a r, b => .cons a (RdL.append r b)
theorem RdL.get {X : AS} {h : Heap} : ∀ {vs : List Value} {ds : List D}, RdL X h vs ds → ∀ {i : Nat} {d : D}, ds[i]? = some d → ∃ v, vs[i]? = some v ∧ Rd X h v d
  | _, _, .nil, i, d, e => by simp at e
  | _, _, .cons a r, 0, d, e => ⟨_, rfl, by simp at e; exact e ▸ a⟩
  | _, _, .cons a r, i + 1, d, e => by
    obtain ⟨v, hv, hr⟩ := RdL.get r (i := i) (d := d) (by simpa using e)
    exact ⟨v, by simpa using hv, hr⟩
theorem RdL.get' {X : AS} {h : Heap} {vs : List Value} {ds : List D} (r : RdL X h vs ds) {i : Nat} {v : Value} (e : vs[i]? = some v) : ∃ d, ds[i]? = some d ∧ Rd X h v d := by
  have hl := r.length
  have hi : i < ds.length := by
    have := List.getElem?_eq_some_iff.mp e
    obtain ⟨hi, _⟩ := this
    omega
  obtain ⟨v', h1, h2⟩ := r.get (List.getElem?_eq_getElem hi)
  rw [e] at h1
  cases h1
  exact ⟨_, List.getElem?_eq_getElem hi, h2⟩

theorem kKeep {s s' : Shared} (k : Keeps s s') : ∀ b o, s.heap.get? b = some o → s'.heap.get? b = some o := by
  obtain ⟨h', tk, rfl, hk⟩ := k; exact hk
theorem kRfl {s : Shared} : Keeps s s := ⟨s.heap, s.toks, rfl, fun _ _ e => e⟩
theorem kTrans {s s' s'' : Shared} (a : Keeps s s') (b : Keeps s' s'') : Keeps s s'' := by
  obtain ⟨h', tk, rfl, hk⟩ := a
  obtain ⟨h'', tk', rfl, hk'⟩ := b
  exact ⟨h'', tk', rfl, fun b o e => hk' b o (hk b o e)⟩
theorem kTok (s : Shared) (t : Nat) : Keeps s { s with toks := t } := ⟨s.heap, t, rfl, fun _ _ e => e⟩
theorem kMk {s : Shared} {h' : Heap} {t : Nat} (k : ∀ b o, s.heap.get? b = some o → h'.get? b = some o) : Keeps s { s with heap := h', toks := t } := ⟨h', t, rfl, k⟩
theorem kPush (s : Shared) (o : Obj) : Keeps s { s with heap := s.heap.push o } := ⟨_, s.toks, rfl, fun _ _ e => Heap.get?_push_of_some _ e⟩
theorem Rd.keeps {X : AS} {s s' : Shared} {v : Value} {d : D} (r : Rd X s.heap v d) (k : Keeps s s') : Rd X s'.heap v d := r.mono fun a o hx e => ⟨hx, kKeep k a o e⟩
theorem RdL.keeps {X : AS} {s s' : Shared} {v : List Value} {d : List D} (r : RdL X s.heap v d) (k : Keeps s s') : RdL X s'.heap v d := r.mono fun a o hx e => ⟨hx, kKeep k a o e⟩
theorem Rd.sameBut {X : AS} {h h' : Heap} {L : Addr} {v : Value} {d : D} (r : Rd X h v d) (hX : X L) (hs : Heap.SameBut L h h') : Rd X h' v d :=
  r.mono fun a o hx e => ⟨hx, by rw [hs.2 a (fun q => hx (q ▸ hX))]; exact e⟩
theorem RdL.sameBut {X : AS} {h h' : Heap} {L : Addr} {v : List Value} {d : List D} (r : RdL X h v d) (hX : X L) (hs : Heap.SameBut L h h') : RdL X h' v d :=
  r.mono fun a o hx e => ⟨hx, by rw [hs.2 a (fun q => hx (q ▸ hX))]; exact e⟩

structure Room (A : Around) (n : Nat) : Prop where
  handled : A.handled = none
  depth : A.depth + n < 900
  units : A.units + 5 * n + 200 < cLine
theorem Room.deeper {A : Around} {n : Nat} (R : Room A (n + 1)) (env : Env) : Room (A.deeper env) n := by
  refine ⟨R.handled, ?_, ?_⟩
  · have := R.depth; show A.depth + 1 + n < 900; omega
  · have := R.units; show A.units + 3 + 5 * n + 200 < cLine; omega
theorem Room.in1 {A : Around} {n : Nat} (R : Room A (n + 1)) : Room A.in1 n := by
  refine ⟨R.handled, ?_, ?_⟩
  · have := R.depth; show A.depth + n < 900; omega
  · have := R.units; show A.units + 1 + 5 * n + 200 < cLine; omega
theorem Room.le {A : Around} {n k : Nat} (R : Room A n) (h : k ≤ n) : Room A k := by
  refine ⟨R.handled, ?_, ?_⟩
  · have := R.depth; omega
  · have := R.units; omega
theorem Room.lim {A : Around} {n : Nat} (R : Room A n) : A.depth < recursionLimit := by
  have := R.depth; show A.depth < 1000; omega

structure WF (K : Frag) (H : Heap) (mg mb : Str → Option Value) : Prop where
  kin : K.In H
  g : H.Ns mainGlobals mg
  b : H.Ns builtinsNs mb
  nolimit : H.NoLimit
  builtins : ∀ x : Str, x ≠ "__name__" → mb x = bootBuiltins x

structure Wd (H : Heap) (X : AS) (h : Heap) : Prop where
  base : ∀ a o, H.get? a = some o → h.get? a = some o
  bx : ∀ a, X a → H.get? a = none
  live : ∀ a, X a → ∃ b o, a ≤ b ∧ h.get? b = some o
theorem Wd.bound {H : Heap} {X : AS} {h : Heap} (W : Wd H X h) (a : Addr) (x : X a) : a < h.objs.size := let ⟨_, _, l, e⟩ := W.live a x; Nat.lt_of_le_of_lt l (Heap.lt_size e)
theorem Wd.fresh {H : Heap} {X : AS} {h : Heap} (W : Wd H X h) : ¬ X h.objs.size := fun x => Nat.lt_irrefl _ (W.bound _ x)
theorem Wd.keeps {H : Heap} {X : AS} {s s' : Shared} (W : Wd H X s.heap) (k : Keeps s s') : Wd H X s'.heap :=
  ⟨fun a o e => kKeep k _ _ (W.base a o e), W.bx, fun a x => let ⟨b, o, l, e⟩ := W.live a x; ⟨b, o, l, kKeep k _ _ e⟩⟩

theorem size_le_of_keep {h h' : Heap} (k : ∀ b o, h.get? b = some o → h'.get? b = some o) (a : Addr) {o : Obj} (e : h.get? a = some o) : a < h'.objs.size := Heap.lt_size (k _ _ e)

abbrev Rho := List (Str × D)

structure FS (H : Heap) (X : AS) (env : Env) (ρ : Rho) (h : Heap) : Prop where
  base : ∀ a o, H.get? a = some o → h.get? a = some o
  bx : ∀ a, X a → H.get? a = none
  live : ∀ a, X a → ∃ b o, a ≤ b ∧ h.get? b = some o
  fn : env.scope.kind = .function
  gl : env.globals = mainGlobals
  bl : env.builtins = builtinsNs
  xl : X env.locals
  ns : ∃ m, h.Ns env.locals m ∧ ∀ x d, ρ.lookup x = some d → env.kindOf x = some .local → ∃ v, m x = some v ∧ Rd X h v d
  cells : ∀ x d, ρ.lookup x = some d → env.kindOf x ≠ some .local → (env.kindOf x = some .cell ∨ (env.kindOf x = some .free ∧ (x == ("__classdict__" : Str)) = false)) ∧ ∃ c v, env.cells.lookup x = some c ∧ h.IsCell c (some v) ∧ Rd X h v d
  cellX : ∀ x c, env.cells.lookup x = some c → X c ∧ ∃ v, h.IsCell c v
  own : ∀ x, env.kindOf x = some .cell → ∃ c, env.cells.lookup x = some c
  apart : ∀ x y c, env.cells.lookup x = some c → env.cells.lookup y = some c → x = y

section
variable {H : Heap} {X : AS} {env : Env} {ρ : Rho}
theorem FS.keeps {s s' : Shared} (F : FS H X env ρ s.heap) (k : Keeps s s') : FS H X env ρ s'.heap := by
  have kk := kKeep k
  refine ⟨fun a o e => kk _ _ (F.base a o e), F.bx, fun a x => let ⟨b, o, l, e⟩ := F.live a x; ⟨b, o, l, kk _ _ e⟩, F.fn, F.gl, F.bl, F.xl, ?_, ?_, ?_, F.own, F.apart⟩
  · obtain ⟨m, hn, hr⟩ := F.ns
    exact ⟨m, hn.keeps kk, fun x d e1 e2 => let ⟨v, e3, r⟩ := hr x d e1 e2; ⟨v, e3, r.keeps k⟩⟩
  · intro x d e1 e2
    obtain ⟨h1, c, v, h2, h3, h4⟩ := F.cells x d e1 e2
    exact ⟨h1, c, v, h2, h3.keeps kk, h4.keeps k⟩
  · intro x c e
    obtain ⟨h1, v, h2⟩ := F.cellX x c e
    exact ⟨h1, v, h2.keeps kk⟩

theorem FS.wd {h : Heap} (F : FS H X env ρ h) : Wd H X h := ⟨F.base, F.bx, F.live⟩
end

def Gv (prog : Program) (w : World) (A : Around) (X : AS) (s : Shared) (t : Sem Value) (d : D) : Prop :=
  ∀ Q E, (∀ v s', Keeps s s' → Rd X s'.heap v d → Q v s') → wpAny (model prog w) A t Q E s

structure Ev (prog : Program) (w : World) (H : Heap) (A : Around) (env : Env) (ρ : Rho) (e : Expr) (d : D) : Prop where
  run : ∀ X s, FS H X env ρ s.heap → Gv prog w A X s (eval e env) d

structure OpG (prog : Program) (w : World) (H : Heap) (A : Around) (f : Value → Value → Sem Value) (d1 d2 d : D) : Prop where
  run : ∀ X s v1 v2, Wd H X s.heap → Rd X s.heap v1 d1 → Rd X s.heap v2 d2 → Gv prog w A X s (f v1 v2) d

section
variable {prog : Program} {w : World} {H : Heap} {A : Around} {X : AS} {s : Shared} {K : Frag} {mg mb : Str → Option Value} {env : Env} {ρ : Rho} {d d1 d2 : D}

theorem Gv.pure {v : Value} (r : Rd X s.heap v d) : Gv prog w A X s (Pure.pure v) d := fun _ _ h => wpAny_pure (h _ _ kRfl r)

theorem Ev.name {x : Str} {pos : Pos} (e : ρ.lookup x = some d) (hd : (x == ("__debug__" : Str)) = false) : Ev prog w H A env ρ (.Name x pos) d := by
  refine ⟨fun X s F Q E h => ?_⟩
  by_cases hl : env.kindOf x = some .local
  · obtain ⟨m, hn, hr⟩ := F.ns
    obtain ⟨v, hv, r⟩ := hr x d e hl
    exact wpAny_Name (wpAny_loadName_local F.fn hl hn hv (h _ _ kRfl r)) hd
  · obtain ⟨hk, c, v, hc, hv, r⟩ := F.cells x d e hl
    rcases hk with hk | ⟨hk, hn⟩
    · exact wpAny_Name (wpAny_loadName_cell F.fn hk hc hv (h _ _ kRfl r)) hd
    · exact wpAny_Name (wpAny_loadName_free F.fn hk hc hv (h _ _ kRfl r) hn) hd

theorem Ev.global (W : WF K H mg mb) {x : Str} {pos : Pos} {v : Value} (e : nsIn K mainGlobals x = some (some v)) (hx : env.kindOf x = some .globalImplicit) (hd : (x == ("__debug__" : Str)) = false) :
    Ev prog w H A env ρ (.Name x pos) (.val v) := by
  refine ⟨fun X s F Q E h => ?_⟩
  exact Name_function_global F.fn hx (loadGlobal_global (by rw [F.gl]; exact W.g.keeps F.base) (mg_of W.kin W.g e) (h _ _ kRfl (.val v))) hd
theorem Ev.builtin (W : WF K H mg mb) {x : Str} {pos : Pos} {v : Value} (e : nsIn K mainGlobals x = some none) (hv : bootBuiltins x = some v) (hn : x ≠ "__name__") (hx : env.kindOf x = some .globalImplicit) (hd : (x == ("__debug__" : Str)) = false) :
    Ev prog w H A env ρ (.Name x pos) (.val v) := by
  refine ⟨fun X s F Q E h => ?_⟩
  exact Name_function_global F.fn hx (loadGlobal_builtin (by rw [F.gl]; exact W.g.keeps F.base) (mg_none_of W.kin W.g e) (by rw [F.bl]; exact W.b.keeps F.base) ((W.builtins x hn).trans hv) (h _ _ kRfl (.val v))) hd

theorem Ev.intC {i : Int} {k : Nat} {pos : Pos} : Ev prog w H A env ρ (.Constant (.int i) k pos) (.int i) := ⟨fun _ s _ _ _ h => wpAny_Constant_int (h _ _ (kTok s _) (.int _ _))⟩
theorem Ev.strC {x : Str} {k : Nat} {pos : Pos} : Ev prog w H A env ρ (.Constant (.str x) k pos) (.str x) := ⟨fun _ s _ _ _ h => Constant_str (h _ _ (kTok s _) (.str _ _))⟩
theorem Ev.noneC {k : Nat} {pos : Pos} : Ev prog w H A env ρ (.Constant .none k pos) .none := ⟨fun _ _ _ _ _ h => wpAny_Constant_none (h _ _ kRfl .none)⟩
theorem Ev.boolC {b : Bool} {k : Nat} {pos : Pos} : Ev prog w H A env ρ (.Constant (.bool b) k pos) (.bool b) := ⟨fun _ _ _ _ _ h => wpAny_Constant_bool (h _ _ kRfl (.bool b))⟩

theorem Ev.two {a b : Expr} {f : Value → Value → Sem Value} (ha : Ev prog w H A env ρ a d1) (hb : Ev prog w H A env ρ b d2) (ho : OpG prog w H A f d1 d2 d) (F : FS H X env ρ s.heap) {Q : Value → Shared → Prop} {E : Value → Shared → Prop}
    (h : ∀ v s', Keeps s s' → Rd X s'.heap v d → Q v s') :
    wpAny (model prog w) A (eval a env) (fun x s₁ => wpAny (model prog w) A (eval b env) (fun y s₂ => wpAny (model prog w) A (f x y) Q E s₂) E s₁) E s :=
  ha.run X s F _ _ fun x s₁ k₁ r₁ => hb.run X s₁ (F.keeps k₁) _ _ fun y s₂ k₂ r₂ => ho.run X s₂ x y (F.keeps (kTrans k₁ k₂)).wd (r₁.keeps k₂) r₂ _ _ fun v s₃ k₃ r₃ => h v s₃ (kTrans (kTrans k₁ k₂) k₃) r₃

theorem Ev.binop {a b : Expr} {op : Operator} {pos : Pos} (ha : Ev prog w H A env ρ a d1) (hb : Ev prog w H A env ρ b d2) (ho : OpG prog w H A (binaryOp op) d1 d2 d) : Ev prog w H A env ρ (.BinOp a op b pos) d := ⟨fun _ _ F _ _ h => wpAny_BinOp (Ev.two ha hb ho F h)⟩

theorem Ev.compare {a b : Expr} {op : CmpOp} {pos : Pos} (ha : Ev prog w H A env ρ a d1) (hb : Ev prog w H A env ρ b d2) (ho : OpG prog w H A (compareOp op) d1 d2 d) (hm : behindInMarks op b = false) : Ev prog w H A env ρ (.Compare a [op] [b] pos) d := ⟨fun _ _ F _ _ h => wpAny_Compare1 (Ev.two ha hb ho F h) hm⟩
end
end Mine
end

noncomputable section
open PySem PySem.W PySem.Calls PyProof.Rows PySem.Spec
namespace Mine
open PySem.SeqAt

theorem Rd.newList {H : Heap} {X : AS} {s : Shared} {vs : List Value} {ds : List D} (W : Wd H X s.heap) (r : RdL X s.heap vs ds) {o : Obj} (ho : o = { cls := .type "list", data := .seq vs.toArray }) :
    Rd X (s.heap.push o) (.ref s.heap.objs.size) (.list ds) := by
  subst ho
  refine .list W.fresh ⟨0, Heap.get?_push_size _ rfl⟩ (r.mono fun a o hx e => ⟨hx, Heap.get?_push_of_some _ e⟩)
theorem Rd.newListA {H : Heap} {X : AS} {h : Heap} {items : Array Value} {ds : List D} (W : Wd H X h) (r : RdL X h items.toList ds) :
    Rd X (h.push { cls := .type "list", data := .seq items }) (.ref h.objs.size) (.list ds) := by
  refine .list (vs := items.toList) W.fresh ⟨0, ?_⟩ (r.mono fun a o hx e => ⟨hx, Heap.get?_push_of_some _ e⟩)
  rw [Array.toArray_toList]
  exact Heap.get?_push_size _ rfl
theorem Rd.newTuple {H : Heap} {X : AS} {s : Shared} {vs : List Value} {ds : List D} (W : Wd H X s.heap) (r : RdL X s.heap vs ds) {o : Obj} (ho : o = { cls := .type "tuple", data := .seq vs.toArray }) :
    Rd X (s.heap.push o) (.ref s.heap.objs.size) (.tuple ds) := by
  subst ho
  refine .tuple (n := 0) W.fresh (Heap.get?_push_size _ rfl) (r.mono fun a o hx e => ⟨hx, Heap.get?_push_of_some _ e⟩)
section
variable {prog : Program} {w : World} {H : Heap} {A : Around} {X : AS} {s : Shared}

theorem op_add {a b : Int} : OpG prog w H A (binaryOp .Add) (.int a) (.int b) (.int (a + b)) := by
  refine ⟨fun _ s _ _ _ r1 r2 _ _ h => ?_⟩
  obtain ⟨_, rfl⟩ := r1.inv; obtain ⟨_, rfl⟩ := r2.inv; exact PyProof.Rows.add_int (h _ _ (kTok s _) (.int _ _))
theorem op_sub {a b : Int} : OpG prog w H A (binaryOp .Sub) (.int a) (.int b) (.int (a - b)) := by
  refine ⟨fun _ s _ _ _ r1 r2 _ _ h => ?_⟩
  obtain ⟨_, rfl⟩ := r1.inv; obtain ⟨_, rfl⟩ := r2.inv; exact PyProof.Rows.sub_int (h _ _ (kTok s _) (.int _ _))
theorem op_mod {a b : Int} (hb : b ≠ 0) : OpG prog w H A (binaryOp .Mod) (.int a) (.int b) (.int (a.fmod b)) := by
  refine ⟨fun _ s _ _ _ r1 r2 _ _ h => ?_⟩
  obtain ⟨_, rfl⟩ := r1.inv; obtain ⟨_, rfl⟩ := r2.inv; exact PyProof.Rows.mod_int hb (h _ _ (kTok s _) (.int _ _))
theorem op_fdiv {a b : Int} (hb : b ≠ 0) (hs : b.natAbs < 1073741824) : OpG prog w H A (binaryOp .FloorDiv) (.int a) (.int b) (.int (a.fdiv b)) := by
  refine ⟨fun _ s _ _ _ r1 r2 _ _ h => ?_⟩
  obtain ⟨_, rfl⟩ := r1.inv; obtain ⟨_, rfl⟩ := r2.inv; exact PyProof.Rows.floordiv_int hb (h _ _ (kTok s _) (.int _ _)) (Or.inl (PyProof.noPylong_small hs))
theorem op_mul {a b : Int} (hm : IntMulOk a b) : OpG prog w H A (binaryOp .Mult) (.int a) (.int b) (.int (a * b)) := by
  refine ⟨fun _ s _ _ _ r1 r2 _ _ h => ?_⟩
  obtain ⟨_, rfl⟩ := r1.inv; obtain ⟨_, rfl⟩ := r2.inv; exact PyProof.Rows.mul_int (h _ _ (kTok s _) (.int _ _)) hm
theorem op_pow {a b : Int} (hn : 0 ≤ b) (hsz : (Builtin.Int.intBits a : Int) * b ≤ 2 ^ 27) : OpG prog w H A (binaryOp .Pow) (.int a) (.int b) (.int (a ^ b.toNat)) := by
  refine ⟨fun _ s _ _ _ r1 r2 _ _ h => ?_⟩
  obtain ⟨_, rfl⟩ := r1.inv; obtain ⟨_, rfl⟩ := r2.inv; exact PyProof.Rows.pow_int hn hsz (h _ _ (kTok s _) (.int _ _))
theorem op_and {a b : Int} : OpG prog w H A (binaryOp .BitAnd) (.int a) (.int b) (.int (Builtin.bitAnd a b)) := by
  refine ⟨fun _ s _ _ _ r1 r2 _ _ h => ?_⟩
  obtain ⟨_, rfl⟩ := r1.inv; obtain ⟨_, rfl⟩ := r2.inv; exact PyProof.Rows.and_int (h _ _ (kTok s _) (.int _ _))
theorem op_or {a b : Int} : OpG prog w H A (binaryOp .BitOr) (.int a) (.int b) (.int (Builtin.bitOr a b)) := by
  refine ⟨fun _ s _ _ _ r1 r2 _ _ h => ?_⟩
  obtain ⟨_, rfl⟩ := r1.inv; obtain ⟨_, rfl⟩ := r2.inv; exact PyProof.Rows.or_int (h _ _ (kTok s _) (.int _ _))
theorem op_shr {a b : Int} (hn : 0 ≤ b) : OpG prog w H A (binaryOp .RShift) (.int a) (.int b) (.int (a.fdiv (2 ^ b.toNat))) := by
  refine ⟨fun _ s _ _ _ r1 r2 _ _ h => ?_⟩
  obtain ⟨_, rfl⟩ := r1.inv; obtain ⟨_, rfl⟩ := r2.inv; exact PyProof.Rows.rshift_int hn (h _ _ (kTok s _) (.int _ _))
theorem op_shl {a b : Int} (hn : 0 ≤ b) (hsz : (Builtin.Int.intBits a : Int) + b ≤ 2 ^ 27) : OpG prog w H A (binaryOp .LShift) (.int a) (.int b) (.int (a * 2 ^ b.toNat)) := by
  refine ⟨fun _ s _ _ _ r1 r2 _ _ h => ?_⟩
  obtain ⟨_, rfl⟩ := r1.inv; obtain ⟨_, rfl⟩ := r2.inv; exact PyProof.Rows.lshift_int hn hsz (h _ _ (kTok s _) (.int _ _))

theorem op_addL {a b : List D} (hsz : a.length + b.length ≤ sizeLine) : OpG prog w H A (binaryOp .Add) (.list a) (.list b) (.list (a ++ b)) := by
  refine ⟨fun X s v1 v2 W r1 r2 Q E h => ?_⟩
  obtain ⟨l, vs, rfl, hx, hp, hl⟩ := r1.inv
  obtain ⟨l', ws, rfl, hx', hp', hl'⟩ := r2.inv
  obtain ⟨n, e⟩ := hp
  obtain ⟨n', e'⟩ := hp'
  refine P.add_list e e' (h _ _ (kPush s _) (Rd.newList W (hl.append hl') (by simp))) ?_
  have h1 := hl.length
  have h2 := hl'.length
  simp only [List.size_toArray]; omega
theorem op_addS {a b : Str} (hsz : a.length + b.length ≤ sizeLine) : OpG prog w H A (binaryOp .Add) (.str a) (.str b) (.str (a ++ b)) := by
  refine ⟨fun X s v1 v2 W r1 r2 Q E h => ?_⟩
  obtain ⟨_, rfl⟩ := r1.inv; obtain ⟨_, rfl⟩ := r2.inv
  exact PyProof.Rows.add_str (fun t' tk => h _ _ (kTok s _) (.str _ _)) hsz

theorem op_mulL {a : List D} {k : Int} (hlo : -(2 ^ 63 : Int) ≤ k) (hhi : k < 2 ^ 63) (hsz : a.length * k.toNat ≤ 256) : OpG prog w H A (binaryOp .Mult) (.list a) (.int k) (.list (List.replicate k.toNat a).flatten) := by
  refine ⟨fun X s v1 v2 W r1 r2 Q E h => ?_⟩
  obtain ⟨l, vs, rfl, hx, hp, hl⟩ := r1.inv
  obtain ⟨u, rfl⟩ := r2.inv
  obtain ⟨n, ho⟩ := hp
  have hlen := hl.length
  have hsz' : vs.toArray.size * k.toNat ≤ 256 := by simpa [hlen] using hsz
  refine wpAny_binaryOp_repeat_ref (T := "list") (U := "int") (by decide) ⟨_, ho, rfl⟩ (fun s' => typeIs_int s' k u) noFill_list_mul F.fills_int_mul F.slot_int_rmul repeat_list F.slot_int_index.lookup
    (call_meets F.slot_int_rmul (typeIs_int s k u) F.entry_int_rmul (F.args_int_rmul_2 _ _) (lm_int_rmul_list_any k u l vs.toArray n none #[])
      ⟨ho, rfl, ⟨_, ho, rfl⟩, call_meets F.slot_list_mul ⟨_, ho, rfl⟩ F.entry_list_mul (F.args_list_mul_2 _ _)
        (lm_list_mul_any l vs.toArray n none #[] k u (by simp [Builtin.List.listFitsIndex]; omega) (by omega) (by simp only [Builtin.List.listTooLong, sizeLine]; simp; simp at hsz'; omega))
        ⟨ho, ?_⟩⟩)
  rw [listMul_foldl_if]
  refine h _ _ (kPush s _) (Rd.newList W ?_ rfl)
  have hl2 := hl
  clear h
  induction k.toNat with
  | zero => exact .nil
  | succ m ih => rw [List.replicate_succ, List.replicate_succ, List.flatten_cons, List.flatten_cons]; exact hl.append ih

theorem RdL.take {X : AS} {h : Heap} : ∀ {vs : List Value} {ds : List D}, RdL X h vs ds → ∀ n, RdL X h (vs.take n) (ds.take n)
  | _, _, .nil, n => by simp; exact .nil
  | _, _, .cons a r, 0 => .nil
  | _, _, .cons a r, n + 1 => .cons a (RdL.take r n)
theorem RdL.drop {X : AS} {h : Heap} : ∀ {vs : List Value} {ds : List D}, RdL X h vs ds → ∀ n, RdL X h (vs.drop n) (ds.drop n)
  | _, _, .nil, n => by simp; exact .nil
  | _, _, .cons a r, 0 => .cons a r
  | _, _, .cons a r, n + 1 => RdL.drop r n
theorem RdL.reverse {X : AS} {h : Heap} : ∀ {vs : List Value} {ds : List D}, RdL X h vs ds → RdL X h vs.reverse ds.reverse
  | _, _, .nil => .nil
  | _, _, .cons a r => by rw [List.reverse_cons, List.reverse_cons]; exact RdL.append (RdL.reverse r) (.cons a .nil)

/-- what a slice's part gives -/
def PartEv (prog : Program) (w : World) (H : Heap) (A : Around) (env : Env) (ρ : Rho) : Option Expr → Option Int → Prop
  | none, i => i = none
  | some e, i => ∃ k, i = some k ∧ Ev prog w H A env ρ e (.int k)

theorem PartEv.run {env : Env} {ρ : Rho} {e : Option Expr} {i : Option Int} (p : PartEv prog w H A env ρ e i) (F : FS H X env ρ s.heap) {Q : Value → Shared → Prop} {E : Value → Shared → Prop}
    (h : ∀ v s', Keeps s s' → IsPart v i → (∃ l : Option (Int × Tok), v = partValue l ∧ l.map (·.1) = i) → Q v s') : wpAny (model prog w) A (evalPart e env) Q E s := by
  cases e with
  | none => cases p; exact wpAny_evalPart_none (h _ _ kRfl .none ⟨none, rfl, rfl⟩)
  | some e =>
    obtain ⟨k, rfl, hk⟩ := p
    refine wpAny_evalPart_some (hk.run X s F _ _ fun v s' k' r => ?_)
    obtain ⟨t, rfl⟩ := r.inv; exact h _ _ k' (.int k t) ⟨some (k, t), rfl, rfl⟩

section
variable {env : Env} {ρ : Rho} {value lower upper : Expr}

theorem pick_dat {s : Shared} {vs : List Value} {ds : List D} {lo hi st : Option Int} (r : RdL X s.heap vs ds) (n : Nat) :
    (lo = none → hi = some (n : Int) → st = none → RdL X s.heap (slicePick vs.toArray lo hi st).toList (ds.take n)) ∧
    (lo = some (n : Int) → hi = none → st = none → RdL X s.heap (slicePick vs.toArray lo hi st).toList (ds.drop n)) ∧
    (lo = none → hi = none → st = some (-1) → RdL X s.heap (slicePick vs.toArray lo hi st).toList ds.reverse) := by
  refine ⟨?_, ?_, ?_⟩
  · rintro rfl rfl rfl; rw [slicePick_upto']; exact r.take n
  · rintro rfl rfl rfl; rw [slicePick_from']; exact r.drop n
  · rintro rfl rfl rfl; rw [krv_pick]; exact r.reverse

theorem Ev.sliceCore {ds es : List D} {lo hi st : Option Int} {el eu es' : Option Expr} {p pos : Pos} (hv : Ev prog w H A env ρ value (.list ds)) (hl : PartEv prog w H A env ρ el lo) (hu : PartEv prog w H A env ρ eu hi)
    (hs : PartEv prog w H A env ρ es' st) (h0 : st ≠ some 0) (hsz : ds.length ≤ sizeLine)
    (hp : ∀ X (s : Shared) vs, RdL X s.heap vs ds → RdL X s.heap (slicePick vs.toArray lo hi st).toList es) : Ev prog w H A env ρ (.Subscript value (.Slice el eu es' p) pos) (.list es) := by
  refine ⟨fun X s F Q E h => ?_⟩
  refine Subscript_ (hv.run X s F _ _ fun v s₁ k₁ r₁ => wpAny_Slice (hl.run (F.keeps k₁) fun vl s₂ k₂ pl _ => hu.run (F.keeps (kTrans k₁ k₂)) fun vu s₃ k₃ pu _ => hs.run (F.keeps (kTrans (kTrans k₁ k₂) k₃)) fun vs' s₄ k₄ ps _ => ?_))
  have kk := kTrans (kTrans (kTrans k₁ k₂) k₃) k₄
  have r₄ := r₁.keeps (kTrans (kTrans k₂ k₃) k₄)
  obtain ⟨l, vs, rfl, hx, hpl, hl'⟩ := r₄.inv
  have hsz' : vs.toArray.size ≤ sizeLine := by rw [List.size_toArray, hl'.length]; exact hsz
  have kp : Keeps s₄ { s₄ with heap := s₄.heap.push { cls := .type "slice", data := .fields #[vl, vu, vs'] } } := kPush _ _
  have hil := hpl.isList.push { cls := .type "slice", data := .fields #[vl, vu, vs'] }
  have W' : Wd H X (s₄.heap.push { cls := .type "slice", data := .fields #[vl, vu, vs'] }) := ((F.keeps kk).wd).keeps kp
  have hfin := h _ _ (kTrans (kTrans kk kp) (kPush _ { cls := .type "list", data := .seq (slicePick vs.toArray lo hi st) })) (Rd.newListA W' (hp X { s₄ with heap := s₄.heap.push { cls := .type "slice", data := .fields #[vl, vu, vs'] } } vs (hl'.keeps kp)))
  have hg := wpAny_getItem_list_slice (prog := prog) (w := w) (A := A) (E := E) (Q := Q) (s := { s₄ with heap := s₄.heap.push { cls := .type "slice", data := .fields #[vl, vu, vs'] } }) (l := l) (sl := s₄.heap.objs.size) (vl := vl) (vu := vu) (vs := vs') hil (Heap.IsSliceOf.new ..) pl pu ps h0 hfin hsz'
  cases es' with
  | none => exact tail_any (ops := [.ref s₄.heap.objs.size, .ref l]) hil.typeIs slot_list_getitem.lookup hg rfl
  | some e => exact tail_any (ops := [.ref l, .ref s₄.heap.objs.size]) hil.typeIs slot_list_getitem.lookup hg rfl

theorem Ev.take {ds : List D} {k : Int} {p pos : Pos} (hv : Ev prog w H A env ρ value (.list ds)) (hu : Ev prog w H A env ρ upper (.int k)) (h0 : 0 ≤ k) (hsz : ds.length ≤ sizeLine) :
    Ev prog w H A env ρ (.Subscript value (.Slice none (some upper) none p) pos) (.list (ds.take k.toNat)) :=
  Ev.sliceCore (lo := none) (hi := some k) (st := none) hv rfl ⟨k, rfl, hu⟩ rfl (by simp) hsz fun X s vs r => by
    have := (pick_dat (lo := none) (hi := some k) (st := none) r k.toNat).1 rfl (by rw [Int.toNat_of_nonneg h0]) rfl
    exact this
theorem Ev.dropL {ds : List D} {k : Int} {p pos : Pos} (hv : Ev prog w H A env ρ value (.list ds)) (hu : Ev prog w H A env ρ lower (.int k)) (h0 : 0 ≤ k) (hsz : ds.length ≤ sizeLine) :
    Ev prog w H A env ρ (.Subscript value (.Slice (some lower) none none p) pos) (.list (ds.drop k.toNat)) :=
  Ev.sliceCore (lo := some k) (hi := none) (st := none) hv ⟨k, rfl, hu⟩ rfl rfl (by simp) hsz fun X s vs r => by
    have := (pick_dat (lo := some k) (hi := none) (st := none) r k.toNat).2.1 (by rw [Int.toNat_of_nonneg h0]) rfl rfl
    exact this
theorem Ev.rev {ds : List D} {st : Expr} {p pos : Pos} (hv : Ev prog w H A env ρ value (.list ds)) (hu : Ev prog w H A env ρ st (.int (-1))) (hsz : ds.length ≤ sizeLine) :
    Ev prog w H A env ρ (.Subscript value (.Slice none none (some st) p) pos) (.list ds.reverse) :=
  Ev.sliceCore (lo := none) (hi := none) (st := some (-1)) hv rfl rfl ⟨-1, rfl, hu⟩ (by simp) hsz fun X s vs r => (pick_dat (lo := none) (hi := none) (st := some (-1)) r 0).2.2 rfl rfl rfl

theorem Ev.sliceS {x : Str} {lo hi : Option Int} {el eu : Option Expr} {p pos : Pos} (hv : Ev prog w H A env ρ value (.str x)) (hl : PartEv prog w H A env ρ el lo) (hu : PartEv prog w H A env ρ eu hi) (hsz : x.length ≤ sizeLine) :
    Ev prog w H A env ρ (.Subscript value (.Slice el eu none p) pos) (.str (Txt.slice x lo hi)) := by
  refine ⟨fun X s F Q E h => ?_⟩
  refine Subscript_ (hv.run X s F _ _ fun v s₁ k₁ r₁ => wpAny_Slice (hl.run (F.keeps k₁) fun vl s₂ k₂ _ pl => hu.run (F.keeps (kTrans k₁ k₂)) fun vu s₃ k₃ _ pu => wpAny_evalPart_none ?_))
  obtain ⟨t, rfl⟩ := r₁.inv
  obtain ⟨l, rfl, hl1⟩ := pl
  obtain ⟨u, rfl, hu1⟩ := pu
  have kk := kTrans (kTrans k₁ k₂) k₃
  refine tail_any (ops := [.ref s₃.heap.objs.size, .str x t]) (show Shared.TypeIs _ (.str x t) "str" from rfl) PySem.F.slot_str_getitem.lookup (wpAny_getItem_str_slice (l := l) (u := u) (st := none) ⟨_, Heap.get?_push_size _ rfl, rfl, rfl⟩ rfl ?_) rfl
  unfold sliceMade
  have e1 : ((Option.none : Option (Int × Tok)).map (·.1)).getD 1 = 1 := rfl
  unfold slicePicked
  rw [hl1, hu1, e1]
  by_cases c : ((1 : Int) == 1 && (Builtin.Str.strSliceIndices lo hi 1 x.length).length == x.length) = true
  · rw [if_pos c]
    have e : Txt.slice x lo hi = x := by unfold Txt.slice; rw [if_pos c]
    rw [e] at h
    exact h _ _ (kTrans kk (kPush _ _)) (.str _ _)
  · rw [if_neg c]
    have e : Txt.slice x lo hi = ⟨((Builtin.Str.strSliceIndices lo hi 1 x.length).filterMap (x.cps[·]?)).toArray⟩ := by unfold Txt.slice; rw [if_neg c]
    rw [e] at h
    refine ⟨?_, h _ _ (kTrans (kTrans kk (kPush _ _)) (kTok _ _)) (.str _ _)⟩
    refine Nat.le_trans ?_ hsz
    show (List.toArray _).size ≤ _
    rw [List.size_toArray]
    exact Nat.le_trans (List.length_filterMap_le _ _) (sliceIndices_le _ _ _)
end
end
end Mine
end

noncomputable section
open PySem PySem.W PySem.Calls PyProof.Rows PySem.Spec
namespace Mine
open PySem.SeqAt

section
variable {prog : Program} {w : World} {H : Heap} {A : Around} {X : AS} {s : Shared} {env : Env} {ρ : Rho} {value slice : Expr}

/-- a subscript that is no slice -/
structure ItemG (prog : Program) (w : World) (H : Heap) (A : Around) (value slice : Expr) (d1 d2 d : D) : Prop where
  run : ∀ X s v1 v2, Wd H X s.heap → Rd X s.heap v1 d1 → Rd X s.heap v2 d2 → Gv prog w A X s (subscriptTail value slice v1 v2) d

theorem Ev.item {d1 d2 d : D} {pos : Pos} (hv : Ev prog w H A env ρ value d1) (hi : Ev prog w H A env ρ slice d2) (ho : ItemG prog w H A value slice d1 d2 d) : Ev prog w H A env ρ (.Subscript value slice pos) d := ⟨fun _ _ F _ _ h => Subscript_ (Ev.two hv hi ⟨ho.run⟩ F h)⟩

def NoSlice (slice : Expr) : Prop := ∀ o i, subscripted slice false o i = operate [o, i] (getItem o i)

theorem item_list {ds : List D} {d : D} {k : Int} (hs : NoSlice slice) (h0 : 0 ≤ k) (hk : k < 2 ^ 63) (hd : ds[k.toNat]? = some d) : ItemG prog w H A value slice (.list ds) (.int k) d := by
  refine ⟨fun X s v1 v2 W r1 r2 Q E h => ?_⟩
  obtain ⟨l, vs, rfl, hx, hp, hl⟩ := r1.inv
  obtain ⟨u, rfl⟩ := r2.inv
  obtain ⟨v, hv, r⟩ := hl.get hd
  exact tail_any hp.isList.typeIs slot_list_getitem.lookup (wpAny_getItem_list hp.isList h0 hk (by simpa using hv) (h _ _ kRfl r)) (hs _ _)
theorem item_tuple {ds : List D} {d : D} {k : Int} (hs : NoSlice slice) (h0 : 0 ≤ k) (hk : k < 2 ^ 63) (hd : ds[k.toNat]? = some d) : ItemG prog w H A value slice (.tuple ds) (.int k) d := by
  refine ⟨fun X s v1 v2 W r1 r2 Q E h => ?_⟩
  obtain ⟨l, n, vs, rfl, hx, hp, hl⟩ := r1.inv
  obtain ⟨u, rfl⟩ := r2.inv
  obtain ⟨v, hv, r⟩ := hl.get hd
  have ht : IsTup s.heap l vs.toArray := ⟨_, hp, rfl, n, rfl⟩
  have hlt : k.toNat < vs.length := (List.getElem?_eq_some_iff.mp hv).1
  refine tail_any ht.typeIs PyProof.Rows.slot_tuple_getitem.lookup (getItem_tuple ht (by omega) hk (j := k.toNat) ?_ (by simpa using hv) (h _ _ kRfl r)) (hs _ _)
  have e : seqIndex? k vs.length = some k.toNat := by
    unfold seqIndex?
    simp; omega
  simpa using e
theorem item_bytes {b : Array UInt8} {k : Int} (hs : NoSlice slice) (h0 : 0 ≤ k) (hk : k < b.size) (hz : b.size ≤ 1000000) : ItemG prog w H A value slice (.bytes b) (.int k) (.int (b.toList.getD k.toNat 0).toNat) := by
  refine ⟨fun X s v1 v2 W r1 r2 Q E h => ?_⟩
  obtain ⟨t, rfl⟩ := r1.inv
  obtain ⟨u, rfl⟩ := r2.inv
  have g := getItem_bytes (prog := prog) (w := w) (A := A) (E := E) (Q := Q) (s := s) (t := t) (u := u) (l := b.toList) (i := k) (by simp; omega) h0 (by simpa using hk) (h _ _ (kTok _ _) (.int _ _))
  rw [Array.toArray_toList] at g
  exact tail_any (show Shared.TypeIs _ (.bytes b t) "bytes" from rfl) PySem.W.FB.slot_bytes_getitem.lookup g (hs _ _)
theorem item_str {x : Str} {k : Int} {c : Nat} (hs : NoSlice slice) (h0 : 0 ≤ k) (hk : k < 2 ^ 63) (hc : x.cps[k.toNat]? = some c) : ItemG prog w H A value slice (.str x) (.int k) (.str ⟨#[c]⟩) := by
  refine ⟨fun X s v1 v2 W r1 r2 Q E h => ?_⟩
  obtain ⟨t, rfl⟩ := r1.inv
  obtain ⟨u, rfl⟩ := r2.inv
  have hlt : k.toNat < x.cps.size := (Array.getElem?_eq_some_iff.mp hc).1
  refine tail_any (show Shared.TypeIs _ (.str x t) "str" from rfl) PySem.F.slot_str_getitem.lookup (PyProof.Rows.getItem_str (by simp; omega) ?_ (h _ _ (kTok _ _) (.str _ _))) (hs _ _)
  have e : seqIndex? k x.length = some k.toNat := by
    unfold seqIndex?
    show (if _ then _ else _) = _
    have : x.length = x.cps.size := rfl
    simp; omega
  rw [e]; exact hc

theorem allTrue {α : Type} (l : List α) : (l.all fun _ => true) = true := List.all_eq_true.mpr fun _ _ => rfl
/- the same datum is equal -/
mutual
noncomputable def D.dep : D → Nat
  | .list l => D.depL l + 1
  | .tuple l => D.depL l + 1
  | _ => 0
noncomputable def D.depL : List D → Nat
  | [] => 0
  | d :: l => max d.dep (D.depL l)
end
mutual
noncomputable def D.eqOk : D → Bool
  | .none | .bool _ | .int _ | .str _ | .bytes _ => true
  | .list l => D.eqOkL l
  | .tuple l => D.eqOkL l
  | _ => false
noncomputable def D.eqOkL : List D → Bool
  | [] => true
  | d :: l => d.eqOk && D.eqOkL l
end

theorem eqAt_bytes (b c : Array UInt8) (t u : Tok) : EqAt A s (.bytes b t) (.bytes c u) (decide (b.toList = c.toList)) := fun _ _ _ _ h => eqBool_bytes h

mutual
theorem eqAt_same : ∀ (d : D) (A : Around) {v1 v2 : Value}, d.eqOk = true → A.units + d.dep < cLine → Rd X s.heap v1 d → Rd X s.heap v2 d → EqAt A s v1 v2 true
  | .none, A, _, _, _, _, r1, r2 => by cases r1; cases r2; exact EqAt.same _
  | .bool b, A, _, _, _, _, r1, r2 => by cases r1; cases r2; exact EqAt.same _
  | .int i, A, _, _, _, _, r1, r2 => by
    obtain ⟨t, rfl⟩ := r1.inv; obtain ⟨u, rfl⟩ := r2.inv; have := EqAt.int_int (A := A) (s := s) i t i u; simpa using this
  | .str x, A, _, _, _, _, r1, r2 => by
    obtain ⟨t, rfl⟩ := r1.inv; obtain ⟨u, rfl⟩ := r2.inv; have := EqAt.str_str (A := A) (s := s) x t x u; simpa using this
  | .bytes b, A, _, _, _, _, r1, r2 => by
    obtain ⟨t, rfl⟩ := r1.inv; obtain ⟨u, rfl⟩ := r2.inv; have := eqAt_bytes (A := A) (s := s) b b t u; simpa using this
  | .list ds, A, _, _, ok, hu, r1, r2 => by
    obtain ⟨l, vs, rfl, hx, hp, hl⟩ := r1.inv; obtain ⟨l', vs', rfl, hx', hp', hl'⟩ := r2.inv
    by_cases e : l = l'
    · subst e; exact EqAt.same _
    · have n1 := hl.length
      have n2 := hl'.length
      have hu' : A.units + (D.depL ds + 1) < cLine := hu
      have q := RcAt.lists (A := A) (e := fun _ => true) hp.isList hp'.isList (by simp; omega) (by omega) fun j h1 h2 => eqAt_sameL ds A.in1 ok (by show A.units + 1 + _ < _; omega) hl hl' j (by simpa using h1) (by simpa using h2)
      exact EqAt.of_refs e (by simpa [allTrue] using q)
  | .tuple ds, A, _, _, ok, hu, r1, r2 => by
    obtain ⟨l, n, vs, rfl, hx, hp, hl⟩ := r1.inv; obtain ⟨l', n', vs', rfl, hx', hp', hl'⟩ := r2.inv
    by_cases e : l = l'
    · subst e; exact EqAt.same _
    · have n1 := hl.length
      have n2 := hl'.length
      have hu' : A.units + (D.depL ds + 1) < cLine := hu
      have q := RcAt.tuples (A := A) (e := fun _ => true) (s := s) (l := l) (b := l') (items := vs.toArray) (items2 := vs'.toArray) ⟨_, hp, rfl, n, rfl⟩ ⟨_, hp', rfl, n', rfl⟩ (by omega) fun j h1 h2 => eqAt_sameL ds A.in1 ok (by show A.units + 1 + _ < _; omega) hl hl' j (by simpa using h1) (by simpa using h2)
      refine EqAt.of_refs e ?_
      have : vs.length = vs'.length := by omega
      simpa [this, allTrue] using q
  | .ent .., _, _, _, ok, _, _, _ => by simp [D.eqOk] at ok
  | .val .., _, _, _, ok, _, _, _ => by simp [D.eqOk] at ok
theorem eqAt_sameL : ∀ (ds : List D) (A : Around) {vs ws : List Value}, D.eqOkL ds = true → A.units + D.depL ds < cLine → RdL X s.heap vs ds → RdL X s.heap ws ds → ∀ j (h1 : j < vs.length) (h2 : j < ws.length), EqAt A s vs[j] ws[j] true
  | [], _, _, _, _, _, r1, _ => by cases r1; intro j h1; exact absurd h1 (Nat.not_lt_zero _)
  | d :: ds, A, _, _, ok, hu, r1, r2 => by
    obtain ⟨_, _, rfl, a, b⟩ := r1.inv; obtain ⟨_, _, rfl, a', b'⟩ := r2.inv
    have ok' : d.eqOk = true ∧ D.eqOkL ds = true := by simpa [D.eqOkL] using ok
    have hu' : A.units + max d.dep (D.depL ds) < cLine := hu
    have m1 := Nat.le_max_left d.dep (D.depL ds)
    have m2 := Nat.le_max_right d.dep (D.depL ds)
    intro j h1 h2
    cases j with
    | zero => exact eqAt_same d A ok'.1 (by omega) a a'
    | succ j => exact eqAt_sameL ds A ok'.2 (by omega) b b' j (Nat.lt_of_succ_lt_succ h1) (Nat.lt_of_succ_lt_succ h2)
end

theorem rcAt_same (d : D) {v1 v2 : Value} (hseq : (∃ l, d = .list l) ∨ ∃ l, d = .tuple l) (ok : d.eqOk = true) (hu : A.units + d.dep < cLine) (r1 : Rd X s.heap v1 d) (r2 : Rd X s.heap v2 d) : RcAt A s v1 v2 true := by
  rcases hseq with ⟨ds, rfl⟩ | ⟨ds, rfl⟩
  · obtain ⟨l, vs, rfl, hx, hp, hl⟩ := r1.inv; obtain ⟨l', vs', rfl, hx', hp', hl'⟩ := r2.inv
    have n1 := hl.length
    have n2 := hl'.length
    have hu' : A.units + (D.depL ds + 1) < cLine := hu
    have q := RcAt.lists (A := A) (e := fun _ => true) hp.isList hp'.isList (by simp; omega) (by omega) fun j h1 h2 => eqAt_sameL ds A.in1 ok (by show A.units + 1 + _ < _; omega) hl hl' j (by simpa using h1) (by simpa using h2)
    simpa [allTrue] using q
  · obtain ⟨l, n, vs, rfl, hx, hp, hl⟩ := r1.inv; obtain ⟨l', n', vs', rfl, hx', hp', hl'⟩ := r2.inv
    have n1 := hl.length
    have n2 := hl'.length
    have hu' : A.units + (D.depL ds + 1) < cLine := hu
    have q := RcAt.tuples (A := A) (e := fun _ => true) (s := s) (l := l) (b := l') (items := vs.toArray) (items2 := vs'.toArray) ⟨_, hp, rfl, n, rfl⟩ ⟨_, hp', rfl, n', rfl⟩ (by omega) fun j h1 h2 => eqAt_sameL ds A.in1 ok (by show A.units + 1 + _ < _; omega) hl hl' j (by simpa using h1) (by simpa using h2)
    have : vs.length = vs'.length := by omega
    simpa [this, allTrue] using q

end
end Mine
end

noncomputable section
open PySem PySem.W PySem.Calls PyProof.Rows PySem.Spec
namespace Mine
open PySem.SeqAt

abbrev dS (xs : List Str) : List D := xs.map D.str
abbrev dB (xs : List (Array UInt8)) : List D := xs.map D.bytes
abbrev dI (xs : List Int) : List D := xs.map D.int

section
variable {prog : Program} {w : World} {H : Heap} {A : Around} {X : AS} {s : Shared} {env : Env} {ρ : Rho} {value slice : Expr}

theorem rdl_strs {h : Heap} : ∀ {xs : List Str} {vs : List Value}, RdL X h vs (dS xs) → StrsAre vs xs
  | [], _, r => by cases r; exact .nil
  | x :: xs, _, r => by
    obtain ⟨_, _, rfl, a, b⟩ := r.inv; obtain ⟨t, rfl⟩ := a.inv; exact .cons _ t (rdl_strs b)
theorem rdl_ints {h : Heap} : ∀ {xs : List Int} {vs : List Value}, RdL X h vs (dI xs) → IntsAre vs xs
  | [], _, r => by cases r; exact .nil
  | x :: xs, _, r => by
    obtain ⟨_, _, rfl, a, b⟩ := r.inv; obtain ⟨t, rfl⟩ := a.inv; exact .cons _ t (rdl_ints b)
theorem rdl_mem {h : Heap} : ∀ {ds : List D} {vs : List Value}, RdL X h vs ds → ∀ y ∈ vs, ∃ d ∈ ds, Rd X h y d
  | _, _, .nil, y, hy => nomatch hy
  | _, _, .cons a b, y, hy => by
    rcases List.mem_cons.mp hy with rfl | hy
    · exact ⟨_, .head _, a⟩
    · obtain ⟨d, hd, r⟩ := rdl_mem b y hy; exact ⟨d, .tail _ hd, r⟩

theorem op_eqI {a b : Int} : OpG prog w H A (compareOp .Eq) (.int a) (.int b) (.bool (decide (a = b))) := by
  refine ⟨fun _ s _ _ _ r1 r2 _ _ h => ?_⟩
  obtain ⟨_, rfl⟩ := r1.inv; obtain ⟨_, rfl⟩ := r2.inv; exact PyProof.Rows.eq_int (by rw [show (a == b) = decide (a = b) from rfl]; exact h _ _ kRfl (.bool _))
theorem op_neI {a b : Int} : OpG prog w H A (compareOp .NotEq) (.int a) (.int b) (.bool (!decide (a = b))) := by
  refine ⟨fun _ s _ _ _ r1 r2 _ _ h => ?_⟩
  obtain ⟨_, rfl⟩ := r1.inv; obtain ⟨_, rfl⟩ := r2.inv; exact PyProof.Rows.ne_int (by rw [show (a != b) = !decide (a = b) from rfl]; exact h _ _ kRfl (.bool _))
theorem op_ltI {a b : Int} : OpG prog w H A (compareOp .Lt) (.int a) (.int b) (.bool (decide (a < b))) := by
  refine ⟨fun _ s _ _ _ r1 r2 _ _ h => ?_⟩
  obtain ⟨_, rfl⟩ := r1.inv; obtain ⟨_, rfl⟩ := r2.inv; exact PyProof.Rows.lt_int (h _ _ kRfl (.bool _))
theorem op_leI {a b : Int} : OpG prog w H A (compareOp .LtE) (.int a) (.int b) (.bool (decide (a ≤ b))) := by
  refine ⟨fun _ s _ _ _ r1 r2 _ _ h => ?_⟩
  obtain ⟨_, rfl⟩ := r1.inv; obtain ⟨_, rfl⟩ := r2.inv; exact PyProof.Rows.le_int (h _ _ kRfl (.bool _))
theorem op_gtI {a b : Int} : OpG prog w H A (compareOp .Gt) (.int a) (.int b) (.bool (decide (b < a))) := by
  refine ⟨fun _ s _ _ _ r1 r2 _ _ h => ?_⟩
  obtain ⟨_, rfl⟩ := r1.inv; obtain ⟨_, rfl⟩ := r2.inv; exact PyProof.Rows.gt_int (h _ _ kRfl (.bool _))
theorem op_geI {a b : Int} : OpG prog w H A (compareOp .GtE) (.int a) (.int b) (.bool (decide (b ≤ a))) := by
  refine ⟨fun _ s _ _ _ r1 r2 _ _ h => ?_⟩
  obtain ⟨_, rfl⟩ := r1.inv; obtain ⟨_, rfl⟩ := r2.inv; exact PyProof.Rows.ge_int (h _ _ kRfl (.bool _))
theorem op_eqS {a b : Str} : OpG prog w H A (compareOp .Eq) (.str a) (.str b) (.bool (a == b)) := by
  refine ⟨fun _ s _ _ _ r1 r2 _ _ h => ?_⟩
  obtain ⟨_, rfl⟩ := r1.inv; obtain ⟨_, rfl⟩ := r2.inv; exact PyProof.Rows.eq_str (h _ _ kRfl (.bool _))
theorem op_neS {a b : Str} : OpG prog w H A (compareOp .NotEq) (.str a) (.str b) (.bool (a != b)) := by
  refine ⟨fun _ s _ _ _ r1 r2 _ _ h => ?_⟩
  obtain ⟨_, rfl⟩ := r1.inv; obtain ⟨_, rfl⟩ := r2.inv; exact PyProof.Rows.ne_str (h _ _ kRfl (.bool _))
theorem op_ltS {a b : Str} : OpG prog w H A (compareOp .Lt) (.str a) (.str b) (.bool (decide (a.cps.toList < b.cps.toList))) := by
  refine ⟨fun _ s _ _ _ r1 r2 _ _ h => ?_⟩
  obtain ⟨_, rfl⟩ := r1.inv; obtain ⟨_, rfl⟩ := r2.inv; exact PyProof.Rows.lt_str (h _ _ kRfl (.bool _))
theorem op_gtS {a b : Str} : OpG prog w H A (compareOp .Gt) (.str a) (.str b) (.bool (decide (b.cps.toList < a.cps.toList))) := by
  refine ⟨fun _ s _ _ _ r1 r2 _ _ h => ?_⟩
  obtain ⟨_, rfl⟩ := r1.inv; obtain ⟨_, rfl⟩ := r2.inv; exact PySem.P.gt_str (h _ _ kRfl (.bool _))

theorem op_eqSame {d : D} (hseq : (∃ l, d = .list l) ∨ ∃ l, d = .tuple l) (ok : d.eqOk = true) (hd : d.dep ≤ 8) {n : Nat} (R : Room A n) : OpG prog w H A (compareOp .Eq) d d (.bool true) := by
  refine ⟨fun X s v1 v2 _ r1 r2 Q E h => ?_⟩
  exact rcAt_same d hseq ok (by have := R.units; omega) r1 r2 prog w E Q (h _ _ kRfl (.bool _))

theorem rcNeAt_same (d : D) {v1 v2 : Value} (hseq : (∃ l, d = .list l) ∨ ∃ l, d = .tuple l) (ok : d.eqOk = true) (hu : A.units + d.dep < cLine) (r1 : Rd X s.heap v1 d) (r2 : Rd X s.heap v2 d) : RcNeAt A s v1 v2 false := by
  rcases hseq with ⟨ds, rfl⟩ | ⟨ds, rfl⟩
  · obtain ⟨l, vs, rfl, hx, hp, hl⟩ := r1.inv; obtain ⟨l', vs', rfl, hx', hp', hl'⟩ := r2.inv
    have n1 := hl.length
    have n2 := hl'.length
    have hu' : A.units + (D.depL ds + 1) < cLine := hu
    have q := RcNeAt.lists (A := A) (e := fun _ => true) hp.isList hp'.isList (by simp; omega) (by omega) fun j h1 h2 => eqAt_sameL ds A.in1 ok (by show A.units + 1 + _ < _; omega) hl hl' j (by simpa using h1) (by simpa using h2)
    simpa [allTrue] using q
  · obtain ⟨l, n, vs, rfl, hx, hp, hl⟩ := r1.inv; obtain ⟨l', n', vs', rfl, hx', hp', hl'⟩ := r2.inv
    have n1 := hl.length
    have n2 := hl'.length
    have hu' : A.units + (D.depL ds + 1) < cLine := hu
    have q := RcNeAt.tuples (A := A) (e := fun _ => true) (s := s) (l := l) (b := l') (items := vs.toArray) (items2 := vs'.toArray) ⟨_, hp, rfl, n, rfl⟩ ⟨_, hp', rfl, n', rfl⟩ (by omega) fun j h1 h2 => eqAt_sameL ds A.in1 ok (by show A.units + 1 + _ < _; omega) hl hl' j (by simpa using h1) (by simpa using h2)
    have : vs.length = vs'.length := by omega
    simpa [this, allTrue] using q

theorem op_neSame {d : D} (hseq : (∃ l, d = .list l) ∨ ∃ l, d = .tuple l) (ok : d.eqOk = true) (hd : d.dep ≤ 8) {n : Nat} (R : Room A n) : OpG prog w H A (compareOp .NotEq) d d (.bool false) := by
  refine ⟨fun X s v1 v2 _ r1 r2 Q E h => ?_⟩
  exact rcNeAt_same d hseq ok (by have := R.units; omega) r1 r2 prog w E Q (h _ _ kRfl (.bool _))
theorem op_neNil {ds : List D} {n : Nat} (R : Room A n) : OpG prog w H A (compareOp .NotEq) (.list ds) (.list []) (.bool (!ds.isEmpty)) := by
  refine ⟨fun X s v1 v2 _ r1 r2 Q E h => ?_⟩
  have hu := R.units
  obtain ⟨l, vs, rfl, hx, hp, hl⟩ := r1.inv; obtain ⟨l', vs', rfl, hx', hp', hl'⟩ := r2.inv
  cases hl'
  cases hl with
  | nil => exact RcNeAt.lists (A := A) (e := fun _ => true) hp.isList hp'.isList rfl (by omega) (fun j h1 => absurd h1 (Nat.not_lt_zero _)) prog w E Q (h _ _ kRfl (.bool _))
  | cons a b => exact RcNeAt.lists_lengths (A := A) hp.isList hp'.isList rfl (by omega) prog w E Q (h _ _ kRfl (.bool _))

theorem any_eq_mem {xs : List Str} {x : Str} : xs.any (· == x) = decide (x ∈ xs) := by
  rw [Bool.eq_iff_iff]; simp
theorem op_inS {x : Str} {xs : List Str} : OpG prog w H A (compareOp .In) (.str x) (.list (dS xs)) (.bool (decide (x ∈ xs))) := by
  refine ⟨fun X s v1 v2 _ r1 r2 Q E h => ?_⟩
  cases r1; obtain ⟨l, vs, rfl, hx, hp, hl⟩ := r2.inv
  exact in_list_strs hp.isList (rdl_strs hl) (by rw [any_eq_mem]; exact h _ _ kRfl (.bool _))
/-- a general membership by bytes -/
theorem bytes_any {xs : List (Array UInt8)} {x : Array UInt8} {vs : List Value} {h : Heap} (hl : RdL X h vs (dB xs)) :
    vs.toArray.any (fun v => match v with | .bytes b _ => decide (b.toList = x.toList) | _ => false) = decide (x ∈ xs) := by
  rw [List.any_toArray, Bool.eq_iff_iff]
  simp only [decide_eq_true_eq]
  induction xs generalizing vs with
  | nil => cases hl; simp
  | cons y xs ih =>
    obtain ⟨_, _, rfl, a, b⟩ := hl.inv; obtain ⟨t, rfl⟩ := a.inv
    rw [List.any_cons, Bool.or_eq_true, ih b, List.mem_cons]
    simp only [decide_eq_true_eq]
    constructor
    · rintro (q | q)
      · exact .inl (Array.toList_inj.mp q).symm
      · exact .inr q
    · rintro (q | q)
      · exact .inl (by rw [q])
      · exact .inr q
theorem bytes_at {xs : List (Array UInt8)} {x : Array UInt8} {t : Tok} {vs : List Value} {A : Around} (hl : RdL X s.heap vs (dB xs)) : ∀ y, y ∈ vs.toArray → EqAt A s y (.bytes x t) (match y with | .bytes b _ => decide (b.toList = x.toList) | _ => false) := by
  intro y hy
  obtain ⟨d, hd, r⟩ := rdl_mem hl y (by simpa using hy)
  obtain ⟨b, _, rfl⟩ := List.mem_map.mp hd
  obtain ⟨u, rfl⟩ := r.inv; exact eqAt_bytes _ _ _ _
theorem op_inB {x : Array UInt8} {xs : List (Array UInt8)} : OpG prog w H A (compareOp .In) (.bytes x) (.list (dB xs)) (.bool (decide (x ∈ xs))) := by
  refine ⟨fun X s v1 v2 _ r1 r2 Q E h => ?_⟩
  obtain ⟨t, rfl⟩ := r1.inv; obtain ⟨l, vs, rfl, hx, hp, hl⟩ := r2.inv
  exact in_listAt _ hp.isList (bytes_at hl) (by rw [bytes_any hl]; exact h _ _ kRfl (.bool _))
theorem strs_at {xs : List Str} {x : Str} {t : Tok} {vs : List Value} {A : Around} (hl : RdL X s.heap vs (dS xs)) : ∀ y, y ∈ vs.toArray → EqAt A s y (.str x t) (match y with | .str b _ => b == x | _ => false) := by
  intro y hy
  obtain ⟨d, hd, r⟩ := rdl_mem hl y (by simpa using hy)
  obtain ⟨b, _, rfl⟩ := List.mem_map.mp hd
  obtain ⟨u, rfl⟩ := r.inv; exact EqAt.str_str _ _ _ _
theorem strs_any {xs : List Str} {x : Str} {vs : List Value} {h : Heap} (hl : RdL X h vs (dS xs)) :
    vs.toArray.any (fun v => match v with | .str b _ => b == x | _ => false) = decide (x ∈ xs) := by
  rw [List.any_toArray, ← any_eq_mem]
  induction xs generalizing vs with
  | nil => cases hl; simp
  | cons y xs ih =>
    obtain ⟨_, _, rfl, a, b⟩ := hl.inv; obtain ⟨t, rfl⟩ := a.inv
    rw [List.any_cons, List.any_cons, ih b]
theorem op_notInS {x : Str} {xs : List Str} : OpG prog w H A (compareOp .NotIn) (.str x) (.list (dS xs)) (.bool (!decide (x ∈ xs))) := by
  refine ⟨fun X s v1 v2 _ r1 r2 Q E h => ?_⟩
  obtain ⟨t, rfl⟩ := r1.inv; obtain ⟨l, vs, rfl, hx, hp, hl⟩ := r2.inv
  exact notIn_listAt _ hp.isList (strs_at hl) (by rw [strs_any hl]; exact h _ _ kRfl (.bool _))
def hasSub (y x : Str) : Bool := !(Builtin.Str.occurrences x y 0 x.length 1).isEmpty
theorem op_inSub {y x : Str} : OpG prog w H A (compareOp .In) (.str y) (.str x) (.bool (hasSub y x)) := by
  refine ⟨fun _ s _ _ _ r1 r2 _ _ h => ?_⟩
  obtain ⟨_, rfl⟩ := r1.inv; obtain ⟨_, rfl⟩ := r2.inv; exact PyProof.Rows.in_str (h _ _ kRfl (.bool _))

def D.isNone : D → Bool
  | .none => true
  | _ => false
theorem op_isNone {d : D} (hd : ∀ v, d ≠ .val v) : OpG prog w H A (compareOp .Is) d .none (.bool d.isNone) := by
  refine ⟨fun _ s v _ _ r1 r2 _ _ h => ?_⟩
  cases r2
  refine is_none_gen ?_
  have e : (v == Value.none) = d.isNone := by
    cases r1 <;> first | rfl | exact absurd rfl (hd _)
  rw [e]; exact h _ _ kRfl (.bool _)
theorem op_isNotNone {d : D} (hd : ∀ v, d ≠ .val v) : OpG prog w H A (compareOp .IsNot) d .none (.bool (!d.isNone)) := by
  refine ⟨fun _ s v _ _ r1 r2 _ _ h => ?_⟩
  cases r2
  refine isnot_none_gen ?_
  have e : (v == Value.none) = d.isNone := by
    cases r1 <;> first | rfl | exact absurd rfl (hd _)
  rw [e]; exact h _ _ kRfl (.bool _)
end
end Mine
end

noncomputable section
open PySem PySem.W PySem.Calls PyProof.Rows PySem.Spec
namespace Mine
open PySem.SeqAt

noncomputable def noStar : List Expr → Bool
  | [] => true
  | .Starred .. :: _ => false
  | _ :: r => noStar r
def trees (es : List Expr) (env : Env) : List (Bool × Sem Value) := es.map fun e => (false, eval e env)
theorem star_trees (env : Env) (pos : Pos) : ∀ es : List Expr, noStar es = true → backTo pos (starEach es env) = trees es env
  | [], _ => rfl
  | e :: r, h => by
    have ih : noStar r = true → backTo pos (starEach r env) = trees r env := star_trees env pos r
    cases e <;> first
      | exact absurd h Bool.false_ne_true
      | exact congrArg ((false, _) :: ·) (ih h)
theorem trees_plain (env : Env) : ∀ es : List Expr, (trees es env).any (·.1) = false
  | [] => rfl
  | _ :: r => trees_plain env r

section
variable {prog : Program} {w : World} {H : Heap} {A : Around} {X : AS} {s : Shared} {env : Env} {ρ : Rho}

structure EvL (prog : Program) (w : World) (H : Heap) (A : Around) (env : Env) (ρ : Rho) (es : List Expr) (ds : List D) : Prop where
  run : ∀ X s, FS H X env ρ s.heap → ∀ (Q : List Value → Shared → Prop) (E : Value → Shared → Prop), (∀ vs s', Keeps s s' → RdL X s'.heap vs ds → Q vs s') → wpAny (model prog w) A (spliced (trees es env)) Q E s
theorem EvL.nil : EvL prog w H A env ρ [] [] := ⟨fun _ _ _ _ _ h => spliced_nil (h _ _ kRfl .nil)⟩
theorem EvL.cons {e : Expr} {es : List Expr} {d : D} {ds : List D} (a : Ev prog w H A env ρ e d) (b : EvL prog w H A env ρ es ds) : EvL prog w H A env ρ (e :: es) (d :: ds) := ⟨fun X s F _ _ h => spliced_cons (a.run X s F _ _ fun v s₁ k₁ r₁ => b.run X s₁ (F.keeps k₁) _ _ fun vs s₂ k₂ r₂ => h (v :: vs) s₂ (kTrans k₁ k₂) (.cons (r₁.keeps k₂) r₂))⟩

theorem Ev.list {es : List Expr} {ds : List D} {pos : Pos} (a : EvL prog w H A env ρ es ds) (hn : noStar es = true) (hz : ds.length ≤ 1000) : Ev prog w H A env ρ (.List es pos) (.list ds) := by
  refine ⟨fun X s F Q E h => ?_⟩
  refine List_ ?_
  rw [star_trees env pos es hn]
  refine a.run X s F _ _ fun vs s₁ k₁ r₁ => ?_
  have hl := r₁.length
  exact wpAny_newObj_type (h _ _ (kTrans k₁ (kPush _ _)) (Rd.newList (F.keeps k₁).wd r₁ rfl)) (by show vs.toArray.size ≤ sizeLine; rw [List.size_toArray, hl]; exact Nat.le_trans hz (by decide))
theorem Ev.tuple {es : List Expr} {ds : List D} {k : Nat} {pos : Pos} (a : EvL prog w H A env ρ es ds) (hn : noStar es = true) (hz : ds.length ≤ 1000) : Ev prog w H A env ρ (.Tuple es k pos) (.tuple ds) := by
  refine ⟨fun X s F Q E h => ?_⟩
  refine Tuple_ ?_
  rw [star_trees env pos es hn]
  refine a.run X s F _ _ fun vs s₁ k₁ r₁ => ?_
  have hl := r₁.length
  exact wpAny_newObj_type (h _ _ (kTrans k₁ (kPush _ _)) (Rd.newTuple (F.keeps k₁).wd r₁ rfl)) (by show vs.toArray.size ≤ sizeLine; rw [List.size_toArray, hl]; exact Nat.le_trans hz (by decide))

/-- a call of a value on data -/
structure CallG (prog : Program) (w : World) (H : Heap) (A : Around) (f : Value) (ds : List D) (d : D) : Prop where
  run : ∀ X s vs, Wd H X s.heap → RdL X s.heap vs ds → Gv prog w A X s (call f vs) d

def NameCall (func : Expr) : Prop := ∀ (args : List Expr) (pos : Pos) (env : Env), eval (.Call func args [] pos) env = (do callWith pos (← eval func env) [] (backTo pos (starEach args env)) [])
theorem nameCall {x : Str} {p : Pos} : NameCall (.Name x p) := fun _ _ _ => rfl

theorem evalArgs_trees {f : Value} {es : List Expr} {Q : Args → Shared → Prop} {E : Value → Shared → Prop} (h : wpAny (model prog w) A (spliced (trees es env)) (fun vs s' => Q ⟨vs, []⟩ s') E s) :
    wpAny (model prog w) A (evalArgs f true (trees es env) []) Q E s := by
  cases es with
  | nil =>
    unfold evalArgs
    show wpAny (model prog w) A (spliced [] >>= _) Q E s
    refine wpAny_bind (wpAny_mono h (fun vs s' h' => ?_) fun _ _ x => x)
    refine wpAny_holding ?_
    exact wpAny_bind (wpAny_pure (wpAny_bind (wpAny_pure (wpAny_pure h'))))
  | cons e r => exact evalArgs_plain h

theorem Ev.callRef {K : Frag} {mg mb : Str → Option Value} (W : WF K H mg mb) {func : Expr} {f : Value} {args : List Expr} {ds : List D} {d : D} {pos : Pos} (hc : NameCall func) (hf : Ev prog w H A env ρ func (.val f)) (ha : EvL prog w H A env ρ args ds) (hn : noStar args = true)
    (hk : keepIn K f = true) (hcall : CallG prog w H A f ds d) : Ev prog w H A env ρ (.Call func args [] pos) d := by
  refine ⟨fun X s F Q E h => ?_⟩
  rw [hc]
  refine wpAny_bind (hf.run X s F _ _ fun fv s₁ k₁ r₁ => ?_)
  obtain rfl := r₁.inv
  rw [star_trees env pos args hn]
  refine callWith_of (P := K.In) (by rw [trees_plain]; rfl) (fun h X => keeps_K hk h X) (evalArgs_trees ?_)
  refine ha.run X s₁ (F.keeps k₁) _ _ fun vs s₂ k₂ r₂ => ⟨W.kin.keeps (F.keeps (kTrans k₁ k₂)).base, ?_⟩
  exact hcall.run X s₂ vs (F.keeps (kTrans k₁ k₂)).wd r₂ _ _ fun v s₃ k₃ r₃ => h v s₃ (kTrans (kTrans k₁ k₂) k₃) r₃
theorem Ev.callB {func : Expr} {id : String} {args : List Expr} {ds : List D} {d : D} {pos : Pos} (hc : NameCall func) (hf : Ev prog w H A env ρ func (.val (.builtin id))) (ha : EvL prog w H A env ρ args ds) (hn : noStar args = true)
    (hcall : CallG prog w H A (.builtin id) ds d) : Ev prog w H A env ρ (.Call func args [] pos) d := by
  refine ⟨fun X s F Q E h => ?_⟩
  rw [hc]
  refine wpAny_bind (hf.run X s F _ _ fun fv s₁ k₁ r₁ => ?_)
  obtain rfl := r₁.inv
  rw [star_trees env pos args hn]
  refine callWith_builtin (trees_plain env args) (evalArgs_trees ?_)
  exact ha.run X s₁ (F.keeps k₁) _ _ fun vs s₂ k₂ r₂ => hcall.run X s₂ vs (F.keeps (kTrans k₁ k₂)).wd r₂ _ _ fun v s₃ k₃ r₃ => h v s₃ (kTrans (kTrans k₁ k₂) k₃) r₃
theorem Ev.callT {func : Expr} {T : String} {args : List Expr} {ds : List D} {d : D} {pos : Pos} (hc : NameCall func) (hf : Ev prog w H A env ρ func (.val (.type T))) (ha : EvL prog w H A env ρ args ds) (hn : noStar args = true)
    (hcall : CallG prog w H A (.type T) ds d) : Ev prog w H A env ρ (.Call func args [] pos) d := by
  refine ⟨fun X s F Q E h => ?_⟩
  rw [hc]
  refine wpAny_bind (hf.run X s F _ _ fun fv s₁ k₁ r₁ => ?_)
  obtain rfl := r₁.inv
  rw [star_trees env pos args hn]
  refine PySem.callWith_type (trees_plain env args) (evalArgs_trees ?_)
  exact ha.run X s₁ (F.keeps k₁) _ _ fun vs s₂ k₂ r₂ => hcall.run X s₂ vs (F.keeps (kTrans k₁ k₂)).wd r₂ _ _ fun v s₃ k₃ r₃ => h v s₃ (kTrans (kTrans k₁ k₂) k₃) r₃

abbrev MethForm (o : Expr) (name : Str) (apos pos : Pos) (args : List Expr) (env : Env) (pl : Sem Bool) : Prop :=
  eval (.Call (.Attribute o name apos) args [] pos) env = (do
      let ov ← eval o env
      standAt apos.atName
      let (f, first) ← holding [ov] (getMethod ov name pl)
      callWith pos f first (backTo pos (starEach args env)) [])

/-- a method of a value of a built-in type -/
theorem Ev.methB {o : Expr} {name : Str} {apos pos : Pos} {args : List Expr} {d0 d : D} {ds : List D} {T id : String} {pl : Sem Bool} (he : MethForm o name apos pos args env pl)
    (ho : Ev prog w H A env ρ o d0) (ha : EvL prog w H A env ρ args ds) (hn : noStar args = true)
    (hT : ∀ X (s : Shared) v, Rd X s.heap v d0 → s.TypeIs v T ∧ ∀ a, v = .ref a → ∃ o, s.heap.get? a = some o ∧ o.dict = none) (pa : PlainAttrs T) (slot : Slot T name id)
    (hty : typeOf (.builtin id) = pure (.type "method_descriptor")) (hcall : CallG prog w H A (.builtin id) (d0 :: ds) d) : Ev prog w H A env ρ (.Call (.Attribute o name apos) args [] pos) d := by
  refine ⟨fun X s F Q E h => ?_⟩
  refine MethodCall_ (pl := pl) (ho.run X s F _ _ fun v s₁ k₁ r₁ => ?_) he
  obtain ⟨hT1, hT2⟩ := hT X s₁ v r₁
  refine getMethod_builtin hT1 pa slot hty hT2 ?_
  rw [star_trees env pos args hn]
  refine callWith_builtin (trees_plain env args) (evalArgs_trees ?_)
  exact ha.run X s₁ (F.keeps k₁) _ _ fun vs s₂ k₂ r₂ => hcall.run X s₂ (v :: vs) (F.keeps (kTrans k₁ k₂)).wd (.cons (r₁.keeps k₂) r₂) _ _ fun v s₃ k₃ r₃ => h v s₃ (kTrans (kTrans k₁ k₂) k₃) r₃

theorem ty_list {X : AS} {s : Shared} {v : Value} {ds : List D} (r : Rd X s.heap v (.list ds)) : s.TypeIs v "list" ∧ ∀ a, v = .ref a → ∃ o, s.heap.get? a = some o ∧ o.dict = none := by
  obtain ⟨l, vs, rfl, hx, hp, hl⟩ := r.inv
  obtain ⟨n, e⟩ := hp
  exact ⟨⟨_, e, rfl⟩, fun a q => by cases q; exact ⟨_, e, rfl⟩⟩
theorem ty_str {X : AS} {s : Shared} {v : Value} {x : Str} (r : Rd X s.heap v (.str x)) : s.TypeIs v "str" ∧ ∀ a, v = .ref a → ∃ o, s.heap.get? a = some o ∧ o.dict = none := by
  obtain ⟨t, rfl⟩ := r.inv; exact ⟨rfl, fun a q => by cases q⟩

/-- a test -/
structure Tst (prog : Program) (w : World) (H : Heap) (A : Around) (env : Env) (ρ : Rho) (e : Expr) (b : Bool) : Prop where
  run : ∀ X s, FS H X env ρ s.heap → ∀ (Q : Bool → Shared → Prop) (E : Value → Shared → Prop), (∀ s', Keeps s s' → Q b s') → wpAny (model prog w) A (isTrue e env (eval e env)) Q E s

def D.tru : D → Bool
  | .none => false
  | .bool b => b
  | .int i => i != 0
  | .str x => (x.length : Int) != 0
  | .list l => !l.isEmpty
  | _ => true
def D.truOk : D → Bool
  | .none | .bool _ | .int _ => true
  | .str x => decide (x.length ≤ 16777216)
  | .list l => decide (l.length ≤ 16777216)
  | _ => false
theorem truthyG {d : D} {v : Value} (hd : d.truOk = true) (r : Rd X s.heap v d) {Q : Bool → Shared → Prop} {E : Value → Shared → Prop} (h : ∀ s', Keeps s s' → Q d.tru s') : wpAny (model prog w) A (truthy v) Q E s := by
  cases r with
  | none => exact fun _ _ _ => h _ kRfl
  | bool b => exact wpAny_truthy_bool (h _ kRfl)
  | int i t => exact PyProof.Rows.truthy_int (h _ kRfl)
  | str x t =>
    have hd' : x.length ≤ 16777216 := of_decide_eq_true hd
    exact PySem.P.truthy_str (by omega) (h _ (kTok _ _))
  | @list l vs ds hx hp hl =>
    have hd' : ds.length ≤ 16777216 := of_decide_eq_true hd
    have hn := hl.length
    refine wpAny_truthy_list hp.isList (by simp; omega) ?_
    have e : (!vs.toArray.isEmpty) = D.tru (.list ds) := by
      cases hl <;> simp [D.tru]
    rw [e]; exact h _ (kTok _ _)
  | _ => exact absurd hd Bool.false_ne_true

theorem Tst.compare {a b : Expr} {op : CmpOp} {pos : Pos} {d1 d2 : D} {k : Bool} (ha : Ev prog w H A env ρ a d1) (hb : Ev prog w H A env ρ b d2) (ho : OpG prog w H A (compareOp op) d1 d2 (.bool k)) (hm : behindInMarks op b = false) : Tst prog w H A env ρ (.Compare a [op] [b] pos) k := ⟨fun X s F Q E h => wpAny_isTrue_Compare1 (Ev.two ha hb (f := compareOp op) (d := .bool k) (A := A) (s := s) (X := X) ho F (Q := fun c s₃ => wpAny (model prog w) A (truthy c) Q E s₃) fun v s' k' r => by cases r; exact wpAny_truthy_bool (h _ k')) hm⟩
theorem Tst.val {e : Expr} {d : D} (ha : Ev prog w H A env ρ e d) (hd : d.truOk = true) (he : ∀ whole, isTrue e env whole = (do let v ← whole; standAt e.pos; holding [v] (truthy v))) : Tst prog w H A env ρ e d.tru := ⟨fun X s F Q E h => wpAny_isTrue_value (ha.run X s F _ _ fun v s₁ k₁ r₁ => truthyG hd r₁ fun s₂ k₂ => h _ (kTrans k₁ k₂)) (he _)⟩
theorem Tst.not {e : Expr} {b : Bool} {pos : Pos} (ha : Tst prog w H A env ρ e b) : Tst prog w H A env ρ (.UnaryOp .Not e pos) (!b) := ⟨fun X s F Q E h => wpAny_isTrue_Not (ha.run X s F _ _ fun s₁ k₁ => h _ k₁)⟩
theorem Tst.and2 {a b : Expr} {p q : Bool} {pos : Pos} (ha : Tst prog w H A env ρ a p) (hb : p = true → Tst prog w H A env ρ b q) : Tst prog w H A env ρ (.BoolOp .And [a, b] pos) (p && q) := by
  refine ⟨fun X s F Q E h => ?_⟩
  refine wpAny_isTrue_BoolOp (wpAny_allTrue_And_cons (ha.run X s F _ _ fun s₁ k₁ => ?_))
  cases p with
  | false => exact h _ k₁
  | true => exact wpAny_allTrue_And_cons ((hb rfl).run X s₁ (F.keeps k₁) _ _ fun s₂ k₂ => by
      cases q with
      | false => exact h _ (kTrans k₁ k₂)
      | true => exact wpAny_allTrue_And_nil (h _ (kTrans k₁ k₂)))

theorem Ev.ifExp {t a b : Expr} {k : Bool} {d1 d2 : D} {pos : Pos} (ht : Tst prog w H A env ρ t k) (ha : k = true → Ev prog w H A env ρ a d1) (hb : k = false → Ev prog w H A env ρ b d2) : Ev prog w H A env ρ (.IfExp t a b pos) (if k = true then d1 else d2) := by
  refine ⟨fun X s F Q E h => ?_⟩
  refine wpAny_IfExp (ht.run X s F _ _ fun s₁ k₁ => ?_)
  cases k with
  | true => exact (ha rfl).run X s₁ (F.keeps k₁) _ _ fun v s₂ k₂ r₂ => h v s₂ (kTrans k₁ k₂) r₂
  | false => exact (hb rfl).run X s₁ (F.keeps k₁) _ _ fun v s₂ k₂ r₂ => h v s₂ (kTrans k₁ k₂) r₂
end
end Mine
end

noncomputable section
open PySem PySem.W PySem.Calls PyProof.Rows PySem.Spec
namespace Mine
open PySem.SeqAt

def KeptBut (Z : AS) (s s' : Shared) : Prop := ∃ h' tk, s' = { s with heap := h', toks := tk } ∧ ∀ b o, ¬ Z b → s.heap.get? b = some o → h'.get? b = some o
theorem kbKeep {Z : AS} {s s' : Shared} (k : KeptBut Z s s') : ∀ b o, ¬ Z b → s.heap.get? b = some o → s'.heap.get? b = some o := by
  obtain ⟨h', tk, rfl, hk⟩ := k; exact hk
theorem kbOf {Z : AS} {s s' : Shared} (k : Keeps s s') : KeptBut Z s s' := by
  obtain ⟨h', tk, rfl, hk⟩ := k; exact ⟨h', tk, rfl, fun b o _ e => hk b o e⟩
theorem kbTrans {Z : AS} {s s' s'' : Shared} (a : KeptBut Z s s') (b : KeptBut Z s' s'') : KeptBut Z s s'' := by
  obtain ⟨h', tk, rfl, hk⟩ := a
  obtain ⟨h'', tk', rfl, hk'⟩ := b
  exact ⟨h'', tk', rfl, fun b o hb e => hk' b o hb (hk b o hb e)⟩
theorem kbMono {Z Z' : AS} {s s' : Shared} (a : KeptBut Z s s') (h : ∀ b, Z b → Z' b) : KeptBut Z' s s' := by
  obtain ⟨h', tk, rfl, hk⟩ := a
  exact ⟨h', tk, rfl, fun b o hb e => hk b o (fun q => hb (h b q)) e⟩

section
variable {prog : Program} {w : World} {H : Heap} {A : Around} {X : AS} {s : Shared} {env : Env} {ρ : Rho}

theorem lookup_cons_eq {x y : Str} {d : D} {ρ : Rho} : ((x, d) :: ρ).lookup y = if y = x then some d else ρ.lookup y := by
  rw [List.lookup_cons]
  by_cases h : y = x
  · subst h; simp
  · rw [if_neg h, show (y == x) = false from by simpa using h]

/-- the frame over another heap -/
theorem FS.but {h h' : Heap} {Z : AS} (F : FS H X env ρ h) (k : ∀ b o, ¬ Z b → h.get? b = some o → h'.get? b = some o) (hZ : ∀ b, Z b → X b) (hL : ¬ Z env.locals) (hC : ∀ x c, env.cells.lookup x = some c → ¬ Z c)
    (live : ∀ a, X a → ∃ b o, a ≤ b ∧ h'.get? b = some o) : FS H X env ρ h' := by
  have kr : ∀ {v : Value} {d : D}, Rd X h v d → Rd X h' v d := fun r => r.mono fun a o hx e => ⟨hx, k a o (fun q => hx (hZ a q)) e⟩
  have kc : ∀ {x c v}, env.cells.lookup x = some c → h.IsCell c v → h'.IsCell c v := fun hc hv => let ⟨o, ho, hd⟩ := hv; ⟨o, k _ o (hC _ _ hc) ho, hd⟩
  refine ⟨fun a o e => k a o (fun q => ?_) (F.base a o e), F.bx, live, F.fn, F.gl, F.bl, F.xl, ?_, ?_, ?_, F.own, F.apart⟩
  · have := F.bx a (hZ a q); rw [e] at this; cases this
  · obtain ⟨m, hn, hr⟩ := F.ns
    exact ⟨m, hn.at' fun o e => k _ o hL e, fun x d e1 e2 => let ⟨v, e3, r⟩ := hr x d e1 e2; ⟨v, e3, kr r⟩⟩
  · intro x d e1 e2
    obtain ⟨h1, c, v, h2, h3, h4⟩ := F.cells x d e1 e2
    exact ⟨h1, c, v, h2, kc h2 h3, kr h4⟩
  · intro x c e
    obtain ⟨h1, v, h2⟩ := F.cellX x c e
    exact ⟨h1, v, kc e h2⟩
theorem FS.weak {h : Heap} {ρ' : Rho} (F : FS H X env ρ h) (k : ∀ x d, ρ'.lookup x = some d → ρ.lookup x = some d) : FS H X env ρ' h := by
  refine ⟨F.base, F.bx, F.live, F.fn, F.gl, F.bl, F.xl, ?_, ?_, F.cellX, F.own, F.apart⟩
  · obtain ⟨m, hn, hr⟩ := F.ns
    exact ⟨m, hn, fun x d e1 e2 => hr x d (k x d e1) e2⟩
  · exact fun x d e1 e2 => F.cells x d (k x d e1) e2

/-- what a store of x may turn -/
def ZS (env : Env) (x : Str) : AS := fun b => b = env.locals ∨ env.cells.lookup x = some b
def StoreOk (env : Env) (x : Str) : Prop := env.kindOf x = some .local ∨ env.kindOf x = some .cell

theorem FS.ns_cell {h : Heap} (F : FS H X env ρ h) {x : Str} {c : Addr} (hc : env.cells.lookup x = some c) : c ≠ env.locals := by
  rintro rfl
  obtain ⟨_, v, o, ho, hd⟩ := F.cellX x _ hc
  obtain ⟨m, ⟨o', es, ep, ho', hd', _⟩, _⟩ := F.ns
  rw [ho] at ho'; cases ho'
  rw [hd] at hd'; cases hd'

theorem FS.store {x : Str} {v : Value} {d : D} (F : FS H X env ρ s.heap) (r : Rd X s.heap v d) (hk : StoreOk env x) {Q : Unit → Shared → Prop} {E : Value → Shared → Prop}
    (h : ∀ s', KeptBut (ZS env x) s s' → FS H X env ((x, d) :: ρ) s'.heap → Q () s') : wpAny (model prog w) A (storeName env x v) Q E s := by
  have hp : (env.scope.kind == .class || (env.scope.kind == .module && env.locals != env.globals)) = false := by rw [F.fn]; rfl
  obtain ⟨m, hn, hr⟩ := F.ns
  rcases hk with hk | hk
  · refine wpAny_storeName_local hk hn (fun h' hn' hs => ?_) hp
    have hL := F.xl
    have kr : ∀ {v : Value} {d : D}, Rd X s.heap v d → Rd X h' v d := fun r => r.sameBut hL hs
    have kc : ∀ {x c v}, env.cells.lookup x = some c → s.heap.IsCell c v → h'.IsCell c v := fun hc hv => hv.sameBut hs (F.ns_cell hc)
    refine h _ ⟨h', s.toks + 1, rfl, fun b o hb e => hs.extBut b o (fun q => hb (.inl q)) e⟩ ⟨fun a o e => hs.extBut a o (fun q => ?_) (F.base a o e), F.bx, fun a x => ?_, F.fn, F.gl, F.bl, F.xl, ⟨_, hn', ?_⟩, ?_, ?_, F.own, F.apart⟩
    · have := F.bx a (q ▸ hL); rw [e] at this; cases this
    · obtain ⟨b, o, l, e⟩ := F.live a x
      by_cases q : b = env.locals
      · subst q
        obtain ⟨o', es, ep, ho', _⟩ := hn'
        exact ⟨_, o', l, ho'⟩
      · exact ⟨b, o, l, hs.extBut b o q e⟩
    · intro y d' e1 e2
      rw [lookup_cons_eq] at e1
      by_cases q : y = x
      · rw [if_pos q] at e1
        cases e1
        exact ⟨v, by simp [q], kr r⟩
      · rw [if_neg q] at e1
        obtain ⟨v', e3, r'⟩ := hr y d' e1 e2
        exact ⟨v', by simp [q, e3], kr r'⟩
    · intro y d' e1 e2
      have q : y ≠ x := fun q => e2 (q ▸ hk)
      rw [lookup_cons_eq, if_neg q] at e1
      obtain ⟨h1, c, v', h2, h3, h4⟩ := F.cells y d' e1 e2
      exact ⟨h1, c, v', h2, kc h2 h3, kr h4⟩
    · intro y c e
      obtain ⟨h1, v', h2⟩ := F.cellX y c e
      exact ⟨h1, v', kc e h2⟩
  · obtain ⟨c, hc⟩ := F.own x hk
    obtain ⟨hcX, v₀, hv₀⟩ := F.cellX x c hc
    refine wpAny_storeName_cell F.fn hk hc hv₀ fun h' hv hs => ?_
    have hLc : env.locals ≠ c := fun q => F.ns_cell hc q.symm
    have kr : ∀ {v : Value} {d : D}, Rd X s.heap v d → Rd X h' v d := fun r => r.sameBut hcX hs
    have kc : ∀ {y c' v'}, y ≠ x → env.cells.lookup y = some c' → s.heap.IsCell c' v' → h'.IsCell c' v' := fun hy hc' hv' => hv'.sameBut hs fun q => hy (F.apart _ _ c (q ▸ hc') hc)
    refine h _ ⟨h', s.toks, rfl, fun b o hb e => hs.extBut b o (fun q => hb (.inr (q ▸ hc))) e⟩ ⟨fun a o e => hs.extBut a o (fun q => ?_) (F.base a o e), F.bx, fun a x => ?_, F.fn, F.gl, F.bl, F.xl, ⟨m, hn.sameBut hs hLc, ?_⟩, ?_, ?_, F.own, F.apart⟩
    · have := F.bx a (q ▸ hcX); rw [e] at this; cases this
    · obtain ⟨b, o, l, e⟩ := F.live a x
      by_cases q : b = c
      · subst q
        obtain ⟨o', ho', _⟩ := hv
        exact ⟨_, o', l, ho'⟩
      · exact ⟨b, o, l, hs.extBut b o q e⟩
    · intro y d' e1 e2
      have q : y ≠ x := fun q => by rw [q, hk] at e2; cases e2
      rw [lookup_cons_eq, if_neg q] at e1
      obtain ⟨v', e3, r'⟩ := hr y d' e1 e2
      exact ⟨v', e3, kr r'⟩
    · intro y d' e1 e2
      rw [lookup_cons_eq] at e1
      by_cases q : y = x
      · rw [if_pos q] at e1
        cases e1
        subst q
        exact ⟨.inl hk, c, v, hc, hv, kr r⟩
      · rw [if_neg q] at e1
        obtain ⟨h1, c', v', h2, h3, h4⟩ := F.cells y d' e1 e2
        exact ⟨h1, c', v', h2, kc q h2 h3, kr h4⟩
    · intro y c' e
      by_cases q : y = x
      · subst q
        rw [hc] at e; cases e
        exact ⟨hcX, some v, hv⟩
      · obtain ⟨h1, v', h2⟩ := F.cellX y c' e
        exact ⟨h1, v', kc q e h2⟩

/-- a target takes a value -/
def ZT (env : Env) (xs : List Str) : AS := fun b => ∃ x ∈ xs, ZS env x b
structure Asg (prog : Program) (w : World) (H : Heap) (A : Around) (env : Env) (ρ : Rho) (t : Expr) (xs : List Str) (d : D) (ρ' : Rho) : Prop where
  run : ∀ X s v, FS H X env ρ s.heap → Rd X s.heap v d → ∀ (Q : Unit → Shared → Prop) (E : Value → Shared → Prop), (∀ s', KeptBut (ZT env xs) s s' → FS H X env ρ' s'.heap → Q () s') → wpAny (model prog w) A (assign t env v) Q E s
theorem Asg.name {x : Str} {pos : Pos} {d : D} (hk : StoreOk env x) : Asg prog w H A env ρ (.Name x pos) [x] d ((x, d) :: ρ) := ⟨fun X s v F r Q E h => wpAny_assign_Name (F.store r hk fun s' k F' => h s' (kbMono k fun b hb => ⟨x, .head _, hb⟩) F')⟩
end
end Mine
end

noncomputable section
open PySem PySem.W PySem.Calls PyProof.Rows PySem.Spec
namespace Mine
open PySem.SeqAt

def XN (X : AS) (h h' : Heap) : AS := fun a => X a ∨ (h.get? a = none ∧ ∃ o, h'.get? a = some o)
theorem XN.rd {X : AS} {h h' h₁ : Heap} {v : Value} {d : D} (r : Rd X h v d) (k : ∀ b o, h.get? b = some o → h₁.get? b = some o) : Rd (XN X h h') h₁ v d :=
  r.mono fun a o hx e => ⟨fun q => q.elim hx fun z => (by rw [e] at z; cases z.1), k a o e⟩
theorem XN.rdl {X : AS} {h h' h₁ : Heap} {v : List Value} {d : List D} (r : RdL X h v d) (k : ∀ b o, h.get? b = some o → h₁.get? b = some o) : RdL (XN X h h') h₁ v d :=
  r.mono fun a o hx e => ⟨fun q => q.elim hx fun z => (by rw [e] at z; cases z.1), k a o e⟩

theorem mem_lookup {α : Type} : ∀ {l : List (Str × α)} {n : Str} {c : α}, l.lookup n = some c → (n, c) ∈ l
  | (m, d) :: r, n, c, h => by
    rw [List.lookup_cons] at h
    by_cases q : n = m
    · subst q; simp at h; subst h; exact .head _
    · rw [show (n == m) = false by simpa using q] at h
      exact .tail _ (mem_lookup h)

/- the cells of a comprehension -/
noncomputable def clOf (cells : List (Str × Addr)) : List (Str × NameKind) → List (Str × Addr) → List (Str × Addr)
  | [], acc => acc
  | (n, k) :: r, acc => if k == .free then clOf cells r ((n, (cells.lookup n).getD 0) :: acc) else clOf cells r acc
theorem closure_is {scope : Scope} {env : Env} (h : ∀ n, (n, NameKind.free) ∈ scope.names → ∃ c, env.cells.lookup n = some c) : closureFor scope env = pure (clOf env.cells scope.names []) := by
  unfold closureFor
  generalize scope.names = names at h
  have key : ∀ (names : List (Str × NameKind)) (acc : List (Str × Addr)), (∀ n, (n, NameKind.free) ∈ names → ∃ c, env.cells.lookup n = some c) →
      (forIn names acc fun x r => match x with | (name, kind) => if (kind == NameKind.free) = true then (do let a ← cellOf env name; pure (ForInStep.yield ((name, a) :: r))) else pure (ForInStep.yield r) : Sem _) = pure (clOf env.cells names acc) := by
    intro names
    induction names with
    | nil => intro acc _; rfl
    | cons p r ih =>
      intro acc h
      obtain ⟨n, k⟩ := p
      rw [List.forIn_cons]
      unfold clOf
      by_cases hk : (k == NameKind.free) = true
      · simp only [hk, if_true]
        obtain ⟨c, hc⟩ := h n (by rw [eq_of_beq hk]; exact .head _)
        unfold cellOf
        rw [hc]
        show (forIn r ((n, c) :: acc) _ : Sem _) = _
        exact ih ((n, c) :: acc) fun m hm => h m (.tail _ hm)
      · simp only [hk, if_false]
        show (forIn r acc _ : Sem _) = _
        exact ih acc fun m hm => h m (.tail _ hm)
  show (forIn names ([] : List (Str × Addr)) _ >>= fun cs => pure cs) = _
  rw [key names [] h]
  rfl
theorem clOf_some {cells : List (Str × Addr)} {x : Str} {c : Addr} : ∀ {names : List (Str × NameKind)} {acc : List (Str × Addr)}, (clOf cells names acc).lookup x = some c → ((x, NameKind.free) ∈ names ∧ c = (cells.lookup x).getD 0) ∨ acc.lookup x = some c
  | [], _, h => .inr h
  | (n, k) :: r, acc, h => by
    unfold clOf at h
    by_cases hk : (k == NameKind.free) = true
    · rw [if_pos hk] at h
      rcases clOf_some h with ⟨h1, h2⟩ | h1
      · exact .inl ⟨.tail _ h1, h2⟩
      · rw [List.lookup_cons] at h1
        by_cases q : x = n
        · subst q
          simp at h1
          exact .inl ⟨by rw [← eq_of_beq hk]; exact .head _, h1.symm⟩
        · rw [show (x == n) = false by simpa using q] at h1
          exact .inr h1
    · rw [if_neg hk] at h
      rcases clOf_some h with ⟨h1, h2⟩ | h1
      · exact .inl ⟨.tail _ h1, h2⟩
      · exact .inr h1
theorem clOf_has {cells : List (Str × Addr)} {x : Str} : ∀ {names : List (Str × NameKind)} {acc : List (Str × Addr)}, (x, NameKind.free) ∈ names ∨ (∃ c, acc.lookup x = some c) → ∃ c, (clOf cells names acc).lookup x = some c
  | [], _, h => h.elim (fun q => nomatch q) id
  | (n, k) :: r, acc, h => by
    unfold clOf
    by_cases hk : (k == NameKind.free) = true
    · rw [if_pos hk]
      refine clOf_has ?_
      rcases h with h | ⟨c, h⟩
      · rcases List.mem_cons.mp h with e | h
        · cases e
          exact .inr ⟨(cells.lookup x).getD 0, by simp⟩
        · exact .inl h
      · by_cases q : x = n
        · subst q; exact .inr ⟨(cells.lookup x).getD 0, by simp⟩
        · exact .inr ⟨c, by rw [List.lookup_cons, show (x == n) = false by simpa using q]; exact h⟩
    · rw [if_neg hk]
      refine clOf_has ?_
      rcases h with h | h
      · rcases List.mem_cons.mp h with e | h
        · cases e; exact absurd rfl hk
        · exact .inl h
      · exact .inr h
theorem cellsFrom_some {x : Str} {c : Addr} : ∀ {names : List (Str × NameKind)} {n : Nat} {acc : List (Str × Addr)}, (cellsFrom n names acc).lookup x = some c → ((x, NameKind.cell) ∈ names ∧ n ≤ c) ∨ acc.lookup x = some c
  | [], _, _, h => .inr h
  | (m, k) :: r, n, acc, h => by
    unfold cellsFrom at h
    by_cases hk : (k == NameKind.cell) = true
    · rw [if_pos hk] at h
      rcases cellsFrom_some h with ⟨h1, h2⟩ | h1
      · exact .inl ⟨.tail _ h1, Nat.le_of_succ_le h2⟩
      · rw [List.lookup_cons] at h1
        by_cases q : x = m
        · subst q
          simp at h1
          exact .inl ⟨by rw [← eq_of_beq hk]; exact .head _, Nat.le_of_eq h1⟩
        · rw [show (x == m) = false by simpa using q] at h1
          exact .inr h1
    · rw [if_neg hk] at h
      rcases cellsFrom_some h with ⟨h1, h2⟩ | h1
      · exact .inl ⟨.tail _ h1, h2⟩
      · exact .inr h1
theorem cellsFrom_has {x : Str} : ∀ {names : List (Str × NameKind)} {n : Nat} {acc : List (Str × Addr)}, (x, NameKind.cell) ∈ names ∨ (∃ c, acc.lookup x = some c) → ∃ c, (cellsFrom n names acc).lookup x = some c
  | [], _, _, h => h.elim (fun q => nomatch q) id
  | (m, k) :: r, n, acc, h => by
    unfold cellsFrom
    by_cases hk : (k == NameKind.cell) = true
    · rw [if_pos hk]
      refine cellsFrom_has ?_
      rcases h with h | ⟨c, h⟩
      · rcases List.mem_cons.mp h with e | h
        · cases e; exact .inr ⟨n, by simp⟩
        · exact .inl h
      · by_cases q : x = m
        · subst q; exact .inr ⟨n, by simp⟩
        · exact .inr ⟨c, by rw [List.lookup_cons, show (x == m) = false by simpa using q]; exact h⟩
    · rw [if_neg hk]
      refine cellsFrom_has ?_
      rcases h with h | h
      · rcases List.mem_cons.mp h with e | h
        · cases e; exact absurd rfl hk
        · exact .inl h
      · exact .inr h
/-- where no cell of its own bears the name, the outer one stands -/
theorem cellsFrom_out {x : Str} : ∀ {names : List (Str × NameKind)} {n : Nat} {acc : List (Str × Addr)}, (x, NameKind.cell) ∉ names → (cellsFrom n names acc).lookup x = acc.lookup x
  | [], _, _, _ => rfl
  | (m, k) :: r, n, acc, h => by
    have hr : (x, NameKind.cell) ∉ r := fun q => h (.tail _ q)
    unfold cellsFrom
    by_cases hk : (k == NameKind.cell) = true
    · rw [if_pos hk, cellsFrom_out hr, List.lookup_cons]
      have q : x ≠ m := by rintro rfl; exact h (by rw [← eq_of_beq hk]; exact .head _)
      rw [show (x == m) = false by simpa using q]
    · rw [if_neg hk, cellsFrom_out hr]
/-- the cells laid anew -/
theorem cellsFrom_new : ∀ (names : List (Str × NameKind)) (h : Heap) (acc : List (Str × Addr)) (x : Str) (c : Addr), (cellsFrom h.objs.size names acc).lookup x = some c →
    (h.objs.size ≤ c ∧ (pushCells h names).IsCell c none) ∨ acc.lookup x = some c
  | [], h, acc, x, c, e => .inr e
  | (m, k) :: r, h, acc, x, c, e => by
    unfold cellsFrom at e
    unfold pushCells
    by_cases hk : (k == NameKind.cell) = true
    · rw [if_pos hk] at e ⊢
      have sz : h.objs.size + 1 = (h.push { cls := .type "cell", data := .cell none }).objs.size := (Heap.size_push ..).symm
      rw [sz] at e
      rcases cellsFrom_new r (h.push { cls := .type "cell", data := .cell none }) _ x c e with ⟨h1, h2⟩ | h1
      · exact .inl ⟨Nat.le_of_succ_le (by rw [← sz] at h1; exact h1), h2⟩
      · rw [List.lookup_cons] at h1
        by_cases q : x = m
        · subst q
          simp at h1
          subst h1
          exact .inl ⟨Nat.le_refl _, ⟨_, pushCells_keeps _ _ _ _ (Heap.get?_push_size _ rfl), rfl⟩⟩
        · rw [show (x == m) = false by simpa using q] at h1
          exact .inr h1
    · rw [if_neg hk] at e ⊢
      exact cellsFrom_new r h acc x c e
theorem cellsFrom_inj {x y : Str} {c : Addr} : ∀ (names : List (Str × NameKind)) (n : Nat) (acc : List (Str × Addr)), (∀ z d, acc.lookup z = some d → d < n) → (∀ a b d, acc.lookup a = some d → acc.lookup b = some d → a = b) →
    (cellsFrom n names acc).lookup x = some c → (cellsFrom n names acc).lookup y = some c → x = y
  | [], _, _, _, h2, e1, e2 => h2 _ _ _ e1 e2
  | (m, k) :: r, n, acc, h1, h2, e1, e2 => by
    unfold cellsFrom at e1 e2
    by_cases hk : (k == NameKind.cell) = true
    · rw [if_pos hk] at e1 e2
      refine cellsFrom_inj r (n + 1) ((m, n) :: acc) (fun z d hz => ?_) (fun a b d ha hb => ?_) e1 e2
      · rw [List.lookup_cons] at hz
        by_cases q : z = m
        · subst q; simp at hz; exact hz ▸ Nat.lt_succ_self _
        · rw [show (z == m) = false by simpa using q] at hz
          exact Nat.lt_succ_of_lt (h1 z d hz)
      · rw [List.lookup_cons] at ha hb
        by_cases qa : a = m <;> by_cases qb : b = m
        · rw [qa, qb]
        · subst qa
          rw [show (b == a) = false by simpa using qb] at hb
          simp at ha; subst ha
          exact absurd (h1 _ _ hb) (Nat.lt_irrefl _)
        · subst qb
          rw [show (a == b) = false by simpa using qa] at ha
          simp at hb; subst hb
          exact absurd (h1 _ _ ha) (Nat.lt_irrefl _)
        · rw [show (a == m) = false by simpa using qa] at ha
          rw [show (b == m) = false by simpa using qb] at hb
          exact h2 a b d ha hb
    · rw [if_neg hk] at e1 e2
      exact cellsFrom_inj r n acc h1 h2 e1 e2

section
variable {prog : Program} {w : World} {H : Heap} {A : Around} {X : AS} {s : Shared} {env : Env} {ρ : Rho}

theorem wpAny_newCompEnv {M : Model} {E : Value → Shared → Prop} {scope : Scope} {globals : Addr} {cl : List (Str × Addr)} {qual : Str} {outer : Env} {Q : Env → Shared → Prop}
    (hQ : ∀ h', h'.Ns s.heap.objs.size (fun _ => none) → (∀ b o, s.heap.get? b = some o → h'.get? b = some o) →
      (∀ x c, (cellsFrom (s.heap.objs.size + 1) scope.names cl).lookup x = some c → (s.heap.objs.size < c ∧ h'.IsCell c none) ∨ cl.lookup x = some c) →
      Q (newEnv scope s.heap.objs.size globals (cellsFrom (s.heap.objs.size + 1) scope.names cl) qual none .none (some outer) builtinsNs) { s with heap := h' }) :
    wpAny M A (newFunctionEnv scope globals cl [] qual none .none (some outer)) Q E s := by
  simp only [newFunctionEnv, Option.isSome_some, if_true]
  refine wpAny_bind (wpAny_alloc ?_)
  refine wpAny_bind (wpAny_layCells _ (fun name kind cells => by cases hkc : kind == NameKind.cell <;> simp [hkc]) _ _ _ _ ?_)
  rw [show ({ s with heap := s.heap.push { cls := .type "dict", data := .dict #[] } } : Shared).heap.objs.size = s.heap.objs.size + 1 from Heap.size_push ..]
  refine wpAny_bind (wpAny_pure (wpAny_pure ?_))
  refine hQ _ ((Heap.Ns.new s.heap (.type "dict")).keeps (pushCells_keeps _ _)) (fun b o e => pushCells_keeps _ _ b o (Heap.get?_push_of_some _ e)) fun x c e => ?_
  have := cellsFrom_new scope.names (s.heap.push { cls := .type "dict", data := .dict #[] }) cl x c (by rw [Heap.size_push]; exact e)
  rw [Heap.size_push] at this
  exact this

theorem get_none_of_le {h : Heap} {c : Addr} (hc : h.objs.size ≤ c) : h.get? c = none := by
  cases q : h.get? c with
  | none => rfl
  | some o => exact absurd (Nat.lt_of_le_of_lt hc (Heap.lt_size q)) (Nat.lt_irrefl _)

def Above (h : Heap) (b : Addr) : Prop := ∀ c o, h.get? c = some o → c < b
theorem Above.of_le {h : Heap} {b : Addr} (hb : h.objs.size ≤ b) : Above h b := fun _ _ e => Nat.lt_of_lt_of_le (Heap.lt_size e) hb
theorem Above.none {h : Heap} {b : Addr} (a : Above h b) : h.get? b = none := by
  cases e : h.get? b with
  | none => rfl
  | some o => exact absurd (a b o e) (Nat.lt_irrefl _)
theorem Above.keeps {s s' : Shared} {b : Addr} (k : Keeps s s') (a : Above s'.heap b) : Above s.heap b := fun c o e => a c o (kKeep k c o e)
theorem Above.notX {H h : Heap} {X : AS} {b : Addr} (W : Wd H X h) (a : Above h b) : ¬ X b := fun q => by
  obtain ⟨c, o, l, e⟩ := W.live b q
  exact absurd (a c o e) (Nat.not_lt.mpr l)
/-- an iterator that walks over the data -/
inductive Live (prog : Program) (w : World) (A : Around) (X : AS) (s₁ s₂ : Shared) (I : Addr) (ds : List D) : Prop
  | mk (fp wr : List Addr) (P : Nat → Value → Prop) (St : Nat → Heap → Prop) (W : Walks prog w A I fp wr ds.length P St) (st : St 0 s₂.heap) (hfp : ∀ b ∈ fp, b < s₂.heap.objs.size ∧ ¬ X b)
    (hwr : ∀ b ∈ wr, Above s₁.heap b ∧ ∃ o, s₂.heap.get? b = some o) (lv : ∀ i h, St i h → ∀ b ∈ wr, ∃ o, h.get? b = some o)
    (hP : ∀ (X' : AS) i v h', i < ds.length → P i v → (∀ b o, ¬ X b → s₁.heap.get? b = some o → ¬ X' b ∧ h'.get? b = some o) → ∃ d, ds[i]? = some d ∧ Rd X' h' v d)
    (lot : ∀ target i (s : Shared) u (Q : Unit → Shared → Prop) (E : Value → Shared → Prop), St i s.heap → Q () s → wpAny (model prog w) A (letOwnedTupleGo target (.ref I) u) Q E s) : Live prog w A X s₁ s₂ I ds

structure SrcE (prog : Program) (w : World) (H : Heap) (A : Around) (env : Env) (ρ : Rho) (iter : Expr) (ds : List D) : Prop where
  run : ∀ X s, FS H X env ρ s.heap → ∀ (Q : Value → Shared → Prop) (E : Value → Shared → Prop), (∀ s₁ s₂ I, Keeps s s₁ → Keeps s₁ s₂ → Live prog w A X s₁ s₂ I ds → Q (.ref I) s₂) →
    wpAny (model prog w) A (eval iter env) (fun x s₁ => wpAny (model prog w) A (pyIter x) Q E s₁) E s

theorem lot_of {n : String} (hn : ["enumerate", "zip", "dict_itemiterator", "dict_reverseitemiterator", "odict_iterator", "itertools.zip_longest", "itertools.pairwise"].contains n = false) {I : Addr} {o : Obj} {target : Expr} {u : Value}
    (ho : s.heap.get? I = some o) (hc : o.cls = .type n) {Q : Unit → Shared → Prop} {E : Value → Shared → Prop} (hQ : Q () s) : wpAny (model prog w) A (letOwnedTupleGo target (.ref I) u) Q E s := by
  have key : ∀ a : Addr, wpAny (model prog w) A (do
      let o ← load I
      match o.cls, o.data with
      | .type n, .fields vs =>
        if ["enumerate", "zip", "dict_itemiterator", "dict_reverseitemiterator", "odict_iterator", "itertools.zip_longest", "itertools.pairwise"].contains n && vs[0]? == some (rawInt a) then
          rule "for.unpacks-the-owned-tuple"
          updateField I 0 .none
      | _, _ => pure () : Sem Unit) Q E s := by
    intro a
    refine wpAny_bind (wpAny_load ho ?_)
    rw [hc]
    cases o.data <;> first
      | exact wpAny_pure hQ
      | (dsimp only; rw [hn]; exact wpAny_pure hQ)
  unfold letOwnedTupleGo
  cases target <;> first
    | exact wpAny_pure hQ
    | (cases u <;> first | exact wpAny_pure hQ | exact key _)

theorem SrcE.list {iter : Expr} {ds : List D} {n : Nat} (R : Room A n) (hv : Ev prog w H A env ρ iter (.list ds)) : SrcE prog w H A env ρ iter ds := by
  refine ⟨fun X s F Q E h => ?_⟩
  refine hv.run X s F _ _ fun v s₁ k₁ r₁ => ?_
  obtain ⟨l, vs, rfl, hx, hp, hl⟩ := r₁.inv
  refine wpAny_pyIter_list hp.isList (h s₁ _ _ k₁ (kPush s₁ _) ?_)
  have hne : l ≠ s₁.heap.objs.size := by
    obtain ⟨m, e⟩ := hp
    exact Nat.ne_of_lt (Heap.lt_size e)
  have hnew : s₁.heap.get? s₁.heap.objs.size = none := by
    cases q : s₁.heap.get? s₁.heap.objs.size with
    | none => rfl
    | some o => exact absurd (Heap.lt_size q) (Nat.lt_irrefl _)
  have hlen := hl.length
  have W := Walks.list (prog := prog) (w := w) (A := A) R.handled s₁.heap.objs.size l hne vs.toArray
  rw [show vs.toArray.size = ds.length by rw [List.size_toArray]; exact hlen] at W
  refine .mk _ _ _ _ W ⟨⟨_, Heap.get?_push_size _ rfl, rfl, rfl⟩, hp.isList.push _⟩ ?_ ?_ ?_ ?_ ?_
  · intro b hb
    have sz : (s₁.heap.push { cls := .type "list_iterator", data := .fields #[.ref l, .int 0 0] }).objs.size = s₁.heap.objs.size + 1 := Heap.size_push ..
    rcases List.mem_cons.mp hb with rfl | hb
    · refine ⟨?_, fun q => ?_⟩
      · show _ < (s₁.heap.push _).objs.size; rw [sz]; exact Nat.lt_succ_self _
      · exact (F.keeps k₁).wd.fresh q
    · rw [List.mem_singleton] at hb; subst hb
      obtain ⟨m, e⟩ := hp
      refine ⟨?_, hx⟩
      show _ < (s₁.heap.push _).objs.size; rw [sz]; exact Nat.lt_succ_of_lt (Heap.lt_size e)
  · intro b hb
    rw [List.mem_singleton] at hb; subst hb
    exact ⟨Above.of_le (Nat.le_refl _), _, Heap.get?_push_size _ rfl⟩
  · intro i h hst b hb
    rw [List.mem_singleton] at hb; subst hb
    obtain ⟨⟨o, ho, _⟩, _⟩ := hst
    exact ⟨o, ho⟩
  · intro X' i v h' _ hv hk
    obtain ⟨d, hd, r⟩ := hl.get' (by simpa using hv)
    exact ⟨d, hd, r.mono hk⟩
  · intro target i s u Q E st hQ
    obtain ⟨⟨o, ho, hc, _⟩, _⟩ := st
    exact lot_of (n := "list_iterator") (by decide) ho hc hQ
theorem SrcE.bytes {iter : Expr} {b : Array UInt8} {n : Nat} (R : Room A n) (hv : Ev prog w H A env ρ iter (.bytes b)) : SrcE prog w H A env ρ iter (b.toList.map fun c => .int c.toNat) := by
  refine ⟨fun X s F Q E h => ?_⟩
  refine hv.run X s F _ _ fun v s₁ k₁ r₁ => ?_
  obtain ⟨t, rfl⟩ := r₁.inv
  refine KBw.pyIter_bytes (h s₁ _ _ k₁ (kPush s₁ _) ?_)
  have hnew : s₁.heap.get? s₁.heap.objs.size = none := by
    cases q : s₁.heap.get? s₁.heap.objs.size with
    | none => rfl
    | some o => exact absurd (Heap.lt_size q) (Nat.lt_irrefl _)
  have W := KBw.walks (prog := prog) (w := w) (A := A) R.handled s₁.heap.objs.size b t
  rw [show b.size = (b.toList.map fun c => D.int c.toNat).length by simp] at W
  refine .mk _ _ _ _ W ⟨_, Heap.get?_push_size _ rfl, rfl, rfl⟩ ?_ ?_ ?_ ?_ ?_
  · intro c hb
    rw [List.mem_singleton] at hb; subst hb
    refine ⟨?_, (F.keeps k₁).wd.fresh⟩
    show _ < (s₁.heap.push _).objs.size; rw [Heap.size_push]; exact Nat.lt_succ_self _
  · intro b hb
    rw [List.mem_singleton] at hb; subst hb
    exact ⟨Above.of_le (Nat.le_refl _), _, Heap.get?_push_size _ rfl⟩
  · intro i h hst b hb
    rw [List.mem_singleton] at hb; subst hb
    obtain ⟨o, ho, _⟩ := hst
    exact ⟨o, ho⟩
  · intro X' i v h' _ hv hk
    obtain ⟨c, u, hc, rfl⟩ := hv
    refine ⟨.int c.toNat, ?_, .int _ _⟩
    rw [List.getElem?_map, Array.getElem?_toList, hc]; rfl
  · intro target i s u Q E st hQ
    obtain ⟨o, ho, hc, _⟩ := st
    exact lot_of (n := "bytes_iterator") (by decide) ho hc hQ
end
end Mine
end

noncomputable section
open PySem PySem.W PySem.Calls PyProof.Rows PySem.Spec
namespace Mine
open PySem.SeqAt

section
variable {prog : Program} {w : World} {H : Heap} {A : Around} {X : AS} {s : Shared} {env : Env} {ρ : Rho}

/-- the free names that a comprehension sees -/
noncomputable def freeRho (ρ : Rho) : List (Str × NameKind) → Rho
  | [] => []
  | (n, k) :: r => if k == .free then (match ρ.lookup n with | some d => (n, d) :: freeRho ρ r | none => freeRho ρ r) else freeRho ρ r
theorem freeRho_some {ρ : Rho} {x : Str} {d : D} : ∀ {names : List (Str × NameKind)}, (freeRho ρ names).lookup x = some d → (x, NameKind.free) ∈ names ∧ ρ.lookup x = some d
  | [], h => nomatch h
  | (n, k) :: r, h => by
    unfold freeRho at h
    by_cases hk : (k == NameKind.free) = true
    · rw [if_pos hk] at h
      cases q : ρ.lookup n with
      | none =>
        rw [q] at h
        have := freeRho_some h
        exact ⟨.tail _ this.1, this.2⟩
      | some e =>
        rw [q] at h
        dsimp only at h
        rw [lookup_cons_eq] at h
        by_cases z : x = n
        · rw [if_pos z] at h
          cases h
          subst z
          exact ⟨by rw [← eq_of_beq hk]; exact .head _, q⟩
        · rw [if_neg z] at h
          have := freeRho_some h
          exact ⟨.tail _ this.1, this.2⟩
    · rw [if_neg hk] at h
      have := freeRho_some h
      exact ⟨.tail _ this.1, this.2⟩

/-- looks at a comprehension's names -/
def freeChk (env : Env) (scope : Scope) (ρ : Rho) : Bool :=
  scope.names.all fun p => p.2 != .free || ((ρ.lookup p.1).isSome && env.kindOf p.1 != some .local && !(p.1 == ("__classdict__" : Str)) && scope.names.lookup p.1 == some .free && scope.names.all fun q => q.1 != p.1 || q.2 == .free)
def cellChk (scope : Scope) : Bool := scope.names.all fun p => p.2 != .cell || scope.names.lookup p.1 == some .cell
def tgtChk (scope : Scope) (tn : List Str) : Bool := tn.all fun x => scope.names.all fun q => q.1 != x || q.2 != .free

theorem freeChk_at {scope : Scope} (h : freeChk env scope ρ = true) {n : Str} (hn : (n, NameKind.free) ∈ scope.names) :
    (∃ d, ρ.lookup n = some d) ∧ env.kindOf n ≠ some .local ∧ (n == ("__classdict__" : Str)) = false ∧ scope.names.lookup n = some .free ∧ ∀ k, (n, k) ∈ scope.names → k = .free := by
  have q := List.all_eq_true.mp h _ hn
  simp only [bne_self_eq_false, Bool.false_or, Bool.and_eq_true, Bool.not_eq_true', bne_iff_ne, ne_eq, beq_iff_eq] at q
  obtain ⟨⟨⟨⟨h1, h2⟩, h3⟩, h4⟩, h5⟩ := q
  refine ⟨Option.isSome_iff_exists.mp h1, h2, by simpa using h3, h4, fun k hk => ?_⟩
  have z := List.all_eq_true.mp h5 _ hk
  simpa using z

def rl (env : Env) (p : Str × NameKind) : Str × NameKind := if (p.2 == NameKind.free && env.scope.kind == .function && env.kindOf p.1 == some .cell) then (p.1, NameKind.cell) else (p.1, p.2)
theorem rl_fst (env : Env) (p : Str × NameKind) : (rl env p).1 = p.1 := by unfold rl; split <;> rfl
theorem relabel_lookup {env : Env} {x : Str} : ∀ {names : List (Str × NameKind)} {k : NameKind}, names.lookup x = some k → (names.map (rl env)).lookup x = some (rl env (x, k)).2
  | [], k, h => nomatch h
  | p :: r, k, h => by
    rw [List.lookup_cons] at h
    rw [List.map_cons, show rl env p = ((rl env p).1, (rl env p).2) from rfl, List.lookup_cons, rl_fst]
    by_cases q : x = p.1
    · have q' : (x == p.1) = true := by simpa using q
      rw [q'] at h ⊢
      cases h
      rw [q]
    · have q' : (x == p.1) = false := by simpa using q
      rw [q'] at h ⊢
      exact relabel_lookup h
theorem relabel_none {env : Env} {x : Str} : ∀ {names : List (Str × NameKind)}, names.lookup x = none → (names.map (rl env)).lookup x = none
  | [], h => rfl
  | p :: r, h => by
    rw [List.lookup_cons] at h
    rw [List.map_cons, show rl env p = ((rl env p).1, (rl env p).2) from rfl, List.lookup_cons, rl_fst]
    by_cases q : x = p.1
    · have q' : (x == p.1) = true := by simpa using q
      rw [q'] at h
      cases h
    · have q' : (x == p.1) = false := by simpa using q
      rw [q'] at h ⊢
      exact relabel_none h
theorem relabel_is {scope : Scope} {env : Env} : (relabel scope env).names = scope.names.map (rl env) := rfl

/-- the tests of a comprehension -/
def TstL (prog : Program) (w : World) (H : Heap) (A : Around) (env : Env) (ρ : Rho) : List Expr → Bool → Prop
  | [], b => b = true
  | [c], b => Tst prog w H A env ρ c b
  | _, _ => False
theorem TstL.run {ifs : List Expr} {b : Bool} (t : TstL prog w H A env ρ ifs b) (F : FS H X env ρ s.heap) {Q : Bool → Shared → Prop} {E : Value → Shared → Prop} (h : ∀ s', Keeps s s' → Q b s') :
    wpAny (model prog w) A (forIn ifs true fun c r => if r = true then do let ok ← isTrue c env (eval c env); pure (ForInStep.yield ok) else pure (ForInStep.yield r)) Q E s := by
  match ifs, t with
  | [], t => exact wpAny_tests_nil (by have t' : b = true := t; exact t' ▸ h s kRfl)
  | [c], t => exact wpAny_tests_one (Tst.run t X s F _ _ h)

theorem kRel {s s' : Shared} {h' : Heap} {tk : Tok} (e : s' = { s with heap := h', toks := tk }) : s'.heap = h' := by rw [e]

/-- the frame of a comprehension's block as it begins -/
theorem FS.block {scope : Scope} {s₁ : Shared} {h₃ h₄ : Heap} {C : Addr} {cells : List (Str × Addr)} (F : FS H X env ρ s₁.heap) (hkind : scope.kind = .function) (hf : freeChk env scope ρ = true) (hcc : cellChk scope = true)
    (hcells : cells = cellsFrom (C + 1) scope.names (clOf env.cells scope.names [])) (hC : C = h₃.objs.size) (k3 : ∀ b o, s₁.heap.get? b = some o → h₃.get? b = some o) (k4 : ∀ b o, h₃.get? b = some o → h₄.get? b = some o)
    (hns : h₄.Ns C (fun _ => none)) (hnew : ∀ x c, cells.lookup x = some c → (C < c ∧ h₄.IsCell c none) ∨ (clOf env.cells scope.names []).lookup x = some c) :
    FS H (XN X s₁.heap h₄) (compEnvC scope cells C env) (freeRho ρ scope.names) h₄ := by
  have kk : ∀ b o, s₁.heap.get? b = some o → h₄.get? b = some o := fun b o e => k4 b o (k3 b o e)
  have big : ∀ c, C ≤ c → s₁.heap.get? c = none := fun c hc => by
    cases q : s₁.heap.get? c with
    | none => rfl
    | some o =>
      have := Heap.lt_size (k3 _ _ q)
      rw [← hC] at this
      exact absurd (Nat.lt_of_le_of_lt hc this) (Nat.lt_irrefl _)
  have old : ∀ x c, (clOf env.cells scope.names []).lookup x = some c → (x, NameKind.free) ∈ scope.names ∧ env.cells.lookup x = some c := fun x c e => by
    rcases clOf_some e with ⟨h1, h2⟩ | h1
    · obtain ⟨⟨d, hd⟩, hk, _⟩ := freeChk_at hf h1
      obtain ⟨_, c', v, h3, _⟩ := F.cells x d hd hk
      rw [h3] at h2
      exact ⟨h1, h2 ▸ h3⟩
    · cases h1
  have atL : ∀ x d, (freeRho ρ scope.names).lookup x = some d → ((compEnvC scope cells C env).kindOf x = some .cell ∨ ((compEnvC scope cells C env).kindOf x = some .free ∧ (x == ("__classdict__" : Str)) = false)) ∧ ∃ c v, cells.lookup x = some c ∧ h₄.IsCell c (some v) ∧ Rd (XN X s₁.heap h₄) h₄ v d := by
    intro x d e
    obtain ⟨hm, hd⟩ := freeRho_some e
    obtain ⟨_, hk, hn, hl, hu⟩ := freeChk_at hf hm
    obtain ⟨_, c, v, h3, h4, h5⟩ := F.cells x d hd hk
    refine ⟨?_, c, v, ?_, h4.keeps kk, XN.rd h5 kk⟩
    · have e1 : (compEnvC scope cells C env).kindOf x = _ := relabel_lookup (env := env) hl
      rw [e1]
      unfold rl
      split
      · exact .inl rfl
      · exact .inr ⟨rfl, hn⟩
    · rw [hcells, cellsFrom_out (fun q => by have := hu _ q; cases this)]
      obtain ⟨c', hc'⟩ := clOf_has (cells := env.cells) (x := x) (names := scope.names) (acc := []) (.inl hm)
      rw [hc']
      have := (old x c' hc').2
      rw [h3] at this
      exact this.symm
  refine ⟨fun a o e => kk _ _ (F.base a o e), fun a x => ?_, fun a x => ?_, hkind, F.gl, F.bl, ?_, ⟨_, hns, ?_⟩, fun x d e _ => atL x d e, ?_, ?_, ?_⟩
  · rcases x with x | ⟨x, _⟩
    · exact F.bx a x
    · cases q : H.get? a with
      | none => rfl
      | some o => have := F.base a o q; rw [x] at this; cases this
  · rcases x with x | ⟨_, o, x⟩
    · obtain ⟨b, o, l, e⟩ := F.live a x
      exact ⟨b, o, l, kk _ _ e⟩
    · exact ⟨a, o, Nat.le_refl _, x⟩
  · obtain ⟨o, es, ep, ho, _⟩ := hns
    exact .inr ⟨big _ (Nat.le_refl _), o, ho⟩
  · intro x d e1 e2
    rcases (atL x d e1).1 with h | ⟨h, _⟩ <;> rw [h] at e2 <;> cases e2
  · intro x c e
    rcases hnew x c e with ⟨h1, o, ho, hd⟩ | h1
    · exact ⟨.inr ⟨big _ (Nat.le_of_lt h1), o, ho⟩, none, o, ho, hd⟩
    · obtain ⟨h2, v, h3⟩ := F.cellX x c (old x c h1).2
      exact ⟨.inl h2, v, h3.keeps kk⟩
  · intro x e
    have e' : (scope.names.map (rl env)).lookup x = some .cell := e
    cases q : scope.names.lookup x with
    | none => rw [relabel_none q] at e'; cases e'
    | some k =>
      show ∃ c, cells.lookup x = some c
      rw [hcells]
      have hm := mem_lookup q
      by_cases hk : k = .cell
      · subst hk; exact cellsFrom_has (.inl hm)
      · rw [relabel_lookup (env := env) q] at e'
        unfold rl at e'
        split at e'
        · rename_i z
          simp only [Bool.and_eq_true] at z
          have z' : k = .free := eq_of_beq z.1.1
          subst z'
          exact cellsFrom_has (.inr (clOf_has (.inl hm)))
        · cases e'; exact absurd rfl hk
  · intro x y c e1 e2
    have e1' : cells.lookup x = some c := e1
    have e2' : cells.lookup y = some c := e2
    rw [hcells] at e1' e2'
    refine cellsFrom_inj scope.names (C + 1) _ (fun z d hz => ?_) (fun a b d ha hb => ?_) e1' e2'
    · obtain ⟨_, v, o, ho, _⟩ := F.cellX z d (old z d hz).2
      have := Heap.lt_size (k3 _ _ ho)
      rw [← hC] at this
      exact Nat.lt_succ_of_lt this
    · exact F.apart a b d (old a d ha).2 (old b d hb).2
end
end Mine
end

noncomputable section
open PySem PySem.W PySem.Calls PyProof.Rows PySem.Spec
namespace Mine
open PySem.SeqAt

section
variable {prog : Program} {w : World} {H : Heap} {A : Around} {X : AS} {s : Shared} {env : Env} {ρ : Rho} {R : Result → Shared → Prop} {E : Value → Shared → Prop}

theorem compLoop_turn {elt target iter : Expr} {ifs : List Expr} {scope : Scope} {pos : Pos} {it acc : Value} {env : Env} (I : Nat → Shared → Prop)
    (turn : ∀ n s, I n s → wpAny (model prog w) A (pyNext it) (fun r s₁ => match r with
      | none => R (.ok .next) s₁
      | some v => wpAny (model prog w) A (letOwnedTupleGo target it v) (fun _ s₁ => wpAny (model prog w) A (assign target env v) (fun _ s₂ =>
          wpAny (model prog w) A (forIn ifs true fun c r => if r = true then do let ok ← isTrue c env (eval c env); pure (ForInStep.yield ok) else pure (ForInStep.yield r)) (fun ok s₃ =>
            if ok = true then wpAny (model prog w) A (eval elt env) (fun x s₄ =>
              wpAny (model prog w) A (call (.builtin "list.append") [acc, x]) (fun _ s₅ => ∃ m, m < n ∧ I m s₅) (notedBy (model prog w) A env fun e s' => R (.error e) s') s₄) (notedBy (model prog w) A env fun e s' => R (.error e) s') s₃
            else ∃ m, m < n ∧ I m s₃) (notedBy (model prog w) A env fun e s' => R (.error e) s') s₂) (notedBy (model prog w) A env fun e s' => R (.error e) s') s₁) (notedBy (model prog w) A env fun e s' => R (.error e) s') s₁)
        (notedBy (model prog w) A env fun e s' => R (.error e) s') s)
    (n : Nat) (h : I n s) :
    codeAny (model prog w) A (.compLoop (.ListComp elt [⟨target, iter, ifs, 0⟩] scope pos) 0 it acc env) R s := by
  refine codeAny_loop rfl I (fun n s hI => ?_) n h
  show wpAny _ _ ((compTurn (.ListComp elt [⟨target, iter, ifs, 0⟩] scope pos) 0 it acc env).onRaise (fun x => do noteFrame x env; theTreesLotGoes x)) _ _ s
  refine wpAny_noted ?_
  rw [compTurn_list]
  refine wpAny_bind (wpAny_standAt (wpAny_bind (wpAny_mono (turn n s hI) (fun r s₁ h₁ => ?_) fun _ _ h' => h')))
  cases r with
  | none => exact wpAny_pure h₁
  | some v =>
    refine wpAny_bind (wpAny_mono h₁ (fun _ s₁' h₁' => ?_) fun _ _ h' => h')
    refine wpAny_bind (wpAny_mono h₁' (fun _ s₂ h₂ => wpAny_bind (wpAny_mono h₂ (fun ok s₃ h₃ => ?_) fun _ _ h' => h')) fun _ _ h' => h')
    cases ok with
    | false => exact wpAny_pure ⟨rfl, h₃⟩
    | true =>
      exact wpAny_bind (wpAny_bind (wpAny_mono h₃ (fun x s₄ h₄ => wpAny_bind (wpAny_mono h₄ (fun _ s₅ h₅ => wpAny_pure (wpAny_pure ⟨rfl, h₅⟩)) fun _ _ h' => h')) fun _ _ h' => h'))

theorem comp_core {α : Type} {elt iter target : Expr} {ifs : List Expr} {scope : Scope} {pos ipos : Pos} {xs : List α} (inj : α → D) (p : α → Bool) (g : α → D) {tn : List Str} (ρt : α → Rho)
    (hsrc : SrcE prog w H A env ρ iter (xs.map inj)) (hs : ∀ x, foldedSetIterable iter env x = pure x) (hf : freeChk env scope ρ = true) (hcc : cellChk scope = true) (htn : tgtChk scope tn = true) (hkind : scope.kind = .function)
    (hnames : ∀ y ∈ scope.names, y.2 = .local → scope.names.lookup y.1 = some .local) (hsz : xs.length ≤ 100000)
    (hasg : ∀ C cells x, x ∈ xs → Asg prog w H A (compEnvC scope cells C env) (freeRho ρ scope.names) target tn (inj x) (ρt x))
    (htests : ∀ C cells x, x ∈ xs → TstL prog w H A (compEnvC scope cells C env) (ρt x) ifs (p x))
    (helt : ∀ C cells x, x ∈ xs → p x = true → Ev prog w H A (compEnvC scope cells C env) (ρt x) elt (g x))
    (hback : ∀ x ∈ xs, ∀ y d, (freeRho ρ scope.names).lookup y = some d → (ρt x).lookup y = some d) (use : Option (Value → Sem Unit)) {Q : Value → Shared → Prop} (F : FS H X env ρ s.heap)
    (fin : ∀ s₁ s' C D m vs, Keeps s s₁ → Keeps s₁ s' → Above s₁.heap C → Above s₁.heap D → D ≠ C → s'.heap.Ns C m → s'.heap.PlainList D vs.toArray → RdL (fun a => X a ∨ a = C ∨ a = D) s'.heap vs ((xs.filter p).map g) → compPost (model prog w) A E use Q (.ref D) C (.ok .next) s') :
    wpAny (model prog w) A (comprehension (.ListComp elt [⟨target, iter, ifs, 0⟩] scope pos) scope env ipos (newList []) false (eval iter env) use) Q E s := by
  have hclos : closureFor scope env = pure (clOf env.cells scope.names []) := closure_is fun n hn => by
    obtain ⟨⟨d, hd⟩, hk, _⟩ := freeChk_at hf hn
    obtain ⟨_, c, _, hc, _⟩ := F.cells n d hd hk
    exact ⟨c, hc⟩
  refine wpAny_comprehension_free (use := use) rfl hs hclos hkind hnames ?_
  refine hsrc.run X s F _ _ fun s₁ s₂ I k₁ k₂ L => ?_
  obtain ⟨fp, wr, P, St, W, st0, hfp, hwr, lv, hP, lot⟩ := L
  rw [List.length_map] at W
  have F₁ := F.keeps k₁
  refine wpAny_newObj_type ?_ (by show ([] : List Value).toArray.size ≤ sizeLine; decide)
  -- the accumulator's place
  have kk₂ := kKeep k₂
  have hD : ({ s₂ with heap := s₂.heap.push { cls := .type "list", data := .seq ([] : List Value).toArray } } : Shared).heap.objs.size = s₂.heap.objs.size + 1 := Heap.size_push ..
  refine wpAny_newCompEnv fun h₄ hns k34 hnew => ?_
  rw [hD] at hns hnew ⊢
  dsimp only at hns k34 hnew ⊢
  generalize hCe : s₂.heap.objs.size + 1 = C at hns hnew ⊢
  generalize hcells : cellsFrom (C + 1) scope.names (clOf env.cells scope.names []) = cells at hnew ⊢
  have k23 : ∀ b o, s₂.heap.get? b = some o → (s₂.heap.push { cls := .type "list", data := .seq ([] : List Value).toArray }).get? b = some o := fun b o e => Heap.get?_push_of_some _ e
  have k13 : ∀ b o, s₁.heap.get? b = some o → (s₂.heap.push { cls := .type "list", data := .seq ([] : List Value).toArray }).get? b = some o := fun b o e => k23 b o (kk₂ b o e)
  have k14 : ∀ b o, s₁.heap.get? b = some o → h₄.get? b = some o := fun b o e => k34 b o (k13 b o e)
  have k24 : ∀ b o, s₂.heap.get? b = some o → h₄.get? b = some o := fun b o e => k34 b o (k23 b o e)
  have B := FS.block (h₃ := s₂.heap.push { cls := .type "list", data := .seq ([] : List Value).toArray }) (h₄ := h₄) (C := C) F₁ hkind hf hcc hcells.symm (by rw [← hCe, Heap.size_push]) k13 k34 hns hnew
  have hcenv : ({ newEnv scope C env.globals cells env.qual none Value.none (some env) builtinsNs with scope := relabel scope env } : Env) = compEnvC scope cells C env := rfl
  rw [hcenv]
  generalize hce : compEnvC scope cells C env = cenv at B ⊢
  have hloc : cenv.locals = C := by rw [← hce]; rfl
  have hcel : cenv.cells = cells := by rw [← hce]; rfl
  have no1 : ∀ b o, s₁.heap.get? b = some o → b < s₂.heap.objs.size := fun b o e => Heap.lt_size (kk₂ _ _ e)
  have hXD : XN X s₁.heap h₄ s₂.heap.objs.size := .inr ⟨by
    cases z : s₁.heap.get? s₂.heap.objs.size with
    | none => rfl
    | some o => exact absurd (no1 _ _ z) (Nat.lt_irrefl _), _, k34 _ _ (Heap.get?_push_size _ rfl)⟩
  have hDC : s₂.heap.objs.size < C := by rw [← hCe]; exact Nat.lt_succ_self _
  -- what a store of the targets may turn lies at C or beyond
  have hZT : ∀ b, ZT cenv tn b → C ≤ b := by
    rintro b ⟨y, hy, hb | hb⟩
    · rw [hb, hloc]; exact Nat.le_refl _
    · rw [hcel] at hb
      rcases hnew y b hb with ⟨h1, _⟩ | h1
      · exact Nat.le_of_lt h1
      · rcases clOf_some h1 with ⟨h2, _⟩ | h2
        · have q1 := List.all_eq_true.mp (List.all_eq_true.mp htn y hy) _ h2
          simp at q1
        · cases h2
  have hcel1 : ∀ x c, cells.lookup x = some c → C < c ∨ ∃ o, s₁.heap.get? c = some o := fun x c e => by
    rcases hnew x c e with ⟨h1, _⟩ | h1
    · exact .inl h1
    · rcases clOf_some h1 with ⟨h2, h3⟩ | h2
      · obtain ⟨⟨d, hd⟩, hk, _⟩ := freeChk_at hf h2
        obtain ⟨_, c', v, h4, ⟨o, ho, _⟩, _⟩ := F₁.cells x d hd hk
        rw [h4] at h3
        exact .inr ⟨o, h3 ▸ ho⟩
      · cases h2
  have hwrX : ∀ b ∈ wr, XN X s₁.heap h₄ b := fun b hb => let ⟨h1, o, h2⟩ := hwr b hb; .inr ⟨h1.none, o, k24 _ _ h2⟩
  have hwrC : ∀ b ∈ wr, b < s₂.heap.objs.size := fun b hb => let ⟨_, o, h2⟩ := hwr b hb; Heap.lt_size h2
  have loop : codeAny (model prog w) A (.compLoop (.ListComp elt [⟨target, iter, ifs, 0⟩] scope pos) 0 (.ref I) (.ref s₂.heap.objs.size) cenv) (compPost (model prog w) A E use Q (.ref s₂.heap.objs.size) C) { s₂ with heap := h₄ } := by
    refine compLoop_turn (fun n s' => ∃ i ys, n = xs.length + 1 - i ∧ i ≤ xs.length ∧ (∃ H' tk, s' = { s₂ with heap := H', toks := tk }) ∧ St i s'.heap ∧ s'.heap.PlainList s₂.heap.objs.size ys ∧
      RdL (XN X s₁.heap h₄) s'.heap ys.toList (((xs.take i).filter p).map g) ∧ FS H (XN X s₁.heap h₄) cenv (freeRho ρ scope.names) s'.heap ∧ ∀ b o, s₁.heap.get? b = some o → s'.heap.get? b = some o) ?_ (xs.length + 1)
      ⟨0, #[], rfl, Nat.zero_le _, ⟨_, _, rfl⟩, W.frame 0 _ _ st0 fun b _ o e => k24 b o e, ⟨0, k34 _ _ (Heap.get?_push_size _ rfl)⟩, .nil, B, k14⟩
    rintro n s' ⟨i, ys, rfl, hi, ⟨H', tk, rfl⟩, st, hpl, hys, Fc, k1'⟩
    by_cases hlt : i < xs.length
    · refine W.item i _ _ _ hlt st fun v h₅ tk₅ Pv st₅ k5 => ?_
      refine lot target (i + 1) _ v _ _ st₅ ?_
      have k15 : ∀ b o, s₁.heap.get? b = some o → h₅.get? b = some o := fun b o e => k5 b o (fun q => by have := (hwr b q).1.none; rw [e] at this; cases this) (k1' b o e)
      have hDw : s₂.heap.objs.size ∉ wr := fun q => Nat.lt_irrefl _ (hwrC _ q)
      have hpl5 : h₅.PlainList s₂.heap.objs.size ys := hpl.at fun o e => k5 _ o hDw e
      have F5 : FS H (XN X s₁.heap h₄) cenv (freeRho ρ scope.names) h₅ := by
        refine Fc.but (Z := fun b => b ∈ wr) (fun b o hb e => k5 b o hb e) hwrX (fun q => ?_) (fun x c e q => ?_) fun a ha => ?_
        · rw [hloc] at q; exact absurd (Nat.lt_trans (hwrC _ q) hDC) (Nat.lt_irrefl _)
        · rw [hcel] at e
          rcases hcel1 x c e with h1 | ⟨o, h1⟩
          · exact absurd (Nat.lt_trans (Nat.lt_trans (hwrC _ q) hDC) h1) (Nat.lt_irrefl _)
          · have := (hwr c q).1.none; rw [h1] at this; cases this
        · obtain ⟨b, o, l, e⟩ := Fc.live a ha
          by_cases q : b ∈ wr
          · obtain ⟨m, e'⟩ := hpl5
            exact ⟨_, _, Nat.le_trans l (Nat.le_of_lt (hwrC b q)), e'⟩
          · exact ⟨b, o, l, k5 b o q e⟩
      obtain ⟨d, hd, rv⟩ := hP (XN X s₁.heap h₄) i v h₅ (by rw [List.length_map]; exact hlt) Pv fun b o hx e => ⟨fun q => q.elim hx fun z => (by rw [e] at z; cases z.1), k15 b o e⟩
      have hx : xs[i] ∈ xs := List.getElem_mem hlt
      rw [List.getElem?_map, List.getElem?_eq_getElem hlt] at hd
      cases hd
      have A1 := hasg C cells xs[i] hx
      have A2 := htests C cells xs[i] hx
      have A3 := helt C cells xs[i] hx
      rw [hce] at A1 A2 A3
      have r5 : RdL (XN X s₁.heap h₄) h₅ ys.toList (((xs.take i).filter p).map g) := hys.mono fun a o hx e => ⟨hx, k5 a o (fun q => hx (hwrX a q)) e⟩
      have hns5 := F5.xl
      refine A1.run _ _ v F5 rv _ _ fun s₆ kb6 F6 => ?_
      have low : ∀ b o, b < C → h₅.get? b = some o → s₆.heap.get? b = some o := fun b o hb e => kbKeep kb6 b o (fun q => absurd (Nat.lt_of_lt_of_le hb (hZT b q)) (Nat.lt_irrefl _)) e
      have st6 : St (i + 1) s₆.heap := W.frame _ _ _ st₅ fun b hb o e => low b o (Nat.lt_trans (hfp b hb).1 hDC) e
      have hpl6 : s₆.heap.PlainList s₂.heap.objs.size ys := hpl5.at fun o e => low _ o hDC e
      have k16 : ∀ b o, s₁.heap.get? b = some o → s₆.heap.get? b = some o := fun b o e => low b o (Nat.lt_trans (no1 _ _ e) hDC) (k15 b o e)
      have hZX : ∀ b, ZT cenv tn b → XN X s₁.heap h₄ b := by
        rintro b ⟨y, hy, hb | hb⟩
        · rw [hb]; exact F5.xl
        · exact (F5.cellX y b hb).1
      have r6 : RdL (XN X s₁.heap h₄) s₆.heap ys.toList (((xs.take i).filter p).map g) := r5.mono fun a o hx e => ⟨hx, kbKeep kb6 a o (fun q => hx (hZX a q)) e⟩
      obtain ⟨H6, tk6, e6, _⟩ := kb6
      refine A2.run F6 fun s₇ k7 => ?_
      have kk7 := kKeep k7
      have htake : (xs.take (i + 1)).filter p = (xs.take i).filter p ++ (if p xs[i] then [xs[i]] else []) := take_succ_filter p xs i xs[i] (List.getElem?_eq_getElem hlt)
      have st7 : St (i + 1) s₇.heap := W.frame _ _ _ st6 fun b _ o e => kk7 b o e
      have hpl7 : s₇.heap.PlainList s₂.heap.objs.size ys := hpl6.at fun o e => kk7 _ o e
      have e7 : ∃ H' tk, s₇ = { s₂ with heap := H', toks := tk } := by
        obtain ⟨h7, t7, e7, _⟩ := k7
        exact ⟨h7, t7, by rw [e7, e6]⟩
      cases hp : p xs[i] with
      | false =>
        simp only [Bool.false_eq_true, if_false]
        rw [hp] at htake
        refine ⟨xs.length + 1 - (i + 1), by omega, i + 1, ys, rfl, hlt, e7, st7, hpl7, ?_, (F6.keeps k7).weak (hback _ hx), fun b o e => kk7 b o (k16 b o e)⟩
        rw [htake]
        simpa using r6.keeps k7
      | true =>
        simp only [if_true]
        rw [hp] at htake
        refine (A3 hp).run _ _ (F6.keeps k7) _ _ fun y s₈ k8 r8 => ?_
        have kk8 := kKeep k8
        have hpl8 : s₈.heap.PlainList s₂.heap.objs.size ys := hpl7.at fun o e => kk8 _ o e
        have F8 := (((F6.keeps k7).weak (hback _ hx)).keeps k8)
        have r68 := r6.keeps (kTrans k7 k8)
        have hlen := r68.length
        have hlen2 : ys.toList.length ≤ xs.length := by
          rw [hlen, List.length_map]
          exact Nat.le_trans (List.length_filter_le _ _) (by rw [List.length_take]; exact Nat.min_le_right _ _)
        refine wpAny_list_append_plain hpl8 (fun h₉ hpl9 hs9 => ?_) (by
          show ys.size ≤ sizeLine
          have : ys.toList.length = ys.size := Array.length_toList
          have hz : sizeLine = 16777216 := by decide
          omega)
        refine ⟨xs.length + 1 - (i + 1), by omega, i + 1, ys.push y, rfl, hlt, ?_, W.frame _ _ _ st7 (fun b hb o e => hs9.extBut b o (Nat.ne_of_lt (hfp b hb).1) (kk8 b o e)), hpl9, ?_, ?_, fun b o e => hs9.extBut b o (Nat.ne_of_lt (no1 _ _ e)) (kk8 b o (kk7 b o (k16 b o e)))⟩
        · obtain ⟨h7, t7, e7⟩ := e7
          obtain ⟨h8, t8, e8, _⟩ := k8
          exact ⟨h₉, t8, by rw [e8, e7]⟩
        · rw [htake, List.map_append, Array.toList_push]
          refine RdL.append (r68.sameBut hXD hs9) ?_
          simp only [if_true]
          exact .cons (r8.sameBut hXD hs9) .nil
        · refine F8.but (Z := fun b => b = s₂.heap.objs.size) (fun b o hb e => hs9.extBut b o hb e) (fun b hb => hb ▸ hXD) (fun q => ?_) (fun x c e q => ?_) fun a ha => ?_
          · rw [hloc] at q; exact absurd hDC (by rw [q]; exact Nat.lt_irrefl _)
          · rw [hcel] at e
            rcases hcel1 x c e with h1 | ⟨o, h1⟩
            · exact absurd (Nat.lt_trans hDC h1) (by rw [q]; exact Nat.lt_irrefl _)
            · exact absurd (no1 _ _ h1) (by rw [q]; exact Nat.lt_irrefl _)
          · obtain ⟨b, o, l, e⟩ := F8.live a ha
            by_cases q : b = s₂.heap.objs.size
            · obtain ⟨m, e'⟩ := hpl9
              exact ⟨_, _, q ▸ l, e'⟩
            · exact ⟨b, o, l, hs9.extBut b o q e⟩
    · have hi' : i = xs.length := by omega
      subst hi'
      refine W.done _ _ _ st fun h₅ tk₅ k5 => ?_
      have hCw : C ∉ wr := fun q => absurd (Nat.lt_trans (hwrC _ q) hDC) (Nat.lt_irrefl _)
      obtain ⟨m, hm, _⟩ := Fc.ns
      rw [hloc] at hm
      have hXC : XN X s₁.heap h₄ C := by have := Fc.xl; rw [hloc] at this; exact this
      have k16 : ∀ b o, s₁.heap.get? b = some o → h₅.get? b = some o := fun b o e => k5 b o (fun q => by have := (hwr b q).1.none; rw [e] at this; cases this) (k1' b o e)
      have hDw : s₂.heap.objs.size ∉ wr := fun q => Nat.lt_irrefl _ (hwrC _ q)
      obtain ⟨m', e'⟩ := hpl
      refine fin s₁ _ C s₂.heap.objs.size m ys.toList k₁ ?_ (fun b o e => Nat.lt_trans (no1 b o e) hDC) no1 (Nat.ne_of_lt hDC) (hm.at' fun o e => k5 _ o hCw e) ⟨m', ?_⟩ ?_
      · obtain ⟨h2, t2, e2, _⟩ := k₂
        exact ⟨h₅, tk₅, by rw [e2], k16⟩
      · rw [Array.toArray_toList]
        exact k5 _ _ hDw e'
      · rw [List.take_length] at hys
        exact hys.mono fun a o hx e => ⟨fun q => q.elim (fun q => hx (.inl q)) fun q => q.elim (fun q => hx (q ▸ hXC)) fun q => hx (q ▸ hXD), k5 a o (fun q => hx (hwrX a q)) e⟩
  exact codeAny_compStart_list loop (W.self 0 _ _ _ (W.frame 0 _ _ st0 fun b _ o e => k24 b o e) loop)
theorem rd_acc {s₁ : Shared} {h : Heap} {C D : Addr} {vs : List Value} {ds : List Mine.D} (W : Wd H X s₁.heap) (aD : Above s₁.heap D) (hCD : D ≠ C) (hp : h.PlainList D vs.toArray) (hr : RdL (fun a => X a ∨ a = C ∨ a = D) h vs ds) :
    Rd (fun a => X a ∨ a = C) h (.ref D) (.list ds) := .list (fun q => q.elim (aD.notX W) hCD) hp (hr.mono fun a o hx e => ⟨fun q => hx (q.imp id .inl), e⟩)
theorem Ev.comp {α : Type} {elt iter target : Expr} {ifs : List Expr} {scope : Scope} {pos : Pos} {xs : List α} (inj : α → D) (p : α → Bool) (g : α → D) {tn : List Str} (ρt : α → Rho)
    (hsrc : SrcE prog w H A env ρ iter (xs.map inj)) (hs : ∀ x, foldedSetIterable iter env x = pure x) (hf : freeChk env scope ρ = true) (hcc : cellChk scope = true) (htn : tgtChk scope tn = true) (hkind : scope.kind = .function)
    (hnames : ∀ y ∈ scope.names, y.2 = .local → scope.names.lookup y.1 = some .local) (hsz : xs.length ≤ 100000)
    (hasg : ∀ C cells x, x ∈ xs → Asg prog w H A (compEnvC scope cells C env) (freeRho ρ scope.names) target tn (inj x) (ρt x))
    (htests : ∀ C cells x, x ∈ xs → TstL prog w H A (compEnvC scope cells C env) (ρt x) ifs (p x))
    (helt : ∀ C cells x, x ∈ xs → p x = true → Ev prog w H A (compEnvC scope cells C env) (ρt x) elt (g x))
    (hback : ∀ x ∈ xs, ∀ y d, (freeRho ρ scope.names).lookup y = some d → (ρt x).lookup y = some d) :
    Ev prog w H A env ρ (.ListComp elt [⟨target, iter, ifs, 0⟩] scope pos) (.list ((xs.filter p).map g)) := by
  refine ⟨fun X s F Q E h => ?_⟩
  rw [eval_ListComp]
  refine comp_core inj p g ρt hsrc hs hf hcc htn hkind hnames hsz hasg htests helt hback none F fun s₁ s' C D m vs k₁ k₂ aC aD hDC hn hp hrl => ?_
  have hC := aC.none
  have r := rd_acc (F.keeps k₁).wd aD hDC hp hrl
  refine ⟨m, hn, fun h' hs' => ?_⟩
  refine h _ { s' with heap := h' } (kTrans k₁ ?_) ((r.sameBut (L := C) (.inr rfl) hs').mono fun a o hx e => ⟨fun q => hx (.inl q), e⟩)
  have kk := kKeep k₂
  obtain ⟨h2, t2, e2, _⟩ := k₂
  exact ⟨h', t2, by rw [e2], fun b o e => hs'.extBut b o (fun q => by rw [q, hC] at e; cases e) (kk b o e)⟩
end
end Mine
end

noncomputable section
open PySem PySem.W PySem.Calls PyProof.Rows PySem.Spec
namespace Mine
open PySem.SeqAt

section
variable {prog : Program} {w : World} {H : Heap} {A : Around} {X : AS} {s : Shared} {env : Env} {ρ : Rho} {E : Value → Shared → Prop}

def dN (i : Nat) : D := .int (i : Int)
theorem SrcE.range {func e : Expr} {pos : Pos} {N : Int} {n : Nat} (R : Room A n) (hc : NameCall func) (hf : Ev prog w H A env ρ func (.val (.type "range"))) (he : Ev prog w H A env ρ e (.int N)) (hn : noStar [e] = true) (h0 : 0 ≤ N) (h1 : N < 2 ^ 62) :
    SrcE prog w H A env ρ (.Call func [e] [] pos) ((List.range N.toNat).map dN) := by
  refine ⟨fun X s F Q E h => ?_⟩
  rw [hc]
  refine wpAny_bind (hf.run X s F _ _ fun fv s₁ k₁ r₁ => ?_)
  obtain rfl := r₁.inv
  rw [star_trees env pos [e] hn]
  refine PySem.callWith_type (trees_plain env [e]) (evalArgs_trees (spliced_cons (he.run X s₁ (F.keeps k₁) _ _ fun nv s₂ k₂ r₂ => spliced_nil ?_)))
  obtain ⟨tN, rfl⟩ := r₂.inv
  refine call_range_1 ?_
  refine wpAny_pyIter_range (IsRange.new ..) (small_one (by decide) (by decide) (by omega) h1) ?_
  have hsz : Builtin.Range.rangeSize 0 N 1 = (N.toNat : Int) := by rw [rangeSize_one]; split <;> omega
  refine h { s₂ with heap := s₂.heap.push _, toks := s₂.toks + 1 + 1 } _ _ (kTrans (kTrans k₁ k₂) (kMk fun b o e => Heap.get?_push_of_some _ e)) (kMk fun b o e => Heap.get?_push_of_some _ e) ?_
  have W := Walks.range (prog := prog) (w := w) (A := A) R.handled (s₂.heap.push { cls := .type "range", data := .fields #[.int 0 s₂.toks, .int N tN, .int 1 (s₂.toks + 1)] }).objs.size 0 1 N.toNat
  rw [show N.toNat = ((List.range N.toNat).map dN).length by simp] at W
  refine .mk _ _ _ _ W ?_ ?_ ?_ ?_ ?_ ?_
  · have e1 : (0 + ((0 : Nat) : Int) * 1) = 0 := by simp
    have e2 : ((((List.range N.toNat).map dN).length : Int) - ((0 : Nat) : Int)) = Builtin.Range.rangeSize 0 N 1 := by rw [hsz]; simp
    rw [e1, e2]
    exact Heap.get?_push_size _ rfl
  · intro b hb
    rw [List.mem_singleton] at hb; subst hb
    refine ⟨?_, (F.keeps (kTrans (kTrans k₁ k₂) (kMk (t := 0) fun b o e => Heap.get?_push_of_some _ e))).wd.fresh⟩
    show _ < ((Heap.push _ _).push _).objs.size
    simp only [Heap.size_push]; exact Nat.lt_succ_self _
  · intro b hb
    rw [List.mem_singleton] at hb; subst hb
    exact ⟨Above.of_le (Nat.le_refl _), _, Heap.get?_push_size _ rfl⟩
  · intro i h hst b hb
    rw [List.mem_singleton] at hb; subst hb
    exact ⟨_, hst⟩
  · intro X' i v h' hi hv hk
    obtain ⟨t, rfl⟩ := hv
    rw [List.length_map, List.length_range] at hi
    refine ⟨dN i, ?_, ?_⟩
    · rw [List.getElem?_map, List.getElem?_range hi]; rfl
    · have : (0 + (i : Int) * 1) = (i : Int) := by omega
      rw [this]; exact .int _ _
  · intro target i s u Q E st hQ
    exact lot_of (n := "range_iterator") (by decide) st rfl hQ

theorem Asg.pairT {x y : Str} {k : Nat} {px py pos : Pos} {dx dy : D} {n : Nat} (R : Room A n) (hx : StoreOk env x) (hy : StoreOk env y) : Asg prog w H A env ρ (.Tuple [.Name x px, .Name y py] k pos) [x, y] (.tuple [dx, dy]) ((y, dy) :: (x, dx) :: ρ) := by
  refine ⟨fun X s v F r Q E h => ?_⟩
  obtain ⟨l, m, vs, rfl, hX, hp, hl⟩ := r.inv
  obtain ⟨_, _, rfl, r1, hl⟩ := hl.inv; obtain ⟨_, _, rfl, r2, hl⟩ := hl.inv; cases hl with | nil =>
  refine wpAny_assign_Tuple R.handled (items := [_, _].toArray) ⟨_, hp, rfl, m, rfl⟩ rfl rfl fun h' he => ?_
  have k1 : Keeps s { s with heap := h' } := ⟨h', s.toks, rfl, fun b o e => he b o (Nat.ne_of_lt (Heap.lt_size e)) e⟩
  refine wpAny_assignInOrder_more ((Asg.name (prog := prog) (w := w) (A := A) hx).run X _ _ (F.keeps k1) (r1.keeps k1) _ _ fun s₁ kb1 F1 => ?_)
  refine wpAny_assignInOrder_more ((Asg.name (prog := prog) (w := w) (A := A) hy).run X _ _ F1 (((r2.keeps k1)).mono fun a o hx e => ⟨hx, kbKeep kb1 a o ?_ e⟩) _ _ fun s₂ kb2 F2 => wpAny_assignInOrder_none (h _ (kbTrans (kbOf k1) (kbTrans (kbMono kb1 ?_) (kbMono kb2 ?_))) F2))
  · rintro ⟨z, hz, hb | hb⟩
    · exact hx (hb ▸ F.xl)
    · exact hx (F.cellX z a hb).1
  · rintro b ⟨z, hz, hb⟩; rw [List.mem_singleton] at hz; subst hz; exact ⟨z, .head _, hb⟩
  · rintro b ⟨z, hz, hb⟩; rw [List.mem_singleton] at hz; subst hz; exact ⟨z, .tail _ (.head _), hb⟩
theorem Asg.pairL {x y : Str} {k : Nat} {px py pos : Pos} {dx dy : D} {n : Nat} (R : Room A n) (hx : StoreOk env x) (hy : StoreOk env y) : Asg prog w H A env ρ (.Tuple [.Name x px, .Name y py] k pos) [x, y] (.list [dx, dy]) ((y, dy) :: (x, dx) :: ρ) := by
  refine ⟨fun X s v F r Q E h => ?_⟩
  obtain ⟨l, vs, rfl, hX, hp, hl⟩ := r.inv
  obtain ⟨_, _, rfl, r1, hl⟩ := hl.inv; obtain ⟨_, _, rfl, r2, hl⟩ := hl.inv; cases hl with | nil =>
  have e0 : ∀ v, assign (.Tuple [.Name x px, .Name y py] k pos) env v = (do standAt pos; assignInOrder [assign (.Name x px) env, assign (.Name y py) env] (← holding [v] (unpackItems v 2 none))) := fun _ => rfl
  rw [e0]
  refine wpAny_bind (wpAny_standAt (wpAny_bind (wpAny_holding (kun_itemsOf R.handled (items := [_, _].toArray) hp.isList fun h' he => ?_))))
  have k1 : Keeps s { s with heap := h' } := ⟨h', s.toks, rfl, fun b o e => he b o (Nat.ne_of_lt (Heap.lt_size e)) e⟩
  refine wpAny_assignInOrder_more ((Asg.name (prog := prog) (w := w) (A := A) hx).run X _ _ (F.keeps k1) (r1.keeps k1) _ _ fun s₁ kb1 F1 => ?_)
  refine wpAny_assignInOrder_more ((Asg.name (prog := prog) (w := w) (A := A) hy).run X _ _ F1 (((r2.keeps k1)).mono fun a o hx e => ⟨hx, kbKeep kb1 a o ?_ e⟩) _ _ fun s₂ kb2 F2 => wpAny_assignInOrder_none (h _ (kbTrans (kbOf k1) (kbTrans (kbMono kb1 ?_) (kbMono kb2 ?_))) F2))
  · rintro ⟨z, hz, hb | hb⟩
    · exact hx (hb ▸ F.xl)
    · exact hx (F.cellX z a hb).1
  · rintro b ⟨z, hz, hb⟩; rw [List.mem_singleton] at hz; subst hz; exact ⟨z, .head _, hb⟩
  · rintro b ⟨z, hz, hb⟩; rw [List.mem_singleton] at hz; subst hz; exact ⟨z, .tail _ (.head _), hb⟩
end
end Mine
end

noncomputable section
open PySem PySem.W PySem.Calls PyProof.Rows PySem.Spec
namespace Mine
open PySem.SeqAt

def OwnZ (env : Env) : AS := fun b => b = env.locals ∨ ∃ x, env.cells.lookup x = some b

section
variable {prog : Program} {w : World} {H : Heap} {A : Around} {X : AS} {s : Shared} {env : Env} {ρ ρ' ρ'' : Rho} {E : Value → Shared → Prop}

theorem ZS_own {x : Str} {b : Addr} (h : ZS env x b) : OwnZ env b := h.elim .inl fun q => .inr ⟨x, q⟩
theorem ZT_own {xs : List Str} {b : Addr} (h : ZT env xs b) : OwnZ env b := let ⟨_, _, q⟩ := h; ZS_own q

/-- a statement that goes on -/
structure Ex1 (prog : Program) (w : World) (H : Heap) (A : Around) (env : Env) (ρ : Rho) (st : Stmt) (ρ' : Rho) : Prop where
  run : ∀ X s, FS H X env ρ s.heap → ∀ (Q : Flow → Shared → Prop) (E : Value → Shared → Prop), (∀ s', KeptBut (OwnZ env) s s' → FS H X env ρ' s'.heap → Q .next s') → wpAny (model prog w) A (exec st env) Q E s
structure ExL (prog : Program) (w : World) (H : Heap) (A : Around) (env : Env) (ρ : Rho) (sts : List Stmt) (ρ' : Rho) : Prop where
  run : ∀ X s, FS H X env ρ s.heap → ∀ (Q : Flow → Shared → Prop) (E : Value → Shared → Prop), (∀ s', KeptBut (OwnZ env) s s' → FS H X env ρ' s'.heap → Q .next s') → wpAny (model prog w) A (execs sts env) Q E s
/-- statements that end in a return -/
structure Bd (prog : Program) (w : World) (H : Heap) (A : Around) (env : Env) (ρ : Rho) (sts : List Stmt) (d : D) : Prop where
  run : ∀ X s, FS H X env ρ s.heap → ∀ (Q : Flow → Shared → Prop) (E : Value → Shared → Prop), (∀ v s', KeptBut (OwnZ env) s s' → Rd X s'.heap v d → Q (.ret v) s') → wpAny (model prog w) A (execs sts env) Q E s

theorem ExL.nil : ExL prog w H A env ρ [] ρ := ⟨fun X s F Q E h => wpAny_execs_nil (h s (kbOf kRfl) F)⟩
theorem ExL.cons {st : Stmt} {sts : List Stmt} (a : Ex1 prog w H A env ρ st ρ') (b : ExL prog w H A env ρ' sts ρ'') : ExL prog w H A env ρ (st :: sts) ρ'' := ⟨fun X s F Q E h => wpAny_execs_cons (a.run X s F _ _ fun s₁ k₁ F₁ => b.run X s₁ F₁ _ _ fun s₂ k₂ F₂ => h s₂ (kbTrans k₁ k₂) F₂)⟩
theorem Bd.seq {st : Stmt} {sts : List Stmt} {d : D} (a : Ex1 prog w H A env ρ st ρ') (b : Bd prog w H A env ρ' sts d) : Bd prog w H A env ρ (st :: sts) d := ⟨fun X s F Q E h => wpAny_execs_cons (a.run X s F _ _ fun s₁ k₁ F₁ => b.run X s₁ F₁ _ _ fun v s₂ k₂ r₂ => h v s₂ (kbTrans k₁ k₂) r₂)⟩
theorem Bd.ret {e : Expr} {pos : Pos} {sts : List Stmt} {d : D} (a : Ev prog w H A env ρ e d) : Bd prog w H A env ρ (.Return (some e) pos :: sts) d := ⟨fun X s F Q E h => wpAny_execs_cons (wpAny_Return_some (a.run X s F _ _ fun v s₁ k₁ r₁ => h v s₁ (kbOf k₁) r₁))⟩
theorem Bd.ifTake {t : Expr} {body orelse : List Stmt} {pos : Pos} {sts : List Stmt} {d : D} (a : Tst prog w H A env ρ t true) (b : Bd prog w H A env ρ body d) : Bd prog w H A env ρ (.If t body orelse pos :: sts) d := ⟨fun X s F Q E h => wpAny_execs_cons (wpAny_If (a.run X s F _ _ fun s₁ k₁ => b.run X s₁ (F.keeps k₁) _ _ fun v s₂ k₂ r₂ => h v s₂ (kbTrans (kbOf k₁) k₂) r₂))⟩
theorem Bd.ifSkip {t : Expr} {body : List Stmt} {pos : Pos} {sts : List Stmt} {d : D} (a : Tst prog w H A env ρ t false) (b : Bd prog w H A env ρ sts d) : Bd prog w H A env ρ (.If t body [] pos :: sts) d := ⟨fun X s F Q E h => wpAny_execs_cons (wpAny_If (a.run X s F _ _ fun s₁ k₁ => wpAny_execs_nil (b.run X s₁ (F.keeps k₁) _ _ fun v s₂ k₂ r₂ => h v s₂ (kbTrans (kbOf k₁) k₂) r₂)))⟩
theorem Ex1.if {t : Expr} {body orelse : List Stmt} {pos : Pos} {k : Bool} (a : Tst prog w H A env ρ t k) (b : k = true → ExL prog w H A env ρ body ρ') (c : k = false → ExL prog w H A env ρ orelse ρ') : Ex1 prog w H A env ρ (.If t body orelse pos) ρ' := by
  refine ⟨fun X s F Q E h => ?_⟩
  refine wpAny_If (a.run X s F _ _ fun s₁ k₁ => ?_)
  cases k with
  | true => exact (b rfl).run X s₁ (F.keeps k₁) _ _ fun s₂ k₂ F₂ => h s₂ (kbTrans (kbOf k₁) k₂) F₂
  | false => exact (c rfl).run X s₁ (F.keeps k₁) _ _ fun s₂ k₂ F₂ => h s₂ (kbTrans (kbOf k₁) k₂) F₂
theorem Ex1.weak {st : Stmt} (a : Ex1 prog w H A env ρ st ρ') (h : ∀ x d, ρ''.lookup x = some d → ρ'.lookup x = some d) : Ex1 prog w H A env ρ st ρ'' := ⟨fun X s F Q E k => a.run X s F Q E fun s' kb F' => k s' kb (F'.weak h)⟩

theorem Ex1.assign {x : Str} {px pos : Pos} {value : Expr} {d : D} (a : Ev prog w H A env ρ value d) (hk : StoreOk env x) (hs : swapsWith value (some (.Name x px)) pos.line env = pure false) : Ex1 prog w H A env ρ (.Assign [.Name x px] value pos) ((x, d) :: ρ) := ⟨fun X s F Q E h => wpAny_Assign_Name (a.run X s F _ _ fun v s₁ k₁ r₁ => (F.keeps k₁).store r₁ hk fun s₂ k₂ F₂ => h s₂ (kbTrans (kbOf k₁) (kbMono k₂ fun b => ZS_own)) F₂) hs⟩
theorem Ex1.assignPair {x y : Str} {k : Nat} {px py pt pos : Pos} {value : Expr} {dx dy : D} {n : Nat} (R : Room A n) (a : Ev prog w H A env ρ value (.list [dx, dy])) (hx : StoreOk env x) (hy : StoreOk env y)
    (hs : swapsWithSole [.Tuple [.Name x px, .Name y py] k pt] value pos.line env = pure false) (hw : swappedStores [.Tuple [.Name x px, .Name y py] k pt] value env = pure none) :
    Ex1 prog w H A env ρ (.Assign [.Tuple [.Name x px, .Name y py] k pt] value pos) ((y, dy) :: (x, dx) :: ρ) := ⟨fun X s F Q E h => Assign_Tuple (a.run X s F _ _ fun v s₁ k₁ r₁ => (Asg.pairL R hx hy).run X s₁ v (F.keeps k₁) r₁ _ _ fun s₂ k₂ F₂ => h s₂ (kbTrans (kbOf k₁) (kbMono k₂ fun b => ZT_own)) F₂) hs hw⟩

theorem FS.wide {h : Heap} {X' : AS} (F : FS H X env ρ h) (hX : ∀ a, X a → X' a) (hX' : ∀ a, X' a → X a ∨ h.get? a = none ∧ H.get? a = none) {h' : Heap} (k : ∀ b o, h.get? b = some o → h'.get? b = some o)
    (live : ∀ a, X' a → ∃ b o, a ≤ b ∧ h'.get? b = some o) : FS H X' env ρ h' := by
  have kr : ∀ {v : Value} {d : D}, Rd X h v d → Rd X' h' v d := fun r => r.mono fun a o hx e => ⟨fun q => (hX' a q).elim hx fun z => (by rw [e] at z; cases z.1), k a o e⟩
  refine ⟨fun a o e => k _ _ (F.base a o e), fun a q => (hX' a q).elim (F.bx a) And.right, live, F.fn, F.gl, F.bl, hX _ F.xl, ?_, ?_, ?_, F.own, F.apart⟩
  · obtain ⟨m, hn, hr⟩ := F.ns
    exact ⟨m, hn.keeps k, fun x d e1 e2 => let ⟨v, e3, r⟩ := hr x d e1 e2; ⟨v, e3, kr r⟩⟩
  · intro x d e1 e2
    obtain ⟨h1, c, v, h2, h3, h4⟩ := F.cells x d e1 e2
    exact ⟨h1, c, v, h2, h3.keeps k, kr h4⟩
  · intro x c e
    obtain ⟨h1, v, h2⟩ := F.cellX x c e
    exact ⟨hX _ h1, v, h2.keeps k⟩
theorem FS.drop {h h' h₀ : Heap} {X' Z : AS} {ρ₀ : Rho} (F : FS H X' env ρ h) (F₀ : FS H X env ρ₀ h₀) (hX : ∀ a, X a → X' a) (k : ∀ b o, ¬ Z b → h.get? b = some o → h'.get? b = some o) (hZ : ∀ b, Z b → X' b) (hL : ¬ Z env.locals)
    (hC : ∀ x c, env.cells.lookup x = some c → ¬ Z c) (live : ∀ a, X a → ∃ b o, a ≤ b ∧ h'.get? b = some o) : FS H X env ρ h' := by
  have kr : ∀ {v : Value} {d : D}, Rd X' h v d → Rd X h' v d := fun r => r.mono fun a o hx e => ⟨fun q => hx (hX a q), k a o (fun q => hx (hZ a q)) e⟩
  have kc : ∀ {x c v}, env.cells.lookup x = some c → h.IsCell c v → h'.IsCell c v := fun hc hv => let ⟨o, ho, hd⟩ := hv; ⟨o, k _ o (hC _ _ hc) ho, hd⟩
  refine ⟨fun a o e => k a o (fun q => ?_) (F.base a o e), F₀.bx, live, F.fn, F.gl, F.bl, F₀.xl, ?_, ?_, ?_, F.own, F.apart⟩
  · have := F.bx a (hZ a q); rw [e] at this; cases this
  · obtain ⟨m, hn, hr⟩ := F.ns
    exact ⟨m, hn.at' fun o e => k _ o hL e, fun x d e1 e2 => let ⟨v, e3, r⟩ := hr x d e1 e2; ⟨v, e3, kr r⟩⟩
  · intro x d e1 e2
    obtain ⟨h1, c, v, h2, h3, h4⟩ := F.cells x d e1 e2
    exact ⟨h1, c, v, h2, kc h2 h3, kr h4⟩
  · intro x c e
    obtain ⟨h1, v, h2⟩ := F.cellX x c e
    exact ⟨(F₀.cellX x c e).1, v, kc e h2⟩

theorem Ex1.assignComp {α : Type} {y : Str} {py spos : Pos} {elt iter target : Expr} {ifs : List Expr} {scope : Scope} {pos : Pos} {xs : List α} (inj : α → D) (p : α → Bool) (g : α → D) {tn : List Str} (ρt : α → Rho)
    (hsw : swapsWith (.ListComp elt [⟨target, iter, ifs, 0⟩] scope pos) (some (.Name y py)) spos.line env = pure true) (hy : StoreOk env y)
    (hsrc : SrcE prog w H A env ρ iter (xs.map inj)) (hs : ∀ x, foldedSetIterable iter env x = pure x) (hf : freeChk env scope ρ = true) (hcc : cellChk scope = true) (htn : tgtChk scope tn = true) (hkind : scope.kind = .function)
    (hnames : ∀ y ∈ scope.names, y.2 = .local → scope.names.lookup y.1 = some .local) (hsz : xs.length ≤ 100000)
    (hasg : ∀ C cells x, x ∈ xs → Asg prog w H A (compEnvC scope cells C env) (freeRho ρ scope.names) target tn (inj x) (ρt x))
    (htests : ∀ C cells x, x ∈ xs → TstL prog w H A (compEnvC scope cells C env) (ρt x) ifs (p x))
    (helt : ∀ C cells x, x ∈ xs → p x = true → Ev prog w H A (compEnvC scope cells C env) (ρt x) elt (g x))
    (hback : ∀ x ∈ xs, ∀ y d, (freeRho ρ scope.names).lookup y = some d → (ρt x).lookup y = some d) :
    Ex1 prog w H A env ρ (.Assign [.Name y py] (.ListComp elt [⟨target, iter, ifs, 0⟩] scope pos) spos) ((y, .list ((xs.filter p).map g)) :: ρ) := by
  refine ⟨fun X s F Q E h => ?_⟩
  rw [exec_Assign_Name_used _ _ _ _ hsw]
  refine wpAny_bind (wpAny_standAt (wpAny_bind ?_))
  show wpAny _ A (do let _ ← comprehension (.ListComp elt [⟨target, iter, ifs, 0⟩] scope pos) scope env _ (newList []) false (eval iter env) (some (PySem.assign (.Name y py) env))) _ _ s
  refine wpAny_bind (wpAny_mono (comp_core inj p g ρt hsrc hs hf hcc htn hkind hnames hsz hasg htests helt hback (some (PySem.assign (.Name y py) env)) (Q := fun _ s' => Q .next s') (E := E) F fun s₁ s' C D m vs k₁ k₂ aC aD hDC hn hp hrl => ?_)
    (fun _ s' hq => wpAny_pure (wpAny_pure hq)) fun _ _ e => e)
  show wpAny _ A (PySem.assign (.Name y py) env (.ref D)) _ _ _
  have F1 := F.keeps k₁
  have hC := aC.none
  have r := rd_acc F1.wd aD hDC hp hrl
  have kk := kKeep k₂
  have hCs : ∃ o, s'.heap.get? C = some o := let ⟨o, _, _, ho, _⟩ := hn; ⟨o, ho⟩
  have F2 : FS H (fun a => X a ∨ a = C) env ρ s'.heap := F1.wide (fun a q => .inl q) (fun a q => q.imp id fun (z : a = C) => ⟨by rw [z]; exact hC, by
      cases e : H.get? a with
      | none => rfl
      | some o => have := F1.base a o e; rw [z, hC] at this; cases this⟩) kk fun a q => by
    rcases q with q | q
    · obtain ⟨b, o, l, e⟩ := F1.live a q
      exact ⟨b, o, l, kk b o e⟩
    · obtain ⟨o, e⟩ := hCs
      exact ⟨C, o, Nat.le_of_eq q, e⟩
  have hLC : env.locals ≠ C := by
    intro q
    obtain ⟨m₁, ⟨o, _, _, ho, _⟩, _⟩ := F1.ns
    rw [q, hC] at ho; cases ho
  have hcC : ∀ x c, env.cells.lookup x = some c → c ≠ C := by
    intro x c e q
    obtain ⟨_, v, o, ho, _⟩ := F1.cellX x c e
    rw [q, hC] at ho; cases ho
  refine (Asg.name (prog := prog) (w := w) (A := A) hy).run _ s' _ F2 r _ _ fun s₃ k₃ F₃ => ?_
  have hn3 : s₃.heap.Ns C m := hn.at' fun o e => kbKeep k₃ _ o (by
    rintro ⟨z, hz, q | q⟩
    · exact hLC q.symm
    · exact hcC _ _ q rfl) e
  refine ⟨m, hn3, fun h' hs' => ?_⟩
  have live' : ∀ a, X a → ∃ b o, a ≤ b ∧ h'.get? b = some o := fun a q => by
    obtain ⟨b, o, l, e⟩ := F1.live a q
    have hbC : b ≠ C := fun z => by rw [z, hC] at e; cases e
    by_cases z : ZT env [y] b
    · rcases z with ⟨x, hx, z | z⟩
      · obtain ⟨m₁, ⟨o', _, _, ho', _⟩, _⟩ := F₃.ns
        exact ⟨b, o', l, hs'.extBut b o' hbC (by rw [z]; exact ho')⟩
      · obtain ⟨_, v, o', ho', _⟩ := F₃.cellX x b z
        exact ⟨b, o', l, hs'.extBut b o' hbC ho'⟩
    · exact ⟨b, o, l, hs'.extBut b o hbC (kbKeep k₃ b o z (kk b o e))⟩
  refine h _ ?_ (F₃.drop (Z := fun b => b = C) F1 (fun a q => .inl q) (fun b o hb e => hs'.extBut b o hb e) (fun b q => .inr q) hLC hcC live')
  have k13 : KeptBut (OwnZ env) s₁ s₃ := kbTrans (kbOf k₂) (kbMono k₃ fun b => ZT_own)
  have kk3 := kbKeep k13
  refine kbTrans (kbOf k₁) ?_
  obtain ⟨h3, t3, e3, _⟩ := k13
  exact ⟨h', t3, by rw [e3], fun b o hb e => hs'.extBut b o (fun q => by rw [q, hC] at e; cases e) (kk3 b o hb e)⟩
end
end Mine
end

noncomputable section
open PySem PySem.W PySem.Calls PyProof.Rows PySem.Spec
namespace Mine
open PySem.SeqAt

/-- the frame of a called def -/
def fenv (qual : Str) (scope : Scope) (L f : Addr) (cdv : Value) : Env :=
  newEnv scope L mainGlobals (cellsFrom (L + 1) scope.names []) (qual ++ ".<locals>.") (some f) cdv none builtinsNs

section
variable {prog : Program} {w : World} {H : Heap} {A : Around} {X : AS} {s : Shared} {ρ ρ' ρ'' : Rho} {E : Value → Shared → Prop}

theorem lookup_map_none {α : Type} {x : Str} : ∀ {l : List (Str × α)}, x ∉ l.map (·.1) → l.lookup x = none
  | [], _ => rfl
  | (y, v) :: r, h => by
    rw [List.lookup_cons]
    have q : x ≠ y := fun q => h (by rw [q]; exact .head _)
    rw [show (x == y) = false by simpa using q]
    exact lookup_map_none fun z => h (.tail _ z)
theorem bindL_out {kd : Str → Option NameKind} {x : Str} : ∀ {binds : List (Str × Value)} {m : Str → Option Value}, x ∉ binds.map (·.1) → bindL kd binds m x = m x
  | [], _, _ => rfl
  | (y, v) :: r, m, h => by
    unfold bindL
    rw [bindL_out fun z => h (.tail _ z)]
    have q : x ≠ y := fun q => h (by rw [q]; exact .head _)
    split <;> simp [q]
theorem bindC_out {kd : Str → Option NameKind} {x : Str} : ∀ {binds : List (Str × Value)} {m : Str → Option Value}, x ∉ binds.map (·.1) → bindC kd binds m x = m x
  | [], _, _ => rfl
  | (y, v) :: r, m, h => by
    unfold bindC
    rw [bindC_out fun z => h (.tail _ z)]
    have q : x ≠ y := fun q => h (by rw [q]; exact .head _)
    split <;> simp [q]
/-- the arguments are read as data -/
inductive BindRd (X : AS) (h : Heap) : List (Str × Value) → Rho → Prop
  | nil : BindRd X h [] []
  | cons {n : Str} {v : Value} {d : D} {bs : List (Str × Value)} {ρ : Rho} : Rd X h v d → BindRd X h bs ρ → BindRd X h ((n, v) :: bs) ((n, d) :: ρ)
theorem BindRd.names {h : Heap} : ∀ {bs : List (Str × Value)} {ρ : Rho}, BindRd X h bs ρ → bs.map (·.1) = ρ.map (·.1)
  | _, _, .nil => rfl
  | _, _, .cons _ r => by simp [BindRd.names r]
theorem BindRd.zip {h : Heap} : ∀ {ns : List Str} {vs : List Value} {ds : List D}, ns.length = ds.length → RdL X h vs ds → BindRd X h (ns.zip vs) (ns.zip ds)
  | [], _, _, e, r => by cases r <;> first | exact .nil | cases e
  | n :: ns, _, _, e, r => by
    cases r with
    | nil => cases e
    | cons a b => exact .cons a (BindRd.zip (by simpa using e) b)
theorem BindRd.local {h : Heap} {kd : Str → Option NameKind} {x : Str} {d : D} (hk : kd x = some .local) : ∀ {bs : List (Str × Value)} {ρ : Rho} {m : Str → Option Value}, BindRd X h bs ρ → (ρ.map (·.1)).Nodup → ρ.lookup x = some d → ∃ v, bindL kd bs m x = some v ∧ Rd X h v d
  | _, _, _, .nil, _, e => nomatch e
  | _, _, m, .cons (n := n) (v := v) a r, nd, e => by
    have nd' := List.nodup_cons.mp nd
    rw [lookup_cons_eq] at e
    unfold bindL
    by_cases q : x = n
    · rw [if_pos q] at e
      cases e
      subst q
      refine ⟨v, ?_, a⟩
      rw [bindL_out (by rw [r.names]; exact nd'.1), if_pos hk]
      simp
    · rw [if_neg q] at e
      exact BindRd.local hk r nd'.2 e
theorem BindRd.cell {h : Heap} {kd : Str → Option NameKind} {x : Str} {d : D} (hk : kd x ≠ some .local) : ∀ {bs : List (Str × Value)} {ρ : Rho} {m : Str → Option Value}, BindRd X h bs ρ → (ρ.map (·.1)).Nodup → ρ.lookup x = some d → ∃ v, bindC kd bs m x = some v ∧ Rd X h v d
  | _, _, _, .nil, _, e => nomatch e
  | _, _, m, .cons (n := n) (v := v) a r, nd, e => by
    have nd' := List.nodup_cons.mp nd
    rw [lookup_cons_eq] at e
    unfold bindC
    by_cases q : x = n
    · rw [if_pos q] at e
      cases e
      subst q
      refine ⟨v, ?_, a⟩
      rw [bindC_out (by rw [r.names]; exact nd'.1), if_neg hk]
      simp
    · rw [if_neg q] at e
      exact BindRd.cell hk r nd'.2 e
theorem BindRd.mono {X' : AS} {h h' : Heap} (k : ∀ a o, ¬ X a → h.get? a = some o → ¬ X' a ∧ h'.get? a = some o) : ∀ {bs : List (Str × Value)} {ρ : Rho}, BindRd X h bs ρ → BindRd X' h' bs ρ
  | _, _, .nil => .nil
  | _, _, .cons a r => .cons (a.mono k) (BindRd.mono k r)

/-- looks at a def's names -/
def defChk (scope : Scope) (names : List Str) : Bool :=
  names.all (fun x => scope.names.lookup x == some .local || scope.names.lookup x == some .cell) && cellChk scope

def CallK (prog : Program) (w : World) (H : Heap) (A : Around) (f : Value) (mk : List Value → List Value × List (Str × Value)) (ds : List D) (d : D) : Prop :=
  ∀ X s vs, Wd H X s.heap → RdL X s.heap vs ds → Gv prog w A X s (call f (mk vs).1 (mk vs).2) d

theorem call_def {K : Frag} {mg mb : Str → Option Value} (W : WF K H mg mb) {n : Nat} (R : Room A (n + 1)) {name qual : Str} {params : Arguments} {body : List Stmt} {scope : Scope} {dV kV doc pm cdv ct oc : Value} {an od : Option Addr}
    {osl : Array (Option Value)} {f : Addr} (ho : K.lookup f = some ⟨oc, od, .func (fnOf name qual params body scope dV kV doc pm an cdv ct), osl⟩) (hcd : codeIn K cdv qual = true)
    {args : Args} {binds : List (Str × Value)} {ρ₀ : Rho} {d : D} (Wh : Wd H X s.heap) (hb : BindsTo s (fnOf name qual params body scope dV kV doc pm an cdv ct) args binds) (hr : BindRd X s.heap binds ρ₀) (hnd : (ρ₀.map (·.1)).Nodup)
    (hck : defChk scope (ρ₀.map (·.1)) = true) (hk : scope.kind = .function) (hco : scope.isCoroutine = false) (hgen : scope.isGenerator = false)
    (hbody : ∀ L A', Room A' n → Bd prog w H A' (fenv qual scope L f cdv) ρ₀ body d) : Gv prog w A X s (call (.ref f) args.pos args.kw) d := by
  intro Q E h
  have hK := W.kin.keeps Wh.base
  have hck' := Bool.and_eq_true_iff.mp hck
  have hkd : ∀ x ∈ binds.map (·.1), scope.names.lookup x = some .local ∨ scope.names.lookup x = some .cell := fun x hx => by
    have q := List.all_eq_true.mp hck'.1 x (by rw [← hr.names]; exact hx)
    simpa using q
  refine wpAny_call (codeAny_call_function (fd := fnOf name qual params body scope dV kV doc pm an cdv ct) (body := body) R.lim (hK _ _ ho) rfl hco hgen rfl (codeRec_of hK hcd) (hb _ _ _ _ ?_))
  refine wpAny_newFunctionEnv_cells (binds := binds) hk (fun x hx => ?_) fun env he s₁ C => ?_
  · rcases hkd x.1 (List.mem_map_of_mem hx) with q | q
    · exact .inl q
    · exact .inr ⟨q, by
        obtain ⟨c, hc⟩ := cellsFrom_has (n := s.heap.objs.size + 1) (acc := []) (.inl (mem_lookup q))
        rw [hc]; rfl⟩
  subst he
  refine ⟨(W.nolimit.keeps Wh.base).keeps C.toInCall.keep, codeAny_func ?_⟩
  generalize hL : s.heap.objs.size = L at C ⊢
  have he : newEnv (fnOf name qual params body scope dV kV doc pm an cdv ct).scope L (fnOf name qual params body scope dV kV doc pm an cdv ct).globals (cellsFrom (L + 1) (fnOf name qual params body scope dV kV doc pm an cdv ct).scope.names [])
      ((fnOf name qual params body scope dV kV doc pm an cdv ct).qualname ++ ".<locals>.") (some f) (fnOf name qual params body scope dV kV doc pm an cdv ct).code none (fnOf name qual params body scope dV kV doc pm an cdv ct).builtins = fenv qual scope L f cdv := rfl
  rw [he] at C ⊢
  have hcl : (fenv qual scope L f cdv).cells = cellsFrom (L + 1) scope.names [] := rfl
  have hkof : ∀ x, (fenv qual scope L f cdv).kindOf x = scope.names.lookup x := fun _ => rfl
  have kk := C.toInCall.keep
  have newL : ∀ c, L ≤ c → s.heap.get? c = none := fun c hc => get_none_of_le (by rw [hL]; exact hc)
  have hcn : ∀ x c, (fenv qual scope L f cdv).cells.lookup x = some c → L < c ∧ ∃ v, s₁.heap.IsCell c v := fun x c e => ⟨C.above x c (mem_lookup e), _, C.cell x c e⟩
  have hnsL := C.toInCall.ns
  have F : FS H (XN X s.heap s₁.heap) (fenv qual scope L f cdv) ρ₀ s₁.heap := by
    have hr' : BindRd (XN X s.heap s₁.heap) s₁.heap binds ρ₀ := hr.mono fun a o hx e => ⟨fun q => q.elim hx fun z => (by rw [e] at z; cases z.1), kk a o e⟩
    refine ⟨fun a o e => kk _ _ (Wh.base a o e), fun a q => ?_, fun a q => ?_, hk, rfl, rfl, ?_, ⟨_, hnsL, ?_⟩, ?_, ?_, ?_, ?_⟩
    · rcases q with q | ⟨q, _⟩
      · exact Wh.bx a q
      · cases e : H.get? a with
        | none => rfl
        | some o => have := Wh.base a o e; rw [q] at this; cases this
    · rcases q with q | ⟨_, o, q⟩
      · obtain ⟨b, o, l, e⟩ := Wh.live a q
        exact ⟨b, o, l, kk _ _ e⟩
      · exact ⟨a, o, Nat.le_refl _, q⟩
    · obtain ⟨o, es, ep, ho, _⟩ := hnsL
      exact .inr ⟨newL _ (Nat.le_refl _), o, ho⟩
    · intro x d e1 e2
      exact hr'.local e2 hnd e1
    · intro x d e1 e2
      have hx : x ∈ binds.map (·.1) := by
        rw [hr.names]
        exact List.mem_map_of_mem (mem_lookup e1)
      rcases hkd x hx with q | q
      · exact absurd (by rw [hkof]; exact q) e2
      · refine ⟨.inl (by rw [hkof]; exact q), ?_⟩
        obtain ⟨c, hc⟩ := cellsFrom_has (n := L + 1) (acc := []) (.inl (mem_lookup q))
        obtain ⟨v, hv, r⟩ := hr'.cell (m := fun _ => none) e2 hnd e1
        exact ⟨c, v, hc, hv ▸ C.cell x c hc, r⟩
    · intro x c e
      obtain ⟨h1, v, h2⟩ := hcn x c e
      obtain ⟨o, ho, hd⟩ := h2
      exact ⟨.inr ⟨newL c (Nat.le_of_lt h1), o, ho⟩, v, o, ho, hd⟩
    · intro x e
      rw [hkof] at e
      exact cellsFrom_has (.inl (mem_lookup e))
    · intro x y c e1 e2
      rw [hcl] at e1 e2
      exact cellsFrom_inj scope.names (L + 1) [] (fun _ _ z => nomatch z) (fun _ _ _ z => nomatch z) e1 e2
  refine (hbody L _ (R.deeper _)).run _ _ F _ _ fun v s₂ kb r => ?_
  have k2 : Keeps s s₂ := by
    have kb' := kbKeep kb
    obtain ⟨h1, t1, e1⟩ := C.toInCall.same
    obtain ⟨h2, t2, e2, _⟩ := kb
    refine ⟨h2, t2, by rw [e2, e1], fun b o e => ?_⟩
    have hbL : b < L := hL ▸ Heap.lt_size e
    have := kb' b o (fun q => by
      rcases q with q | ⟨x, q⟩
      · exact absurd hbL (by rw [q]; exact Nat.lt_irrefl _)
      · exact absurd (Nat.lt_trans hbL (hcn x b q).1) (Nat.lt_irrefl _)) (kk b o e)
    rw [e2] at this
    exact this
  exact h v s₂ k2 (r.mono fun a o hx e => ⟨fun q => hx (.inl q), e⟩)

/-- a def called by place -/
theorem CallG.fn {K : Frag} {mg mb : Str → Option Value} (W : WF K H mg mb) {n : Nat} (R : Room A (n + 1)) {name qual : Str} {params : Arguments} {body : List Stmt} {scope : Scope} {dV kV doc pm cdv ct oc : Value} {an od : Option Addr}
    {osl : Array (Option Value)} {f : Addr} (ho : K.lookup f = some ⟨oc, od, .func (fnOf name qual params body scope dV kV doc pm an cdv ct), osl⟩) (hcd : codeIn K cdv qual = true)
    {names : List Str} {ds : List D} {d : D} (hlen : names.length = ds.length) (hb : ∀ vs : List Value, vs.length = ds.length → bindArgs (fnOf name qual params body scope dV kV doc pm an cdv ct) ⟨vs, []⟩ = pure (names.zip vs)) (hnd : names.Nodup)
    (hck : defChk scope names = true) (hk : scope.kind = .function) (hco : scope.isCoroutine = false) (hgen : scope.isGenerator = false)
    (hbody : ∀ L A', Room A' n → Bd prog w H A' (fenv qual scope L f cdv) (names.zip ds) body d) : CallG prog w H A (.ref f) ds d := by
  refine ⟨fun X s vs Wh r => ?_⟩
  have e : (names.zip ds).map (·.1) = names := by rw [List.map_fst_zip]; omega
  exact call_def (args := ⟨vs, []⟩) W R ho hcd Wh (BindsTo.of_eq (hb vs r.length)) (BindRd.zip hlen r) (by rw [e]; exact hnd) (by rw [e]; exact hck) hk hco hgen hbody
end
end Mine
end

noncomputable section
open PySem PySem.W PySem.Calls PyProof.Rows PySem.Spec
namespace Mine
open PySem.SeqAt

section
variable {prog : Program} {w : World} {H : Heap} {A : Around} {X : AS} {s : Shared} {ρ : Rho} {E : Value → Shared → Prop}

theorem one {vs : List Value} {d : D} {h : Heap} (r : RdL X h vs [d]) : ∃ v, vs = [v] ∧ Rd X h v d := by
  obtain ⟨_, _, rfl, a, b⟩ := r.inv; obtain rfl := b.inv; exact ⟨_, rfl, a⟩
theorem two {vs : List Value} {d e : D} {h : Heap} (r : RdL X h vs [d, e]) : ∃ v u, vs = [v, u] ∧ Rd X h v d ∧ Rd X h u e := by
  obtain ⟨_, _, rfl, a, b⟩ := r.inv; obtain ⟨_, _, rfl, b1, c⟩ := b.inv; obtain rfl := c.inv; exact ⟨_, _, rfl, a, b1⟩

theorem c_chr {i : Int} (hi : (decide (i < 0) || decide (i > 0x10FFFF)) = false) : CallG prog w H A (.builtin "chr") [.int i] (.str ⟨#[i.toNat]⟩) := by
  refine ⟨fun X s vs W r Q E h => ?_⟩
  obtain ⟨v, rfl, r1⟩ := one r
  obtain ⟨t, rfl⟩ := r1.inv
  exact call_function_meets F.kind_chr F.plain_chr F.entry_chr (F.args_chr1 _) (gives_chr i t hi).meets ⟨(by show 1 ≤ sizeLine; decide), h _ _ (kTok _ _) (.str _ _)⟩
theorem c_join {sep : Str} {ys : List Str} (hok : (ys.map (·.length)).sum + ys.length * sep.length ≤ 16777216) : CallG prog w H A (.builtin "str.join") [.str sep, .list (dS ys)] (.str (Txt.join sep ys)) := by
  refine ⟨fun X s vs W r Q E h => ?_⟩
  obtain ⟨v, u, rfl, r1, r2⟩ := two r
  obtain ⟨t, rfl⟩ := r1.inv; obtain ⟨l, vs, rfl, hx, hp, hl⟩ := r2.inv
  exact PyProof.Rows.join_list hp.isList (rdl_strs hl) hok fun t' k => h _ _ (kTok _ _) (.str _ _)
theorem c_len {ds : List D} (hz : ds.length ≤ 16777216) : CallG prog w H A (.builtin "len") [.list ds] (.int ds.length) := by
  refine ⟨fun X s vs W r Q E h => ?_⟩
  obtain ⟨v, rfl, r1⟩ := one r
  obtain ⟨l, vs, rfl, hx, hp, hl⟩ := r1.inv
  have hn := hl.length
  refine Calls.call_len_list hp.isList (by simp; omega) ?_
  have e : (vs.toArray.size : Int) = ds.length := by simp [hn]
  rw [e]; exact h _ _ (kTok _ _) (.int _ _)
theorem c_sum {ns : List Int} {n : Nat} (R : Room A n) : CallG prog w H A (.builtin "sum") [.list (dI ns)] (.int ns.sum) := by
  refine ⟨fun X s vs W r Q E h => ?_⟩
  obtain ⟨v, rfl, r1⟩ := one r
  obtain ⟨l, vs, rfl, hx, hp, hl⟩ := r1.inv
  have hi := rdl_ints hl
  obtain ⟨xs, hxs⟩ := hi.allInts.items
  have hl' : s.heap.IsList l (intItems xs) := hxs ▸ hp.isList
  refine sum_intListG R.handled hl' fun h' tk t' hk => ?_
  have e1 : ns = xs.toList.map (·.1) := by
    rw [← nums_intItems, ← hxs]
    exact (show numsOf vs.toArray.toList = ns from hi.numsOf).symm
  have e2 : preSum (numAt xs) xs.size = ns.sum := by
    rw [preSum_eq, List.take_of_length_le (by simp), e1]
  rw [e2]
  exact h _ _ (kMk hk) (.int _ _)
theorem c_bytes {ns : List Int} {n : Nat} (R : Room A n) (hr : ∀ n ∈ ns, 0 ≤ n ∧ n < 256) (hz : ns.length ≤ 1000) : CallG prog w H A (.type "bytes") [.list (dI ns)] (.bytes (byteArr ns)) := by
  refine ⟨fun X s vs W r Q E h => ?_⟩
  obtain ⟨v, rfl, r1⟩ := one r
  obtain ⟨l, vs, rfl, hx, hp, hl⟩ := r1.inv
  have hn := hl.length
  exact call_bytes_ints hp.isList (rdl_ints hl) hr (by rw [hn, List.length_map]; exact Nat.le_trans hz (by decide)) R.handled fun h' t k hk => h _ _ (kMk hk) (.bytes _ _)
end
end Mine
end

noncomputable section
open PySem PySem.W PySem.Calls PyProof.Rows PySem.Spec
namespace Mine
open PySem.SeqAt

section
variable {prog : Program} {w : World} {H : Heap} {A : Around} {X : AS} {s : Shared} {env : Env} {ρ ρf : Rho} {E : Value → Shared → Prop}

/-- looks at a comprehension, all at once -/
def compChk (env : Env) (scope : Scope) (ρ : Rho) (tn : List Str) : Bool :=
  freeChk env scope ρ && cellChk scope && tgtChk scope tn && scope.kind == .function && scope.names.all fun y => y.2 != .local || scope.names.lookup y.1 == some .local
theorem compChk_at {scope : Scope} {tn : List Str} (h : compChk env scope ρ tn = true) : freeChk env scope ρ = true ∧ cellChk scope = true ∧ tgtChk scope tn = true ∧ scope.kind = .function ∧
    ∀ y ∈ scope.names, y.2 = .local → scope.names.lookup y.1 = some .local := by
  unfold compChk at h
  simp only [Bool.and_eq_true] at h
  obtain ⟨⟨⟨⟨h1, h2⟩, h3⟩, h4⟩, h5⟩ := h
  refine ⟨h1, h2, h3, eq_of_beq h4, fun y hy e => ?_⟩
  have := List.all_eq_true.mp h5 y hy
  rw [e] at this
  simpa using this

theorem back1 {x0 : Str} {d : D} (hno : ρf.lookup x0 = none) : ∀ y e, ρf.lookup y = some e → ((x0, d) :: ρf).lookup y = some e := fun y e h => by
  rw [lookup_cons_eq, if_neg (fun q => by rw [q, hno] at h; cases h)]; exact h
theorem back2 {x0 y0 : Str} {d e : D} (hno : ρf.lookup x0 = none) (hno' : ρf.lookup y0 = none) : ∀ y e', ρf.lookup y = some e' → ((y0, e) :: (x0, d) :: ρf).lookup y = some e' := fun y e' h => by
  rw [lookup_cons_eq, if_neg (fun q => by rw [q, hno'] at h; cases h)]; exact back1 hno y e' h

theorem Ev.comp1 {α : Type} {elt iter : Expr} {x0 : Str} {px : Pos} {scope : Scope} {pos : Pos} {xs : List α} (inj : α → D) (g : α → D)
    (hsrc : SrcE prog w H A env ρ iter (xs.map inj)) (hρ : freeRho ρ scope.names = ρf) (hno : ρf.lookup x0 = none) (hsz : xs.length ≤ 100000) (hck : compChk env scope ρ [x0] = true) (hst : ∀ C cells, StoreOk (compEnvC scope cells C env) x0)
    (helt : ∀ C cells x, x ∈ xs → Ev prog w H A (compEnvC scope cells C env) ((x0, inj x) :: ρf) elt (g x)) (hs : ∀ x, foldedSetIterable iter env x = pure x) :
    Ev prog w H A env ρ (.ListComp elt [⟨.Name x0 px, iter, [], 0⟩] scope pos) (.list (xs.map g)) := by
  subst hρ
  obtain ⟨h1, h2, h3, h4, h5⟩ := compChk_at hck
  have := Ev.comp (pos := pos) inj (fun _ => true) g (tn := [x0]) (fun x => (x0, inj x) :: freeRho ρ scope.names) hsrc hs h1 h2 h3 h4 h5 hsz (fun C cells x _ => Asg.name (pos := px) (hst C cells)) (ifs := []) (fun _ _ _ _ => rfl) (fun C cells x hx _ => helt C cells x hx) (fun _ _ => back1 hno)
  rw [List.filter_eq_self.mpr (fun _ _ => rfl)] at this
  exact this
theorem Ev.comp1T {α : Type} {elt iter c : Expr} {x0 : Str} {px : Pos} {scope : Scope} {pos : Pos} {xs : List α} (inj : α → D) (p : α → Bool) (g : α → D)
    (hsrc : SrcE prog w H A env ρ iter (xs.map inj)) (hρ : freeRho ρ scope.names = ρf) (hno : ρf.lookup x0 = none) (hsz : xs.length ≤ 100000) (hck : compChk env scope ρ [x0] = true) (hst : ∀ C cells, StoreOk (compEnvC scope cells C env) x0)
    (htest : ∀ C cells x, x ∈ xs → Tst prog w H A (compEnvC scope cells C env) ((x0, inj x) :: ρf) c (p x))
    (helt : ∀ C cells x, x ∈ xs → p x = true → Ev prog w H A (compEnvC scope cells C env) ((x0, inj x) :: ρf) elt (g x)) (hs : ∀ x, foldedSetIterable iter env x = pure x) :
    Ev prog w H A env ρ (.ListComp elt [⟨.Name x0 px, iter, [c], 0⟩] scope pos) (.list ((xs.filter p).map g)) := by
  subst hρ
  obtain ⟨h1, h2, h3, h4, h5⟩ := compChk_at hck
  exact Ev.comp (pos := pos) inj p g (tn := [x0]) (fun x => (x0, inj x) :: freeRho ρ scope.names) hsrc hs h1 h2 h3 h4 h5 hsz (fun C cells x _ => Asg.name (pos := px) (hst C cells)) (ifs := [c]) htest helt (fun _ _ => back1 hno)
theorem Ev.comp2T {α : Type} {elt iter c : Expr} {x0 y0 : Str} {px py pt : Pos} {k : Nat} {scope : Scope} {pos : Pos} {xs : List α} {n : Nat} (R : Room A n) (inj1 inj2 : α → D) (p : α → Bool) (g : α → D)
    (hsrc : SrcE prog w H A env ρ iter (xs.map fun x => .tuple [inj1 x, inj2 x])) (hρ : freeRho ρ scope.names = ρf) (hno : ρf.lookup x0 = none) (hno' : ρf.lookup y0 = none) (hsz : xs.length ≤ 100000) (hck : compChk env scope ρ [x0, y0] = true)
    (hst : ∀ C cells, StoreOk (compEnvC scope cells C env) x0) (hst' : ∀ C cells, StoreOk (compEnvC scope cells C env) y0)
    (htest : ∀ C cells x, x ∈ xs → Tst prog w H A (compEnvC scope cells C env) ((y0, inj2 x) :: (x0, inj1 x) :: ρf) c (p x))
    (helt : ∀ C cells x, x ∈ xs → p x = true → Ev prog w H A (compEnvC scope cells C env) ((y0, inj2 x) :: (x0, inj1 x) :: ρf) elt (g x)) (hs : ∀ x, foldedSetIterable iter env x = pure x) :
    Ev prog w H A env ρ (.ListComp elt [⟨.Tuple [.Name x0 px, .Name y0 py] k pt, iter, [c], 0⟩] scope pos) (.list ((xs.filter p).map g)) := by
  subst hρ
  obtain ⟨h1, h2, h3, h4, h5⟩ := compChk_at hck
  exact Ev.comp (pos := pos) (fun x => .tuple [inj1 x, inj2 x]) p g (tn := [x0, y0]) (fun x => (y0, inj2 x) :: (x0, inj1 x) :: freeRho ρ scope.names) hsrc hs h1 h2 h3 h4 h5 hsz
    (fun C cells x _ => Asg.pairT R (hst C cells) (hst' C cells)) (ifs := [c]) htest helt (fun _ _ => back2 hno hno')
theorem Ex1.assignComp1 {α : Type} {y : Str} {py spos : Pos} {elt iter : Expr} {x0 : Str} {px : Pos} {scope : Scope} {pos : Pos} {xs : List α} (inj : α → D) (g : α → D)
    (hsw : swapsWith (.ListComp elt [⟨.Name x0 px, iter, [], 0⟩] scope pos) (some (.Name y py)) spos.line env = pure true) (hy : StoreOk env y)
    (hsrc : SrcE prog w H A env ρ iter (xs.map inj)) (hρ : freeRho ρ scope.names = ρf) (hno : ρf.lookup x0 = none) (hsz : xs.length ≤ 100000) (hck : compChk env scope ρ [x0] = true) (hst : ∀ C cells, StoreOk (compEnvC scope cells C env) x0)
    (helt : ∀ C cells x, x ∈ xs → Ev prog w H A (compEnvC scope cells C env) ((x0, inj x) :: ρf) elt (g x)) (hs : ∀ x, foldedSetIterable iter env x = pure x) :
    Ex1 prog w H A env ρ (.Assign [.Name y py] (.ListComp elt [⟨.Name x0 px, iter, [], 0⟩] scope pos) spos) ((y, .list (xs.map g)) :: ρ) := by
  subst hρ
  obtain ⟨h1, h2, h3, h4, h5⟩ := compChk_at hck
  have := Ex1.assignComp (py := py) (pos := pos) inj (fun _ => true) g (tn := [x0]) (fun x => (x0, inj x) :: freeRho ρ scope.names) (ifs := []) hsw hy hsrc hs h1 h2 h3 h4 h5 hsz (fun C cells x _ => Asg.name (pos := px) (hst C cells)) (fun _ _ _ _ => rfl) (fun C cells x hx _ => helt C cells x hx) (fun _ _ => back1 hno)
  rw [List.filter_eq_self.mpr (fun _ _ => rfl)] at this
  exact this
theorem Ex1.assignComp1T {α : Type} {y : Str} {py spos : Pos} {elt iter c : Expr} {x0 : Str} {px : Pos} {scope : Scope} {pos : Pos} {xs : List α} (inj : α → D) (p : α → Bool) (g : α → D)
    (hsw : swapsWith (.ListComp elt [⟨.Name x0 px, iter, [c], 0⟩] scope pos) (some (.Name y py)) spos.line env = pure true) (hy : StoreOk env y)
    (hsrc : SrcE prog w H A env ρ iter (xs.map inj)) (hρ : freeRho ρ scope.names = ρf) (hno : ρf.lookup x0 = none) (hsz : xs.length ≤ 100000) (hck : compChk env scope ρ [x0] = true) (hst : ∀ C cells, StoreOk (compEnvC scope cells C env) x0)
    (htest : ∀ C cells x, x ∈ xs → Tst prog w H A (compEnvC scope cells C env) ((x0, inj x) :: ρf) c (p x))
    (helt : ∀ C cells x, x ∈ xs → p x = true → Ev prog w H A (compEnvC scope cells C env) ((x0, inj x) :: ρf) elt (g x)) (hs : ∀ x, foldedSetIterable iter env x = pure x) :
    Ex1 prog w H A env ρ (.Assign [.Name y py] (.ListComp elt [⟨.Name x0 px, iter, [c], 0⟩] scope pos) spos) ((y, .list ((xs.filter p).map g)) :: ρ) := by
  subst hρ
  obtain ⟨h1, h2, h3, h4, h5⟩ := compChk_at hck
  exact Ex1.assignComp (py := py) (pos := pos) inj p g (tn := [x0]) (fun x => (x0, inj x) :: freeRho ρ scope.names) (ifs := [c]) hsw hy hsrc hs h1 h2 h3 h4 h5 hsz (fun C cells x _ => Asg.name (pos := px) (hst C cells)) htest helt (fun _ _ => back1 hno)

theorem lk_hd {x : Str} {d : D} {ρ : Rho} : ((x, d) :: ρ).lookup x = some d := by simp
theorem lk_tl {x y : Str} {d e : D} {ρ : Rho} (h : ρ.lookup x = some d) (hn : (x == y) = false) : ((y, e) :: ρ).lookup x = some d := by rw [List.lookup_cons, hn]; exact h
end
end Mine
namespace Mine
section
variable {prog : Program} {w : World} {H : Heap} {A : Around} {env : Env} {ρ : Rho}
theorem Ev.join {sep : Str} {k : Nat} {p0 apos pos : Pos} {arg : PySem.Expr} {ys : List Str} {pl : Sem Bool} (he : MethForm (.Constant (.str sep) k p0) "join" apos pos [arg] env pl) (hn : noStar [arg] = true)
    (ha : Ev prog w H A env ρ arg (.list (dS ys))) (hok : (ys.map (·.length)).sum + ys.length * sep.length ≤ 16777216) : Ev prog w H A env ρ (.Call (.Attribute (.Constant (.str sep) k p0) "join" apos) [arg] [] pos) (.str (Txt.join sep ys)) :=
  Ev.methB (T := "str") (id := "str.join") he Ev.strC (EvL.cons ha EvL.nil) hn (fun _ _ _ r => ty_str r) PySem.F.plainAttrs_str PySem.F.slot_str_join PySem.F.type_str_join (c_join hok)
theorem dS_map {α : Type} (l : List α) (f : α → Str) : dS (l.map f) = l.map fun k => D.str (f k) := by rw [dS, List.map_map]; rfl
theorem dI_map {α : Type} (l : List α) (f : α → Int) : dI (l.map f) = l.map fun k => D.int (f k) := by rw [dI, List.map_map]; rfl
theorem dB_map {α : Type} (l : List α) (f : α → Array UInt8) : dB (l.map f) = l.map fun k => D.bytes (f k) := by rw [dB, List.map_map]; rfl
end
end Mine
end

noncomputable section
open PySem PySem.W PySem.Calls PyProof.Rows PySem.Spec
namespace Mine
open PySem.SeqAt

section
variable {prog : Program} {w : World} {H : Heap} {A : Around} {X : AS} {s : Shared} {ρ ρ' ρ'' : Rho} {E : Value → Shared → Prop} {K : Frag} {mg mb : Str → Option Value}

theorem call_low (W : WF K H mg mb) {n : Nat} (R : Room A (n + 1)) {name qual : Str} {params : Arguments} {body : List Stmt} {scope : Scope} {dV kV doc pm cdv ct oc : Value} {an od : Option Addr}
    {osl : Array (Option Value)} {f : Addr} (ho : K.lookup f = some ⟨oc, od, .func (fnOf name qual params body scope dV kV doc pm an cdv ct), osl⟩) (hcd : codeIn K cdv qual = true)
    {args : Args} {binds : List (Str × Value)} {ρ₀ : Rho} (Wh : Wd H X s.heap) (hb : BindsTo s (fnOf name qual params body scope dV kV doc pm an cdv ct) args binds) (hr : BindRd X s.heap binds ρ₀) (hnd : (ρ₀.map (·.1)).Nodup)
    (hck : defChk scope (ρ₀.map (·.1)) = true) (hk : scope.kind = .function) (hco : scope.isCoroutine = false) (hgen : scope.isGenerator = false) {RR : Result → Shared → Prop}
    (hbody : ∀ L A' s₁ E, s.heap.objs.size = L → A' = A.deeper (fenv qual scope L f cdv) → Room A' n → Keeps s s₁ → FS H (XN X s.heap s₁.heap) (fenv qual scope L f cdv) ρ₀ s₁.heap → (∀ b, OwnZ (fenv qual scope L f cdv) b → s.heap.get? b = none) →
      wpAny (model prog w) A' (execs body (fenv qual scope L f cdv)) (fun fl s' => RR (.ok (.ret (match fl with | .ret v => v | _ => .none))) s') E s₁) : codeAny (model prog w) A (.call (.ref f) args) RR s := by
  have hK := W.kin.keeps Wh.base
  have hck' := Bool.and_eq_true_iff.mp hck
  have hkd : ∀ x ∈ binds.map (·.1), scope.names.lookup x = some .local ∨ scope.names.lookup x = some .cell := fun x hx => by
    have q := List.all_eq_true.mp hck'.1 x (by rw [← hr.names]; exact hx)
    simpa using q
  refine codeAny_call_function (fd := fnOf name qual params body scope dV kV doc pm an cdv ct) (body := body) R.lim (hK _ _ ho) rfl hco hgen rfl (codeRec_of hK hcd) (hb _ _ _ _ ?_)
  refine wpAny_newFunctionEnv_cells (binds := binds) hk (fun x hx => ?_) fun env he s₁ C => ?_
  · rcases hkd x.1 (List.mem_map_of_mem hx) with q | q
    · exact .inl q
    · exact .inr ⟨q, by
        obtain ⟨c, hc⟩ := cellsFrom_has (n := s.heap.objs.size + 1) (acc := []) (.inl (mem_lookup q))
        rw [hc]; rfl⟩
  subst he
  refine ⟨(W.nolimit.keeps Wh.base).keeps C.toInCall.keep, codeAny_func ?_⟩
  generalize hL : s.heap.objs.size = L at C ⊢
  have he : newEnv (fnOf name qual params body scope dV kV doc pm an cdv ct).scope L (fnOf name qual params body scope dV kV doc pm an cdv ct).globals (cellsFrom (L + 1) (fnOf name qual params body scope dV kV doc pm an cdv ct).scope.names [])
      ((fnOf name qual params body scope dV kV doc pm an cdv ct).qualname ++ ".<locals>.") (some f) (fnOf name qual params body scope dV kV doc pm an cdv ct).code none (fnOf name qual params body scope dV kV doc pm an cdv ct).builtins = fenv qual scope L f cdv := rfl
  rw [he] at C ⊢
  have hcl : (fenv qual scope L f cdv).cells = cellsFrom (L + 1) scope.names [] := rfl
  have hkof : ∀ x, (fenv qual scope L f cdv).kindOf x = scope.names.lookup x := fun _ => rfl
  have kk := C.toInCall.keep
  have newL : ∀ c, L ≤ c → s.heap.get? c = none := fun c hc => get_none_of_le (by rw [hL]; exact hc)
  have hcn : ∀ x c, (fenv qual scope L f cdv).cells.lookup x = some c → L < c ∧ ∃ v, s₁.heap.IsCell c v := fun x c e => ⟨C.above x c (mem_lookup e), _, C.cell x c e⟩
  have hnsL := C.toInCall.ns
  have F : FS H (XN X s.heap s₁.heap) (fenv qual scope L f cdv) ρ₀ s₁.heap := by
    have hr' : BindRd (XN X s.heap s₁.heap) s₁.heap binds ρ₀ := hr.mono fun a o hx e => ⟨fun q => q.elim hx fun z => (by rw [e] at z; cases z.1), kk a o e⟩
    refine ⟨fun a o e => kk _ _ (Wh.base a o e), fun a q => ?_, fun a q => ?_, hk, rfl, rfl, ?_, ⟨_, hnsL, ?_⟩, ?_, ?_, ?_, ?_⟩
    · rcases q with q | ⟨q, _⟩
      · exact Wh.bx a q
      · cases e : H.get? a with
        | none => rfl
        | some o => have := Wh.base a o e; rw [q] at this; cases this
    · rcases q with q | ⟨_, o, q⟩
      · obtain ⟨b, o, l, e⟩ := Wh.live a q
        exact ⟨b, o, l, kk _ _ e⟩
      · exact ⟨a, o, Nat.le_refl _, q⟩
    · obtain ⟨o, es, ep, ho, _⟩ := hnsL
      exact .inr ⟨newL _ (Nat.le_refl _), o, ho⟩
    · intro x d e1 e2
      exact hr'.local e2 hnd e1
    · intro x d e1 e2
      have hx : x ∈ binds.map (·.1) := by
        rw [hr.names]
        exact List.mem_map_of_mem (mem_lookup e1)
      rcases hkd x hx with q | q
      · exact absurd (by rw [hkof]; exact q) e2
      · refine ⟨.inl (by rw [hkof]; exact q), ?_⟩
        obtain ⟨c, hc⟩ := cellsFrom_has (n := L + 1) (acc := []) (.inl (mem_lookup q))
        obtain ⟨v, hv, r⟩ := hr'.cell (m := fun _ => none) e2 hnd e1
        exact ⟨c, v, hc, hv ▸ C.cell x c hc, r⟩
    · intro x c e
      obtain ⟨h1, v, h2⟩ := hcn x c e
      obtain ⟨o, ho, hd⟩ := h2
      exact ⟨.inr ⟨newL c (Nat.le_of_lt h1), o, ho⟩, v, o, ho, hd⟩
    · intro x e
      rw [hkof] at e
      exact cellsFrom_has (.inl (mem_lookup e))
    · intro x y c e1 e2
      rw [hcl] at e1 e2
      exact cellsFrom_inj scope.names (L + 1) [] (fun _ _ z => nomatch z) (fun _ _ _ z => nomatch z) e1 e2
  refine hbody L _ s₁ _ hL rfl (R.deeper _) ?_ F fun b hb => ?_
  · obtain ⟨h1, t1, e1⟩ := C.toInCall.same
    exact ⟨h1, t1, e1, by rw [e1] at kk; exact kk⟩
  · rcases hb with hb | ⟨x, hb⟩
    · exact newL b (Nat.le_of_eq hb.symm)
    · exact newL b (Nat.le_of_lt (hcn x b hb).1)

theorem set_low {ox : Obj} {es : List DictEntry} {n : Nat} {x dx C : Addr} {name : Str} {v : Value} {Q : Unit → Shared → Prop} (Xk : K.In s.heap) (I : InstAt s.heap x ox C (some (dictOf es n))) (hd : ox.dict = some dx)
    (hs : findIn K (.ref C) "__setattr__" = some (some (.builtin "object.__setattr__"))) (hp : plainOver K C = true) (ht : takerIn K C name = some none) (hh : hasDictIn K C = true) (hcr : (!es.any (·.key.isStr name) && es.any (·.refKey)) = false)
    (hz : (putL name (PyData.keyHash w.params name) (.str name (s.toks + 1)) v es).length ≤ 1000)
    (h : ∀ h', h'.get? dx = some (dictOf (putL name (PyData.keyHash w.params name) (.str name (s.toks + 1)) v es) (putN name es n)) → Heap.SameBut dx s.heap h' → Q () { s with heap := h', toks := s.toks + 2 }) :
    wpAny (model prog w) A (setAttr (.ref x) name v) Q E s := by
  refine set_plain Xk I hs ?_
  refine osa_open (s := { s with toks := s.toks + 1 }) Xk I hp ht fun b => ?_
  obtain ⟨cd, hc, hd'⟩ := any_some hh
  have D : s.heap.get? dx = some (dictOf es n) := by
    have := I.dict
    rw [hd] at this
    exact this
  obtain ⟨hx, hcl, hn, -⟩ := I
  obtain ⟨oc, odi, oda, osl⟩ := ox
  dsimp only at hcl hd
  subst hcl hd
  refine wpAny_bind (wpAny_pure (wpAny_bind (wpAny_bind (wpAny_loadPart hx (wpAny_bind (looks_clsIn (M := model prog w) Xk hc _ _ _ _ (fun _ _ e => e) ?_))))))
  rw [hd']
  refine wpAny_pure (a := some dx) (wpAny_bind (wpAny_pure (wpAny_bind ?_)))
  unfold nsSet
  refine wpAny_bind (wpAny_bind (wpAny_askSetting (wpAny_pure (wpAny_bind (wpAny_mkText (wpAny_bind (wpAny_loadPart D ?_)))))))
  dsimp only
  rw [aRefKeyMayBeTheName_at, ← Array.any_toList, ← Array.any_toList]
  dsimp only
  rw [hcr]
  refine wpAny_updatePart D ?_
  have e2 := putName_dict name (PyData.keyHash w.params name) (.str name (s.toks + 1)) v es n
  have D' : (s.heap.update dx (Obj.putName name (PyData.keyHash w.params name) (.str name (s.toks + 1)) v)).get? dx = some (dictOf (putL name (PyData.keyHash w.params name) (.str name (s.toks + 1)) v es) (putN name es n)) := by
    rw [← e2]
    exact Heap.get?_update_self _ D (by rw [e2]; rfl)
  refine wpAny_bind (wpAny_lookBehind D' (pastItsLine_dict (by rw [List.size_toArray, sizeLine_eq]; omega)) ?_)
  exact wpAny_pure (h _ D' (Heap.SameBut.update ..))
end
end Mine
end

noncomputable section
open PySem PySem.W PySem.Calls PyProof.Rows PySem.Spec
namespace Mine
open PySem.SeqAt

/-- what may still turn -/
inductive MO
  | list (ds : List D)
  | ent (dx C : Addr) (u r d q : D)
def MO.addrs (a : Addr) : MO → List Addr
  | .list _ => [a]
  | .ent dx _ _ _ _ _ => [a, dx]
abbrev Mu := List (Addr × MO)
def flat (μ : Mu) : List Addr := μ.flatMap fun p => p.2.addrs p.1
theorem mem_flat {μ : Mu} {a : Addr} {m : MO} (h : (a, m) ∈ μ) {b : Addr} (hb : b ∈ m.addrs a) : b ∈ flat μ := List.mem_flatMap.mpr ⟨_, h, hb⟩
theorem of_flat {μ : Mu} {b : Addr} (h : b ∈ flat μ) : ∃ a m, (a, m) ∈ μ ∧ b ∈ m.addrs a := let ⟨p, hp, hb⟩ := List.mem_flatMap.mp h; ⟨p.1, p.2, hp, hb⟩

inductive MOk (X : AS) (h : Heap) (a : Addr) : MO → Prop
  | list {vs : List Value} {ds : List D} : h.PlainList a vs.toArray → RdL X h vs ds → MOk X h a (.list ds)
  | ent {dx C : Addr} {h1 h2 h3 h4 : Int} {t1 t2 t3 t4 : Tok} {n : Nat} {vu vr vd vq : Value} {u r d q : D} : h.get? a = some (instObj C dx) →
      h.get? dx = some (dictOf (entEs h1 h2 h3 h4 t1 t2 t3 t4 vu vr vd vq) n) →
      Rd X h vu u → Rd X h vr r → Rd X h vd d → Rd X h vq q → MOk X h a (.ent dx C u r d q)
theorem MOk.mono {X X' : AS} {h h' : Heap} {a : Addr} {m : MO} (k : ∀ b o, ¬ X b → h.get? b = some o → ¬ X' b ∧ h'.get? b = some o) (kk : ∀ b o, b ∈ m.addrs a → h.get? b = some o → h'.get? b = some o) (r : MOk X h a m) : MOk X' h' a m := by
  cases r with
  | list hp hl => exact .list (let ⟨n, e⟩ := hp; ⟨n, kk _ _ (List.mem_singleton.mpr rfl) e⟩) (hl.mono k)
  | ent e1 e2 r1 r2 r3 r4 => exact .ent (kk _ _ (.head _) e1) (kk _ _ (.tail _ (.head _)) e2) (r1.mono k) (r2.mono k) (r3.mono k) (r4.mono k)

inductive Put (a : Addr) (m m' : MO) : Mu → Mu → Prop
  | head {r} : Put a m m' ((a, m) :: r) ((a, m') :: r)
  | tail {p r r'} : Put a m m' r r' → Put a m m' (p :: r) (p :: r')
theorem Put.mem {a : Addr} {m m' : MO} : ∀ {μ μ' : Mu}, Put a m m' μ μ' → (a, m) ∈ μ
  | _, _, .head => .head _
  | _, _, .tail p => .tail _ p.mem
theorem Put.flat {a : Addr} {m m' : MO} (e : m.addrs a = m'.addrs a) : ∀ {μ μ' : Mu}, Put a m m' μ μ' → Mine.flat μ' = Mine.flat μ
  | _, _, .head => by unfold Mine.flat; simp only [List.flatMap_cons, e]
  | _, _, .tail p => by have := p.flat e; unfold Mine.flat at this ⊢; simp only [List.flatMap_cons, this]
theorem Put.apart {a : Addr} {m m' : MO} : ∀ {μ μ' : Mu}, Put a m m' μ μ' → (Mine.flat μ).Nodup → ∀ b n, (b, n) ∈ μ' → (b = a ∧ n = m') ∨ ((b, n) ∈ μ ∧ ∀ c ∈ m.addrs a, c ∉ n.addrs b)
  | _, _, .head, hd, b, n, hb => by
    rcases List.mem_cons.mp hb with q | q
    · cases q; exact .inl ⟨rfl, rfl⟩
    · refine .inr ⟨.tail _ q, fun c hc hn => ?_⟩
      unfold Mine.flat at hd
      rw [List.flatMap_cons, List.nodup_append] at hd
      exact hd.2.2 c hc c (mem_flat q hn) rfl
  | _, _, .tail (p := p) z, hd, b, n, hb => by
    have hd' := hd
    unfold Mine.flat at hd
    rw [List.flatMap_cons, List.nodup_append] at hd
    rcases List.mem_cons.mp hb with q | q
    · subst q
      exact .inr ⟨.head _, fun c hc hn => hd.2.2 c hn c (mem_flat z.mem hc) rfl⟩
    · rcases z.apart hd.2.1 b n q with e | ⟨h1, h2⟩
      · exact .inl e
      · exact .inr ⟨.tail _ h1, h2⟩

structure MS (H : Heap) (X₀ : AS) (s₀ : Shared) (Z : AS) (env : Env) (ρ : Rho) (μ : Mu) (X : AS) (s : Shared) : Prop where
  F : FS H X env ρ s.heap
  kept : KeptBut Z s₀ s
  sub : ∀ a, X₀ a → X a
  zo : ∀ b, OwnZ env b → Z b
  mu : ∀ a m, (a, m) ∈ μ → MOk X s.heap a m
  mx : ∀ b, b ∈ flat μ → X b ∧ ¬ X₀ b ∧ ¬ OwnZ env b ∧ (Z b ∨ s₀.heap.get? b = none)
  nd : (flat μ).Nodup
  low : ∀ a, X₀ a → a ≤ env.locals

section
variable {prog : Program} {w : World} {H : Heap} {A : Around} {X₀ X X' Z : AS} {s₀ s s' : Shared} {env : Env} {ρ ρ' : Rho} {μ μ' : Mu} {E : Value → Shared → Prop}

theorem FS.ownX {h : Heap} (F : FS H X env ρ h) {b : Addr} (hb : OwnZ env b) : X b := by
  rcases hb with q | ⟨x, q⟩
  · rw [q]; exact F.xl
  · exact (F.cellX x b q).1

theorem MS.keeps (M : MS H X₀ s₀ Z env ρ μ X s) (k : Keeps s s') : MS H X₀ s₀ Z env ρ μ X s' := by
  have kk := kKeep k
  exact ⟨M.F.keeps k, kbTrans M.kept (kbOf k), M.sub, M.zo, fun a m h => (M.mu a m h).mono (fun b o hx e => ⟨hx, kk b o e⟩) fun b o _ e => kk b o e, M.mx, M.nd, M.low⟩
theorem MS.own (M : MS H X₀ s₀ Z env ρ μ X s) (k : KeptBut (OwnZ env) s s') (F : FS H X env ρ' s'.heap) : MS H X₀ s₀ Z env ρ' μ X s' := by
  have kk := kbKeep k
  exact ⟨F, kbTrans M.kept (kbMono k M.zo), M.sub, M.zo, fun a m h => (M.mu a m h).mono (fun b o hx e => ⟨hx, kk b o (fun q => hx (M.F.ownX q)) e⟩) fun b o hb e => kk b o (M.mx b (mem_flat h hb)).2.2.1 e, M.mx, M.nd, M.low⟩
theorem MS.weak (M : MS H X₀ s₀ Z env ρ μ X s) (k : ∀ x d, ρ'.lookup x = some d → ρ.lookup x = some d) : MS H X₀ s₀ Z env ρ' μ X s := ⟨M.F.weak k, M.kept, M.sub, M.zo, M.mu, M.mx, M.nd, M.low⟩

/-- an object of the state turns -/
theorem MS.put {a c : Addr} {m m' : MO} (M : MS H X₀ s₀ Z env ρ μ X s) (p : Put a m m' μ μ') (ha : m.addrs a = m'.addrs a) (hc : c ∈ m.addrs a) (k : ∀ b o, b ≠ c → s.heap.get? b = some o → s'.heap.get? b = some o)
    (hs : ∃ h' t, s' = { s with heap := h', toks := t }) (hm : (∀ v d, Rd X s.heap v d → Rd X s'.heap v d) → (∀ v d, RdL X s.heap v d → RdL X s'.heap v d) → MOk X s'.heap a m') : MS H X₀ s₀ Z env ρ μ' X s' := by
  have hcm := mem_flat p.mem hc
  obtain ⟨hcX, hc0, hcO, hcZ⟩ := M.mx c hcm
  have kr : ∀ b o, ¬ X b → s.heap.get? b = some o → ¬ X b ∧ s'.heap.get? b = some o := fun b o hx e => ⟨hx, k b o (fun q => hx (q ▸ hcX)) e⟩
  have hm' := hm (fun v d r => r.mono kr) (fun v d r => r.mono kr)
  refine ⟨?_, ?_, M.sub, M.zo, ?_, ?_, ?_, M.low⟩
  · refine M.F.but (Z := fun b => b = c) (fun b o hb e => k b o hb e) (fun b hb => hb ▸ hcX) (fun q => hcO (.inl q.symm)) (fun x b hb q => hcO (.inr ⟨x, q ▸ hb⟩)) fun b hb => ?_
    obtain ⟨b', o, l, e⟩ := M.F.live b hb
    by_cases q : b' = c
    · subst q
      cases hm' with
      | list hp hl =>
        obtain ⟨n, e'⟩ := hp
        cases m with
        | list ds =>
          have : b' = a := by simpa [MO.addrs] using hc
          subst this; exact ⟨_, _, l, e'⟩
        | ent => simp [MO.addrs] at ha
      | ent e1 e2 =>
        rw [ha] at hc
        rcases List.mem_cons.mp hc with q | q
        · subst q; exact ⟨_, _, l, e1⟩
        · rw [List.mem_singleton] at q; subst q; exact ⟨_, _, l, e2⟩
    · exact ⟨b', o, l, k _ _ q e⟩
  · obtain ⟨h', t, rfl⟩ := hs
    obtain ⟨h1, t1, e1, hk⟩ := M.kept
    refine ⟨h', t, by rw [e1], fun b o hz e => k b o (fun q => ?_) (kbKeep M.kept b o hz e)⟩
    subst q
    rcases hcZ with q | q
    · exact hz q
    · rw [e] at q; cases q
  · intro b n hb
    rcases p.apart M.nd b n hb with ⟨rfl, rfl⟩ | ⟨h1, h2⟩
    · exact hm'
    · exact (M.mu b n h1).mono kr fun b' o hb' e => k b' o (fun q => h2 c hc (q ▸ hb')) e
  · rw [p.flat ha]; exact M.mx
  · rw [p.flat ha]; exact M.nd

/-- new objects come under the state -/
theorem MS.grow {ν : Mu} {N : AS} (M : MS H X₀ s₀ Z env ρ μ X s) (k : Keeps s s') (hN : ∀ b, N b → Above s.heap b ∧ ∃ o, s'.heap.get? b = some o) (hν : ∀ b ∈ flat ν, N b)
    (hm : ∀ a m, (a, m) ∈ ν → (∀ v d, Rd X s.heap v d → Rd (fun b => X b ∨ N b) s'.heap v d) → (∀ v d, RdL X s.heap v d → RdL (fun b => X b ∨ N b) s'.heap v d) → MOk (fun b => X b ∨ N b) s'.heap a m) (nd : (flat ν).Nodup) :
    MS H X₀ s₀ Z env ρ (ν ++ μ) (fun b => X b ∨ N b) s' := by
  have kk := kKeep k
  have hnew : ∀ b, N b → s.heap.get? b = none := fun b hb => (hN b hb).1.none
  have kr : ∀ b o, ¬ X b → s.heap.get? b = some o → ¬ (X b ∨ N b) ∧ s'.heap.get? b = some o := fun b o hx e => ⟨fun q => q.elim hx fun z => (by rw [hnew b z] at e; cases e), kk b o e⟩
  have hXN : ∀ b, X b → ¬ N b := fun b hx hn => (hN b hn).1.notX M.F.wd hx
  have hH : ∀ a, N a → H.get? a = none := fun a q => by
    cases e : H.get? a with
    | none => rfl
    | some o => have := M.F.base a o e; rw [hnew a q] at this; cases this
  have hfl : flat (ν ++ μ) = flat ν ++ flat μ := List.flatMap_append
  refine ⟨?_, kbTrans M.kept (kbOf k), fun a h => .inl (M.sub a h), M.zo, ?_, ?_, ?_, M.low⟩
  · refine M.F.wide (fun a h => .inl h) (fun a h => h.imp_right fun q => ⟨hnew a q, hH a q⟩) kk fun a h => ?_
    rcases h with h | h
    · obtain ⟨b, o, l, e⟩ := M.F.live a h
      exact ⟨b, o, l, kk _ _ e⟩
    · obtain ⟨o, e⟩ := (hN a h).2
      exact ⟨a, o, Nat.le_refl _, e⟩
  · intro a m h
    rcases List.mem_append.mp h with h | h
    · exact hm a m h (fun v d r => r.mono kr) (fun v d r => r.mono kr)
    · exact (M.mu a m h).mono kr fun b o _ e => kk b o e
  · intro b hb
    rw [hfl] at hb
    rcases List.mem_append.mp hb with hb | hb
    · have hn := hν b hb
      refine ⟨.inr hn, fun q => hXN b (M.sub b q) hn, fun q => hXN b (M.F.ownX q) hn, ?_⟩
      by_cases hz : Z b
      · exact .inl hz
      · refine .inr ?_
        cases e : s₀.heap.get? b with
        | none => rfl
        | some o => have := kbKeep M.kept b o hz e; rw [hnew b hn] at this; cases this
    · obtain ⟨h1, h2⟩ := M.mx b hb
      exact ⟨.inl h1, h2⟩
  · rw [hfl, List.nodup_append]
    exact ⟨nd, M.nd, fun a ha b hb q => hXN b (M.mx b hb).1 (q ▸ hν a ha)⟩

/-- what no longer turns is read as data -/
theorem MS.frz {v : Value} {d : D} (M : MS H X₀ s₀ Z env ρ μ X s) (r : Rd X s.heap v d) : Rd X₀ s.heap v d := r.mono fun b o hx e => ⟨fun q => hx (M.sub b q), e⟩
theorem FS.shrink {h : Heap} (F : FS H X env ρ h) (hs : ∀ a, X' a → X a) (ho : ∀ b, OwnZ env b → X' b) : FS H X' env ρ h := by
  have kr : ∀ {v : Value} {d : D}, Rd X h v d → Rd X' h v d := fun r => r.mono fun a o hx e => ⟨fun q => hx (hs a q), e⟩
  refine ⟨F.base, fun a q => F.bx a (hs a q), fun a q => F.live a (hs a q), F.fn, F.gl, F.bl, ho _ (.inl rfl), ?_, ?_, ?_, F.own, F.apart⟩
  · obtain ⟨m, hn, hr⟩ := F.ns
    exact ⟨m, hn, fun x d e1 e2 => let ⟨v, e3, r⟩ := hr x d e1 e2; ⟨v, e3, kr r⟩⟩
  · intro x d e1 e2
    obtain ⟨h1, c, v, h2, h3, h4⟩ := F.cells x d e1 e2
    exact ⟨h1, c, v, h2, h3, kr h4⟩
  · exact fun x c e => ⟨ho _ (.inr ⟨x, e⟩), (F.cellX x c e).2⟩
theorem FS.reval {h : Heap} (F : FS H X env ρ h) (k : ∀ x d, ρ'.lookup x = some d → ρ.lookup x = some d ∨ ∃ v, ρ.lookup x = some (.val v) ∧ Rd X h v d) : FS H X env ρ' h := by
  refine ⟨F.base, F.bx, F.live, F.fn, F.gl, F.bl, F.xl, ?_, ?_, F.cellX, F.own, F.apart⟩
  · obtain ⟨m, hn, hr⟩ := F.ns
    refine ⟨m, hn, fun x d e1 e2 => ?_⟩
    rcases k x d e1 with q | ⟨v, q, r⟩
    · exact hr x d q e2
    · obtain ⟨v', e3, r'⟩ := hr x _ q e2
      cases r'
      exact ⟨_, e3, r⟩
  · intro x d e1 e2
    rcases k x d e1 with q | ⟨v, q, r⟩
    · exact F.cells x d q e2
    · obtain ⟨h1, c, v', h2, h3, h4⟩ := F.cells x _ q e2
      cases h4
      exact ⟨h1, c, _, h2, h3, r⟩

def XF (X : AS) (μ : Mu) : AS := fun b => X b ∧ b ∉ flat μ
theorem MS.frzX (M : MS H X₀ s₀ Z env ρ μ X s) {b : Addr} (h : X₀ b) : XF X μ b := ⟨M.sub b h, fun q => (M.mx b q).2.1 h⟩
theorem MS.rdF {v : Value} {d : D} (M : MS H X₀ s₀ Z env ρ μ X s) (r : Rd X s.heap v d) : Rd (XF X μ) s.heap v d := r.mono fun b o hx e => ⟨fun q => hx q.1, e⟩
theorem MS.rdFL {v : List Value} {d : List D} (M : MS H X₀ s₀ Z env ρ μ X s) (r : RdL X s.heap v d) : RdL (XF X μ) s.heap v d := r.mono fun b o hx e => ⟨fun q => hx q.1, e⟩
theorem MS.listF {l : Addr} {ds : List D} (M : MS H X₀ s₀ Z env ρ μ X s) (h : (l, .list ds) ∈ μ) : Rd (XF X μ) s.heap (.ref l) (.list ds) := by
  cases M.mu l _ h with | list hp hl => exact .list (fun q => q.2 (mem_flat h (List.mem_singleton.mpr rfl))) hp (M.rdFL hl)
theorem MS.frozen (M : MS H X₀ s₀ Z env ρ μ X s) (k : ∀ x d, ρ'.lookup x = some d → ρ.lookup x = some d ∨ ∃ v, ρ.lookup x = some (.val v) ∧ Rd (XF X μ) s.heap v d) : FS H (XF X μ) env ρ' s.heap :=
  (M.F.shrink (X' := XF X μ) (fun a h => h.1) fun b hb => ⟨M.F.ownX hb, fun q => (M.mx b q).2.2.1 hb⟩).reval k
theorem MS.out {v : Value} {d : D} (M : MS H X₀ s₀ Z env ρ μ X s) (r : Rd (XF X μ) s'.heap v d) : Rd X₀ s'.heap v d := r.mono fun b o hx e => ⟨fun q => hx (M.frzX q), e⟩

/-- statements under the state -/
theorem MS.run {st : Stmt} (M : MS H X₀ s₀ Z env ρ μ X s) (a : Ex1 prog w H A env ρ st ρ') {Q : Flow → Shared → Prop} (h : ∀ s', MS H X₀ s₀ Z env ρ' μ X s' → Q .next s') : wpAny (model prog w) A (exec st env) Q E s :=
  a.run X s M.F _ _ fun s' k F' => h s' (M.own k F')
theorem MS.ev {e : PySem.Expr} {d : D} (M : MS H X₀ s₀ Z env ρ μ X s) (a : Ev prog w H A env ρ e d) {Q : Value → Shared → Prop} (h : ∀ v s', Keeps s s' → MS H X₀ s₀ Z env ρ μ X s' → Rd X s'.heap v d → Q v s') : wpAny (model prog w) A (eval e env) Q E s :=
  a.run X s M.F _ _ fun v s' k r => h v s' k (M.keeps k) r
theorem MS.tst {e : PySem.Expr} {b : Bool} (M : MS H X₀ s₀ Z env ρ μ X s) (a : Tst prog w H A env ρ e b) {Q : Bool → Shared → Prop} (h : ∀ s', MS H X₀ s₀ Z env ρ μ X s' → Q b s') : wpAny (model prog w) A (isTrue e env (eval e env)) Q E s :=
  a.run X s M.F _ _ fun s' k => h s' (M.keeps k)
/-- an answer out of the state read as data -/
theorem MS.retF {e : PySem.Expr} {d : D} {pos : Pos} {sts : List Stmt} (M : MS H X₀ s₀ Z env ρ μ X s) (k : ∀ x d, ρ'.lookup x = some d → ρ.lookup x = some d ∨ ∃ v, ρ.lookup x = some (.val v) ∧ Rd (XF X μ) s.heap v d) (a : Ev prog w H A env ρ' e d)
    {Q : Flow → Shared → Prop} (h : ∀ v s', KeptBut Z s₀ s' → Rd X₀ s'.heap v d → Q (.ret v) s') : wpAny (model prog w) A (execs (.Return (some e) pos :: sts) env) Q E s :=
  wpAny_execs_cons (wpAny_Return_some (a.run _ s (M.frozen k) _ _ fun v s' kk r => h v s' (M.keeps kk).kept (M.out r)))
theorem MS.ret {e : PySem.Expr} {d : D} {pos : Pos} {sts : List Stmt} (M : MS H X₀ s₀ Z env ρ μ X s) (a : Ev prog w H A env ρ e d)
    {Q : Flow → Shared → Prop} (h : ∀ v s', KeptBut Z s₀ s' → Rd X₀ s'.heap v d → Q (.ret v) s') : wpAny (model prog w) A (execs (.Return (some e) pos :: sts) env) Q E s :=
  wpAny_execs_cons (wpAny_Return_some (M.ev a fun v s' kk M' r => h v s' M'.kept (M'.frz r)))

theorem MS.append {l : Addr} {ds : List D} {x : Value} {d : D} (M : MS H X₀ s₀ Z env ρ μ X s) (p : Put l (.list ds) (.list (ds ++ [d])) μ μ') (r : Rd X s.heap x d) (hz : ds.length ≤ 100000)
    {Q : Value → Shared → Prop} (h : ∀ s', MS H X₀ s₀ Z env ρ μ' X s' → Q .none s') : wpAny (model prog w) A (call (.builtin "list.append") [.ref l, x]) Q E s := by
  cases M.mu l _ p.mem with | @list vs _ hp hl =>
  have hn := hl.length
  refine wpAny_list_append_plain hp (fun h' hl' hs => h _ ?_) (by rw [List.size_toArray, hn]; exact Nat.le_trans hz (by decide))
  refine M.put p rfl (List.mem_singleton.mpr rfl) (fun b o hb e => hs.extBut b o hb e) ⟨h', s.toks, rfl⟩ fun k kl => ?_
  exact .list (vs := vs ++ [x]) (by rw [show (vs ++ [x]).toArray = vs.toArray.push x by simp]; exact hl') ((kl _ _ hl).append (.cons (k _ _ r) .nil))
end
end Mine
end

noncomputable section
open PySem PySem.W PySem.Calls PyProof.Rows PySem.Spec
namespace Mine
open PySem.SeqAt

section
variable {prog : Program} {w : World} {H : Heap} {A : Around} {X₀ X X' Z : AS} {s₀ s s' : Shared} {env : Env} {ρ ρ' : Rho} {μ μ' : Mu} {E : Value → Shared → Prop}

/-- a method of a list that is still open -/
theorem MS.meth {x : Str} {name : Str} {id : String} {px apos pos : Pos} {args : List PySem.Expr} {pl : Sem Bool} {l : Addr} {ds es : List D} (M : MS H X₀ s₀ Z env ρ μ X s) (he : MethForm (.Name x px) name apos pos args env pl)
    (hx : ρ.lookup x = some (.val (.ref l))) (hl : (l, .list ds) ∈ μ) (hd : (x == ("__debug__" : Str)) = false) (ha : EvL prog w H A env ρ args es) (hn : noStar args = true) (slot : Slot "list" name id)
    (hty : typeOf (.builtin id) = pure (.type "method_descriptor")) {Q : Value → Shared → Prop} (h : ∀ vs s', Keeps s s' → MS H X₀ s₀ Z env ρ μ X s' → RdL X s'.heap vs es → wpAny (model prog w) A (call (.builtin id) (.ref l :: vs)) Q E s') :
    wpAny (model prog w) A (eval (.Call (.Attribute (.Name x px) name apos) args [] pos) env) Q E s := by
  refine MethodCall_ (pl := pl) ((Ev.name (prog := prog) (w := w) (A := A) hx hd).run X s M.F _ _ fun v s₁ k₁ r₁ => ?_) he
  obtain rfl := r₁.inv
  have M₁ := M.keeps k₁
  have hm := M₁.mu l _ hl
  cases hm with | list hp hl' =>
  obtain ⟨n, e⟩ := hp
  refine getMethod_builtin (T := "list") ⟨_, e, rfl⟩ PySem.F.plainAttrs_list slot hty (fun a q => by cases q; exact ⟨_, e, rfl⟩) ?_
  rw [star_trees env pos args hn]
  refine callWith_builtin (trees_plain env args) (evalArgs_trees ?_)
  exact ha.run X s₁ M₁.F _ _ fun vs s₂ k₂ r₂ => h vs s₂ (kTrans k₁ k₂) (M₁.keeps k₂) r₂

theorem MS.appendStmt {x : Str} {px apos pos spos : Pos} {e : PySem.Expr} {pl : Sem Bool} {l : Addr} {ds : List D} {d : D} (M : MS H X₀ s₀ Z env ρ μ X s) (he : MethForm (.Name x px) "append" apos pos [e] env pl)
    (hx : ρ.lookup x = some (.val (.ref l))) (hd : (x == ("__debug__" : Str)) = false) (hp : Put l (.list ds) (.list (ds ++ [d])) μ μ') (ha : Ev prog w H A env ρ e d) (hn : noStar [e] = true) (hz : ds.length ≤ 100000)
    (hi : interactive env = false) (hs : swapsWith (.Call (.Attribute (.Name x px) "append" apos) [e] [] pos) none spos.line env = pure false) {Q : Flow → Shared → Prop} (h : ∀ s', MS H X₀ s₀ Z env ρ μ' X s' → Q .next s') :
    wpAny (model prog w) A (exec (.Expr (.Call (.Attribute (.Name x px) "append" apos) [e] [] pos) spos) env) Q E s := by
  refine wpAny_Expr (M.meth he hx hp.mem hd (EvL.cons ha EvL.nil) hn PySem.slot_list_append PySem.F.type_list_append fun vs s' k M' r => ?_) hi hs
  obtain ⟨_, _, rfl, r1, r'⟩ := r.inv; obtain rfl := r'.inv
  exact M'.append hp r1 hz fun s'' M'' => h s'' M''

/-- x = [] -/
theorem MS.newVar {x : Str} {px lpos pos : Pos} (M : MS H X₀ s₀ Z env ρ μ X s) (hk : StoreOk env x) (hs : swapsWith (.List [] lpos) (some (.Name x px)) pos.line env = pure false) {Q : Flow → Shared → Prop}
    (h : ∀ l X' s', MS H X₀ s₀ Z env ((x, .val (.ref l)) :: ρ) ((l, .list []) :: μ) X' s' → Q .next s') : wpAny (model prog w) A (exec (.Assign [.Name x px] (.List [] lpos) pos) env) Q E s := by
  refine wpAny_Assign_Name ?_ hs
  refine List_ ?_
  show wpAny (model prog w) A (spliced []) _ _ _
  refine spliced_nil (wpAny_newObj_type ?_ (by show ([] : List Value).toArray.size ≤ sizeLine; decide))
  have G := M.grow (ν := [(s.heap.objs.size, .list [])]) (N := fun b => b = s.heap.objs.size) (kPush s { cls := .type "list", data := .seq ([] : List Value).toArray }) (fun b hb => by subst hb; exact ⟨Above.of_le (Nat.le_refl _), _, Heap.get?_push_size _ rfl⟩) (fun b hb => by simpa [flat, MO.addrs] using hb) (fun a m hm k kl => by
    rw [List.mem_singleton] at hm; cases hm
    exact .list (vs := []) ⟨0, Heap.get?_push_size _ rfl⟩ .nil) (by simp [flat, MO.addrs])
  exact G.F.store (.val _) hk fun s' k F' => h _ _ s' (G.own (kbMono k fun b => ZS_own) F')

def ZL (env : Env) (μ : Mu) : AS := fun b => OwnZ env b ∨ b ∈ flat μ
theorem MS.rebase (M : MS H X₀ s₀ Z env ρ μ X s) : MS H X₀ s (ZL env μ) env ρ μ X s :=
  ⟨M.F, kbOf kRfl, M.sub, fun b h => .inl h, M.mu, fun b h => let ⟨h1, h2, h3, _⟩ := M.mx b h; ⟨h1, h2, h3, .inl (.inr h)⟩, M.nd, M.low⟩
theorem MS.unbase (M : MS H X₀ s₀ Z env ρ μ X s) (M' : MS H X₀ s (ZL env μ) env ρ' μ' X' s') : MS H X₀ s₀ Z env ρ' μ' X' s' := by
  have hz : ∀ b, ZL env μ b → Z b ∨ s₀.heap.get? b = none := fun b h => h.elim (fun q => .inl (M.zo b q)) fun q => (M.mx b q).2.2.2
  refine ⟨M'.F, ?_, M'.sub, M.zo, M'.mu, fun b h => ?_, M'.nd, M.low⟩
  · obtain ⟨h1, t1, e1, k1⟩ := M.kept
    obtain ⟨h2, t2, e2, k2⟩ := M'.kept
    refine ⟨h2, t2, by rw [e2, e1], fun b o hb e => k2 b o (fun q => ?_) (kbKeep M.kept b o hb e)⟩
    rcases hz b q with q | q
    · exact hb q
    · rw [e] at q; cases q
  · obtain ⟨h1, h2, h3, h4⟩ := M'.mx b h
    refine ⟨h1, h2, h3, ?_⟩
    rcases h4 with q | q
    · exact hz b q
    · by_cases hb : Z b
      · exact .inl hb
      · refine .inr ?_
        cases e : s₀.heap.get? b with
        | none => rfl
        | some o => have := kbKeep M.kept b o hb e; rw [q] at this; cases this
theorem MS.other {N : AS} (M : MS H X₀ s₀ Z env ρ μ X s) (hN : ∀ b, N b → X b ∧ ¬ OwnZ env b ∧ b ∉ flat μ ∧ (Z b ∨ s₀.heap.get? b = none) ∧ ∃ o, s'.heap.get? b = some o) (k : KeptBut N s s') : MS H X₀ s₀ Z env ρ μ X s' := by
  have kk := kbKeep k
  have kr : ∀ b o, ¬ X b → s.heap.get? b = some o → ¬ X b ∧ s'.heap.get? b = some o := fun b o hx e => ⟨hx, kk b o (fun q => hx (hN b q).1) e⟩
  refine ⟨?_, ?_, M.sub, M.zo, fun a m h => (M.mu a m h).mono kr fun b o hb e => kk b o (fun q => (hN b q).2.2.1 (mem_flat h hb)) e, M.mx, M.nd, M.low⟩
  · refine M.F.but (Z := N) kk (fun b hb => (hN b hb).1) (fun q => (hN _ q).2.1 (.inl rfl)) (fun x b hb q => (hN _ q).2.1 (.inr ⟨x, hb⟩)) fun b hb => ?_
    obtain ⟨b', o, l, e⟩ := M.F.live b hb
    by_cases q : N b'
    · obtain ⟨_, _, _, _, o', e'⟩ := hN b' q
      exact ⟨b', o', l, e'⟩
    · exact ⟨b', o, l, kk _ _ q e⟩
  · obtain ⟨h1, t1, e1, k1⟩ := M.kept
    obtain ⟨h2, t2, e2, k2⟩ := k
    refine ⟨h2, t2, by rw [e2, e1], fun b o hb e => k2 b o (fun q => ?_) (kbKeep M.kept b o hb e)⟩
    rcases (hN b q).2.2.2.1 with q | q
    · exact hb q
    · rw [e] at q; cases q

theorem FS.locals_live {h : Heap} (F : FS H X env ρ h) : ∃ o, h.get? env.locals = some o := by
  obtain ⟨m, ⟨o, _, _, ho, _⟩, _⟩ := F.ns
  exact ⟨o, ho⟩
/-- objects beside the state turn, and may go -/
theorem MS.gone {N : AS} (M : MS H X₀ s₀ Z env ρ μ X s) (hN : ∀ b, N b → X b ∧ ¬ OwnZ env b ∧ b ∉ flat μ ∧ (Z b ∨ s₀.heap.get? b = none)) (k : KeptBut N s s') :
    MS H X₀ s₀ Z env ρ μ (fun a => X a ∧ ∃ b o, a ≤ b ∧ s'.heap.get? b = some o) s' := by
  have kk := kbKeep k
  have ownLive : ∀ b, OwnZ env b → ∃ o, s'.heap.get? b = some o := fun b hb => by
    rcases hb with rfl | ⟨x, hb⟩
    · obtain ⟨o, ho⟩ := M.F.locals_live
      exact ⟨o, kk _ _ (fun q => (hN _ q).2.1 (.inl rfl)) ho⟩
    · obtain ⟨_, v, o, ho, _⟩ := M.F.cellX x b hb
      exact ⟨o, kk _ _ (fun q => (hN _ q).2.1 (.inr ⟨x, hb⟩)) ho⟩
  have flLive : ∀ b, b ∈ flat μ → ∃ o, s'.heap.get? b = some o := fun b hb => by
    obtain ⟨a, m, hm, hbm⟩ := of_flat hb
    have : ∃ o, s.heap.get? b = some o := by
      cases M.mu a m hm with
      | list hp hl => obtain ⟨n, e⟩ := hp; rw [MO.addrs, List.mem_singleton] at hbm; subst hbm; exact ⟨_, e⟩
      | ent e1 e2 =>
        rcases List.mem_cons.mp hbm with rfl | q
        · exact ⟨_, e1⟩
        · rw [List.mem_singleton] at q; subst q; exact ⟨_, e2⟩
    obtain ⟨o, ho⟩ := this
    exact ⟨o, kk _ _ (fun q => (hN _ q).2.2.1 hb) ho⟩
  have sh : FS H (fun a => X a ∧ ∃ b o, a ≤ b ∧ s'.heap.get? b = some o) env ρ s.heap := M.F.shrink (fun a q => q.1) fun b hb => ⟨M.F.ownX hb, let ⟨o, ho⟩ := ownLive b hb; ⟨b, o, Nat.le_refl _, ho⟩⟩
  have kr : ∀ b o, ¬ X b → s.heap.get? b = some o → ¬ (X b ∧ ∃ c o, b ≤ c ∧ s'.heap.get? c = some o) ∧ s'.heap.get? b = some o := fun b o hx e => ⟨fun q => hx q.1, kk b o (fun q => hx (hN b q).1) e⟩
  refine ⟨?_, ?_, fun a h => ⟨M.sub a h, ?_⟩, M.zo, fun a m h => (M.mu a m h).mono kr fun b o hb e => kk b o (fun q => (hN b q).2.2.1 (mem_flat h hb)) e, fun b hb => ?_, M.nd, M.low⟩
  · have kr2 : ∀ {v : Value} {d : D}, Rd X s.heap v d → Rd (fun a => X a ∧ ∃ b o, a ≤ b ∧ s'.heap.get? b = some o) s'.heap v d := fun r => r.mono kr
    have kc : ∀ {x c v}, env.cells.lookup x = some c → s.heap.IsCell c v → s'.heap.IsCell c v := fun hc hv => let ⟨o, ho, hd⟩ := hv; ⟨o, kk _ o (fun q => (hN _ q).2.1 (.inr ⟨_, hc⟩)) ho, hd⟩
    refine ⟨fun a o e => kk a o (fun q => ?_) (M.F.base a o e), sh.bx, fun a q => q.2, sh.fn, sh.gl, sh.bl, sh.xl, ?_, ?_, ?_, sh.own, sh.apart⟩
    · have := M.F.bx a (hN a q).1; rw [e] at this; cases this
    · obtain ⟨m, hn, hr⟩ := M.F.ns
      exact ⟨m, hn.at' fun o e => kk _ o (fun q => (hN _ q).2.1 (.inl rfl)) e, fun x d e1 e2 => let ⟨v, e3, r⟩ := hr x d e1 e2; ⟨v, e3, kr2 r⟩⟩
    · intro x d e1 e2
      obtain ⟨h1, c, v, h2, h3, h4⟩ := M.F.cells x d e1 e2
      exact ⟨h1, c, v, h2, kc h2 h3, kr2 h4⟩
    · intro x c e
      obtain ⟨h1, v, h2⟩ := M.F.cellX x c e
      exact ⟨(sh.cellX x c e).1, v, kc e h2⟩
  · obtain ⟨h1, t1, e1, k1⟩ := M.kept
    obtain ⟨h2, t2, e2, k2⟩ := k
    refine ⟨h2, t2, by rw [e2, e1], fun b o hb e => k2 b o (fun q => ?_) (kbKeep M.kept b o hb e)⟩
    rcases (hN b q).2.2.2 with q | q
    · exact hb q
    · rw [e] at q; cases q
  · obtain ⟨o, ho⟩ := ownLive env.locals (.inl rfl)
    exact ⟨_, o, M.low a h, ho⟩
  · obtain ⟨h1, h2⟩ := M.mx b hb
    obtain ⟨o, ho⟩ := flLive b hb
    exact ⟨⟨h1, b, o, Nat.le_refl _, ho⟩, h2⟩

/-- for x in source -/
theorem MS.forJ {x : Str} {px pos : Pos} {iter : PySem.Expr} {body : List Stmt} {ds : List D} (J : Nat → Prop) (hJ : J 0) (ρs : Nat → Rho) (μs : Nat → Mu) (hfl : ∀ i, flat (μs i) = flat (μs 0)) (M : MS H X₀ s₀ Z env (ρs 0) (μs 0) X s) (hk : StoreOk env x)
    (hsrc : SrcE prog w H A env (ρs 0) iter ds) (hs : ∀ x, foldedSetIterable iter env x = pure x) {Q : Flow → Shared → Prop}
    (turn : ∀ i d X' s' E', ds[i]? = some d → J i → MS H X₀ s' (ZL env (μs i)) env ((x, d) :: ρs i) (μs i) X' s' → (∀ ρ' μ' X'' s'', MS H X₀ s' (ZL env (μs i)) env ρ' μ' X'' s'' → MS H X₀ s₀ Z env ρ' μ' X'' s'') →
      wpAny (model prog w) A (execs body env) (fun f s'' => match f with
      | .next | .cont => J (i + 1) ∧ MS H X₀ s' (ZL env (μs i)) env (ρs (i + 1)) (μs (i + 1)) X' s''
      | .brk => Q .next s''
      | .ret v => Q (.ret v) s'') E' s')
    (fin : ∀ X' s', J ds.length → MS H X₀ s₀ Z env (ρs ds.length) (μs ds.length) X' s' → Q .next s') : wpAny (model prog w) A (exec (.For (.Name x px) iter body [] pos) env) Q E s := by
  refine wpAny_For (hsrc.run X s M.F _ _ fun s₁ s₂ I k₁ k₂ L => ?_) hs
  obtain ⟨fp, wr, P, St, W, st0, hfp, hwr, lv, hP, lot⟩ := L
  have M₁ := M.keeps k₁
  have kk₂ := kKeep k₂
  have G := M₁.grow (ν := []) (N := fun b => b ∈ wr) k₂ hwr (fun b hb => nomatch hb) (fun _ _ hm => nomatch hm) (by simp [flat])
  have hXX : ∀ b, X b → X b ∨ b ∈ wr := fun b q => .inl q
  have hP' : ∀ i v h', i < ds.length → P i v → (∀ b o, ¬ X b → s₁.heap.get? b = some o → h'.get? b = some o) → ∃ d, ds[i]? = some d ∧ Rd (fun b => X b ∨ b ∈ wr) h' v d := fun i v h' hi hv k =>
    hP _ i v h' hi hv fun b o hx e => ⟨fun q => q.elim hx fun z => (by rw [(hwr b z).1.none] at e; cases e), k b o hx e⟩
  have hXfp : ∀ b, b ∈ fp → b ∉ wr → ¬ (X b ∨ b ∈ wr) := fun b hb hw q => q.elim (hfp b hb).2 hw
  have hwO : ∀ b, b ∈ wr → ¬ OwnZ env b := fun b hb q => (hwr b hb).1.notX M₁.F.wd (M₁.F.ownX q)
  have hwF : ∀ b, b ∈ wr → b ∉ flat (μs 0) := fun b hb q => (hwr b hb).1.notX M₁.F.wd (M₁.mx b q).1
  have hwZ : ∀ b, b ∈ wr → Z b ∨ s₀.heap.get? b = none := fun b hb => by
    by_cases hz : Z b
    · exact .inl hz
    · refine .inr ?_
      cases e : s₀.heap.get? b with
      | none => rfl
      | some o => have := kbKeep M₁.kept b o hz e; rw [(hwr b hb).1.none] at this; cases this
  have hwX : ∀ b, b ∈ wr → (X b ∨ b ∈ wr) := fun b hb => .inr hb
  have hX1 : ∀ b o, ¬ X b → s₁.heap.get? b = some o → ¬ (X b ∨ b ∈ wr) := fun b o hx e q => q.elim hx fun z => (by rw [(hwr b z).1.none] at e; cases e)
  have k12 : ∀ b o, ¬ (X b ∨ b ∈ wr) → s₁.heap.get? b = some o → s₂.heap.get? b = some o := fun b o _ e => kk₂ b o e
  generalize hX' : (fun b => X b ∨ b ∈ wr) = X' at G hP'
  have eX : ∀ b, (X b ∨ b ∈ wr) = X' b := fun b => by rw [← hX']
  simp only [eX] at hXfp hwX hX1 k12
  refine codeAny_forLoop_any (I := fun n s' => ∃ i, n = ds.length - i ∧ i ≤ ds.length ∧ J i ∧ St i s'.heap ∧ MS H X₀ s₀ Z env (ρs i) (μs i) X' s' ∧ ∀ b o, ¬ X' b → s₁.heap.get? b = some o → s'.heap.get? b = some o) (fun n s' hI => ?_) (ds.length - 0) ⟨0, rfl, Nat.zero_le _, hJ, st0, G, k12⟩
  obtain ⟨i, rfl, hi, hJi, st, Mi, hkeep⟩ := hI
  by_cases hlt : i < ds.length
  · refine W.item i s' _ _ hlt st fun v h' tk Pv st' kp => ?_
    have K' : KeptBut (fun b => b ∈ wr) s' { s' with heap := h', toks := tk } := ⟨h', tk, rfl, fun b o hb e => kp b o hb e⟩
    have Mi' : MS H X₀ s₀ Z env (ρs i) (μs i) X' { s' with heap := h', toks := tk } := Mi.other (fun b hb => ⟨hwX b hb, hwO b hb, by rw [hfl]; exact hwF b hb, hwZ b hb, lv _ _ st' b hb⟩) K'
    have hk' : ∀ b o, ¬ X' b → s₁.heap.get? b = some o → h'.get? b = some o := fun b o hx e => kp b o (fun q => hx (hwX b q)) (hkeep b o hx e)
    obtain ⟨d, hd, rd⟩ := hP' i v h' hlt Pv fun b o hx e => hk' b o (hX1 b o hx e) e
    refine lot _ _ _ _ _ _ st' ?_
    refine wpAny_assign_Name (Mi'.F.store rd hk fun s₃ k₃ F₃ => ?_)
    have M₃ := Mi'.own (kbMono k₃ fun b => ZS_own) F₃
    have fpk : ∀ {s₄ s₅ : Shared} {Y : AS}, (∀ b, Y b → OwnZ env b ∨ b ∈ flat (μs i)) → KeptBut Y s₄ s₅ → ∀ j, St j s₄.heap → St j s₅.heap := fun hY k j hst => W.frame _ _ _ hst fun b hb o e => kbKeep k b o (fun q => by
      have hw : b ∉ wr := fun hw => (hY b q).elim (hwO b hw) (by rw [hfl]; exact hwF b hw)
      rcases hY b q with q | q
      · exact hXfp b hb hw (M₃.F.ownX q)
      · exact hXfp b hb hw (M₃.mx b q).1) e
    have st₃ := fpk (fun b hb => .inl hb) (kbMono k₃ fun b => ZS_own) _ st'
    refine wpAny_mono (turn i d X' s₃ _ hd hJi M₃.rebase fun ρ' μ' X'' s'' => M₃.unbase) (fun f s₄ hf => ?_) fun _ _ e => e
    have nxt : J (i + 1) ∧ MS H X₀ s₃ (ZL env (μs i)) env (ρs (i + 1)) (μs (i + 1)) X' s₄ → ∃ m, m < ds.length - i ∧ ∃ i, m = ds.length - i ∧ i ≤ ds.length ∧ J i ∧ St i s₄.heap ∧ MS H X₀ s₀ Z env (ρs i) (μs i) X' s₄ ∧ ∀ b o, ¬ X' b → s₁.heap.get? b = some o → s₄.heap.get? b = some o := fun ⟨hJ', M₄⟩ => by
      refine ⟨ds.length - (i + 1), by omega, i + 1, rfl, hlt, hJ', fpk (fun b hb => hb) M₄.kept _ st₃, M₃.unbase M₄, fun b o hx e => ?_⟩
      refine kbKeep M₄.kept b o (fun q => ?_) (kbKeep k₃ b o (fun q => hx (M₃.F.ownX (ZS_own q))) (hk' b o hx e))
      rcases q with q | q
      · exact hx (M₃.F.ownX q)
      · exact hx (M₃.mx b q).1
    cases f with
    | next => exact nxt hf
    | cont => exact nxt hf
    | brk => exact hf
    | ret v => exact hf
  · have hi' : i = ds.length := by omega
    subst hi'
    refine W.done s' _ _ st fun h' tk kp => ?_
    exact wpAny_execs_nil (fin _ _ hJi (Mi.gone (N := fun b => b ∈ wr) (fun b hb => ⟨hwX b hb, hwO b hb, by rw [hfl]; exact hwF b hb, hwZ b hb⟩) ⟨h', tk, rfl, fun b o hb e => kp b o hb e⟩))
theorem MS.for {x : Str} {px pos : Pos} {iter : PySem.Expr} {body : List Stmt} {ds : List D} (ρs : Nat → Rho) (μs : Nat → Mu) (hfl : ∀ i, flat (μs i) = flat (μs 0)) (M : MS H X₀ s₀ Z env (ρs 0) (μs 0) X s) (hk : StoreOk env x)
    (hsrc : SrcE prog w H A env (ρs 0) iter ds) (hs : ∀ x, foldedSetIterable iter env x = pure x) {Q : Flow → Shared → Prop}
    (turn : ∀ i d X' s' E', ds[i]? = some d → MS H X₀ s' (ZL env (μs i)) env ((x, d) :: ρs i) (μs i) X' s' → (∀ ρ' μ' X'' s'', MS H X₀ s' (ZL env (μs i)) env ρ' μ' X'' s'' → MS H X₀ s₀ Z env ρ' μ' X'' s'') →
      wpAny (model prog w) A (execs body env) (fun f s'' => match f with
      | .next | .cont => MS H X₀ s' (ZL env (μs i)) env (ρs (i + 1)) (μs (i + 1)) X' s''
      | .brk => Q .next s''
      | .ret v => Q (.ret v) s'') E' s')
    (fin : ∀ X' s', MS H X₀ s₀ Z env (ρs ds.length) (μs ds.length) X' s' → Q .next s') : wpAny (model prog w) A (exec (.For (.Name x px) iter body [] pos) env) Q E s := by
  refine MS.forJ (fun _ => True) trivial ρs μs hfl M hk hsrc hs (fun i d X' s' E' hd _ M' back => wpAny_mono (turn i d X' s' E' hd M' back) (fun f s'' hf => ?_) fun _ _ e => e) fun X' s' _ M' => fin X' s' M'
  cases f with
  | next => exact ⟨trivial, hf⟩
  | cont => exact ⟨trivial, hf⟩
  | brk => exact hf
  | ret v => exact hf
end
end Mine
end

noncomputable section
open PySem PySem.W PySem.Calls PyProof.Rows PySem.Spec
namespace Mine
open PySem.SeqAt

section
variable {prog : Program} {w : World} {H : Heap} {A : Around} {X₀ X X' Z : AS} {s₀ s s' : Shared} {env : Env} {ρ ρ' : Rho} {μ μ' : Mu} {E : Value → Shared → Prop}

/-- a body over open state -/
structure BdM (prog : Program) (w : World) (H : Heap) (A : Around) (env : Env) (ρ : Rho) (sts : List Stmt) (d : D) : Prop where
  run : ∀ X₀ s₀ X s, MS H X₀ s₀ (OwnZ env) env ρ [] X s → ∀ (Q : Flow → Shared → Prop) (E : Value → Shared → Prop), (∀ v s', KeptBut (OwnZ env) s₀ s' → Rd X₀ s'.heap v d → Q (.ret v) s') → wpAny (model prog w) A (execs sts env) Q E s

theorem call_defM {K : Frag} {mg mb : Str → Option Value} (W : WF K H mg mb) {n : Nat} (R : Room A (n + 1)) {name qual : Str} {params : Arguments} {body : List Stmt} {scope : Scope} {dV kV doc pm cdv ct oc : Value} {an od : Option Addr}
    {osl : Array (Option Value)} {f : Addr} (ho : K.lookup f = some ⟨oc, od, .func (fnOf name qual params body scope dV kV doc pm an cdv ct), osl⟩) (hcd : codeIn K cdv qual = true)
    {args : Args} {binds : List (Str × Value)} {ρ₀ : Rho} {d : D} (Wh : Wd H X s.heap) (hb : BindsTo s (fnOf name qual params body scope dV kV doc pm an cdv ct) args binds) (hr : BindRd X s.heap binds ρ₀) (hnd : (ρ₀.map (·.1)).Nodup)
    (hck : defChk scope (ρ₀.map (·.1)) = true) (hk : scope.kind = .function) (hco : scope.isCoroutine = false) (hgen : scope.isGenerator = false)
    (hbody : ∀ L A', Room A' n → BdM prog w H A' (fenv qual scope L f cdv) ρ₀ body d) : Gv prog w A X s (call (.ref f) args.pos args.kw) d := by
  refine fun Q E h => wpAny_call (call_low W R ho hcd Wh hb hr hnd hck hk hco hgen fun L A' s₁ E hL _ R' k F hfr => ?_)
  have hown : ∀ b o, s.heap.get? b = some o → ¬ OwnZ (fenv qual scope L f cdv) b := fun b o e q => by rw [hfr b q] at e; cases e
  refine (hbody L A' R').run X s _ s₁ ⟨F, kbOf k, fun a q => .inl q, fun _ q => q, fun _ _ q => (nomatch q), fun _ q => (nomatch q), .nil, fun a q => ?_⟩ _ _ fun v s' kb r => ?_
  · exact Nat.le_of_lt (hL ▸ Wh.bound a q)
  · refine h v s' ?_ r
    have kk := kbKeep kb
    obtain ⟨h2, t2, e2, _⟩ := kb
    subst e2
    exact ⟨h2, t2, rfl, fun b o e => kk b o (hown b o e) e⟩
theorem CallG.fnM {K : Frag} {mg mb : Str → Option Value} (W : WF K H mg mb) {n : Nat} (R : Room A (n + 1)) {name qual : Str} {params : Arguments} {body : List Stmt} {scope : Scope} {dV kV doc pm cdv ct oc : Value} {an od : Option Addr}
    {osl : Array (Option Value)} {f : Addr} (ho : K.lookup f = some ⟨oc, od, .func (fnOf name qual params body scope dV kV doc pm an cdv ct), osl⟩) (hcd : codeIn K cdv qual = true)
    {names : List Str} {ds : List D} {d : D} (hlen : names.length = ds.length) (hb : ∀ vs : List Value, vs.length = ds.length → bindArgs (fnOf name qual params body scope dV kV doc pm an cdv ct) ⟨vs, []⟩ = pure (names.zip vs)) (hnd : names.Nodup)
    (hck : defChk scope names = true) (hk : scope.kind = .function) (hco : scope.isCoroutine = false) (hgen : scope.isGenerator = false)
    (hbody : ∀ L A', Room A' n → BdM prog w H A' (fenv qual scope L f cdv) (names.zip ds) body d) : CallG prog w H A (.ref f) ds d := by
  refine ⟨fun X s vs Wh r => ?_⟩
  have e : (names.zip ds).map (·.1) = names := by rw [List.map_fst_zip]; omega
  exact call_defM (args := ⟨vs, []⟩) W R ho hcd Wh (BindsTo.of_eq (hb vs r.length)) (BindRd.zip hlen r) (by rw [e]; exact hnd) (by rw [e]; exact hck) hk hco hgen hbody

/-- while -/
theorem MS.while {test : PySem.Expr} {body : List Stmt} {pos : Pos} (n : Nat) (ρs : Nat → Rho) (μs : Nat → Mu) (M : MS H X₀ s₀ Z env (ρs n) (μs n) X s) {Q : Flow → Shared → Prop}
    (tst : ∀ i, i ≤ n → Tst prog w H A env (ρs i) test (i != 0))
    (turn : ∀ i s' E', i < n → MS H X₀ s₀ Z env (ρs (i + 1)) (μs (i + 1)) X s' → wpAny (model prog w) A (execs body env) (fun f s'' => match f with
      | .next | .cont => MS H X₀ s₀ Z env (ρs i) (μs i) X s''
      | .brk => Q .next s''
      | .ret v => Q (.ret v) s'') E' s')
    (fin : ∀ s', MS H X₀ s₀ Z env (ρs 0) (μs 0) X s' → Q .next s') : wpAny (model prog w) A (exec (.While test body [] pos) env) Q E s := by
  refine wpAny_While (codeAny_whileLoop (I := fun k s' => k ≤ n ∧ MS H X₀ s₀ Z env (ρs k) (μs k) X s') (fun k s' hI => ?_) n ⟨Nat.le_refl _, M⟩)
  obtain ⟨hk, M'⟩ := hI
  refine M'.tst (tst k hk) fun s'' M'' => ?_
  cases k with
  | zero => exact wpAny_execs_nil (fin _ M'')
  | succ i =>
    refine wpAny_mono (turn i s'' _ hk M'') (fun f s₃ hf => ?_) fun _ _ e => e
    cases f with
    | next => exact ⟨i, Nat.lt_succ_self _, Nat.le_of_lt hk, hf⟩
    | cont => exact ⟨i, Nat.lt_succ_self _, Nat.le_of_lt hk, hf⟩
    | brk => exact hf
    | ret v => exact hf

/-- if -/
theorem MS.if {t : PySem.Expr} {body orelse : List Stmt} {pos : Pos} {k : Bool} (M : MS H X₀ s₀ Z env ρ μ X s) (a : Tst prog w H A env ρ t k) {Q : Flow → Shared → Prop}
    (b : k = true → ∀ s', MS H X₀ s₀ Z env ρ μ X s' → wpAny (model prog w) A (execs body env) Q E s') (c : k = false → ∀ s', MS H X₀ s₀ Z env ρ μ X s' → wpAny (model prog w) A (execs orelse env) Q E s') : wpAny (model prog w) A (exec (.If t body orelse pos) env) Q E s := by
  refine wpAny_If (M.tst a fun s' M' => ?_)
  cases k with
  | true => exact b rfl s' M'
  | false => exact c rfl s' M'
theorem MS.seq {st : Stmt} {sts : List Stmt} (M : MS H X₀ s₀ Z env ρ μ X s) (a : Ex1 prog w H A env ρ st ρ') {Q : Flow → Shared → Prop} (h : ∀ s', MS H X₀ s₀ Z env ρ' μ X s' → wpAny (model prog w) A (execs sts env) Q E s') :
    wpAny (model prog w) A (execs (st :: sts) env) Q E s := wpAny_execs_cons (M.run a h)

theorem FS.load {x : Str} {d : D} (F : FS H X env ρ s.heap) (e : ρ.lookup x = some d) {Q : Value → Shared → Prop} (h : ∀ v, Rd X s.heap v d → Q v s) : wpAny (model prog w) A (loadName env x) Q E s := by
  by_cases hl : env.kindOf x = some .local
  · obtain ⟨m, hn, hr⟩ := F.ns
    obtain ⟨v, hv, r⟩ := hr x d e hl
    exact wpAny_loadName_local F.fn hl hn hv (h v r)
  · obtain ⟨hk, c, v, hc, hv, r⟩ := F.cells x d e hl
    rcases hk with hk | ⟨hk, hn⟩
    · exact wpAny_loadName_cell F.fn hk hc hv (h v r)
    · exact wpAny_loadName_free F.fn hk hc hv (h v r) hn
/-- x += e -/
theorem Ex1.addInt {x : Str} {px pos : Pos} {e : PySem.Expr} {a b : Int} (hx : ρ.lookup x = some (.int a)) (ha : Ev prog w H A env ρ e (.int b)) (hk : StoreOk env x) :
    Ex1 prog w H A env ρ (.AugAssign (.Name x px) .Add e pos) ((x, .int (a + b)) :: ρ) := by
  refine ⟨fun X s F Q E h => wpAny_AugAssign_Name (F.load hx fun v r => ?_)⟩
  obtain ⟨_, rfl⟩ := r.inv
  refine ha.run X s F _ _ fun v s₁ k₁ r₁ => ?_
  obtain ⟨_, rfl⟩ := r₁.inv
  refine wpAny_iadd_int ?_
  exact (F.keeps (kTrans k₁ (kTok s₁ _))).store (.int _ _) hk fun s₂ k₂ F₂ => h s₂ (kbTrans (kbOf (kTrans k₁ (kTok s₁ _))) (kbMono k₂ fun b => ZS_own)) F₂
end
end Mine
end

noncomputable section
open PySem PySem.W PySem.Calls PyProof.Rows PySem.Spec
namespace Mine
open PySem.SeqAt

section
variable {prog : Program} {w : World} {H : Heap} {A : Around} {X₀ X X' Z : AS} {s₀ s s' : Shared} {env : Env} {ρ ρ' ρf : Rho} {μ μ' : Mu} {E : Value → Shared → Prop}

theorem MS.newZ (M : MS H X₀ s₀ Z env ρ μ X s) {b : Addr} (a : Above s.heap b) : ¬ X b ∧ ¬ OwnZ env b ∧ b ∉ flat μ ∧ (Z b ∨ s₀.heap.get? b = none) := by
  have nX := a.notX M.F.wd
  refine ⟨nX, fun q => nX (M.F.ownX q), fun q => nX (M.mx b q).1, ?_⟩
  by_cases hz : Z b
  · exact .inl hz
  · refine .inr ?_
    cases e : s₀.heap.get? b with
    | none => rfl
    | some o => have := kbKeep M.kept b o hz e; rw [a.none] at this; cases this

/-- y = [e for x in source], still open -/
theorem MS.assignComp1 {α : Type} {y : Str} {py spos : Pos} {elt iter : PySem.Expr} {x0 : Str} {px : Pos} {scope : Scope} {pos : Pos} {xs : List α} (M : MS H X₀ s₀ Z env ρ μ X s) (inj : α → D) (g : α → D)
    (hsw : swapsWith (.ListComp elt [⟨.Name x0 px, iter, [], 0⟩] scope pos) (some (.Name y py)) spos.line env = pure true) (hy : StoreOk env y)
    (hsrc : SrcE prog w H A env ρ iter (xs.map inj)) (hρ : freeRho ρ scope.names = ρf) (hno : ρf.lookup x0 = none) (hsz : xs.length ≤ 100000) (hck : compChk env scope ρ [x0] = true) (hst : ∀ C cells, StoreOk (compEnvC scope cells C env) x0)
    (helt : ∀ C cells x, x ∈ xs → Ev prog w H A (compEnvC scope cells C env) ((x0, inj x) :: ρf) elt (g x)) (hs : ∀ x, foldedSetIterable iter env x = pure x) {Q : Flow → Shared → Prop}
    (h : ∀ l X' s', MS H X₀ s₀ Z env ((y, .val (.ref l)) :: ρ) ((l, .list (xs.map g)) :: μ) X' s' → Q .next s') :
    wpAny (model prog w) A (exec (.Assign [.Name y py] (.ListComp elt [⟨.Name x0 px, iter, [], 0⟩] scope pos) spos) env) Q E s := by
  subst hρ
  obtain ⟨h1, h2, h3, h4, h5⟩ := compChk_at hck
  rw [exec_Assign_Name_used _ _ _ _ hsw]
  refine wpAny_bind (wpAny_standAt (wpAny_bind ?_))
  show wpAny _ A (do let _ ← comprehension (.ListComp elt [⟨.Name x0 px, iter, [], 0⟩] scope pos) scope env _ (newList []) false (eval iter env) (some (PySem.assign (.Name y py) env))) _ _ s
  refine wpAny_bind (wpAny_mono (comp_core (tn := [x0]) inj (fun _ => true) g (fun x => (x0, inj x) :: freeRho ρ scope.names) hsrc hs h1 h2 h3 h4 h5 hsz (fun C cells x _ => Asg.name (pos := px) (hst C cells)) (ifs := []) (fun _ _ _ _ => rfl) (fun C cells x hx _ => helt C cells x hx) (fun _ _ => back1 hno)
    (some (PySem.assign (.Name y py) env)) (Q := fun _ s' => Q .next s') (E := E) M.F fun s₁ s' C D m vs k₁ k₂ aC aD hDC hn hp hrl => ?_)
    (fun _ s' hq => wpAny_pure (wpAny_pure hq)) fun _ _ e => e)
  rw [List.filter_eq_self.mpr (fun _ _ => rfl)] at hrl
  show wpAny _ A (PySem.assign (.Name y py) env (.ref D)) _ _ _
  have M₁ := M.keeps k₁
  obtain ⟨nC1, nC2, nC3, nC4⟩ := M₁.newZ aC
  have hCl : ∃ o, s'.heap.get? C = some o := let ⟨o, _, _, ho, _⟩ := hn; ⟨o, ho⟩
  have hDl : ∃ o, s'.heap.get? D = some o := let ⟨n, ho⟩ := hp; ⟨_, ho⟩
  have G := M₁.grow (ν := [(D, .list (xs.map g))]) (N := fun b => b = C ∨ b = D) k₂ (fun b hb => by
      rcases hb with rfl | rfl
      · exact ⟨aC, hCl⟩
      · exact ⟨aD, hDl⟩) (fun b hb => .inr (by simpa [flat, MO.addrs] using hb)) (fun a m hm k kl => by
    rw [List.mem_singleton] at hm; cases hm
    exact .list hp hrl) (by simp [flat, MO.addrs])
  refine wpAny_assign_Name (G.F.store (.val _) hy fun s₃ k₃ F₃ => ?_)
  have G₃ := G.own (kbMono k₃ fun b => ZS_own) F₃
  have hn3 : s₃.heap.Ns C m := hn.at' fun o e => kbKeep k₃ _ o (fun q => nC2 (ZS_own q)) e
  refine ⟨m, hn3, fun h' hs' => ?_⟩
  refine h D _ _ (G₃.gone (N := fun b => b = C) (s' := { s₃ with heap := h' }) (fun b hb => ?_) ⟨h', s₃.toks, rfl, fun b o hb e => hs'.extBut b o hb e⟩)
  subst hb
  refine ⟨.inr (.inl rfl), nC2, fun q => ?_, nC4⟩
  have : flat ((D, MO.list (xs.map g)) :: μ) = D :: flat μ := by simp [flat, MO.addrs]
  rw [this] at q
  rcases List.mem_cons.mp q with q | q
  · exact hDC q.symm
  · exact nC3 q

theorem MS.mid {st : Stmt} {sts : List Stmt} (M : MS H X₀ s₀ Z env ρ μ X s) (ρ' : Rho) (μ' : Mu) {Q : Flow → Shared → Prop} (h1 : wpAny (model prog w) A (exec st env) (fun f s' => f = .next ∧ ∃ X', MS H X₀ s₀ Z env ρ' μ' X' s') E s)
    (h2 : ∀ X' s', MS H X₀ s₀ Z env ρ' μ' X' s' → wpAny (model prog w) A (execs sts env) Q E s') : wpAny (model prog w) A (execs (st :: sts) env) Q E s := by
  refine wpAny_execs_cons (wpAny_mono h1 (fun f s' hq => ?_) fun _ _ e => e)
  obtain ⟨rfl, X', M'⟩ := hq
  exact h2 X' s' M'

theorem MS.midS {st : Stmt} {sts : List Stmt} (M : MS H X₀ s₀ Z env ρ μ X s) (μ' : Mu) {Q : Flow → Shared → Prop} (h1 : wpAny (model prog w) A (exec st env) (fun f s' => f = .next ∧ ∃ X', MS H X₀ s₀ Z env ρ μ' X' s') E s)
    (h2 : ∀ X' s', MS H X₀ s₀ Z env ρ μ' X' s' → wpAny (model prog w) A (execs sts env) Q E s') : wpAny (model prog w) A (execs (st :: sts) env) Q E s := M.mid ρ μ' h1 h2

theorem rv_refl {ρ : Rho} {Y : AS} {h : Heap} : ∀ x e, ρ.lookup x = some e → ρ.lookup x = some e ∨ ∃ v, ρ.lookup x = some (.val v) ∧ Rd Y h v e := fun _ _ e => .inl e
theorem rv_hd {y : Str} {d : D} {v : Value} {ρ ρ' : Rho} {Y : AS} {h : Heap} (r : Rd Y h v d) (k : ∀ x e, ρ'.lookup x = some e → ρ.lookup x = some e ∨ ∃ v, ρ.lookup x = some (.val v) ∧ Rd Y h v e) :
    ∀ x e, List.lookup x ((y, d) :: ρ') = some e → List.lookup x ((y, .val v) :: ρ) = some e ∨ ∃ v', List.lookup x ((y, .val v) :: ρ) = some (.val v') ∧ Rd Y h v' e := fun x e q => by
  rw [lookup_cons_eq] at q ⊢
  by_cases z : x = y
  · rw [if_pos z] at q ⊢; cases q; exact .inr ⟨v, rfl, r⟩
  · rw [if_neg z] at q ⊢; exact k x e q
theorem rv_tl {y : Str} {d : D} {ρ ρ' : Rho} {Y : AS} {h : Heap} (k : ∀ x e, ρ'.lookup x = some e → ρ.lookup x = some e ∨ ∃ v, ρ.lookup x = some (.val v) ∧ Rd Y h v e) :
    ∀ x e, List.lookup x ((y, d) :: ρ') = some e → List.lookup x ((y, d) :: ρ) = some e ∨ ∃ v', List.lookup x ((y, d) :: ρ) = some (.val v') ∧ Rd Y h v' e := fun x e q => by
  rw [lookup_cons_eq] at q ⊢
  by_cases z : x = y
  · rw [if_pos z] at q ⊢; exact .inl q
  · rw [if_neg z] at q ⊢; exact k x e q

theorem sum_le {α : Type} {c : Nat} (f : α → Nat) : ∀ {l : List α}, (∀ x ∈ l, f x ≤ c) → (l.map f).sum ≤ l.length * c
  | [], _ => by simp
  | a :: l, h => by
    have h1 := h a (.head _)
    have h2 := sum_le f (l := l) fun x hx => h x (.tail _ hx)
    rw [List.map_cons, List.sum_cons, List.length_cons, Nat.add_mul, Nat.one_mul]
    omega
theorem join_ok {sep : Str} {ys : List Str} {c n : Nat} (hc : ∀ y ∈ ys, y.length ≤ c) (hn : ys.length ≤ n) (hs : sep.length ≤ c) (h : 2 * (n * c) ≤ 16777216) : (ys.map (·.length)).sum + ys.length * sep.length ≤ 16777216 := by
  have h1 := sum_le Str.length hc
  have h2 : ys.length * c ≤ n * c := Nat.mul_le_mul_right _ hn
  have h3 : ys.length * sep.length ≤ ys.length * c := Nat.mul_le_mul_left _ hs
  show (ys.map Str.length).sum + _ ≤ _
  omega
end
def dO : Option Int → D
  | none => .none
  | some i => .int i
section
variable {prog : Program} {w : World} {H : Heap} {A : Around}
theorem c_strI {i : Int} (hi : i.natAbs.log2 < 1920) : CallG prog w H A (.type "str") [.int i] (.str (Str.ofString (toString i))) := by
  refine ⟨fun X s vs W r Q E h => ?_⟩
  obtain ⟨v, rfl, r1⟩ := one r
  obtain ⟨t, rfl⟩ := r1.inv
  exact PySem.P.str_of_int hi (h _ _ (kTok _ _) (.str _ _))
end
end Mine
end

noncomputable section
open PySem PySem.W PySem.Calls PyProof.Rows PySem.Spec
namespace Mine
open PySem.SeqAt

section
variable {prog : Program} {w : World} {H : Heap} {A : Around} {X₀ X X' Z : AS} {s₀ s s' : Shared} {env : Env} {ρ ρ' ρf : Rho} {μ μ' : Mu} {E : Value → Shared → Prop} {K : Frag} {mg mb : Str → Option Value}

/-- the class is plain about this name -/
structure AtOk (K : Frag) (C : Addr) (name : Str) : Prop where
  get : plainGet K C name = true
  dict : hasDictIn K C = true
  cls : findIn K (.ref C) name = some none
theorem ent_get {x dx C : Addr} {es : List DictEntry} {n : Nat} {name : Str} {v : Value} {expr : Bool} (hK : K.In s.heap) (ok : AtOk K C name) (e1 : s.heap.get? x = some (instObj C dx)) (e2 : s.heap.get? dx = some (dictOf es n))
    (hl : getL name es = some (some v)) (hh : handedIn v = true) {Q : Value → Shared → Prop} (h : Q v { s with toks := s.toks + 1 }) : wpAny (model prog w) A (getAttr (.ref x) name expr) Q E s :=
  get_value (od := some (dictOf es n)) hK ⟨e1, rfl, rfl, e2⟩ (plainGet_of ok.get).1 (findObj_own ok.dict ok.cls rfl hl) hh h

section
variable {h1 h2 h3 h4 : Int} {t1 t2 t3 t4 : Tok} {vu vr vd vq : Value}
theorem ent_u : getL "useragents" (entEs h1 h2 h3 h4 t1 t2 t3 t4 vu vr vd vq) = some (some vu) := rfl
theorem ent_r : getL "rulelines" (entEs h1 h2 h3 h4 t1 t2 t3 t4 vu vr vd vq) = some (some vr) := rfl
theorem ent_d : getL "delay" (entEs h1 h2 h3 h4 t1 t2 t3 t4 vu vr vd vq) = some (some vd) := rfl
theorem ent_q : getL "req_rate" (entEs h1 h2 h3 h4 t1 t2 t3 t4 vu vr vd vq) = some (some vq) := rfl
theorem ent_no {name : Str} (h1 : (name == ("useragents" : Str)) = false) (h2 : (name == ("rulelines" : Str)) = false) : True := trivial
variable {hs : Int} {key v : Value}
theorem put_u : putL "useragents" hs key v (entEs h1 h2 h3 h4 t1 t2 t3 t4 vu vr vd vq) = entEs h1 h2 h3 h4 t1 t2 t3 t4 v vr vd vq := rfl
theorem put_r : putL "rulelines" hs key v (entEs h1 h2 h3 h4 t1 t2 t3 t4 vu vr vd vq) = entEs h1 h2 h3 h4 t1 t2 t3 t4 vu v vd vq := rfl
theorem put_d : putL "delay" hs key v (entEs h1 h2 h3 h4 t1 t2 t3 t4 vu vr vd vq) = entEs h1 h2 h3 h4 t1 t2 t3 t4 vu vr v vq := rfl
theorem put_q : putL "req_rate" hs key v (entEs h1 h2 h3 h4 t1 t2 t3 t4 vu vr vd vq) = entEs h1 h2 h3 h4 t1 t2 t3 t4 vu vr vd v := rfl
end

theorem rd_handed {h : Heap} {v : Value} {d : D} (r : Rd X h v d) (hd : ∀ u, d = .val u → handedIn u = true) : handedIn v = true := by
  cases r <;> first | rfl | exact hd _ rfl

/-- one of the four data of a record -/
inductive Fld | u | r | d | q
def Fld.name : Fld → Str
  | .u => "useragents"
  | .r => "rulelines"
  | .d => "delay"
  | .q => "req_rate"
def Fld.of (u r d q : D) : Fld → D
  | .u => u
  | .r => r
  | .d => d
  | .q => q

theorem Ev.attr (W : WF K H mg mb) (f : Fld) {y : Str} {yp : Pos} {attr : Str} {pos : Pos} {C : Addr} {u r d q : D} (hf : f.name = attr) (ho : Ev prog w H A env ρ (.Name y yp) (.ent C u r d q)) (ok : AtOk K C attr) (hd : ∀ v, f.of u r d q = .val v → handedIn v = true) : Ev prog w H A env ρ (.Attribute (.Name y yp) attr pos) (f.of u r d q) := by
  refine ⟨fun X s F Q E h => ?_⟩
  refine Attribute_name (ho.run X s F _ _ fun v s₁ k₁ r₁ => ?_)
  subst hf
  cases r₁ with | ent hx hy e1 e2 ru rr rd rq =>
  have hK := W.kin.keeps (F.keeps k₁).base
  cases f with
  | u => exact ent_get hK ok e1 e2 ent_u (rd_handed ru hd) (h _ _ (kTrans k₁ (kTok _ _)) ru)
  | r => exact ent_get hK ok e1 e2 ent_r (rd_handed rr hd) (h _ _ (kTrans k₁ (kTok _ _)) rr)
  | d => exact ent_get hK ok e1 e2 ent_d (rd_handed rd hd) (h _ _ (kTrans k₁ (kTok _ _)) rd)
  | q => exact ent_get hK ok e1 e2 ent_q (rd_handed rq hd) (h _ _ (kTrans k₁ (kTok _ _)) rq)

/-- the class lets this name be set -/
structure StOk (K : Frag) (C : Addr) (name : Str) : Prop where
  set : findIn K (.ref C) "__setattr__" = some (some (.builtin "object.__setattr__"))
  plain : plainOver K C = true
  taker : takerIn K C name = some none
  dict : hasDictIn K C = true
def Fld.put (u r d q v : D) : Fld → D × D × D × D
  | .u => (v, r, d, q)
  | .r => (u, v, d, q)
  | .d => (u, r, v, q)
  | .q => (u, r, d, v)
def MO.put (dx C : Addr) (u r d q v : D) : Fld → MO
  | .u => .ent dx C v r d q
  | .r => .ent dx C u v d q
  | .d => .ent dx C u r v q
  | .q => .ent dx C u r d v
theorem MS.set (W : WF K H mg mb) (f : Fld) {x dx C : Addr} {u r d q dv : D} {v : Value} (M : MS H X₀ s₀ Z env ρ μ X s) (p : Put x (.ent dx C u r d q) (MO.put dx C u r d q dv f) μ μ') (ok : StOk K C f.name) (rv : Rd X s.heap v dv)
    {Q : Unit → Shared → Prop} (h : ∀ s', MS H X₀ s₀ Z env ρ μ' X s' → Q () s') : wpAny (model prog w) A (setAttr (.ref x) f.name v) Q E s := by
  have hm := M.mu x _ p.mem
  cases hm with | @ent _ _ h1 h2 h3 h4 t1 t2 t3 t4 n vu vr vd vq _ _ _ _ e1 e2 ru rr rd rq =>
  have hK := W.kin.keeps M.F.base
  have hxd : x ≠ dx := by
    intro q
    have := M.nd
    obtain ⟨a, b, hab⟩ := List.append_of_mem p.mem
    rw [hab, flat, List.flatMap_append, List.flatMap_cons, List.nodup_append] at this
    have t := this.2.1
    rw [List.nodup_append] at t
    have := t.1
    simp [MO.addrs, q] at this
  have key : ∀ es', es'.length ≤ 1000 → (putL f.name (PyData.keyHash w.params f.name) (.str f.name (s.toks + 1)) v (entEs h1 h2 h3 h4 t1 t2 t3 t4 vu vr vd vq) = es') →
      ((∀ v d, Rd X s.heap v d → ∀ h', Heap.SameBut dx s.heap h' → Rd X h' v d) → ∀ h', h'.get? x = some (instObj C dx) → h'.get? dx = some (dictOf es' (putN f.name (entEs h1 h2 h3 h4 t1 t2 t3 t4 vu vr vd vq) n)) → Heap.SameBut dx s.heap h' → MOk X h' x (MO.put dx C u r d q dv f)) → wpAny (model prog w) A (setAttr (.ref x) f.name v) Q E s := by
    intro es' hz hes hok
    subst hes
    refine set_low hK ⟨e1, rfl, rfl, e2⟩ rfl ok.set ok.plain ok.taker ok.dict ?_ hz fun h' hd hs => h _ ?_
    · cases f <;> rfl
    have ha : (MO.ent dx C u r d q).addrs x = (MO.put dx C u r d q dv f).addrs x := by cases f <;> rfl
    have hdX := (M.mx dx (mem_flat p.mem (.tail _ (.head _)))).1
    refine M.put p ha (c := dx) (.tail _ (.head _)) (fun b o hb e => hs.extBut b o hb e) ⟨h', s.toks + 2, rfl⟩ fun k kl => ?_
    exact hok (fun v d r h' hs' => r.sameBut hdX hs') h' (hs.extBut _ _ hxd e1) hd hs
  cases f with
  | u => exact key _ (by show 4 ≤ 1000; decide) put_u fun k h' e1' e2' hs => .ent e1' e2' (k _ _ rv _ hs) (k _ _ rr _ hs) (k _ _ rd _ hs) (k _ _ rq _ hs)
  | r => exact key _ (by show 4 ≤ 1000; decide) put_r fun k h' e1' e2' hs => .ent e1' e2' (k _ _ ru _ hs) (k _ _ rv _ hs) (k _ _ rd _ hs) (k _ _ rq _ hs)
  | d => exact key _ (by show 4 ≤ 1000; decide) put_d fun k h' e1' e2' hs => .ent e1' e2' (k _ _ ru _ hs) (k _ _ rr _ hs) (k _ _ rv _ hs) (k _ _ rq _ hs)
  | q => exact key _ (by show 4 ≤ 1000; decide) put_q fun k h' e1' e2' hs => .ent e1' e2' (k _ _ ru _ hs) (k _ _ rr _ hs) (k _ _ rd _ hs) (k _ _ rv _ hs)
end
end Mine
end

noncomputable section
open PySem PySem.W PySem.Calls PyProof.Rows PySem.Spec
namespace Mine
open PySem.SeqAt

section
variable {prog : Program} {w : World} {H : Heap} {A : Around} {X₀ X X' Z : AS} {s₀ s s' : Shared} {env : Env} {ρ ρ' ρf : Rho} {μ μ' : Mu} {E : Value → Shared → Prop} {K : Frag} {mg mb : Str → Option Value}

theorem MS.upd {l : Addr} {ds ds' : List D} {f : Array Value → Array Value} {t : Nat} (M : MS H X₀ s₀ Z env ρ μ X s) (p : Put l (.list ds) (.list ds') μ μ')
    (hf : ∀ vs, RdL X s.heap vs ds → ∃ vs', f vs.toArray = vs'.toArray ∧ RdL X s.heap vs' ds') : MS H X₀ s₀ Z env ρ μ' X { s with heap := s.heap.update l (Obj.mapSeq f), toks := t } := by
  cases M.mu l _ p.mem with | @list vs _ hp hl =>
  obtain ⟨vs', e, hl'⟩ := hf vs hl
  obtain ⟨n, hn⟩ := hp
  have hs : Heap.SameBut l s.heap (s.heap.update l (Obj.mapSeq f)) := Heap.SameBut.update ..
  refine M.put p rfl (List.mem_singleton.mpr rfl) (fun b o hb e => hs.extBut b o hb e) ⟨_, t, rfl⟩ fun k kl => ?_
  have q : IsL (s.heap.update l (Obj.mapSeq f)) l (f vs.toArray) _ := IsL.update (x := hn) f
  rw [e] at q
  exact .list ⟨_, q⟩ (kl _ _ hl')

theorem MS.extend {l : Addr} {ds es : List D} {v : Value} (M : MS H X₀ s₀ Z env ρ μ X s) (p : Put l (.list ds) (.list (ds ++ es)) μ μ') (r : Rd X s.heap v (.list es)) (hz : ds.length + es.length ≤ 1000)
    {Q : Value → Shared → Prop} (h : ∀ s', MS H X₀ s₀ Z env ρ μ' X s' → Q .none s') : wpAny (model prog w) A (call (.builtin "list.extend") [.ref l, v]) Q E s := by
  obtain ⟨b, ws, rfl, hx, hp, hl⟩ := r.inv
  obtain ⟨n2, e2⟩ := hp
  have M' := M
  cases M.mu l _ p.mem with | @list vs _ hp hlv =>
  obtain ⟨n, e⟩ := hp
  have hn := hlv.length
  have hn' := hl.length
  have hz' : vs.toArray.size + ws.toArray.size ≤ 1000 := by rw [List.size_toArray, List.size_toArray]; omega
  have hsz : (1000 : Nat) ≤ sizeLine := by decide
  refine call_meets PySem.F.slot_list_extend ⟨_, e, rfl⟩ PySem.F.entry_list_extend (PySem.F.args_list_extend_2 _ _) (PySem.AutoSeq1.list_extend_list_list_0 l vs.toArray n b ws.toArray n2 ?_ (by omega) (by omega)) ⟨e, e2, h _ (M'.upd p fun vs hl' => ⟨vs ++ ws, by simp, hl'.append hl⟩)⟩
  simp only [Builtin.List.listTooLong, Bool.and_eq_true, decide_eq_true_eq, not_and]
  intro _
  omega

/-- a method of an open list that an expression reaches -/
theorem MS.methO {o : PySem.Expr} {name : Str} {id : String} {apos pos : Pos} {args : List PySem.Expr} {pl : Sem Bool} {l : Addr} {ds es : List D} (M : MS H X₀ s₀ Z env ρ μ X s) (he : MethForm o name apos pos args env pl)
    (ho : ∀ (Q : Value → Shared → Prop) (E : Value → Shared → Prop), (∀ s', Keeps s s' → Q (.ref l) s') → wpAny (model prog w) A (eval o env) Q E s) (hl : (l, .list ds) ∈ μ) (ha : EvL prog w H A env ρ args es) (hn : noStar args = true) (slot : Slot "list" name id)
    (hty : typeOf (.builtin id) = pure (.type "method_descriptor")) {Q : Value → Shared → Prop} (h : ∀ vs s', Keeps s s' → MS H X₀ s₀ Z env ρ μ X s' → RdL X s'.heap vs es → wpAny (model prog w) A (call (.builtin id) (.ref l :: vs)) Q E s') :
    wpAny (model prog w) A (eval (.Call (.Attribute o name apos) args [] pos) env) Q E s := by
  refine MethodCall_ (pl := pl) (ho _ _ fun s₁ k₁ => ?_) he
  have M₁ := M.keeps k₁
  have hm := M₁.mu l _ hl
  cases hm with | list hp hl' =>
  obtain ⟨n, e⟩ := hp
  refine getMethod_builtin (T := "list") ⟨_, e, rfl⟩ PySem.F.plainAttrs_list slot hty (fun a q => by cases q; exact ⟨_, e, rfl⟩) ?_
  rw [star_trees env pos args hn]
  refine callWith_builtin (trees_plain env args) (evalArgs_trees ?_)
  exact ha.run X s₁ M₁.F _ _ fun vs s₂ k₂ r₂ => h vs s₂ (kTrans k₁ k₂) (M₁.keeps k₂) r₂

/-- a datum of an open record -/
theorem MS.attr (W : WF K H mg mb) (f : Fld) {y : Str} {yp : Pos} {attr : Str} {pos : Pos} {x dx C : Addr} {u r d q : D} (M : MS H X₀ s₀ Z env ρ μ X s) (hf : f.name = attr) (hy : ρ.lookup y = some (.val (.ref x))) (hyd : (y == ("__debug__" : Str)) = false) (hx : (x, .ent dx C u r d q) ∈ μ) (ok : AtOk K C attr)
    (hd : ∀ v, f.of u r d q = .val v → handedIn v = true) {Q : Value → Shared → Prop} (h : ∀ v s', Keeps s s' → Rd X s'.heap v (f.of u r d q) → Q v s') : wpAny (model prog w) A (eval (.Attribute (.Name y yp) attr pos) env) Q E s := by
  refine Attribute_name ((Ev.name (prog := prog) (w := w) (A := A) hy hyd).run X s M.F _ _ fun v s₁ k₁ r₁ => ?_)
  subst hf
  obtain rfl := r₁.inv
  cases (M.keeps k₁).mu x _ hx with | ent e1 e2 ru rr rd rq =>
  have hK := W.kin.keeps (M.F.keeps k₁).base
  cases f with
  | u => exact ent_get hK ok e1 e2 ent_u (rd_handed ru hd) (h _ _ (kTrans k₁ (kTok _ _)) ru)
  | r => exact ent_get hK ok e1 e2 ent_r (rd_handed rr hd) (h _ _ (kTrans k₁ (kTok _ _)) rr)
  | d => exact ent_get hK ok e1 e2 ent_d (rd_handed rd hd) (h _ _ (kTrans k₁ (kTok _ _)) rd)
  | q => exact ent_get hK ok e1 e2 ent_q (rd_handed rq hd) (h _ _ (kTrans k₁ (kTok _ _)) rq)

/-- y.f = e -/
theorem MS.setStmt (W : WF K H mg mb) (f : Fld) {y : Str} {yp pos spos : Pos} {e : PySem.Expr} {attr : Str} {x dx C : Addr} {u r d q dv : D} (M : MS H X₀ s₀ Z env ρ μ X s) (hf : f.name = attr) (hy : ρ.lookup y = some (.val (.ref x))) (hyd : (y == ("__debug__" : Str)) = false)
    (p : Put x (.ent dx C u r d q) (MO.put dx C u r d q dv f) μ μ') (ok : StOk K C attr) (hs : swapsWith e (some (.Attribute (.Name y yp) attr pos)) spos.line env = pure false)
    (hv : ∀ (Q : Value → Shared → Prop) (E : Value → Shared → Prop), (∀ v s', Keeps s s' → Rd X s'.heap v dv → Q v s') → wpAny (model prog w) A (eval e env) Q E s) {Q : Flow → Shared → Prop} (h : ∀ s', MS H X₀ s₀ Z env ρ μ' X s' → Q .next s') :
    wpAny (model prog w) A (exec (.Assign [.Attribute (.Name y yp) attr pos] e spos) env) Q E s := by
  subst hf
  refine plainObj_wpAny_Assign_Attribute (hv _ _ fun v s₁ k₁ r₁ => ?_) hs
  have M₁ := M.keeps k₁
  refine (Ev.name (prog := prog) (w := w) (A := A) hy hyd).run X s₁ M₁.F _ _ fun o s₂ k₂ r₂ => ?_
  obtain rfl := r₂.inv
  exact (M₁.keeps k₂).set W f p ok (r₁.keeps k₂) fun s₃ M₃ => h s₃ M₃

/-- an open record is closed -/
theorem MS.entOut {x dx C : Addr} {u r d q u' r' d' q' : D} (M : MS H X₀ s₀ Z env ρ μ X s) (hx : (x, .ent dx C u r d q) ∈ μ) (ku : ∀ v, Rd X s.heap v u → Rd X₀ s.heap v u') (kr : ∀ v, Rd X s.heap v r → Rd X₀ s.heap v r')
    (kd : ∀ v, Rd X s.heap v d → Rd X₀ s.heap v d') (kq : ∀ v, Rd X s.heap v q → Rd X₀ s.heap v q') : Rd X₀ s.heap (.ref x) (.ent C u' r' d' q') := by
  cases M.mu x _ hx with | ent e1 e2 ru rr rd rq =>
  exact .ent (M.mx x (mem_flat hx (.head _))).2.1 (M.mx dx (mem_flat hx (.tail _ (.head _)))).2.1 e1 e2 (ku _ ru) (kr _ rr) (kd _ rd) (kq _ rq)
theorem MS.listOut {l : Addr} {ds : List D} (M : MS H X₀ s₀ Z env ρ μ X s) (h : (l, .list ds) ∈ μ) : ∀ v, Rd X s.heap v (.val (.ref l)) → Rd X₀ s.heap v (.list ds) := fun v r => by
  obtain rfl := r.inv; exact M.out (M.listF h)
end
end Mine
end

noncomputable section
open PySem PySem.W PySem.Calls PyProof.Rows PySem.Spec
namespace Mine
open PySem.SeqAt

section
variable {prog : Program} {w : World} {H : Heap} {A : Around} {X : AS} {s : Shared} {env : Env} {ρ : Rho} {E : Value → Shared → Prop}

theorem c_lower {x : Str} (hx : x.length ≤ 1000) : CallG prog w H A (.builtin "str.lower") [.str x] (.str (Txt.lower x)) := by
  refine ⟨fun X s vs W r Q E h => ?_⟩
  obtain ⟨v, rfl, r1⟩ := one r
  obtain ⟨t, rfl⟩ := r1.inv
  exact SC.lower (fit_lower (by omega)) (h _ _ (kTok _ _) (.str _ _))
theorem rdl_strsFrom {h : Heap} : ∀ (l : List Str) (t : Nat), RdL X h (strsFrom t l) (dS l)
  | [], _ => .nil
  | x :: l, t => .cons (.str _ _) (rdl_strsFrom l _)
theorem c_split {x y : Str} (hy : (y.length == 0) = false) (hx : x.length ≤ 100000) : CallG prog w H A (.builtin "str.split") [.str x, .str y] (.list (dS (Txt.split x y))) := by
  refine ⟨fun X s vs W r Q E h => ?_⟩
  obtain ⟨v, u, rfl, r1, r2⟩ := two r
  obtain ⟨t, rfl⟩ := r1.inv; obtain ⟨t', rfl⟩ := r2.inv
  have itself : Txt.split x y = [x] → Q (.ref s.heap.objs.size) { s with heap := s.heap.push { cls := .type "list", data := .seq [Value.str x t].toArray } } := fun e => by
    refine h _ _ (kPush _ _) ?_
    rw [e]
    exact Rd.newList W (vs := [.str x t]) (.cons (.str _ _) .nil) rfl
  by_cases h1 : (decide (x.length < y.length) || decide (Builtin.Str.strKind x < Builtin.Str.strKind y)) = true
  · refine call_meets PySem.F.slot_str_split rfl PySem.F.entry_str_split (PySem.F.args_str_split_2 _ _) (PySem.meets_str_split_cannot_occur x y t t' h1) (itself ?_)
    unfold Txt.split; rw [if_pos h1]
  · by_cases hf : (Builtin.Str.occurrences x y 0 x.length (x.length + 1)).isEmpty = true
    · refine call_meets PySem.F.slot_str_split rfl PySem.F.entry_str_split (PySem.F.args_str_split_2 _ _) (PySem.meets_str_split_not_found x y t t' (by simpa using h1) hy hf) (itself ?_)
      unfold Txt.split; rw [if_neg h1, if_pos hf]
    · have e : Txt.split x y = Builtin.Str.partsBetween x (Builtin.Str.occurrences x y 0 x.length (x.length + 1)) y.length := by unfold Txt.split; rw [if_neg h1, if_neg hf]
      have hle := split_le x y
      refine call_meets PySem.F.slot_str_split rfl PySem.F.entry_str_split (PySem.F.args_str_split_2 _ _) (PySem.meets_str_split_sep x y t t' (by simpa using h1) hy (by simpa using hf) (Nat.le_trans hx (by decide)) (by rw [← e]; exact Nat.le_trans (by omega : _ ≤ 200000) (by decide))) ?_
      rw [← e]
      exact h _ _ (kMk fun b o q => Heap.get?_push_of_some _ q) (Rd.newList W (rdl_strsFrom _ _) rfl)
theorem c_index {x y : Str} {i : Nat} {rest : List Nat} (ho : Builtin.Str.occurrences x y 0 x.length 1 = i :: rest) : CallG prog w H A (.builtin "str.index") [.str x, .str y] (.int i) := by
  refine ⟨fun X s vs W r Q E h => ?_⟩
  obtain ⟨v, u, rfl, r1, r2⟩ := two r
  obtain ⟨t, rfl⟩ := r1.inv; obtain ⟨t', rfl⟩ := r2.inv
  exact PySem.SC.index ho (h _ _ (kTok _ _) (.int _ _))

/-- what lies ahead of the first separator -/
def headOf (x y : Str) : Str := (Txt.split x y).headD x
theorem headOf_at (x y : Str) : (Txt.split x y)[0]? = some (headOf x y) := by
  have := split_pos x y
  unfold headOf
  cases h : Txt.split x y with
  | nil => rw [h] at this; simp at this
  | cons a r => rfl
theorem strSub_slice {x : Str} {i : Nat} (hi : i ≤ x.length) : Builtin.Str.strSub x 0 i = Txt.slice x none (some (i : Int)) := by
  have := slice_closes_toL (x := x) (j := (i : Int)) (by omega) (by omega)
  rw [eq_of_beq this]
  unfold Builtin.Str.strSub
  congr 1
  apply Array.toList_inj.mp
  simp
theorem headOf_none {x y : Str} (hk : Builtin.Str.strKind y = 1) (ho : hasSub y x = false) : headOf x y = x := by
  rcases split_head x y hk _ (headOf_at x y) with ⟨h, _⟩ | ⟨i, _, h, _⟩
  · exact h
  · rcases StrLaws.occ_head x y 1 (Nat.le_refl _) with ⟨_, q⟩ | ⟨i', r, q, _⟩
    · exact absurd h (q i)
    · unfold hasSub at ho; rw [q] at ho; cases ho
theorem headOf_some {x y : Str} {i : Nat} {rest : List Nat} (hk : Builtin.Str.strKind y = 1) (ho : Builtin.Str.occurrences x y 0 x.length 1 = i :: rest) : headOf x y = Txt.slice x none (some (i : Int)) := by
  rcases StrLaws.occ_head x y 1 (Nat.le_refl _) with ⟨q, _⟩ | ⟨i', r, q, hA, hF⟩
  · rw [q] at ho; cases ho
  · rw [q] at ho; cases ho
    rcases split_head x y hk _ (headOf_at x y) with ⟨_, h⟩ | ⟨j, hz, h1, h2⟩
    · exact absurd hA (h i)
    · have : j = i := by
        rcases Nat.lt_trichotomy j i with q | q | q
        · exact absurd h1 (hF j q)
        · exact q
        · exact absurd hA (h2 i q)
      subst this
      rw [hz]
      have := hA.1
      exact strSub_slice (by omega)
end
end Mine
end

noncomputable section
open PySem PySem.W PySem.Calls PyProof.Rows PySem.Spec
namespace Mine
open PySem.SeqAt

abbrev ltS (a b : Str) : Prop := a.cps.toList < b.cps.toList
theorem ltS_irrefl (a : Str) : ¬ ltS a a := List.lt_irrefl _
theorem ltS_trans {a b c : Str} (h1 : ltS a b) (h2 : ltS b c) : ltS a c := List.lt_trans h1 h2
theorem ltS_asymm {a b : Str} (h : ltS a b) : ¬ ltS b a := fun q => ltS_irrefl a (ltS_trans h q)
theorem str_ext {a b : Str} (h : a.cps.toList = b.cps.toList) : a = b := by
  cases a; cases b
  simp only at h
  rw [Array.toList_inj.mp h]
theorem ltS_total {a b : Str} (h1 : ¬ ltS a b) (h2 : ¬ ltS b a) : a = b := str_ext (List.le_antisymm (List.not_lt.mp h2) (List.not_lt.mp h1))
theorem not_ltS_trans {a b c : Str} (h1 : ¬ ltS b a) (h2 : ¬ ltS c b) : ¬ ltS c a := fun q => h1 (by
  have x1 : a.cps.toList ≤ b.cps.toList := List.not_lt.mp h1
  have x2 : b.cps.toList ≤ c.cps.toList := List.not_lt.mp h2
  exact absurd q (List.not_lt.mpr (List.le_trans x1 x2)))
def leB (a b : Str) : Bool := !decide (ltS b a)
def sortS (ss : List Str) : List Str := ss.mergeSort leB
theorem sortS_perm (ss : List Str) : (sortS ss).Perm ss := List.mergeSort_perm ss leB
theorem sortS_pair (ss : List Str) : (sortS ss).Pairwise fun a b => leB a b = true := by
  refine List.pairwise_mergeSort (le := leB) (fun a b c h1 h2 => ?_) (fun a b => ?_) ss
  · simp only [leB, Bool.not_eq_true', decide_eq_false_iff_not] at h1 h2 ⊢
    exact not_ltS_trans h1 h2
  · simp only [leB, Bool.or_eq_true, Bool.not_eq_true', decide_eq_false_iff_not]
    by_cases q : ltS b a
    · exact .inr (ltS_asymm q)
    · exact .inl q
theorem rising_pair : ∀ (l : List Str) (p : Str), risingS p l = true → (p :: l).Pairwise fun a b => leB a b = true
  | [], p, _ => by simp
  | x :: r, p, h => by
    unfold risingS at h
    rw [Bool.and_eq_true] at h
    have ih := rising_pair r x h.2
    rw [List.pairwise_cons]
    refine ⟨fun b hb => ?_, ih⟩
    have h1 : ¬ ltS x p := by
      have := h.1
      rw [ltCps_eq] at this
      simpa using this
    rcases List.mem_cons.mp hb with rfl | hb
    · simpa [leB] using h1
    · have := (List.pairwise_cons.mp ih).1 b hb
      simp only [leB, Bool.not_eq_true', decide_eq_false_iff_not] at this ⊢
      exact not_ltS_trans h1 this
theorem sortS_eq {ss ss' : List Str} (hp : ss'.Perm ss) (hs : sortedS ss' = true) : ss' = sortS ss := by
  refine List.Perm.eq_of_pairwise (le := fun a b => leB a b = true) (fun a b _ _ h1 h2 => ?_) ?_ (sortS_pair ss) (hp.trans (sortS_perm ss).symm)
  · simp only [leB, Bool.not_eq_true', decide_eq_false_iff_not] at h1 h2
    exact ltS_total h2 h1
  · cases ss' with
    | nil => exact .nil
    | cons a r => exact rising_pair r a hs

section
variable {prog : Program} {w : World} {H : Heap} {A : Around} {X : AS} {s : Shared} {env : Env} {ρ : Rho} {E : Value → Shared → Prop}
theorem c_sorted {ss : List Str} (h64 : ss.length < 64) : CallG prog w H A (.builtin "sorted") [.list (dS ss)] (.list (dS (sortS ss))) := by
  refine ⟨fun X s vs W r Q E h => ?_⟩
  obtain ⟨v, rfl, r1⟩ := one r
  obtain ⟨l, vs, rfl, hx, hp, hl⟩ := r1.inv
  have hn := hl.length
  refine sorted_strs hp.isList (rdl_strs hl) (by rw [hn, dS, List.length_map]; exact h64) fun out ss' a1 a2 a3 => ?_
  obtain ⟨e, he⟩ := sortedAll_at s.heap vs out
  have ek := sortS_eq a2 a3
  subst ek
  refine h _ _ (kMk fun b o q => sortedAll_old q) (.list (vs := out.toList) (fun q => ?_) ⟨e, by rw [Array.toArray_toList]; exact he⟩ ?_)
  · exact absurd (W.bound _ q) (Nat.not_lt.mpr (Nat.le_succ _))
  · generalize sortS ss = ss' at a1 a2 a3 ⊢
    clear he a2 a3
    generalize out.toList = us at a1
    induction a1 with
    | nil => exact .nil
    | cons x t _ ih => exact .cons (.str _ _) ih
end
end Mine
end

noncomputable section
open PySem PySem.W PySem.Calls PyProof.Rows PySem.Spec
namespace Mine
open PySem.SeqAt

theorem slot_map_next : Slot "map" "__next__" "map.__next__" :=
  .of (owner := "map") (n := "__next__") (by rw [typeLookup_type, builtinLookup_eq_fast]; kernel_rfl) (by decide +kernel) (by decide +kernel) (by decide +kernel)
    (by first | exact .inl (by decide +kernel) | exact .inr (by decide +kernel)) (by rw [isSubtype_type]; kernel_rfl)
theorem entry_map_next : entryFor table "map.__next__" = some Builtin.«map.__next__» := entryFor_of_fast (by kernel_rfl)
theorem args_map_next (a : Value) : argsOk "map.__next__" ⟨[a], []⟩ := by unfold argsOk; kernel_rfl
theorem slot_map_iter : Slot "map" "__iter__" "map.__iter__" :=
  .of (owner := "map") (n := "__iter__") (by rw [typeLookup_type, builtinLookup_eq_fast]; kernel_rfl) (by decide +kernel) (by decide +kernel) (by decide +kernel)
    (by first | exact .inl (by decide +kernel) | exact .inr (by decide +kernel)) (by rw [isSubtype_type]; kernel_rfl)
theorem entry_map_iter : entryFor table "map.__iter__" = some Builtin.«dict_keyiterator.__iter__» := entryFor_alias (id' := "dict_keyiterator.__iter__") (by kernel_rfl) rfl (by decide +kernel) (by kernel_rfl)
theorem args_map_iter (a : Value) : argsOk "map.__iter__" ⟨[a], []⟩ := by unfold argsOk; kernel_rfl
theorem slot_filter_next : Slot "filter" "__next__" "filter.__next__" :=
  .of (owner := "filter") (n := "__next__") (by rw [typeLookup_type, builtinLookup_eq_fast]; kernel_rfl) (by decide +kernel) (by decide +kernel) (by decide +kernel)
    (by first | exact .inl (by decide +kernel) | exact .inr (by decide +kernel)) (by rw [isSubtype_type]; kernel_rfl)
theorem entry_filter_next : entryFor table "filter.__next__" = some Builtin.«filter.__next__» := entryFor_of_fast (by kernel_rfl)
theorem args_filter_next (a : Value) : argsOk "filter.__next__" ⟨[a], []⟩ := by unfold argsOk; kernel_rfl
theorem slot_filter_iter : Slot "filter" "__iter__" "filter.__iter__" :=
  .of (owner := "filter") (n := "__iter__") (by rw [typeLookup_type, builtinLookup_eq_fast]; kernel_rfl) (by decide +kernel) (by decide +kernel) (by decide +kernel)
    (by first | exact .inl (by decide +kernel) | exact .inr (by decide +kernel)) (by rw [isSubtype_type]; kernel_rfl)
theorem entry_filter_iter : entryFor table "filter.__iter__" = some Builtin.«dict_keyiterator.__iter__» := entryFor_alias (id' := "dict_keyiterator.__iter__") (by kernel_rfl) rfl (by decide +kernel) (by kernel_rfl)
theorem args_filter_iter (a : Value) : argsOk "filter.__iter__" ⟨[a], []⟩ := by unfold argsOk; kernel_rfl
theorem map_no_len : typeLookup (.type "map") "__len__" = pure none := by rw [typeLookup_type, builtinLookup_eq_fast]; kernel_rfl
theorem map_no_hint : typeLookup (.type "map") "__length_hint__" = pure none := by rw [typeLookup_type, builtinLookup_eq_fast]; kernel_rfl
theorem filter_no_len : typeLookup (.type "filter") "__len__" = pure none := by rw [typeLookup_type, builtinLookup_eq_fast]; kernel_rfl
theorem filter_no_hint : typeLookup (.type "filter") "__length_hint__" = pure none := by rw [typeLookup_type, builtinLookup_eq_fast]; kernel_rfl

section
variable {prog : Program} {w : World} {A : Around} {s : Shared} {E : Value → Shared → Prop}

theorem lit_item {it l : Addr} {i : Nat} {items : Array Value} {x : Value} {Q : Option Value → Shared → Prop} (hit : s.heap.IsListIter it l i) (hl : s.heap.IsList l items) (hx : items[i]? = some x)
    (hQ : ∀ h', h'.IsListIter it l (i + 1) → Heap.SameBut it s.heap h' → Q (some x) { s with heap := h' }) : wpAny (model prog w) A (callSpecial? (.ref it) "__next__") Q E s := by
  obtain ⟨o, ho, hc, hd⟩ := id hit
  obtain ⟨ol, hol, _, nl, hdl⟩ := hl
  refine wpAny_callSpecial?_slot (name := Str.ofString "__next__") hit.typeIs slot_listiter_next (wpAny_call_entry slot_listiter_next hit.typeIs entry_listiter_next ?_ (args_listiter_next _))
  show wpAny _ _ (field (.ref it) 0 >>= _) _ _ s
  refine wpAny_bind (wpAny_field ho hd (x := .ref l) rfl ?_)
  show wpAny _ _ (if (Value.ref l == Value.none) = true then _ else _) _ _ s
  rw [if_neg (show ¬ ((Value.ref l == Value.none) = true) from Bool.false_ne_true)]
  show wpAny _ _ (field (.ref it) 1 >>= _) _ _ s
  refine wpAny_bind (wpAny_field ho hd (x := .int i 0) rfl ?_)
  show wpAny _ _ (seqItems? (.ref l) >>= _) _ _ s
  refine wpAny_bind (wpAny_seqItems hol hdl ?_)
  simp only [Int.toNat_natCast, hx]
  refine wpAny_bind (wpAny_setField ho hd (by simp) (wpAny_pure ⟨x, rfl, hQ _ ?_ (Heap.SameBut.update ..)⟩))
  exact ⟨_, Heap.get?_update_self _ ho (Obj.isFreed_of_fields (Obj.data_mapFields hd _)), (Obj.cls_mapFields ..).trans hc, by
    rw [Obj.data_mapFields hd]; simp [rawInt]⟩
def Stops (s : Shared) (it : Addr) (E : Value → Shared → Prop) : Prop := ∀ h' e o, Heap.ExtBut it s.heap h' → h'.get? e = some o → o.cls = .type "StopIteration" → E (.ref e) { s with heap := h' }
theorem lit_end {it l : Addr} {i : Nat} {items : Array Value} {Q : Option Value → Shared → Prop} (hh : A.handled = none) (hit : s.heap.IsListIter it l i) (hl : s.heap.IsList l items) (hx : items[i]? = none)
    (hE : Stops s it E) : wpAny (model prog w) A (callSpecial? (.ref it) "__next__") Q E s := by
  obtain ⟨o, ho, hc, hd⟩ := id hit
  obtain ⟨ol, hol, _, nl, hdl⟩ := hl
  refine wpAny_callSpecial?_slot (name := Str.ofString "__next__") hit.typeIs slot_listiter_next (wpAny_call_entry slot_listiter_next hit.typeIs entry_listiter_next ?_ (args_listiter_next _))
  show wpAny _ _ (field (.ref it) 0 >>= _) _ _ s
  refine wpAny_bind (wpAny_field ho hd (x := .ref l) rfl ?_)
  show wpAny _ _ (if (Value.ref l == Value.none) = true then _ else _) _ _ s
  rw [if_neg (show ¬ ((Value.ref l == Value.none) = true) from Bool.false_ne_true)]
  show wpAny _ _ (field (.ref it) 1 >>= _) _ _ s
  refine wpAny_bind (wpAny_field ho hd (x := .int i 0) rfl ?_)
  show wpAny _ _ (seqItems? (.ref l) >>= _) _ _ s
  refine wpAny_bind (wpAny_seqItems hol hdl ?_)
  simp only [Int.toNat_natCast, hx]
  refine wpAny_bind (wpAny_rule (wpAny_bind (wpAny_setField ho hd (by simp) ?_)))
  show wpAny _ _ (newExc (.type "StopIteration") [] >>= _) _ _ _
  refine wpAny_bind ?_
  simp only [newExc, newTuple]
  refine wpAny_bind (wpAny_newObj_type ?_ (by size_fits))
  refine wpAny_bind (m := firstArgMember _ _) (wpAny_of_eq (a := Value.none) (by first | rfl | (simp only [firstArgMember]; rfl)) ?_)
  refine wpAny_newObj_type ?_ (by size_fits)
  simp only [raiseNew]
  refine wpAny_bind (wpAny_handled ?_)
  rw [show A.in1.handled = none from hh]
  refine wpAny_bind (wpAny_pure (wpAny_throw ?_))
  exact hE _ _ _ (((Heap.SameBut.update ..).extBut.push _).push _) (Heap.get?_push_size _ rfl) rfl

/-- map(f, list) *)-/
structure MapAt (h : Heap) (M T I l : Addr) (f : Value) (i : Nat) (items : Array Value) : Prop where
  m : h.get? M = some { cls := .type "map", data := .fields #[.ref T, f] }
  t : h.get? T = some { cls := .type "tuple", data := .seq #[.ref I] }
  i : h.IsListIter I l i
  l : h.IsList l items
theorem map_item {M T I l : Addr} {i : Nat} {items : Array Value} {x : Str} {t : Tok} {Q : Option Value → Shared → Prop} (hm : MapAt s.heap M T I l (.type "str") i items) (hx : items[i]? = some (.str x t))
    (hQ : ∀ h', h'.IsListIter I l (i + 1) → Heap.SameBut I s.heap h' → Q (some (.str x t)) { s with heap := h' }) : wpAny (model prog w) A (pyNext (.ref M)) Q E s := by
  unfold pyNext
  refine wpAny_bind (wpAny_attempt (wpAny_callSpecial?_slot (name := Str.ofString "__next__") ⟨_, hm.m, rfl⟩ slot_map_next (wpAny_call_entry slot_map_next ⟨_, hm.m, rfl⟩ entry_map_next ?_ (args_map_next _))))
  show wpAny _ _ (field (.ref M) 0 >>= _) _ _ s
  refine wpAny_bind (wpAny_field hm.m rfl (x := .ref T) rfl ?_)
  show wpAny _ _ (seqItems? (.ref T) >>= _) _ _ s
  refine wpAny_bind (wpAny_seqItems hm.t rfl ?_)
  dsimp only
  simp only [List.forIn_toArray, List.forIn_cons, List.forIn_nil, bind_assoc, pure_bind]
  refine wpAny_bind (wpAny_holding ?_)
  unfold Builtin.SmallTypes.nextOf
  refine wpAny_bind (lit_item hm.i hm.l hx fun h' hi hs => ?_)
  refine wpAny_pure ?_
  have hM : h'.get? M = some { cls := .type "map", data := .fields #[.ref T, .type "str"] } := hs.extBut M _ (fun q => ?_) hm.m
  refine wpAny_bind (wpAny_field hM rfl (x := .type "str") rfl ?_)
  refine wpAny_bind (wpAny_holding (PySem.P.str_of_str ?_))
  refine wpAny_bind (wpAny_letGo (wpAny_pure ⟨_, rfl, wpAny_pure (hQ h' hi hs)⟩))
  subst q
  obtain ⟨o, ho, hc, _⟩ := hm.i
  rw [hm.m] at ho; cases ho
  simp at hc
theorem map_end {M T I l : Addr} {f : Value} {i : Nat} {items : Array Value} {Q : Option Value → Shared → Prop} (hh : A.handled = none) (hm : MapAt s.heap M T I l f i items) (hx : items[i]? = none)
    (hQ : ∀ h', Heap.ExtBut I s.heap h' → Q none { s with heap := h' }) : wpAny (model prog w) A (pyNext (.ref M)) Q E s := by
  unfold pyNext
  refine wpAny_bind (wpAny_attempt (wpAny_callSpecial?_slot (name := Str.ofString "__next__") ⟨_, hm.m, rfl⟩ slot_map_next (wpAny_call_entry slot_map_next ⟨_, hm.m, rfl⟩ entry_map_next ?_ (args_map_next _))))
  show wpAny _ _ (field (.ref M) 0 >>= _) _ _ s
  refine wpAny_bind (wpAny_field hm.m rfl (x := .ref T) rfl ?_)
  show wpAny _ _ (seqItems? (.ref T) >>= _) _ _ s
  refine wpAny_bind (wpAny_seqItems hm.t rfl ?_)
  dsimp only
  simp only [List.forIn_toArray, List.forIn_cons, List.forIn_nil, bind_assoc, pure_bind]
  refine wpAny_bind (wpAny_holding ?_)
  unfold Builtin.SmallTypes.nextOf
  refine wpAny_bind (lit_end (by exact hh) hm.i hm.l hx fun h' e o he ho hc => ?_)
  refine wpAny_bind (wpAny_isInstance (T := "StopIteration") (b := true) ⟨_, ho, hc⟩ isSubtype_stop ?_)
  exact wpAny_pure (hQ h' he)

def gEq (a b : Array GenState) : Prop := a = b
theorem moved_of {wr : List Addr} {h' : Heap} {tk : Nat} (k : ∀ b o, b ∉ wr → s.heap.get? b = some o → h'.get? b = some o) (ht : s.toks ≤ tk) : Moved wr gEq s { s with heap := h', toks := tk } := ⟨k, rfl, rfl, rfl, ht⟩
theorem map_walks {M T I l : Addr} {vs : List Value} (hh : A.handled = none) (hv : ∀ v ∈ vs, ∃ x t, v = .str x t) (hI : I ≠ M ∧ I ≠ T ∧ I ≠ l) :
    WalksS prog w A M [M, T, I, l] [I] gEq vs.length (fun i v => vs[i]? = some v) (fun i s => MapAt s.heap M T I l (.type "str") i vs.toArray) where
  sub := fun b hb => by simp at hb; subst hb; simp
  grefl := fun _ => rfl
  gtrans := fun _ _ _ h1 h2 => h1.trans h2
  frame := fun i s h' tk st _ k => by
    obtain ⟨m, t, ⟨o, io, ic⟩, ⟨o', lo, lc⟩⟩ := st
    exact ⟨k M (by simp) _ m, k T (by simp) _ t, ⟨o, k I (by simp) _ io, ic⟩, ⟨o', k l (by simp) _ lo, lc⟩⟩
  item := fun i s Q E hi st hQ => by
    obtain ⟨x, t, e⟩ := hv vs[i] (List.getElem_mem hi)
    have e' : vs[i]? = some (.str x t) := by rw [List.getElem?_eq_getElem hi, e]
    refine map_item st (x := x) (t := t) (by simpa using e') fun h' hit hs => ?_
    refine hQ _ _ e' ⟨hs.extBut M _ hI.1.symm st.m, hs.extBut T _ hI.2.1.symm st.t, hit, ?_⟩ (moved_of (fun b o hb e => hs.extBut b o (by simpa using hb) e) (Nat.le_refl _))
    obtain ⟨o', lo, lc⟩ := st.l
    exact ⟨o', hs.extBut l _ hI.2.2.symm lo, lc⟩
  done := fun s Q E st hQ => map_end hh st (by simp) fun h' he => hQ _ (moved_of (fun b o hb e => he b o (by simpa using hb) e) (Nat.le_refl _))
  self := fun i s Q E st hQ => by
    refine wpAny_pyIter_slot (T := "map") ⟨_, st.m, rfl⟩ slot_map_iter (wpAny_call_entry slot_map_iter ⟨_, st.m, rfl⟩ entry_map_iter ?_ (args_map_iter _))
    show wpAny _ _ (ret (.ref M)) _ _ s
    exact wpAny_pure ⟨_, rfl, "map", _, ⟨_, st.m, rfl⟩, slot_map_next.lookup, hQ⟩
end
end Mine
end

noncomputable section
open PySem PySem.W PySem.Calls PyProof.Rows PySem.Spec
namespace Mine
open PySem.SeqAt

theorem slot_map_init : Slot "map" "__init__" "object.__init__" :=
  .of (owner := "object") (n := "__init__") (by rw [typeLookup_type, builtinLookup_eq_fast]; kernel_rfl) (by decide +kernel) (by decide +kernel) (by decide +kernel)
    (by first | exact .inl (by decide +kernel) | exact .inr (by decide +kernel)) (by rw [isSubtype_type]; kernel_rfl)
theorem slot_filter_init : Slot "filter" "__init__" "object.__init__" :=
  .of (owner := "object") (n := "__init__") (by rw [typeLookup_type, builtinLookup_eq_fast]; kernel_rfl) (by decide +kernel) (by decide +kernel) (by decide +kernel)
    (by first | exact .inl (by decide +kernel) | exact .inr (by decide +kernel)) (by rw [isSubtype_type]; kernel_rfl)
theorem mro_map : mroOf (.type "map") = pure [.type "map", .type "object"] := by rw [mroOf_type]; kernel_rfl
theorem mro_filter : mroOf (.type "filter") = pure [.type "filter", .type "object"] := by rw [mroOf_type]; kernel_rfl
theorem lookup_map_new : typeLookup (.type "map") "__new__" = pure (some (.builtin "map.__new__")) := by rw [typeLookup_type, builtinLookup_eq_fast]; kernel_rfl
theorem lookup_filter_new : typeLookup (.type "filter") "__new__" = pure (some (.builtin "filter.__new__")) := by rw [typeLookup_type, builtinLookup_eq_fast]; kernel_rfl
theorem called_map : TypeCalled "map" "map.__new__" "object.__init__" :=
  ⟨by decide +kernel, by decide +kernel, ⟨_, _, mro_map⟩, madeBy_type mro_map lookup_map_new (by decide +kernel), by decide +kernel, by rw [isSubtype_type]; kernel_rfl, slot_map_init⟩
theorem called_filter : TypeCalled "filter" "filter.__new__" "object.__init__" :=
  ⟨by decide +kernel, by decide +kernel, ⟨_, _, mro_filter⟩, madeBy_type mro_filter lookup_filter_new (by decide +kernel), by decide +kernel, by rw [isSubtype_type]; kernel_rfl, slot_filter_init⟩
theorem typeCall_map_2 (a b : Value) : checkTypeCall "map" ⟨[a, b], []⟩ = pure () := by kernel_rfl
theorem typeCall_filter_2 (a b : Value) : checkTypeCall "filter" ⟨[a, b], []⟩ = pure () := by kernel_rfl
theorem newCall_map_2 (a b : Value) : checkBuiltinCall "map.__new__" ⟨[.type "map", a, b], []⟩ = pure () := by kernel_rfl
theorem newCall_filter_2 (a b : Value) : checkBuiltinCall "filter.__new__" ⟨[.type "filter", a, b], []⟩ = pure () := by kernel_rfl
theorem entry_map_new : entryFor table "map.__new__" = some Builtin.«map.__new__» := entryFor_of_tree (by kernel_rfl)
theorem entry_filter_new : entryFor table "filter.__new__" = some Builtin.«filter.__new__» := entryFor_of_tree (by kernel_rfl)
theorem sub_map : isSubtype (.type "map") (.type "map") = pure true := by rw [isSubtype_type]; kernel_rfl
theorem sub_filter : isSubtype (.type "filter") (.type "filter") = pure true := by rw [isSubtype_type]; kernel_rfl

abbrev mapH1 (h : Heap) (l : Addr) : Heap := h.push { cls := .type "list_iterator", data := .fields #[.ref l, .int 0 0] }
abbrev mapH2 (h : Heap) (l : Addr) : Heap := (mapH1 h l).push { cls := .type "tuple", data := .seq #[.ref h.objs.size] }
abbrev mapH3 (h : Heap) (l : Addr) (f : Value) : Heap := (mapH2 h l).push { cls := .type "map", data := .fields #[.ref (mapH1 h l).objs.size, f] }
abbrev filH2 (h : Heap) (l : Addr) (f : Value) : Heap := (mapH1 h l).push { cls := .type "filter", data := .fields #[f, .ref h.objs.size] }
theorem meets_map_new (l : Addr) (xs : Array Value) (f : Value) :
    Meets (Builtin.«map.__new__» ⟨[.type "map", f, .ref l], []⟩) (fun _ R s => s.heap.IsList l xs ∧ R (.ok (.ret (.ref (mapH2 s.heap l).objs.size))) { s with heap := mapH3 s.heap l f }) :=
  .of_wp fun prog w A R s h => by
    obtain ⟨hp, g, d, tk, os⟩ := s; obtain ⟨hl, h⟩ := h
    have hsub := sub_map
    have hL : Heap.IsList (Shared.heap ⟨hp, g, d, tk, os⟩) l xs := hl
    wp_walk using wpAny_pyIter_list hL
    exact ⟨_, rfl, h⟩
theorem meets_filter_new (l : Addr) (xs : Array Value) (f : Value) :
    Meets (Builtin.«filter.__new__» ⟨[.type "filter", f, .ref l], []⟩) (fun _ R s => s.heap.IsList l xs ∧ R (.ok (.ret (.ref (mapH1 s.heap l).objs.size))) { s with heap := filH2 s.heap l f }) :=
  .of_wp fun prog w A R s h => by
    obtain ⟨hp, g, d, tk, os⟩ := s; obtain ⟨hl, h⟩ := h
    have hsub := sub_filter
    have hL : Heap.IsList (Shared.heap ⟨hp, g, d, tk, os⟩) l xs := hl
    wp_walk using wpAny_pyIter_list hL
    exact ⟨_, rfl, h⟩

section
variable {prog : Program} {w : World} {A : Around} {E : Value → Shared → Prop} {s : Shared}
theorem call_map {l : Addr} {xs : Array Value} {f : Value} {Q : Value → Shared → Prop} (hl : s.heap.IsList l xs)
    (h : ∀ h', MapAt h' (s.heap.objs.size + 2) (s.heap.objs.size + 1) s.heap.objs.size l f 0 xs → (∀ c o, s.heap.get? c = some o → h'.get? c = some o) → Q (.ref (s.heap.objs.size + 2)) { s with heap := h' }) :
    wpAny (model prog w) A (call (.type "map") [f, .ref l]) Q E s := by
  refine callType_new called_map (by decide) (typeCall_map_2 _ _) (newCall_map_2 _ _) (fun obj => F.args_object_init_3 obj _ _) entry_map_new (meets_map_new l xs f) ⟨hl, ?_⟩
  have z1 : (mapH1 s.heap l).objs.size = s.heap.objs.size + 1 := Heap.size_push ..
  have z2 : (mapH2 s.heap l).objs.size = s.heap.objs.size + 2 := by rw [Heap.size_push, z1]
  have g3 : (mapH3 s.heap l f).get? (mapH2 s.heap l).objs.size = some _ := Heap.get?_push_size _ rfl
  have g2 : (mapH3 s.heap l f).get? (mapH1 s.heap l).objs.size = some _ := Heap.get?_push_of_some _ (Heap.get?_push_size _ rfl)
  have g1 : (mapH3 s.heap l f).get? s.heap.objs.size = some _ := Heap.get?_push_of_some _ (Heap.get?_push_of_some _ (Heap.get?_push_size _ rfl))
  show _ ∧ _
  rw [z1, z2] at g3
  rw [z1] at g2
  rw [z2]
  exact ⟨⟨_, g3, rfl⟩, h _ ⟨g3, g2, ⟨_, g1, rfl, rfl⟩, ((hl.push _).push _).push _⟩ fun c o x => Heap.get?_push_of_some _ (Heap.get?_push_of_some _ (Heap.get?_push_of_some _ x))⟩
/-- filter(f, list) -/
structure FilAt (h : Heap) (M I l : Addr) (f : Value) (i : Nat) (items : Array Value) : Prop where
  m : h.get? M = some { cls := .type "filter", data := .fields #[f, .ref I] }
  i : h.IsListIter I l i
  l : h.IsList l items
theorem call_filter {l : Addr} {xs : Array Value} {f : Value} {Q : Value → Shared → Prop} (hl : s.heap.IsList l xs)
    (h : ∀ h', FilAt h' (s.heap.objs.size + 1) s.heap.objs.size l f 0 xs → (∀ c o, s.heap.get? c = some o → h'.get? c = some o) → Q (.ref (s.heap.objs.size + 1)) { s with heap := h' }) :
    wpAny (model prog w) A (call (.type "filter") [f, .ref l]) Q E s := by
  refine callType_new called_filter (by decide) (typeCall_filter_2 _ _) (newCall_filter_2 _ _) (fun obj => F.args_object_init_3 obj _ _) entry_filter_new (meets_filter_new l xs f) ⟨hl, ?_⟩
  have z1 : (mapH1 s.heap l).objs.size = s.heap.objs.size + 1 := Heap.size_push ..
  have g3 : (filH2 s.heap l f).get? (mapH1 s.heap l).objs.size = some _ := Heap.get?_push_size _ rfl
  have g1 : (filH2 s.heap l f).get? s.heap.objs.size = some _ := Heap.get?_push_of_some _ (Heap.get?_push_size _ rfl)
  show _ ∧ _
  rw [z1] at g3
  rw [z1]
  exact ⟨⟨_, g3, rfl⟩, h _ ⟨g3, ⟨_, g1, rfl, rfl⟩, (hl.push _).push _⟩ fun c o x => Heap.get?_push_of_some _ (Heap.get?_push_of_some _ x)⟩
end

section
variable {prog : Program} {w : World} {A : Around} {s : Shared} {R : Result → Shared → Prop}
variable {I : Addr} {fp wr : List Addr} {G : Array GenState → Array GenState → Prop} {n : Nat} {P : Nat → Value → Prop} {St : Nat → Shared → Prop}
/-- a list takes what an iterator without a length gives -/
theorem extend_any {T : String} (W : WalksS prog w A.in1 I fp wr G n P St) (hT : ∀ i s, St i s → s.TypeIs (.ref I) T) (no_len : typeLookup (.type T) "__len__" = pure none) (no_hint : typeLookup (.type T) "__length_hint__" = pure none)
    (hTl : (Value.type T == Value.type "list") = false) (hTt : (Value.type T == Value.type "tuple") = false) (S : Addr) (res : Value) (i₀ : Nat) (acc₀ : Array Value) (c₀ : Nat) (hi : i₀ ≤ n) (hst : St i₀ s) (hSf : S ∉ fp) (hI : I ∈ fp) (hacc : ItemsOf P acc₀ i₀)
    (hS : s.heap.get? S = some { cls := .type "list", data := .seq acc₀ c₀ })
    (hR : ∀ s' acc' c', Moved (S :: wr) G s s' → s'.heap.get? S = some { cls := .type "list", dict := none, data := .seq acc' c', slots := #[] } → ItemsOf P acc' n → R (.ok (.ret res)) s') (hn : n ≤ 100000) :
    wpAny (model prog w) A.in1 (Builtin.List.listExtendWith (.ref S) (.ref I) res)
      (fun fin s' => match fin with | .done f => R (.ok f) s' | .again c' => c'.quiet = true ∧ codeAny (model prog w) A c' R s') (fun e s' => R (.error e) s') s := by
  have hSI : S ≠ I := fun e => hSf (e ▸ hI)
  have hn' : n + 1 ≤ sizeLine := Nat.le_trans (Nat.succ_le_succ hn) (by decide)
  have hsz := hacc.1
  unfold Builtin.List.listExtendWith
  refine wpAny_bind (wpAny_typeOf (hT i₀ _ hst) ?_)
  have h1 : Builtin.List.listSameRef (.ref S) (.ref I) = false := by simp [Builtin.List.listSameRef, hSI]
  simp only [h1, hTl, hTt, Bool.or_false, Bool.false_eq_true, if_false]
  refine wpAny_bind (W.self i₀ _ _ _ hst ?_)
  refine wpAny_bind (wpAny_holding ?_)
  unfold Builtin.List.listLengthHint
  refine wpAny_bind (wpAny_specialOf (hT i₀ _ hst) no_len ?_)
  show wpAny _ A.in1 (specialOf (Value.ref I) (Str.ofString "__length_hint__") >>= _) _ _ _
  refine wpAny_bind (wpAny_specialOf (hT i₀ _ hst) no_hint ?_)
  refine wpAny_pure ?_
  show wpAny _ A.in1 (rule "list.extend.makes-room" >>= fun _ => Builtin.List.listTouch (.ref S) >>= fun _ =>
    again (.builtin "list.extend.loop" ⟨[.ref S, .ref I, res], []⟩)) _ _ _
  refine wpAny_bind (wpAny_rule ?_)
  refine wpAny_bind ?_
  show wpAny _ A.in1 (updateSeq S (·.push .none) >>= fun _ => updateSeq S (·.pop)) _ _ _
  refine wpAny_bind (wpAny_updateSeq (hz := by rw [hsz]; omega) (_hz' := by show (acc₀.push Value.none).size ≤ sizeLine + 1; rw [Array.size_push, hsz]; omega) hS rfl ?_)
  have hS₂ := Heap.get?_update_self (Obj.mapSeq (·.push Value.none)) hS rfl
  refine wpAny_updateSeq (hz := by show (acc₀.push Value.none).size ≤ sizeLine; rw [Array.size_push, hsz]; omega) (_hz' := by show (acc₀.push Value.none).pop.size ≤ sizeLine + 1; rw [Array.size_pop, Array.size_push, hsz]; omega) hS₂ rfl ?_
  have hS₃ := IsL.update (x := IsL.update (x := hS) (·.push Value.none)) (·.pop)
  rw [show (acc₀.push Value.none).pop = acc₀ by simp] at hS₃
  have oth : ∀ b o, b ≠ S → s.heap.get? b = some o → ((s.heap.update S (Obj.mapSeq (·.push Value.none))).update S (Obj.mapSeq (·.pop))).get? b = some o :=
    fun b o hb e => (Heap.get?_update_other _ _ (Ne.symm hb)).trans ((Heap.get?_update_other _ _ (Ne.symm hb)).trans e)
  refine wpAny_pure ⟨plainId_quiet F.plain_extend_loop _, codeAny_extend_loopS W (by omega) _ hSf _ (n - i₀) i₀ _ acc₀ _ rfl hi
    (W.frame i₀ s _ s.toks hst (Nat.le_refl _) fun b hb o e => oth b o (fun h => hSf (h ▸ hb)) e) hS₃ hacc fun s' acc' c' hm hS' hacc => ?_⟩
  exact hR s' acc' c' (Moved.trans W.gtrans ((Moved.refl W.grefl).then_heap (Nat.le_refl _) fun b o hb e => oth b o (fun h => hb (h ▸ List.mem_cons_self)) e) hm) hS' hacc
end
end Mine
end

noncomputable section
open PySem PySem.W PySem.Calls PyProof.Rows PySem.Spec
namespace Mine
open PySem.SeqAt

section
variable {prog : Program} {w : World} {H : Heap} {A : Around} {X₀ X X' Z : AS} {s₀ s s' : Shared} {env : Env} {ρ ρ' ρf : Rho} {μ μ' : Mu} {E : Value → Shared → Prop} {K : Frag} {mg mb : Str → Option Value}

/-- the text of a field -/
structure FmtG (prog : Program) (w : World) (A : Around) (d : D) (x : Str) : Prop where
  run : ∀ X (s : Shared) v, Rd X s.heap v d → ∀ (Q : Value → Shared → Prop) (E : Value → Shared → Prop), (∀ t s', Keeps s s' → Q (.str x t) s') → wpAny (model prog w) A (formatField v Str.empty) Q E s
theorem fmt_str {x : Str} (hx : x.length ≤ 1000) : FmtG prog w A (.str x) x := ⟨fun X s v r Q E h => by
  obtain ⟨t, rfl⟩ := r.inv; exact wpAny_formatField_str (h _ _ kRfl) (h _ _ (kTok _ _)) (Nat.le_trans hx (by decide))⟩
theorem fmt_int {i : Int} (hi : i.natAbs.log2 < 1920) : FmtG prog w A (.int i) (Str.ofString (toString i)) := ⟨fun X s v r Q E h => by
  obtain ⟨t, rfl⟩ := r.inv; exact wpAny_formatField_int hi (h _ _ (kTok _ _))⟩
theorem Ev.fstr {a : Str} {k : Nat} {p p2 pos : Pos} {e : PySem.Expr} {d : D} {x : Str} (he : Ev prog w H A env ρ e d) (hf : FmtG prog w A d x) (hz : a.length + x.length ≤ 1000) :
    Ev prog w H A env ρ (.JoinedStr [.Constant (.str a) k p, .FormattedValue e (-1) none p2] pos) (.str (a ++ x)) := by
  refine ⟨fun X s F Q E h => ?_⟩
  have hz' : (1000 : Nat) ≤ sizeLine := by decide
  have e0 : Str.empty ++ a = a := by
    show (⟨#[] ++ a.cps⟩ : Str) = a
    rw [Array.empty_append]
  refine JoinedStr_many (joinParts_cons (Ev.run Ev.strC X s F _ _ fun v s₁ k₁ r₁ => ?_))
  obtain ⟨_, rfl⟩ := r₁.inv
  dsimp only
  rw [e0]
  refine ⟨by omega, joinParts_cons (wpAny_FormattedValue_plain (he.run X s₁ (F.keeps k₁) _ _ fun v s₂ k₂ r₂ => hf.run X s₂ v r₂ _ _ fun t s₃ k₃ => ?_))⟩
  have hl : (a ++ x).length ≤ sizeLine := by
    have : (a ++ x).length = a.length + x.length := by
      show (a.cps ++ x.cps).size = _
      rw [Array.size_append]; rfl
    omega
  exact ⟨hl, joinParts_nil (h _ _ (kTrans (kTrans (kTrans k₁ k₂) k₃) (kTok _ _)) (.str _ _)) hl⟩

theorem itemsOf_nil_shift {vs ws : List Value} : ItemsOf (fun i v => (vs ++ ws)[i]? = some v) vs.toArray vs.length := ⟨by simp, fun j v h => by
  have hj : j < vs.length := by
    have := (Array.getElem?_eq_some_iff.mp h).1
    simpa using this
  show (vs ++ ws)[j]? = some v
  rw [List.getElem?_append_left hj]
  simpa using h⟩
theorem itemsOf_eq {us : List Value} {acc : Array Value} (h : ItemsOf (fun i v => us[i]? = some v) acc us.length) : acc = us.toArray := by
  apply Array.toList_inj.mp
  apply List.ext_getElem?
  intro i
  by_cases hi : i < acc.size
  · have e : acc.toList[i]? = some acc[i] := by simp [hi]
    rw [e, h.2 i acc[i] (by simp [hi])]
  · rw [List.getElem?_eq_none (by simpa using hi), List.getElem?_eq_none (by have := h.1; simp; omega)]

theorem rd_isStr {h : Heap} {v : Value} {y : Str} (r : Rd X h v (.str y)) : ∃ t, v = .str y t := by obtain ⟨t, rfl⟩ := r.inv; exact ⟨t, rfl⟩
theorem walks_shift {I : Addr} {fp wr : List Addr} {G : Array GenState → Array GenState → Prop} {n : Nat} {P P' : Nat → Value → Prop} {St : Nat → Shared → Prop} (base : Nat) (W : WalksS prog w A I fp wr G n P St) (hP : ∀ i v, P i v → P' (base + i) v) :
    WalksS prog w A I fp wr G (base + n) P' (fun i s => base ≤ i ∧ St (i - base) s) where
  sub := W.sub
  grefl := W.grefl
  gtrans := W.gtrans
  frame := fun i s h' tk st ht k => ⟨st.1, W.frame _ s h' tk st.2 ht k⟩
  item := fun i s Q E hi st hQ => W.item (i - base) s Q E (by omega) st.2 fun v s' hp st' m => hQ v s' (by have := hP _ _ hp; rwa [show base + (i - base) = i by omega] at this) ⟨by omega, by rw [show i + 1 - base = i - base + 1 by omega]; exact st'⟩ m
  done := fun s Q E st hQ => W.done s Q E (by have := st.2; rwa [Nat.add_sub_cancel_left] at this) hQ
  self := fun i s Q E st hQ => W.self _ s Q E st.2 hQ

theorem call_extend_any {I : Addr} {fp wr : List Addr} {G : Array GenState → Array GenState → Prop} {n : Nat} {P : Nat → Value → Prop} {St : Nat → Shared → Prop} {T : String} (W : WalksS prog w A.in1 I fp wr G n P St) (hT : ∀ i s, St i s → s.TypeIs (.ref I) T)
    (no_len : typeLookup (.type T) "__len__" = pure none) (no_hint : typeLookup (.type T) "__length_hint__" = pure none) (hTl : (Value.type T == Value.type "list") = false) (hTt : (Value.type T == Value.type "tuple") = false) (S : Addr) (i₀ : Nat) (acc₀ : Array Value) (c₀ : Nat)
    (hi : i₀ ≤ n) (hst : St i₀ s) (hSf : S ∉ fp) (hI : I ∈ fp) (hacc : ItemsOf P acc₀ i₀) (hS : s.heap.get? S = some { cls := .type "list", data := .seq acc₀ c₀ }) {Q : Value → Shared → Prop}
    (hR : ∀ s' acc' c', Moved (S :: wr) G s s' → s'.heap.get? S = some { cls := .type "list", dict := none, data := .seq acc' c', slots := #[] } → ItemsOf P acc' n → Q .none s') (hn : n ≤ 100000) :
    wpAny (model prog w) A (call (.builtin "list.extend") [.ref S, .ref I]) Q E s :=
  wpAny_call (codeAny_call_builtin PySem.F.slot_list_extend.plain PySem.F.entry_list_extend (PySem.F.slot_list_extend.check _ _ _ _ _ _ _ _ ⟨_, hS, rfl⟩ (PySem.F.args_list_extend_2 _ _)
    (extend_any (R := fun r s' => match r with | .ok (.ret v) => Q v s' | .ok _ => False | .error e => E e s') W hT no_len no_hint hTl hTt S .none i₀ acc₀ c₀ hi hst hSf hI hacc hS (fun s' acc' c' m h1 h2 => hR s' acc' c' m h1 h2) hn)))

/-- ls.extend(map(str, e)) -/
theorem MS.extendMap (W : WF K H mg mb) (hA : A.handled = none) {x : Str} {px apos pos mp sp cpos spos : Pos} {e : PySem.Expr} {pl : Sem Bool} {l : Addr} {ds : List D} {rs : List Str} (M : MS H X₀ s₀ Z env ρ μ X s)
    (he : MethForm (.Name x px) "extend" apos pos [.Call (.Name "map" mp) [.Name "str" sp, e] [] cpos] env pl) (hx : ρ.lookup x = some (.val (.ref l))) (hd : (x == ("__debug__" : Str)) = false) (hp : Put l (.list ds) (.list (ds ++ dS rs)) μ μ')
    (hm : Ev prog w H A env ρ (.Name "map" mp) (.val (.type "map"))) (hst : Ev prog w H A env ρ (.Name "str" sp) (.val (.type "str"))) (ha : Ev prog w H A env ρ e (.list (dS rs))) (hn : noStar [e] = true) (hz : ds.length + rs.length ≤ 10000)
    (hi : interactive env = false) (hs : swapsWith (.Call (.Attribute (.Name x px) "extend" apos) [.Call (.Name "map" mp) [.Name "str" sp, e] [] cpos] [] pos) none spos.line env = pure false) {Q : Flow → Shared → Prop}
    (h : ∀ s', MS H X₀ s₀ Z env ρ μ' X s' → Q .next s') :
    wpAny (model prog w) A (exec (.Expr (.Call (.Attribute (.Name x px) "extend" apos) [.Call (.Name "map" mp) [.Name "str" sp, e] [] cpos] [] pos) spos) env) Q E s := by
  have hno : noStar [.Name "str" sp, e] = true := by
    cases e <;> first | rfl | exact hn
  refine wpAny_Expr (MethodCall_ (pl := pl) ((Ev.name (prog := prog) (w := w) (A := A) hx hd).run X s M.F _ _ fun v s₁ k₁ r₁ => ?_) he) hi hs
  obtain rfl := r₁.inv
  have M₁ := M.keeps k₁
  have hm1 := M₁.mu l _ hp.mem
  cases hm1 with | @list vs _ hpl hl' =>
  obtain ⟨n, el⟩ := hpl
  refine getMethod_builtin (T := "list") ⟨_, el, rfl⟩ PySem.F.plainAttrs_list PySem.F.slot_list_extend PySem.F.type_list_extend (fun a q => by cases q; exact ⟨_, el, rfl⟩) ?_
  rw [star_trees env pos _ rfl]
  refine callWith_builtin (trees_plain env _) (evalArgs_trees (spliced_cons ?_))
  rw [nameCall (x := "map") (p := mp) [.Name "str" sp, e] cpos env]
  refine wpAny_bind (hm.run X s₁ M₁.F _ _ fun fv s₂ k₂ r₂ => ?_)
  obtain rfl := r₂.inv
  rw [star_trees env cpos _ hno]
  refine PySem.callWith_type (trees_plain env _) (evalArgs_trees ?_)
  refine EvL.run (.cons hst (.cons ha .nil)) X s₂ (M₁.keeps k₂).F _ _ fun us s₃ k₃ r₃ => ?_
  obtain ⟨u, v, rfl, ru, rv⟩ := two r₃
  obtain rfl := ru.inv
  obtain ⟨b, ws, rfl, hxb, hpb, hlb⟩ := rv.inv
  have k13 := kTrans k₂ k₃
  have M₃ := M₁.keeps k13
  have hls := hlb.length
  refine call_map hpb.isList fun h' hmap hk => spliced_nil ?_
  generalize hM : s₃.heap.objs.size + 2 = Mo at hmap
  generalize hT : s₃.heap.objs.size + 1 = To at hmap
  generalize hI : s₃.heap.objs.size = Io at hmap
  have el3 : s₃.heap.get? l = _ := kKeep k13 _ _ el
  have el' := hk _ _ el3
  have ll := Heap.lt_size el3
  obtain ⟨nb, eb⟩ := hpb
  have lb := Heap.lt_size eb
  have hv : ∀ v ∈ ws, ∃ x t, v = .str x t := fun v hv => by
    obtain ⟨i, hi, rfl⟩ := List.getElem_of_mem hv
    obtain ⟨d, hd, rd⟩ := hlb.get' (List.getElem?_eq_getElem hi)
    rw [dS, List.getElem?_map] at hd
    cases hq : rs[i]? with
    | none => rw [hq] at hd; cases hd
    | some y => rw [hq] at hd; cases hd; obtain ⟨t, e⟩ := rd_isStr rd; exact ⟨y, t, e⟩
  have n1 : Io ≠ Mo := fun q => by rw [← hI, ← hM] at q; exact absurd q (Nat.ne_of_lt (Nat.lt_add_of_pos_right (by decide)))
  have n2 : Io ≠ To := fun q => by rw [← hI, ← hT] at q; exact absurd q (Nat.ne_of_lt (Nat.lt_succ_self _))
  have n3 : Io ≠ b := fun q => by rw [← hI] at q; exact absurd lb (by rw [← q]; exact Nat.lt_irrefl _)
  have W0 := map_walks (prog := prog) (w := w) (A := A.in1) (M := Mo) (T := To) (I := Io) (l := b) (vs := ws) hA hv ⟨n1, n2, n3⟩
  have n4 : l ≠ Io := fun q => by rw [← hI] at q; exact absurd ll (by rw [q]; exact Nat.lt_irrefl _)
  have n5 : l ≠ To := fun q => by rw [← hT] at q; exact absurd ll (by rw [q]; exact Nat.not_lt.mpr (Nat.le_succ _))
  have n6 : l ≠ Mo := fun q => by rw [← hM] at q; exact absurd ll (by rw [q]; exact Nat.not_lt.mpr (Nat.le_add_right _ _))
  have n7 : l ≠ b := fun q => by
    subst q
    exact hxb (M₃.mx l (mem_flat hp.mem (List.mem_singleton.mpr rfl))).1
  have Ws := walks_shift (P' := fun i v => (vs ++ ws)[i]? = some v) vs.length W0 fun i v q => by
    show (vs ++ ws)[vs.length + i]? = some v
    rw [List.getElem?_append_right (Nat.le_add_right _ _), Nat.add_sub_cancel_left]; exact q
  have hlv := hl'.length
  refine call_extend_any (s := { s₃ with heap := h' }) (T := "map") Ws (fun i s st => ⟨_, st.2.m, rfl⟩) map_no_len map_no_hint (by decide) (by decide) l vs.length vs.toArray n (Nat.le_add_right _ _) ⟨Nat.le_refl _, by rw [Nat.sub_self]; exact hmap⟩ (by simp [n4, n5, n6, n7]) (by simp) itemsOf_nil_shift el' (fun s' acc c mv hS hacc => ?_) (by rw [dS, List.length_map] at hls; omega)
  have hacc' := itemsOf_eq (us := vs ++ ws) (by rw [List.length_append]; exact hacc)
  subst hacc'
  refine h s' (M₃.put hp rfl (List.mem_singleton.mpr rfl) (fun b o hb e => mv.heap b o ?_ (hk b o e)) ?_ fun kr krl => .list (vs := vs ++ ws) ⟨c, hS⟩ ((krl _ _ (hl'.keeps k13)).append (krl _ _ hlb)))
  · intro q
    rcases List.mem_cons.mp q with q | q
    · exact hb q
    · rw [List.mem_singleton] at q
      subst q
      rw [← hI] at e
      exact absurd (Heap.lt_size e) (Nat.lt_irrefl _)
  · obtain ⟨_, e1, e2, e3, _⟩ := mv
    obtain ⟨hh, gg, dd, tt, oo⟩ := s'
    exact ⟨hh, tt, by cases e1; cases e2; cases e3; rfl⟩
end
end Mine
end

noncomputable section
open PySem PySem.W PySem.Calls PyProof.Rows PySem.Spec
namespace Mine
open PySem.SeqAt

def Wk (ρ' ρ : Rho) : Prop := ∀ x d, ρ'.lookup x = some d → ρ.lookup x = some d
theorem Wk.nil {ρ : Rho} : Wk [] ρ := fun _ _ e => nomatch e
theorem Wk.cons {x : Str} {d : D} {ρ' ρ : Rho} (h : ρ.lookup x = some d) (t : Wk ρ' ρ) : Wk ((x, d) :: ρ') ρ := fun y e q => by
  rw [lookup_cons_eq] at q
  by_cases z : y = x
  · rw [if_pos z] at q; cases q; rw [z]; exact h
  · rw [if_neg z] at q; exact t y e q

section
variable {prog : Program} {w : World} {H : Heap} {A : Around} {X₀ X X' Z : AS} {s₀ s s' : Shared} {env : Env} {ρ ρ' ρf : Rho} {μ μ' : Mu} {E : Value → Shared → Prop} {K : Frag} {mg mb : Str → Option Value}

theorem op_isT {a b : String} : OpG prog w H A (compareOp .Is) (.val (.type a)) (.val (.type b)) (.bool (Value.type a == Value.type b)) := by
  refine ⟨fun _ s _ _ _ r1 r2 _ _ h => ?_⟩
  obtain rfl := r1.inv; cases r2
  exact wpAny_is_plain rfl (h _ _ kRfl (.bool _))
def D.ty : D → String
  | .none => "NoneType"
  | .bool _ => "bool"
  | .int _ => "int"
  | .str _ => "str"
  | .bytes _ => "bytes"
  | .list _ => "list"
  | .tuple _ => "tuple"
  | _ => ""
theorem c_type {d : D} {T : String} (ht : d.ty = T) (hd : T ≠ "") (hb : (Value.type T == Value.type "builtin_function_or_method") = false) : CallG prog w H A (.type "type") [d] (.val (.type T)) := by
  subst ht
  refine ⟨fun X s vs W r Q E h => ?_⟩
  obtain ⟨v, rfl, r1⟩ := one r
  have hT : s.TypeIs v d.ty := by
    cases r1 with
    | none => rfl
    | bool => rfl
    | int => rfl
    | str => rfl
    | bytes => rfl
    | list hx hp => obtain ⟨n, e⟩ := hp; exact ⟨_, e, rfl⟩
    | tuple hx e => exact ⟨_, e, rfl⟩
    | _ => exact absurd rfl hd
  exact call_type_of hT hb (h _ _ kRfl (.val _))

theorem Ev.cast {e : PySem.Expr} {d d' : D} (q : d' = d) (h : Ev prog w H A env ρ e d') : Ev prog w H A env ρ e d := q ▸ h
theorem Tst.orNil {pos : Pos} : Tst prog w H A env ρ (.BoolOp .Or [] pos) false := ⟨fun X s F Q E h => wpAny_isTrue_BoolOp (wpAny_allTrue_Or_nil (h _ kRfl))⟩
theorem Tst.orHit {a : PySem.Expr} {r : List PySem.Expr} {pos : Pos} (ha : Tst prog w H A env ρ a true) : Tst prog w H A env ρ (.BoolOp .Or (a :: r) pos) true := ⟨fun X s F Q E h => wpAny_isTrue_BoolOp (wpAny_allTrue_Or_cons (ha.run X s F _ _ fun s₁ k₁ => h _ k₁))⟩
theorem Tst.orMiss {a : PySem.Expr} {r : List PySem.Expr} {pos : Pos} {b : Bool} (ha : Tst prog w H A env ρ a false) (hr : Tst prog w H A env ρ (.BoolOp .Or r pos) b) : Tst prog w H A env ρ (.BoolOp .Or (a :: r) pos) b := by
  refine ⟨fun X s F Q E h => wpAny_isTrue_BoolOp (wpAny_allTrue_Or_cons (ha.run X s F _ _ fun s₁ k₁ => ?_))⟩
  have := hr.run X s₁ (F.keeps k₁) Q E fun s₂ k₂ => h s₂ (kTrans k₁ k₂)
  rw [show PySem.isTrue (.BoolOp .Or r pos) env (eval (.BoolOp .Or r pos) env) = PySem.allTrue BoolOp.Or r env from arm_isTrue_BoolOp ..] at this
  exact this

theorem Ev.globalD (W : WF K H mg mb) {x : Str} {pos : Pos} {v : Value} {d : D} (e : nsIn K mainGlobals x = some (some v)) (hx : env.kindOf x = some .globalImplicit) (hd : (x == ("__debug__" : Str)) = false) (r : ∀ X h, Rd X h v d) :
    Ev prog w H A env ρ (.Name x pos) d := by
  refine ⟨fun X s F Q E h => ?_⟩
  exact Name_function_global F.fn hx (loadGlobal_global (by rw [F.gl]; exact W.g.keeps F.base) (mg_of W.kin W.g e) (h _ _ kRfl (r _ _))) hd

/-- a call with one named argument behind the others -/
structure CallKw (prog : Program) (w : World) (H : Heap) (A : Around) (f : Value) (ds : List D) (kw : Str) (dk d : D) : Prop where
  run : ∀ X s vs v, Wd H X s.heap → RdL X s.heap vs ds → Rd X s.heap v dk → Gv prog w A X s (call f vs [(kw, v)]) d
theorem Ev.callKw (W : WF K H mg mb) {func a e : PySem.Expr} {f : Value} {rest : List PySem.Expr} {ds : List D} {kw : Str} {kp pos : Pos} {dk d : D}
    (hc : eval (.Call func (a :: rest) [⟨some kw, e, kp⟩] pos) env = (do callWith pos (← eval func env) [] (backTo pos (starEach (a :: rest) env)) (backToKw pos (keywordEach [⟨some kw, e, kp⟩] env))))
    (hf : Ev prog w H A env ρ func (.val f)) (ha : EvL prog w H A env ρ (a :: rest) ds) (hn : noStar (a :: rest) = true) (hk : keepIn K f = true) (he : Ev prog w H A env ρ e dk) (hcall : CallKw prog w H A f ds kw dk d) :
    Ev prog w H A env ρ (.Call func (a :: rest) [⟨some kw, e, kp⟩] pos) d := by
  refine ⟨fun X s F Q E h => ?_⟩
  rw [hc]
  refine wpAny_bind (hf.run X s F _ _ fun fv s₁ k₁ r₁ => ?_)
  obtain rfl := r₁.inv
  rw [star_trees env pos _ hn]
  refine callWith_of (P := K.In) (by rw [trees_plain]; rfl) (fun h X => keeps_K hk h X) ?_
  refine evalArgs_kw rfl ?_
  refine ha.run X s₁ (F.keeps k₁) _ _ fun vs s₂ k₂ r₂ => ?_
  have F₂ := F.keeps (kTrans k₁ k₂)
  refine evalAll_cons (wpAny_bind (he.run X s₂ F₂ _ _ fun v s₃ k₃ r₃ => wpAny_bind (wpAny_standAt (wpAny_pure (evalAll_nil ?_)))))
  refine ⟨W.kin.keeps (F₂.keeps k₃).base, ?_⟩
  exact hcall.run X s₃ vs v (F₂.keeps k₃).wd (r₂.keeps k₃) r₃ _ _ fun u s₄ k₄ r₄ => h u s₄ (kTrans (kTrans (kTrans k₁ k₂) k₃) k₄) r₄
end
end Mine
end

noncomputable section
open PySem PySem.W PySem.Calls PyProof.Rows PySem.Spec
namespace Mine
open PySem.SeqAt

theorem ascii_bad {x : Nat} (h : x < 128) : Builtin._codecs.asciiCodec.bad x = false := by
  show decide (x ≥ 128) = false
  exact decide_eq_false (by omega)
theorem ascii_bytes (x : Nat) : (Builtin._codecs.asciiCodec.bytesOf x).toArray = #[x.toUInt8] := rfl
theorem enc_ascii {a b c d : Nat} {self : Value} (ha : a < 128) (hb : b < 128) (hc : c < 128) (hd : d < 128) :
    Builtin._codecs.encodeNarrow "str.encode" Builtin._codecs.asciiCodec none self ⟨#[a, b, c, d]⟩ = pure #[a.toUInt8, b.toUInt8, c.toUInt8, d.toUInt8] := by
  have e : (⟨#[a, b, c, d]⟩ : Str).length = 4 := rfl
  have hz : ¬ (0 > sizeLine) := by decide
  have hz4 : ¬ (4 > sizeLine) := by decide
  unfold Builtin._codecs.encodeNarrow
  rw [e]
  simp [Std.Legacy.Range.forIn_eq_forIn_range', List.range', ascii_bad ha, ascii_bad hb, ascii_bad hc, ascii_bad hd, ascii_bytes, List.findIdx?_cons, hz, hz4]

theorem encRoad_ascii (id : String) (self : Value) (x : Str) (errors : Option Str) : Builtin._codecs.encodeRoad id self x (Str.ofString "ascii") errors = (do mkBytes (← Builtin._codecs.encodeNarrow id Builtin._codecs.asciiCodec errors self x)) := by
  first | rfl | (unfold Builtin._codecs.encodeRoad; rfl)
theorem enc_tree (x : Str) (t u : Tok) : Builtin.«str.encode» ⟨[.str x t, .str (Str.ofString "ascii") u], []⟩ = (do ret (← Builtin._codecs.encodeRoad "str.encode" (.str x t) x (Str.ofString "ascii") none)) := by kernel_rfl
section
variable {prog : Program} {w : World} {H : Heap} {A : Around} {X₀ X X' Z : AS} {s₀ s s' : Shared} {env : Env} {ρ ρ' ρf : Rho} {μ μ' : Mu} {E : Value → Shared → Prop} {K : Frag} {mg mb : Str → Option Value}
theorem c_encode {a b c d : Nat} (ha : a < 128) (hb : b < 128) (hc : c < 128) (hd : d < 128) :
    CallG prog w H A (.builtin "str.encode") [.str ⟨#[a, b, c, d]⟩, .str (Str.ofString "ascii")] (.bytes #[a.toUInt8, b.toUInt8, c.toUInt8, d.toUInt8]) := by
  refine ⟨fun X s vs W r Q E h => ?_⟩
  obtain ⟨v, u, rfl, r1, r2⟩ := two r
  obtain ⟨t, rfl⟩ := r1.inv; obtain ⟨t', rfl⟩ := r2.inv
  refine wpAny_call_entry PySem.F.slot_str_encode rfl PySem.F.entry_str_encode ?_ (PySem.F.args_str_encode_2 _ _)
  rw [enc_tree, encRoad_ascii, enc_ascii ha hb hc hd]
  refine wpAny_bind (wpAny_bind (wpAny_pure (wpAny_mkBytes ?_ (by show 4 ≤ sizeLine; decide))))
  exact wpAny_pure ⟨_, rfl, h _ _ (kTok _ _) (.bytes _ _)⟩
theorem c_isStr {x : Str} : CallG prog w H A (.builtin "isinstance") [.str x, .val (.type "str")] (.bool true) := by
  refine ⟨fun X s vs W r Q E h => ?_⟩
  obtain ⟨v, u, rfl, r1, r2⟩ := two r
  obtain ⟨t, rfl⟩ := r1.inv
  obtain rfl := r2.inv
  exact PySem.IsiPair.str_str (h _ _ kRfl (.bool _))

/-- a <= b <= c -/
theorem Tst.chain {a b c : PySem.Expr} {pos : Pos} {x y z : Int} (ha : Ev prog w H A env ρ a (.int x)) (hb : Ev prog w H A env ρ b (.int y)) (hc : Ev prog w H A env ρ c (.int z)) (hm : lastMarks [.LtE, .LtE] [b, c] = false) :
    Tst prog w H A env ρ (.Compare a [.LtE, .LtE] [b, c] pos) (decide (x ≤ y) && decide (y ≤ z)) := by
  refine ⟨fun X s F Q E h => isTrue_chain (ha.run X s F _ _ fun v s₁ k₁ r₁ => test_link (hb.run X s₁ (F.keeps k₁) _ _ fun u s₂ k₂ r₂ => ?_)) hm⟩
  have F₂ := F.keeps (kTrans k₁ k₂)
  refine OpG.run op_leI X s₂ v u F₂.wd (r₁.keeps k₂) r₂ _ _ fun t s₃ k₃ r₃ => ?_
  obtain rfl := r₃.inv
  refine wpAny_truthy_bool ?_
  have F₃ := F₂.keeps k₃
  cases hq : decide (x ≤ y) with
  | false =>
    rw [hq] at h
    exact h _ (kTrans (kTrans k₁ k₂) k₃)
  | true =>
    rw [hq] at h
    refine test_last (hc.run X s₃ F₃ _ _ fun q s₄ k₄ r₄ => ?_)
    refine OpG.run op_leI X s₄ u q (F₃.keeps k₄).wd (r₂.keeps (kTrans k₃ k₄)) r₄ _ _ fun t s₅ k₅ r₅ => ?_
    obtain rfl := r₅.inv
    exact wpAny_truthy_bool (h _ (kTrans (kTrans (kTrans (kTrans k₁ k₂) k₃) k₄) k₅))

/-- try: return e -/
theorem Bd.tryRet {e : PySem.Expr} {h₀ : ExceptHandler} {hs : List ExceptHandler} {orelse : List Stmt} {rp pos : Pos} {sts : List Stmt} {d : D} (a : Ev prog w H A env ρ e d) : Bd prog w H A env ρ (.Try [.Return (some e) rp] (h₀ :: hs) orelse [] pos :: sts) d :=
  ⟨fun X s F Q E h => wpAny_execs_cons (wpAny_Try_except (Bd.run (Bd.ret (sts := []) (pos := rp) a) X s F _ _ fun v s' k r => h v s' k r))⟩
end
end Mine
end

noncomputable section
open PySem PySem.W PySem.Calls PyProof.Rows PySem.Spec
namespace Mine
open PySem.SeqAt

section
variable {prog : Program} {w : World} {A : Around} {R : Result → Shared → Prop} {I : Addr} {fp wr : List Addr} {G : Array GenState → Array GenState → Prop} {n : Nat} {P : Nat → Value → Prop} {St : Nat → Shared → Prop}
/-- a set of the texts ahead of i -/
def SetN (prog : Program) (w : World) (h : Heap) (S : Addr) (ss : List Str) (i : Nat) : Prop := ∃ n, n ≤ i ∧ h.SetOf (strKind prog w) S (fun k => decide (k ∈ ss.take i)) n
theorem set_loop (W : WalksS prog w A.in1 I fp wr G n P St) (S : Addr) (hSf : S ∉ fp) (ss : List Str) (hval : ∀ i v, P i v → ∃ x t, ss[i]? = some x ∧ v = .str x t) (hb : n + 1 < scanBound) :
    ∀ (k i : Nat) (s : Shared), n - i = k → i ≤ n → St i s → SetN prog w s.heap S ss i →
      (∀ s', Moved (S :: wr) G s s' → SetN prog w s'.heap S ss n → R (.ok (.ret .none)) s') →
      codeAny (model prog w) A (.builtin "set.update.loop" ⟨[.ref S, .ref I], []⟩) R s := by
  have hSw : S ∉ wr := fun h => hSf (W.sub _ h)
  have hsub : ∀ b ∈ wr, b ∈ S :: wr := fun b hb => List.mem_cons_of_mem _ hb
  intro k
  induction k with
  | zero =>
    intro i s hk hi hst hS hR
    have hin : i = n := by omega
    subst hin
    refine codeAny_builtin F.entry_set_update_loop ?_
    rw [Around.under_plainId F.plain_set_update_loop _]
    show wpAny _ A.in1 (pyNext (.ref I) >>= _) _ _ s
    refine wpAny_bind (W.done s _ _ hst fun s' hm => ?_)
    show wpAny _ A.in1 (ret Value.none) _ _ s'
    exact wpAny_pure (hR s' (hm.mono hsub) (by
      obtain ⟨m, hm', o, es, ep, t, ho, rest⟩ := hS
      exact ⟨m, hm', o, es, ep, t, hm.heap S _ hSw ho, rest⟩))
  | succ k ih =>
    intro i s hk hi hst hS hR
    have hlt : i < n := by omega
    refine codeAny_builtin F.entry_set_update_loop ?_
    rw [Around.under_plainId F.plain_set_update_loop _]
    show wpAny _ A.in1 (pyNext (.ref I) >>= _) _ _ s
    refine wpAny_bind (W.item i s _ _ hlt hst fun v s' hP hst' hm => ?_)
    obtain ⟨x, t, hx, rfl⟩ := hval i v hP
    obtain ⟨m, hmi, hS⟩ := hS
    have hS' : s'.heap.SetOf (strKind prog w) S (fun k => decide (k ∈ ss.take i)) m := by
      obtain ⟨o, es, ep, tb, ho, rest⟩ := hS
      exact ⟨o, es, ep, tb, hm.heap S _ hSw ho, rest⟩
    show wpAny _ A.in1 (holding [Value.str x t] (setAdd S (.str x t)) >>= _) _ _ s'
    refine wpAny_bind (wpAny_holding ?_)
    unfold setAdd
    refine wpAny_holding ?_
    refine wpAny_bind ((strKind prog w).pyHash (k := x) (strKind_is _ _ _ _) ?_)
    refine wpAny_setAddHashed_of (knd := strKind prog w) (s := { s' with toks := s'.toks + 1 }) (strKind_is _ _ _ _) rfl hS' (by omega) fun h' hsb hS2 => ?_
    have hSi : SetN prog w h' S ss (i + 1) := by
      refine ⟨if decide (x ∈ ss.take i) = true then m else m + 1, by split <;> omega, SetOf_congr hS2 (fun k' => ?_) rfl⟩
      rw [List.take_add_one, hx]
      simp [Bool.eq_iff_iff]
    refine wpAny_pure ⟨plainId_quiet F.plain_set_update_loop _, ih (i + 1) _ (by omega) hlt (W.frame _ s' _ _ hst' (Nat.le_succ _) fun b hb o e => ?_) hSi fun s'' hm'' hS'' => ?_⟩
    · rw [hsb.2 b (fun h : b = S => hSf (by rw [← h]; exact hb))]; exact e
    · refine hR s'' (Moved.trans W.gtrans ((hm.mono hsub).then_heap (Nat.le_succ _) fun b o hb e => ?_) hm'') hS''
      rw [hsb.2 b (fun h : b = S => hb (by rw [h]; exact List.mem_cons_self))]; exact e
end

section
variable {prog : Program} {w : World} {A : Around} {E : Value → Shared → Prop} {s : Shared}
theorem strs_get : ∀ {vs : List Value} {ss : List Str}, StrsAre vs ss → ∀ (i : Nat) (v : Value), vs[i]? = some v → ∃ x t, ss[i]? = some x ∧ v = .str x t
  | _, _, .nil, i, v, e => by simp at e
  | _, _, .cons x t h, 0, v, e => ⟨x, t, rfl, by simp at e; exact e.symm⟩
  | _, _, .cons x t h, i + 1, v, e => by simpa using strs_get h i v (by simpa using e)
set_option maxHeartbeats 3200000 in
theorem call_set_strs {l : Addr} {vs : List Value} {ss : List Str} {Q : Value → Shared → Prop} (hh : A.handled = none) (hl : s.heap.IsList l vs.toArray) (hi : StrsAre vs ss) (hb : vs.length + 1 < scanBound)
    (h : ∀ (h' : Heap) (tk : Nat), SetN prog w h' s.heap.objs.size ss vs.length → (∀ b o, b < s.heap.objs.size → s.heap.get? b = some o → h'.get? b = some o) → Q (.ref s.heap.objs.size) { s with heap := h', toks := tk }) :
    wpAny (model prog w) A (call (.type "set") [.ref l]) Q E s := by
  have hb : vs.toArray.size + 1 < scanBound := by simpa using hb
  generalize hit : vs.toArray = items at hl hb
  obtain ⟨c, tl, hmro⟩ := F.called_set.mro
  have hmade := F.called_set.made
  have hsub := F.called_set.sub
  refine wpAny_call (codeAny_of_tree ?_)
  show wpAny _ _ (callAny (.type "set") _) _ _ _
  refine wpAny_pure ⟨Code.quiet_builtin _ (by decide +kernel), codeAny_builtin F.entry_type_call ?_⟩
  rw [Around.under_plain (weight_type_call_type "set" [.ref l] []) rfl]
  have h1 := F.called_set.notType
  have h2 := F.called_set.canCreate
  have hct := F.typeCall_set_1 (.ref l)
  repeat (any_goals (first | assumption | wp_step))
  refine codeAny_mono (code_set_new_1 (.ref l) (E := E) (Q₁ := fun obj s₁ => ∃ led : Bool, obj = .ref s.heap.objs.size ∧ s₁ = { s with heap := s.heap.push { cls := .type "set", dict := none, data := .set #[] 0 (.fresh 0 0 led) } }) fun led => ⟨led, rfl, rfl⟩) fun r s₁ hr => ?_
  cases r with
  | error e => exact hr
  | ok fl =>
    cases fl with
    | ret obj =>
      obtain ⟨led, rfl, rfl⟩ := hr
      have hS : (s.heap.push { cls := .type "set", dict := none, data := .set #[] 0 (.fresh 0 0 led) }).get? s.heap.objs.size = some { cls := .type "set", dict := none, data := .set #[] 0 (.fresh 0 0 led) } := Heap.get?_push_size _ rfl
      have hT : Shared.TypeIs { s with heap := s.heap.push { cls := .type "set", dict := none, data := .set #[] 0 (.fresh 0 0 led) } } (.ref s.heap.objs.size) "set" := ⟨_, hS, rfl⟩
      have hli := F.called_set.init.lookup
      have hbi := F.called_set.init.bind (.ref s.heap.objs.size)
      repeat (any_goals (first | assumption | wp_step))
      refine codeAny_mono (codeAny_call_builtin (R := wants (fun r s₂ => r = .none ∧ ∃ h' tk, s₂ = { s with heap := h', toks := tk } ∧ SetN prog w h' s.heap.objs.size ss items.size ∧
          (∀ b o, b < s.heap.objs.size → s.heap.get? b = some o → h'.get? b = some o)) E) F.called_set.init.plain F.entry_set_init (check_set_init_1 hT ?_)) fun r₂ s₂ hr₂ => ?_
      · obtain ⟨ol, hol, hcl, nl, hdl⟩ := hl
        obtain ⟨ocls, odict, odata, oslots⟩ := ol
        simp only at hcl hdl
        subst hcl; subst hdl
        have hol' : (s.heap.push { cls := .type "set", dict := none, data := .set #[] 0 (.fresh 0 0 led) }).get? l = some { cls := .type "list", dict := odict, data := .seq items nl, slots := oslots } := Heap.get?_push_of_some _ hol
        have hsls := F.sub_list_set
        have hslf := F.sub_list_frozenset
        have hne : (Value.type "list" == Value.type "dict") = false := by decide
        have hl1 : (s.heap.push { cls := .type "set", dict := none, data := .set #[] 0 (.fresh 0 0 led) }).IsList l items := ⟨_, hol', rfl, nl, rfl⟩
        unfold Builtin.«set.__init__» noKeywords Builtin.Frozenset.updateFrom
        generalize hPI : pyIter = PI
        wp_walk
        subst hPI
        refine wpAny_pyIter_list hl1 ?_
        refine wpAny_bind (wpAny_runValue ?_)
        have hlS : l < s.heap.objs.size := Heap.lt_size hol
        have hh3 : A.in1.in1.in1.handled = none := by simp [hh]
        have hneI : l ≠ (s.heap.push { cls := .type "set", dict := none, data := .set #[] 0 (.fresh 0 0 led) }).objs.size := by
          rw [Heap.size_push]; exact Nat.ne_of_lt (Nat.lt_succ_of_lt hlS)
        have hSf : s.heap.objs.size ∉ [(s.heap.push { cls := .type "set", dict := none, data := .set #[] 0 (.fresh 0 0 led) }).objs.size, l] := by
          rw [Heap.size_push]; simp only [List.mem_cons, List.mem_singleton, List.not_mem_nil, or_false, not_or]
          exact ⟨Nat.ne_of_lt (Nat.lt_succ_self _), Nat.ne_of_gt hlS⟩
        have hval : ∀ (i : Nat) (v : Value), items[i]? = some v → ∃ x t, ss[i]? = some x ∧ v = .str x t := fun i v hv => by
          subst hit
          exact strs_get hi i v (by simpa using hv)
        refine set_loop ((Walks.list hh3 _ l hneI items).toS) s.heap.objs.size hSf ss hval hb (items.size - 0) 0 _ (by omega) (Nat.zero_le _)
          ⟨⟨_, Heap.get?_push_size _ rfl, rfl, rfl⟩, (hl1.push _)⟩ ?hS0 ?hR
        case hS0 =>
          have hget : ((s.heap.push { cls := .type "set", dict := none, data := .set #[] 0 (.fresh 0 0 led) }).push { cls := .type "list_iterator", data := .fields #[.ref l, .int 0 0] }).get? s.heap.objs.size
              = some { cls := .type "set", dict := none, data := .set #[] 0 (.fresh 0 0 led) } := Heap.get?_push_of_some _ hS
          exact ⟨0, Nat.le_refl _, SetOf_congr ((setObjOf_fresh (knd := strKind prog w) led).setOf hget (by unfold scanBound; omega)) (fun k => by simp) rfl⟩
        case hR =>
          intro s' hm hS'
          obtain ⟨h', g', d', tk', os'⟩ := s'
          have eg : g' = s.gens := hm.gens
          have ed : d' = s.drawn := hm.drawn
          have eo : os' = s.os := hm.os
          subst eg; subst ed; subst eo
          show wpAny _ _ _ _ _ _
          refine wpAny_pure ?_
          show wpAny _ _ (ret Value.none) _ _ _
          refine wpAny_pure ⟨rfl, h', tk', rfl, hS', fun b o hb e => ?_⟩
          have hb1 : b ≠ s.heap.objs.size := Nat.ne_of_lt hb
          have hb2 : b ≠ (s.heap.push { cls := .type "set", dict := none, data := .set #[] 0 (.fresh 0 0 led) }).objs.size := by
            rw [Heap.size_push]; exact Nat.ne_of_lt (Nat.lt_succ_of_lt hb)
          exact hm.heap b o (by simp only [List.mem_cons, List.mem_singleton, List.not_mem_nil, or_false, not_or]; exact ⟨hb1, hb2⟩) (Heap.get?_push_of_some _ (Heap.get?_push_of_some _ e))
      · cases r₂ with
        | error e => exact hr₂
        | ok fl₂ =>
          cases fl₂ with
          | ret r =>
            obtain ⟨rfl, h', tk, rfl, hS', hk'⟩ := hr₂
            repeat (any_goals (first | assumption | wp_step))
            exact h _ _ (by rw [show vs.length = items.size by rw [← hit]; simp]; exact hS') hk'
          | _ => exact hr₂.elim
    | _ => exact hr.elim
end
end Mine
end

noncomputable section
open PySem PySem.W PySem.Calls PyProof.Rows PySem.Spec
namespace Mine
open PySem.SeqAt

theorem slot_md_get : Slot "method_descriptor" "__get__" "method_descriptor.__get__" :=
  .of (owner := "method_descriptor") (n := "__get__") (by rw [typeLookup_type, builtinLookup_eq_fast]; kernel_rfl) (by decide +kernel) (by decide +kernel) (by decide +kernel)
    (by first | exact .inl (by decide +kernel) | exact .inr (by decide +kernel)) (by rw [isSubtype_type]; kernel_rfl)
theorem entry_md_get : entryFor table "method_descriptor.__get__" = some Builtin.«method_descriptor.__get__» := entryFor_of_tree (by kernel_rfl)
theorem args_md_get (a b c : Value) : argsOk "method_descriptor.__get__" ⟨[a, b, c], []⟩ := by unfold argsOk; kernel_rfl
theorem no_md_set : typeLookup (.type "method_descriptor") "__set__" = pure none := by rw [typeLookup_type, builtinLookup_eq_fast]; kernel_rfl
theorem no_md_delete : typeLookup (.type "method_descriptor") "__delete__" = pure none := by rw [typeLookup_type, builtinLookup_eq_fast]; kernel_rfl
theorem lk_set_contains : typeLookup (.type "set") "__contains__" = pure (some (.builtin "set.__contains__")) := PySem.F.slot_set_contains.lookup
theorem set_no_getattr : typeLookup (.type "set") "__getattr__" = pure none := by rw [typeLookup_type, builtinLookup_eq_fast]; kernel_rfl
theorem sub_set_owner : isSubtype (.type "set") (.type (".".intercalate ("set.__contains__".cutAt '.').dropLast)) = pure true := by
  rw [show ".".intercalate ("set.__contains__".cutAt '.').dropLast = "set" by decide +kernel, isSubtype_type]; kernel_rfl

abbrev bmObj (S : Addr) : Obj := { cls := .type "builtin_function_or_method", data := .fields #[.builtin "set.__contains__", .ref S] }
section
variable {prog : Program} {w : World} {A : Around} {E : Value → Shared → Prop} {h : Heap} {g : Array GenState} {d : Drawn} {t : Nat} {os : OsState} {a : Addr} {o : Obj}

theorem sc_get {R : Result → Shared → Prop} (hx : h.get? a = some o) (hc : o.cls = .type "set") (hq : R (.ok (.ret (.ref h.objs.size))) ⟨h.push (bmObj a), g, d, t, os⟩) :
    codeAny (model prog w) A (.call (.builtin "method_descriptor.__get__") ⟨[.builtin "set.__contains__", .ref a, .type "set"], []⟩) R ⟨h, g, d, t, os⟩ := by
  have hT : (⟨h, g, d, t, os⟩ : Shared).TypeIs (.ref a) "set" := ⟨_, hx, hc⟩
  have hT5 : (⟨h, g, d, t, os⟩ : Shared).TypeIs (.builtin "set.__contains__") "method_descriptor" := PySem.F.type_set_contains
  have f8 := sub_set_owner
  refine codeAny_call_builtin slot_md_get.plain entry_md_get (slot_md_get.check _ _ _ _ _ _ _ _ hT5 (args_md_get _ _ _) ?_)
  repeat (any_goals (first | assumption | wp_step))
theorem sc_entry {tk : Tok} {Q : Fin → Shared → Prop} (hx : h.get? a = some o) (hc : o.cls = .type "set") (hd : o.dict = none) {es : Array (Int × Value)} {ep : Nat} {tb : SetTable} (hdt : o.data = .set es ep tb) (hq : Q (.done (.ret (.ref h.objs.size))) ⟨h.push (bmObj a), g, d, t, os⟩) :
    wpAny (model prog w) A (Builtin.«object.__getattribute__» ⟨[.ref a, .str "__contains__" tk], []⟩) Q E ⟨h, g, d, t, os⟩ := by
  obtain ⟨oc, od, oda, osl⟩ := o
  simp only at hc hd hdt
  subst hc hd hdt
  have hT : (⟨h, g, d, t, os⟩ : Shared).TypeIs (.ref a) "set" := ⟨_, hx, rfl⟩
  have hT5 : (⟨h, g, d, t, os⟩ : Shared).TypeIs (.builtin "set.__contains__") "method_descriptor" := PySem.F.type_set_contains
  have f4 := lk_set_contains
  have f5 := PySem.F.type_set_contains
  have f6 := slot_md_get.lookup
  have f7 := no_md_set
  have f8 := no_md_delete
  unfold Builtin.«object.__getattribute__»
  repeat (any_goals (first | assumption | wp_step))
  refine sc_get hx rfl ?_
  repeat (any_goals (first | assumption | wp_step))
theorem sc_attr {Q : Value → Shared → Prop} (hx : h.get? a = some o) (hc : o.cls = .type "set") (hd : o.dict = none) {es : Array (Int × Value)} {ep : Nat} {tb : SetTable} (hdt : o.data = .set es ep tb) (hq : Q (.ref h.objs.size) ⟨h.push (bmObj a), g, d, t + 1, os⟩) :
    wpAny (model prog w) A (getAttr (.ref a) "__contains__" true) Q E ⟨h, g, d, t, os⟩ := by
  obtain ⟨oc, od, oda, osl⟩ := o
  simp only at hc hd hdt
  subst hc hd hdt
  have hT : ∀ t', (⟨h, g, d, t', os⟩ : Shared).TypeIs (.ref a) "set" := fun _ => ⟨_, hx, rfl⟩
  have f2 := PySem.F.slot_set_getattribute.lookup
  have f3 := PySem.F.slot_set_getattribute.bind (.ref a)
  have f5 := set_no_getattr
  unfold getAttr getAttrBy
  repeat (any_goals (first | assumption | exact hT _ | ((with_reducible show wpAny _ _ (call (Value.builtin "set.__getattribute__") _ _) _ _ _); refine wpAny_call (codeAny_call_builtin PySem.F.slot_set_getattribute.plain PySem.F.entry_set_ga (PySem.F.slot_set_getattribute.check _ _ _ _ _ _ _ _ (hT _) (PySem.F.args_set_getattribute_2 _ _) (sc_entry hx rfl rfl rfl ?_)))) | wp_step))

theorem sub_set_module : isSubtype (.type "set") (.type "module") = pure false := by rw [isSubtype_type]; kernel_rfl
theorem sub_set_type : isSubtype (.type "set") (.type "type") = pure false := by rw [isSubtype_type]; kernel_rfl
theorem check_sc {M : Model} {s : Shared} {S : Addr} {x : Str} {tk : Tok} {Q : Unit → Shared → Prop} {o : Obj} {es : Array (Int × Value)} {ep : Nat} {tb : SetTable} (ho : s.heap.get? S = some o) (hc : o.cls = .type "set") (hdt : o.data = .set es ep tb) (hq : Q () s) : wpAny M A (checkBoundCall "set.__contains__" ⟨[.ref S, .str x tk], []⟩) Q E s := by
  have f1 := sub_set_module
  have f2 := sub_set_type
  obtain ⟨oc, od, oda, osl⟩ := o
  simp only at hc hdt
  subst hc hdt
  have hT : s.TypeIs (.ref S) "set" := ⟨_, ho, rfl⟩
  have h1 : Manifest.signature? "set.__contains__" = some ⟨.oneArg, "set.__contains__", "__contains__", .self, [⟨"object", .posOnly, true⟩]⟩ := by kernel_rfl
  have h2 : Bind.checkArgs "set.__contains__" ⟨.oneArg, "set.__contains__", "__contains__", .self, [⟨"object", .posOnly, true⟩]⟩ ⟨[.ref S, .str x tk], []⟩ = pure () := by kernel_rfl
  have hk : builtinKind "set.__contains__" = some .method := by kernel_rfl
  have hv : Manifest.varargsMethods.contains "set.__contains__" = false := by decide +kernel
  have hn : Bind.lastOf "set.__contains__" = "__contains__" := by decide +kernel
  have hn2 : Bind.lastOf "set" = "set" := by decide +kernel
  unfold checkBoundCall
  simp only [h1, hk]
  rw [if_neg (by decide)]
  refine wpAny_bind (wpAny_isInstance hT sub_set_module ?_)
  simp only [hv, Bool.or_false, Bool.false_eq_true, if_false]
  obtain ⟨hp, g, d, tk, os⟩ := s
  unfold isType
  refine wpAny_bind (wpAny_bind (wpAny_loadPart ho ?_))
  refine wpAny_pure ?_
  simp only [Bool.false_eq_true, if_false]
  refine wpAny_bind (wpAny_typeOf hT ?_)
  dsimp only
  rw [hn, hn2]
  exact wpAny_of_eq (a := ()) h2 hq
theorem sc_call {s : Shared} {B S : Addr} {ss : List Str} {i : Nat} {x : Str} {tk : Tok} {Q : Value → Shared → Prop} (hB : s.heap.get? B = some (bmObj S)) (hS : SetN prog w s.heap S ss i) (hq : Q (.bool (decide (x ∈ ss.take i))) { s with toks := s.toks + 1 }) :
    wpAny (model prog w) A (call (.ref B) [.str x tk]) Q E s := by
  obtain ⟨n, _, hS⟩ := hS
  refine wpAny_call (codeAny_of_tree ?_)
  show wpAny _ A.in1 (callAny (.ref B) ⟨[.str x tk], []⟩) _ _ s
  simp only [callAny]
  refine wpAny_bind (wpAny_load hB ?_)
  simp only [show (Value.type "builtin_function_or_method" == Value.type "method" || Value.type "builtin_function_or_method" == Value.type "builtin_function_or_method" || Value.type "builtin_function_or_method" == Value.type "method-wrapper") = true by decide, if_true]
  show wpAny _ _ (checkBoundCall "set.__contains__" ⟨[.ref S, .str x tk], []⟩ >>= fun _ => again (Code.builtin "set.__contains__" ⟨[.ref S, .str x tk], []⟩)) _ _ s
  obtain ⟨o, es, ep, tb, ho, hex, hdt, hrest⟩ := id hS
  refine wpAny_bind (check_sc ho hex.1 hdt ?_)
  refine wpAny_pure ⟨plainId_quiet PySem.F.slot_set_contains.plain _, codeAny_builtin entry_set_contains ?_⟩
  rw [Around.under_plainId PySem.F.slot_set_contains.plain _]
  unfold Builtin.«frozenset.__contains__» Builtin.Frozenset.oneOther
  simp only [List.isEmpty_nil, bind_assoc]
  unfold Builtin.Frozenset.addrOf Builtin.Frozenset.withSetAsKey setContains
  refine wpAny_bind (wpAny_pure ?_)
  try dsimp only
  refine wpAny_bind (wpAny_pure ?_)
  try dsimp only
  refine wpAny_bind (wpAny_tryCatch ?_)
  refine wpAny_holding ?_
  refine wpAny_bind ((strKind prog w).pyHash (k := x) (strKind_is _ _ _ _) ?_)
  refine wpAny_bind (wpAny_setFind_of (s := { s with toks := s.toks + 1 }) (knd := strKind prog w) (strKind_is _ _ _ _) rfl hS fun r hr => ?_)
  refine wpAny_pure ?_
  show wpAny _ _ (ret (Value.bool r.isSome)) _ _ _
  rw [hr]
  exact wpAny_pure hq
end
end Mine
end

noncomputable section
open PySem PySem.W PySem.Calls PyProof.Rows PySem.Spec
namespace Mine
open PySem.SeqAt

section
variable {prog : Program} {w : World} {A : Around} {s : Shared} {E : Value → Shared → Prop} {R : Result → Shared → Prop}

/-- the filter's own state -/
structure FSt (prog : Program) (w : World) (h : Heap) (F I l B S : Addr) (vs : List Value) (ss2 : List Str) (p : Nat) : Prop where
  f : FilAt h F I l (.ref B) p vs.toArray
  b : h.get? B = some (bmObj S)
  s : SetN prog w h S ss2 ss2.length
theorem FSt.frame {h h' : Heap} {F I l B S : Addr} {vs : List Value} {ss2 : List Str} {p : Nat} (x : FSt prog w h F I l B S vs ss2 p) (k : ∀ b ∈ [F, I, l, B, S], ∀ o, h.get? b = some o → h'.get? b = some o) : FSt prog w h' F I l B S vs ss2 p := by
  obtain ⟨⟨m, ⟨o, io, ic⟩, ⟨o', lo, lc⟩⟩, b, n, hn, o2, es, ep, t, ho, rest⟩ := x
  exact ⟨⟨k F (by simp) _ m, ⟨o, k I (by simp) _ io, ic⟩, ⟨o', k l (by simp) _ lo, lc⟩⟩, k B (by simp) _ b, n, hn, o2, es, ep, t, k S (by simp) _ ho, rest⟩
theorem FSt.step {h h' : Heap} {F I l B S : Addr} {vs : List Value} {ss2 : List Str} {p : Nat} (x : FSt prog w h F I l B S vs ss2 p) (hI : I ≠ F ∧ I ≠ l ∧ I ≠ B ∧ I ≠ S) (hit : h'.IsListIter I l (p + 1)) (hs : Heap.SameBut I h h') : FSt prog w h' F I l B S vs ss2 (p + 1) := by
  obtain ⟨⟨m, _, ⟨o', lo, lc⟩⟩, b, n, hn, o2, es, ep, t, ho, rest⟩ := x
  exact ⟨⟨hs.extBut F _ hI.1.symm m, hit, ⟨o', hs.extBut l _ hI.2.1.symm lo, lc⟩⟩, hs.extBut B _ hI.2.2.1.symm b, n, hn, o2, es, ep, t, hs.extBut S _ hI.2.2.2.symm ho, rest⟩

theorem strs_len : ∀ {vs : List Value} {ss : List Str}, StrsAre vs ss → vs.length = ss.length
  | _, _, .nil => rfl
  | _, _, .cons x t h => by simp [strs_len h]
theorem fil_code {F I l B S : Addr} {vs : List Value} {ss ss2 : List Str} (hh : A.handled = none) (hi : StrsAre vs ss) (hI : I ≠ F ∧ I ≠ l ∧ I ≠ B ∧ I ≠ S) :
    ∀ (k p : Nat) (s : Shared), vs.length - p = k → FSt prog w s.heap F I l B S vs ss2 p →
      (∀ p' x t h' tk, p ≤ p' → ss[p']? = some x → x ∈ ss2 → (∀ j y, p ≤ j → j < p' → ss[j]? = some y → y ∉ ss2) → FSt prog w h' F I l B S vs ss2 (p' + 1) → Heap.ExtBut I s.heap h' → s.toks ≤ tk → R (.ok (.ret (.str x t))) { s with heap := h', toks := tk }) →
      (∀ h' tk e o, (∀ j y, p ≤ j → ss[j]? = some y → y ∉ ss2) → Heap.ExtBut I s.heap h' → s.toks ≤ tk → h'.get? e = some o → o.cls = .type "StopIteration" → R (.error (.ref e)) { s with heap := h', toks := tk }) →
      codeAny (model prog w) A (.builtin "filter.__next__" ⟨[.ref F], []⟩) R s := by
  intro k
  induction k with
  | zero =>
    intro p s hk st hfound hend
    refine codeAny_builtin entry_filter_next ?_
    rw [Around.under_plainId slot_filter_next.plain _]
    show wpAny _ _ (field (.ref F) 0 >>= _) _ _ s
    refine wpAny_bind (wpAny_field st.f.m rfl (x := .ref B) rfl ?_)
    show wpAny _ _ (field (.ref F) 1 >>= _) _ _ s
    refine wpAny_bind (wpAny_field st.f.m rfl (x := .ref I) rfl ?_)
    refine wpAny_bind (lit_end (by exact hh) st.f.i st.f.l (by simp; omega) fun h' e o he ho hc => ?_)
    exact hend h' s.toks e o (fun j y hj hy => by
      have := (strs_len hi)
      have := (List.getElem?_eq_some_iff.mp hy).1
      omega) he (Nat.le_refl _) ho hc
  | succ k ih =>
    intro p s hk st hfound hend
    have hp : p < vs.length := by omega
    obtain ⟨x, t, hx, hv⟩ := strs_get hi p vs[p] (List.getElem?_eq_getElem hp)
    have hv' : vs.toArray[p]? = some (.str x t) := by rw [← hv]; simp [hp]
    refine codeAny_builtin entry_filter_next ?_
    rw [Around.under_plainId slot_filter_next.plain _]
    show wpAny _ _ (field (.ref F) 0 >>= _) _ _ s
    refine wpAny_bind (wpAny_field st.f.m rfl (x := .ref B) rfl ?_)
    show wpAny _ _ (field (.ref F) 1 >>= _) _ _ s
    refine wpAny_bind (wpAny_field st.f.m rfl (x := .ref I) rfl ?_)
    refine wpAny_bind (lit_item st.f.i st.f.l hv' fun h' hit hs => ?_)
    have st' := st.step hI hit hs
    dsimp only
    refine wpAny_bind (wpAny_holding ?_)
    show wpAny _ _ (call (.ref B) [.str x t] >>= _) _ _ _
    refine wpAny_bind (sc_call (s := { s with heap := h' }) st'.b st'.s ?_)
    rw [List.take_length]
    refine wpAny_holding (wpAny_truthy_bool ?_)
    by_cases hq : x ∈ ss2
    · rw [decide_eq_true hq]
      exact wpAny_pure (hfound p x t h' (s.toks + 1) (Nat.le_refl _) hx hq (fun j y h1 h2 => absurd h2 (by omega)) st' (hs.extBut) (Nat.le_succ _))
    · rw [decide_eq_false hq]
      refine wpAny_pure ⟨plainId_quiet slot_filter_next.plain _, ih (p + 1) { s with heap := h', toks := s.toks + 1 } (by omega) st' (fun p' x' t' h'' tk hle hx' hq' hno st'' he ht => ?_) fun h'' tk e o hno he ht ho hc => ?_⟩
      · exact hfound p' x' t' h'' tk (by omega) hx' hq' (fun j y h1 h2 hy => by
          by_cases hjp : j = p
          · subst hjp; rw [hx] at hy; cases hy; exact hq
          · exact hno j y (by omega) h2 hy) st'' (fun b o hb e => he b o hb (hs.extBut b o hb e)) (by have : s.toks + 1 ≤ tk := ht; omega)
      · exact hend h'' tk e o (fun j y h1 hy => by
          by_cases hjp : j = p
          · subst hjp; rw [hx] at hy; cases hy; exact hq
          · exact hno j y (by omega) hy) (fun b o hb e => he b o hb (hs.extBut b o hb e)) (by have : s.toks + 1 ≤ tk := ht; omega) ho hc

theorem filt_same {q : Str → Bool} {ss : List Str} {p : Nat} : ∀ {p' : Nat}, p ≤ p' → (∀ j y, p ≤ j → j < p' → ss[j]? = some y → q y = false) → (ss.take p').filter q = (ss.take p).filter q
  | 0, h, _ => by rw [Nat.le_zero.mp h]
  | p' + 1, h, hno => by
    by_cases e : p = p' + 1
    · rw [e]
    · have ih := filt_same (q := q) (ss := ss) (p := p) (p' := p') (by omega) fun j y h1 h2 => hno j y h1 (by omega)
      rw [List.take_add_one, List.filter_append, ih]
      cases hq : ss[p']? with
      | none => simp
      | some y => simp [hno p' y (by omega) (Nat.lt_succ_self _) hq]
theorem filt_found {q : Str → Bool} {ss : List Str} {p p' : Nat} {x : Str} (h : p ≤ p') (hx : ss[p']? = some x) (hq : q x = true) (hno : ∀ j y, p ≤ j → j < p' → ss[j]? = some y → q y = false) :
    (ss.filter q)[((ss.take p).filter q).length]? = some x ∧ ((ss.take (p' + 1)).filter q).length = ((ss.take p).filter q).length + 1 := by
  have e := filt_same h hno
  have e2 : (ss.take (p' + 1)).filter q = (ss.take p).filter q ++ [x] := by
    rw [List.take_add_one, List.filter_append, e, hx]; simp [hq]
  refine ⟨?_, by rw [e2]; simp⟩
  have : ss.filter q = (ss.take (p' + 1)).filter q ++ (ss.drop (p' + 1)).filter q := by rw [← List.filter_append, List.take_append_drop]
  rw [this, e2, List.append_assoc, List.getElem?_append_right (Nat.le_refl _)]
  simp
theorem filt_end {q : Str → Bool} {ss : List Str} {p : Nat} (hno : ∀ j y, p ≤ j → ss[j]? = some y → q y = false) : (ss.filter q).length = ((ss.take p).filter q).length := by
  by_cases h : p ≤ ss.length
  · have := filt_same (q := q) (ss := ss) (p := p) h fun j y h1 _ => hno j y h1
    rw [List.take_length] at this
    rw [this]
  · rw [List.take_of_length_le (by omega)]

theorem fil_next {F I l B S : Addr} {vs : List Value} {ss ss2 : List Str} (hh : A.handled = none) (hi : StrsAre vs ss) (hI : I ≠ F ∧ I ≠ l ∧ I ≠ B ∧ I ≠ S) {p : Nat} (st : FSt prog w s.heap F I l B S vs ss2 p) {Q : Option Value → Shared → Prop}
    (hfound : ∀ p' x t h' tk, p ≤ p' → ss[p']? = some x → x ∈ ss2 → (∀ j y, p ≤ j → j < p' → ss[j]? = some y → y ∉ ss2) → FSt prog w h' F I l B S vs ss2 (p' + 1) → Heap.ExtBut I s.heap h' → s.toks ≤ tk → Q (some (.str x t)) { s with heap := h', toks := tk })
    (hend : ∀ h' tk, (∀ j y, p ≤ j → ss[j]? = some y → y ∉ ss2) → Heap.ExtBut I s.heap h' → s.toks ≤ tk → Q none { s with heap := h', toks := tk }) : wpAny (model prog w) A (pyNext (.ref F)) Q E s := by
  have hT : s.TypeIs (.ref F) "filter" := ⟨_, st.f.m, rfl⟩
  unfold pyNext
  refine wpAny_bind (wpAny_attempt (wpAny_callSpecial?_slot (name := Str.ofString "__next__") hT slot_filter_next (wpAny_call (codeAny_call_builtin_code (plainId_quiet slot_filter_next.plain _) (slot_filter_next.check _ _ _ _ _ _ _ _ hT (args_filter_next _) ?_)))))
  refine fil_code hh hi hI (vs.length - p) p s rfl st (fun p' x t h' tk h1 h2 h3 h4 h5 h6 h7 => ?_) fun h' tk e o h1 h2 h3 ho hc => ?_
  · exact wpAny_pure (hfound p' x t h' tk h1 h2 h3 h4 h5 h6 h7)
  · refine wpAny_bind (wpAny_isInstance (T := "StopIteration") (b := true) ⟨_, ho, hc⟩ isSubtype_stop ?_)
    exact wpAny_pure (hend h' tk h1 h2 h3)

theorem filter_walks {F I l B S : Addr} {vs : List Value} {ss ss2 : List Str} (hh : A.handled = none) (hi : StrsAre vs ss) (hI : I ≠ F ∧ I ≠ l ∧ I ≠ B ∧ I ≠ S) :
    WalksS prog w A F [F, I, l, B, S] [I] gEq (ss.filter fun x => decide (x ∈ ss2)).length (fun i v => ∃ x t, (ss.filter fun x => decide (x ∈ ss2))[i]? = some x ∧ v = .str x t)
      (fun i s => ∃ p, ((ss.take p).filter fun x => decide (x ∈ ss2)).length = i ∧ FSt prog w s.heap F I l B S vs ss2 p) where
  sub := fun b hb => by simp at hb; subst hb; simp
  grefl := fun _ => rfl
  gtrans := fun _ _ _ h1 h2 => h1.trans h2
  frame := fun i s h' tk ⟨p, e, st⟩ _ k => ⟨p, e, st.frame k⟩
  item := fun i s Q E hlt ⟨p, e, st⟩ hQ => by
    refine fil_next hh hi hI st (fun p' x t h' tk h1 h2 h3 h4 h5 h6 h7 => ?_) fun h' tk h1 h2 h3 => ?_
    · obtain ⟨f1, f2⟩ := filt_found (q := fun x => decide (x ∈ ss2)) h1 h2 (decide_eq_true h3) fun j y a b c => decide_eq_false (h4 j y a b c)
      rw [e] at f1 f2
      exact hQ _ _ ⟨x, t, f1, rfl⟩ ⟨p' + 1, f2, h5⟩ (moved_of (fun b o hb eb => h6 b o (by simpa using hb) eb) h7)
    · have := filt_end (q := fun x => decide (x ∈ ss2)) fun j y a c => decide_eq_false (h1 j y a c)
      omega
  done := fun s Q E ⟨p, e, st⟩ hQ => by
    refine fil_next hh hi hI st (fun p' x t h' tk h1 h2 h3 h4 h5 h6 h7 => ?_) fun h' tk h1 h2 h3 => ?_
    · obtain ⟨f1, f2⟩ := filt_found (q := fun x => decide (x ∈ ss2)) h1 h2 (decide_eq_true h3) fun j y a b c => decide_eq_false (h4 j y a b c)
      rw [e] at f1
      have := (List.getElem?_eq_some_iff.mp f1).1
      omega
    · exact hQ _ (moved_of (fun b o hb eb => h2 b o (by simpa using hb) eb) h3)
  self := fun i s Q E ⟨p, e, st⟩ hQ => by
    refine wpAny_pyIter_slot (T := "filter") ⟨_, st.f.m, rfl⟩ slot_filter_iter (wpAny_call_entry slot_filter_iter ⟨_, st.f.m, rfl⟩ entry_filter_iter ?_ (args_filter_iter _))
    show wpAny _ _ (ret (.ref F)) _ _ s
    exact wpAny_pure ⟨_, rfl, "filter", _, ⟨_, st.f.m, rfl⟩, slot_filter_next.lookup, hQ⟩
end

section
variable {prog : Program} {w : World} {A : Around} {E : Value → Shared → Prop} {s : Shared}
variable {I : Addr} {fp wr : List Addr} {G : Array GenState → Array GenState → Prop} {n : Nat} {P : Nat → Value → Prop} {St : Nat → Shared → Prop}
/-- list(what an iterator gives) -/
theorem call_list_any {T : String} {Q : Value → Shared → Prop} (W : WalksS prog w A.in1.in1 I fp wr G n P St) (hT : ∀ i s, St i s → s.TypeIs (.ref I) T) (no_len : typeLookup (.type T) "__len__" = pure none) (no_hint : typeLookup (.type T) "__length_hint__" = pure none)
    (hTl : (Value.type T == Value.type "list") = false) (hTt : (Value.type T == Value.type "tuple") = false) (hst : St 0 s) (hfp : ∀ b ∈ fp, b < s.heap.objs.size) (hI : I ∈ fp)
    (hQ : ∀ s' acc' c', Moved (s.heap.objs.size :: wr) G { s with heap := s.heap.push { cls := .type "list", data := .seq #[] } } s' →
      s'.heap.get? s.heap.objs.size = some { cls := .type "list", dict := none, data := .seq acc' c', slots := #[] } → ItemsOf P acc' n → Q (.ref s.heap.objs.size) s') (hn : n ≤ 100000) :
    wpAny (model prog w) A (call (.type "list") [.ref I]) Q E s := by
  have hSf : s.heap.objs.size ∉ fp := fun hm => Nat.lt_irrefl _ (hfp _ hm)
  refine callType_codes (Q₁ := fun obj s₁ => obj = .ref s.heap.objs.size ∧ s₁ = { s with heap := s.heap.push { cls := .type "list", data := .seq #[] } }) F.called_list (F.typeCall_list_1 _) F.entry_list_init
    (code_list_new _ ⟨rfl, rfl⟩) fun obj s₁ h₁ => ?_
  obtain ⟨rfl, rfl⟩ := h₁
  have hS : (s.heap.push { cls := .type "list", data := .seq #[] }).get? s.heap.objs.size = some { cls := .type "list", data := .seq #[] } := Heap.get?_push_size _ rfl
  refine ⟨⟨_, hS, rfl⟩, F.args_list_init_2 _ _, ?_⟩
  have hst1 := W.frame 0 s (s.heap.push { cls := .type "list", data := .seq #[] }) s.toks hst (Nat.le_refl _) fun b _ o e => Heap.get?_push_of_some _ e
  generalize s.heap.objs.size = S at hSf hS hQ ⊢
  show wpAny _ A.in1.in1 (do let old ← Builtin.List.listItems (.ref S); Builtin.List.listUpdate (.ref S) (fun _ => #[]); letGo old.toList.reverse; Builtin.List.listExtendWith (.ref S) (.ref I) .none) _ _ _
  refine wpAny_bind ?_
  unfold Builtin.List.listItems
  refine wpAny_bind (wpAny_seqItems hS rfl (wpAny_pure ?_))
  show wpAny _ A.in1.in1 (updateSeq S (fun _ => #[]) >>= fun _ => letGo (#[] : Array Value).toList.reverse >>= fun _ => Builtin.List.listExtendWith (.ref S) (.ref I) .none) _ _ _
  refine wpAny_bind (wpAny_updateSeq hS rfl ?_)
  have hS₂ := Heap.get?_update_self (Obj.mapSeq (fun _ => (#[] : Array Value))) hS rfl
  have oth : ∀ b o, b ≠ S → (s.heap.push { cls := .type "list", data := .seq #[] }).get? b = some o → ((s.heap.push { cls := .type "list", data := .seq #[] }).update S (Obj.mapSeq (fun _ => (#[] : Array Value)))).get? b = some o :=
    fun b o hb e => (Heap.get?_update_other _ _ (Ne.symm hb)).trans e
  refine wpAny_bind (wpAny_letGo ?_)
  refine extend_any (A := A.in1) W hT no_len no_hint hTl hTt S .none 0 #[] _ (Nat.zero_le _) (W.frame 0 _ _ s.toks hst1 (Nat.le_refl _) fun b hb o e => oth b o (fun h => hSf (h ▸ hb)) e) hSf hI (ItemsOf.nil P) hS₂ (fun s' acc' c' hm hS' hacc => ?_) hn
  exact ⟨rfl, hQ s' acc' c' (Moved.trans W.gtrans ((Moved.refl W.grefl).then_heap (Nat.le_refl _) fun b o hb e => oth b o (fun h => hb (h ▸ List.mem_cons_self)) e) hm) hS' hacc⟩
end
end Mine
end

noncomputable section
open PySem PySem.W PySem.Calls PyProof.Rows PySem.Spec
namespace Mine
open PySem.SeqAt

section
variable {prog : Program} {w : World} {H : Heap} {A : Around} {X : AS} {s : Shared} {env : Env} {ρ : Rho} {E : Value → Shared → Prop}
theorem filt_rdl {X : AS} {h : Heap} : ∀ {us : List Value} {ks : List Str}, us.length = ks.length → (∀ (i : Nat) (v : Value), us[i]? = some v → ∃ x t, ks[i]? = some x ∧ v = Value.str x t) → RdL X h us (dS ks)
  | [], [], _, _ => .nil
  | v :: us, k :: ks, hl, h => by
    obtain ⟨x, t, hx, hv⟩ := h 0 v rfl
    simp at hx; subst hx; subst hv
    exact .cons (.str _ _) (filt_rdl (by simpa using hl) fun i v hv => by simpa using h (i + 1) v (by simpa using hv))
  | [], _ :: _, hl, _ => by simp at hl
  | _ :: _, [], hl, _ => by simp at hl

/-- list(filter(set(e2).__contains__, e1)) -/
theorem Ev.keepIn {n : Nat} (R : Room A n) {lp fp sp scp ap fcp pos : Pos} {e1 e2 : PySem.Expr} {ss ss2 : List Str} (h1 : Ev prog w H A env ρ e1 (.list (dS ss))) (h2 : Ev prog w H A env ρ e2 (.list (dS ss2))) (hl : Ev prog w H A env ρ (.Name "list" lp) (.val (.type "list")))
    (hf : Ev prog w H A env ρ (.Name "filter" fp) (.val (.type "filter"))) (hs : Ev prog w H A env ρ (.Name "set" sp) (.val (.type "set"))) (n1 : noStar [e1] = true) (n2 : noStar [e2] = true) (hz : ss.length ≤ 1000) (hz2 : ss2.length ≤ 1000)
    (he : eval (.Attribute (.Call (.Name "set" sp) [e2] [] scp) "__contains__" ap) env = (do
      let o ← eval (.Call (.Name "set" sp) [e2] [] scp) env
      standAt ap.atName
      let r ← holding [o] (getAttr o "__contains__" true)
      letTemporaryGo (.Call (.Name "set" sp) [e2] [] scp) o r
      pure r)) :
    Ev prog w H A env ρ (.Call (.Name "list" lp) [.Call (.Name "filter" fp) [.Attribute (.Call (.Name "set" sp) [e2] [] scp) "__contains__" ap, e1] [] fcp] [] pos) (.list (dS (ss.filter fun x => decide (x ∈ ss2)))) := by
  refine ⟨fun X s F Q E h => ?_⟩
  have hno : noStar [.Attribute (.Call (.Name "set" sp) [e2] [] scp) "__contains__" ap, e1] = true := by
    cases e1 <;> first | rfl | exact n1
  rw [nameCall (x := "list") (p := lp) _ pos env]
  refine wpAny_bind (hl.run X s F _ _ fun fv s₁ k₁ r₁ => ?_)
  obtain rfl := r₁.inv
  rw [star_trees env pos _ rfl]
  refine PySem.callWith_type (trees_plain env _) (evalArgs_trees (spliced_cons ?_))
  rw [nameCall (x := "filter") (p := fp) _ fcp env]
  have F₁ := F.keeps k₁
  refine wpAny_bind (hf.run X s₁ F₁ _ _ fun fv s₂ k₂ r₂ => ?_)
  obtain rfl := r₂.inv
  rw [star_trees env fcp _ hno]
  refine PySem.callWith_type (trees_plain env _) (evalArgs_trees (spliced_cons ?_))
  refine Attribute_any_ ?_ he
  rw [nameCall (x := "set") (p := sp) _ scp env]
  have F₂ := F₁.keeps k₂
  refine wpAny_bind (hs.run X s₂ F₂ _ _ fun fv s₃ k₃ r₃ => ?_)
  obtain rfl := r₃.inv
  rw [star_trees env scp _ n2]
  have F₃ := F₂.keeps k₃
  refine PySem.callWith_type (trees_plain env _) (evalArgs_trees (spliced_cons (h2.run X s₃ F₃ _ _ fun u s₄ k₄ r₄ => spliced_nil ?_)))
  have F₄ := F₃.keeps k₄
  obtain ⟨l2, vs2, rfl, hx2, hp2, hl2⟩ := r₄.inv
  have hn2 := hl2.length
  rw [dS, List.length_map] at hn2
  refine call_set_strs R.handled hp2.isList (rdl_strs hl2) (by unfold scanBound; omega) fun h5 tk5 hset kset => ?_
  rw [hn2] at hset
  have k5 : Keeps s₄ { s₄ with heap := h5, toks := tk5 } := kMk fun b o e => kset b o (Heap.lt_size e) e
  have F₅ := F₄.keeps k5
  obtain ⟨nS, hnS, oS, esS, epS, tbS, hoS, hexS, hdS, restS⟩ := id hset
  refine sc_attr (h := h5) (g := s₄.gens) (d := s₄.drawn) (t := tk5) (os := s₄.os) hoS hexS.1 hexS.2.1 hdS ?_
  have hSlt : s₄.heap.objs.size < h5.objs.size := Heap.lt_size hoS
  generalize s₄.heap.objs.size = S at hset hoS hSlt ⊢
  have F₆ := F₅.keeps (s' := ⟨h5.push (bmObj S), s₄.gens, s₄.drawn, tk5 + 1, s₄.os⟩) ⟨_, tk5 + 1, rfl, fun b o e => Heap.get?_push_of_some _ e⟩
  have k16 : Keeps s₁ ⟨h5.push (bmObj S), s₄.gens, s₄.drawn, tk5 + 1, s₄.os⟩ := kTrans (kTrans (kTrans (kTrans k₂ k₃) k₄) k5) ⟨_, tk5 + 1, rfl, fun b o e => Heap.get?_push_of_some _ e⟩
  have eB : (⟨h5.push (bmObj S), s₄.gens, s₄.drawn, tk5 + 1, s₄.os⟩ : Shared).heap.get? h5.objs.size = some (bmObj S) := Heap.get?_push_size _ rfl
  have eS : SetN prog w (⟨h5.push (bmObj S), s₄.gens, s₄.drawn, tk5 + 1, s₄.os⟩ : Shared).heap S ss2 ss2.length := ⟨nS, hnS, oS, esS, epS, tbS, Heap.get?_push_of_some _ hoS, hexS, hdS, restS⟩
  generalize h5.objs.size = B at hSlt eB ⊢
  generalize (⟨h5.push (bmObj S), s₄.gens, s₄.drawn, tk5 + 1, s₄.os⟩ : Shared) = s6 at F₆ k16 eB eS ⊢
  show wpAny (model prog w) A (spliced (trees [e1] env)) _ _ s6
  refine spliced_cons (h1.run X s6 F₆ _ _ fun u s7 k7 r7 => spliced_nil ?_)
  have F₇ := F₆.keeps k7
  obtain ⟨l1, vs1, rfl, hx1, hp1, hl1⟩ := r7.inv
  have kk7 := kKeep k7
  have hn1 := hl1.length
  rw [dS, List.length_map] at hn1
  refine call_filter hp1.isList fun h8 hfil hk8 => spliced_nil ?_
  have eB7 := kk7 _ _ eB
  have eS7 : SetN prog w s7.heap S ss2 ss2.length := by
    obtain ⟨n, hn, o, es, ep, t, ho, rest⟩ := eS
    exact ⟨n, hn, o, es, ep, t, kk7 _ _ ho, rest⟩
  obtain ⟨m1, em1⟩ := hp1
  have lB := Heap.lt_size eB7
  have lS : S < s7.heap.objs.size := by obtain ⟨n, hn, o, es, ep, t, ho, rest⟩ := eS7; exact Heap.lt_size ho
  have ll := Heap.lt_size em1
  have lF := Heap.lt_size hfil.m
  have k8 : Keeps s7 { s7 with heap := h8 } := kMk hk8
  have hFI : s7.heap.objs.size ≠ s7.heap.objs.size + 1 := Nat.ne_of_lt (Nat.lt_succ_self _)
  have st0 : FSt prog w h8 (s7.heap.objs.size + 1) s7.heap.objs.size l1 B S vs1 ss2 0 := ⟨hfil, hk8 _ _ eB7, by
    obtain ⟨n, hn, o, es, ep, t, ho, rest⟩ := eS7
    exact ⟨n, hn, o, es, ep, t, hk8 _ _ ho, rest⟩⟩
  have Wf := filter_walks (prog := prog) (w := w) (A := A.in1.in1) (F := s7.heap.objs.size + 1) (I := s7.heap.objs.size) (l := l1) (B := B) (S := S) (ss2 := ss2) (by exact R.handled) (rdl_strs hl1) ⟨hFI, Nat.ne_of_gt ll, Nat.ne_of_gt lB, Nat.ne_of_gt lS⟩
  have lI : s7.heap.objs.size < h8.objs.size := Nat.lt_of_succ_lt lF
  refine call_list_any (s := { s7 with heap := h8 }) (T := "filter") Wf (fun i s ⟨p, _, st⟩ => ⟨_, st.f.m, rfl⟩) filter_no_len filter_no_hint (by decide) (by decide) ⟨0, by simp, st0⟩ (fun b hb => ?_) (by simp) (fun s9 acc c mv hL hacc => ?_) (Nat.le_trans (List.length_filter_le _ _) (by omega))
  · simp only [List.mem_cons, List.not_mem_nil, or_false] at hb
    rcases hb with rfl | rfl | rfl | rfl | rfl
    · exact lF
    · exact lI
    · exact Nat.lt_trans ll lI
    · exact Nat.lt_trans lB lI
    · exact Nat.lt_trans lS lI
  · have kk9 : ∀ b o, s7.heap.get? b = some o → s9.heap.get? b = some o := fun b o e => mv.heap b o (fun q => by
      rcases List.mem_cons.mp q with q | q
      · have := Nat.lt_trans (Heap.lt_size e) lI
        rw [q] at this; exact Nat.lt_irrefl _ this
      · rw [List.mem_singleton] at q
        have := Heap.lt_size e
        rw [q] at this; exact Nat.lt_irrefl _ this) (Heap.get?_push_of_some _ (hk8 b o e))
    have k79 : Keeps s7 s9 := by
      obtain ⟨_, e1, e2, e3, _⟩ := mv
      obtain ⟨hh, gg, dd, tt, oo⟩ := s9
      exact ⟨hh, tt, by cases e1; cases e2; cases e3; rfl, kk9⟩
    refine h _ s9 (kTrans (kTrans k₁ k16) (kTrans k7 k79)) (.list (vs := acc.toList) (fun q => ?_) ⟨c, by rw [Array.toArray_toList]; exact hL⟩ (filt_rdl (by rw [Array.length_toList]; exact hacc.1) fun i v hv => ?_))
    · have hb := F₇.wd.bound _ q
      exact Nat.lt_irrefl _ (Nat.lt_trans hb lI)
    · exact hacc.2 i v (by simpa using hv)
end
end Mine
end

noncomputable section
open PySem PySem.W PySem.Calls PyProof.Rows PySem.Spec
namespace Mine
open PySem.SeqAt

def frs (outer : List Env) : List Addr := outer.filterMap (·.frame)
/-- the stack above a frame -/
structure Fz (H : Heap) (A : Around) (env : Env) (outer : List Env) (X₀ Z : AS) (s₀ s : Shared) : Prop where
  fr : A.frames = some (env :: outer)
  fn : env.frame = some env.locals
  ff : s.heap.FunFrames H outer
  ox : ∀ a, a ∈ frs outer → X₀ a ∧ Z a ∧ ¬ OwnZ env a
  up : ∀ a o, a ∈ frs outer → s₀.heap.get? a = some o → (∀ vs, o.data ≠ .fields vs) → ∃ sl, s.heap.get? a = some { o with slots := sl }

section
variable {prog : Program} {w : World} {H : Heap} {A : Around} {X₀ X X' Z : AS} {s₀ s s' : Shared} {env : Env} {outer : List Env} {ρ ρ' ρf : Rho} {μ μ' : Mu} {E : Value → Shared → Prop}

def Nz (env : Env) (outer : List Env) : AS := fun b => b = env.locals ∨ b ∈ frs outer
theorem MS.slots (M : MS H X₀ s₀ Z env ρ μ X s) (ox : ∀ a, a ∈ frs outer → X₀ a ∧ Z a ∧ ¬ OwnZ env a) (k : ∀ b o, ¬ Nz env outer b → s.heap.get? b = some o → s'.heap.get? b = some o) (hs : ∃ h' t, s' = { s with heap := h', toks := t })
    (sl : ∀ b o, Nz env outer b → s.heap.get? b = some o → ∃ sl, s'.heap.get? b = some { o with slots := sl }) : MS H X₀ s₀ Z env ρ μ X s' := by
  have hNX : ∀ b, Nz env outer b → X b := fun b q => q.elim (fun q => q ▸ M.F.xl) fun q => M.sub b (ox b q).1
  have hNZ : ∀ b, Nz env outer b → Z b := fun b q => q.elim (fun q => M.zo b (.inl q)) fun q => (ox b q).2.1
  have kr : ∀ b o, ¬ X b → s.heap.get? b = some o → ¬ X b ∧ s'.heap.get? b = some o := fun b o hx e => ⟨hx, k b o (fun q => hx (hNX b q)) e⟩
  have kr2 : ∀ {v : Value} {d : D}, Rd X s.heap v d → Rd X s'.heap v d := fun r => r.mono kr
  have hcN : ∀ {x c}, env.cells.lookup x = some c → ¬ Nz env outer c := fun hc q => q.elim (M.F.ns_cell hc) fun q => (ox _ q).2.2 (.inr ⟨_, hc⟩)
  have kc : ∀ {x c v}, env.cells.lookup x = some c → s.heap.IsCell c v → s'.heap.IsCell c v := fun hc hv => let ⟨o, ho, hd⟩ := hv; ⟨o, k _ o (hcN hc) ho, hd⟩
  refine ⟨⟨fun a o e => k a o (fun q => ?_) (M.F.base a o e), M.F.bx, fun a q => ?_, M.F.fn, M.F.gl, M.F.bl, M.F.xl, ?_, ?_, ?_, M.F.own, M.F.apart⟩, ?_, M.sub, M.zo, fun a m h => (M.mu a m h).mono kr fun b o hb e => k b o (fun q => ?_) e, M.mx, M.nd, M.low⟩
  · have := M.F.bx a (hNX a q); rw [e] at this; cases this
  · obtain ⟨b, o, l, e⟩ := M.F.live a q
    by_cases z : Nz env outer b
    · obtain ⟨sl, e'⟩ := sl b o z e; exact ⟨b, _, l, e'⟩
    · exact ⟨b, o, l, k b o z e⟩
  · obtain ⟨m, ⟨o, es, ep, ho, hd, r⟩, hr⟩ := M.F.ns
    obtain ⟨sl', e'⟩ := sl _ o (.inl rfl) ho
    exact ⟨m, ⟨_, es, ep, e', hd, r⟩, fun x d e1 e2 => let ⟨v, e3, r⟩ := hr x d e1 e2; ⟨v, e3, kr2 r⟩⟩
  · intro x d e1 e2
    obtain ⟨h1, c, v, h2, h3, h4⟩ := M.F.cells x d e1 e2
    exact ⟨h1, c, v, h2, kc h2 h3, kr2 h4⟩
  · intro x c e
    obtain ⟨h1, v, h2⟩ := M.F.cellX x c e
    exact ⟨h1, v, kc e h2⟩
  · obtain ⟨h1, t1, e1, k1⟩ := M.kept
    have kk := kbKeep M.kept
    obtain ⟨h', t, rfl⟩ := hs
    exact ⟨h', t, by rw [e1], fun b o hb e => k b o (fun q => hb (hNZ b q)) (kk b o hb e)⟩
  · obtain ⟨_, h2, h3, _⟩ := M.mx b (mem_flat h hb)
    exact q.elim (fun q => h3 (.inl q)) fun q => h2 (ox b q).1

theorem flying_keeps {B h h' : Heap} {l : List Env} {e : Addr} {cls a0 : Value} (x : Heap.FlyingW B l e cls a0 h) (k : ∀ b o, h.get? b = some o → h'.get? b = some o) : Heap.FlyingW B l e cls a0 h' := by
  obtain ⟨h1, h2, h3, oe, vs, T, oT, ts, he, hc, hd, hv, hn, hne, hT, hdT, h3'⟩ := x
  exact ⟨fun b o q => k b o (h1 b o q), h2, h3.of_keeps fun b o q _ => ⟨o, k b o q, rfl⟩, oe, vs, T, oT, ts, k _ _ he, hc, hd, hv, hn, hne, k _ _ hT, hdT, h3'⟩

theorem MS.caught {e : Addr} {cls T : String} {h1 : Heap} {tk1 : Nat} {t : PySem.Expr} {b₀ : Stmt} {suite : List Stmt} {pos : Pos} {rest : List ExceptHandler} {Q : Flow → Shared → Prop} (M : MS H X₀ s₀ Z env ρ μ X s) (Z₁ : Fz H A env outer X₀ Z s₀ s) (hH : ∀ a, a ∈ frs (env :: outer) → H.get? a = none) (hk : env.scope.kind ≠ .module)
    (x : Heap.NewExc s.heap h1 e cls) (ht : ∀ A', Ev prog w H A' env ρ t (.val (.type T))) (hexc : isSubtype (.type T) (.type "BaseException") = pure true) (hnt : isSubtype (.type ((Manifest.find? T).elim "type" fun x => x.metatype)) (.type "tuple") = pure false)
    (hsub : isSubtype (.type cls) (.type T) = pure true) (hsuite : ∀ s' E', MS H X₀ s₀ Z env ρ μ X s' → Fz H A env outer X₀ Z s₀ s' → wpAny (model prog w) (A.mark (some (.ref e))) (execs (b₀ :: suite) env) Q E' s') :
    wpAny (model prog w) A (noteFrame (.ref e) env) (fun _ s₂ => wpAny (model prog w) A (setFlight (.ref e) none) (fun _ s₃ => wpAny (model prog w) A (handleBy (.ref e) env (.ExceptHandler (some t) none (b₀ :: suite) pos :: rest)) Q E s₃) E s₂) E { s with heap := h1, toks := tk1 } := by
  obtain ⟨ob, t0, he, hc, hd⟩ := x.there
  have K1 : Keeps s { s with heap := h1, toks := tk1 } := kMk x.keeps
  have M1 := M.keeps K1
  have hef : ∀ b o, s.heap.get? b = some o → b ≠ e := fun b o q z => by rw [z, x.new] at q; cases q
  generalize hBd : hideAll h1 (e :: env.locals :: frs outer) = B
  have hBk : B.StaysIn h1 := fun b o q => by rw [← hBd] at q; exact of_hideAll _ q
  have hBe : B.get? e = none := by rw [← hBd]; exact hideAll_none _ (.head _)
  have hBN : ∀ b, Nz env outer b → B.get? b = none := fun b q => by
    rw [← hBd]
    exact hideAll_none _ (q.elim (fun q => .tail _ (q ▸ .head _)) fun q => .tail _ (.tail _ q))
  have hBs : ∀ b o, ¬ Nz env outer b → s.heap.get? b = some o → B.get? b = some o := fun b o hn q => by
    rw [← hBd]
    exact hideAll_get _ (x.keeps b o q) fun z => by
      rcases List.mem_cons.mp z with z | z
      · exact hef b o q z
      · exact hn ((List.mem_cons.mp z).imp id id)
  have ffs : ∀ {l : List Env} {h : Heap}, h.FunFrames H l → (∀ a, a ∈ frs l → B.get? a = none) → h.FunFrames B l := by
    intro l
    induction l with
    | nil => intro _ _ _; trivial
    | cons a r ih =>
      intro h ⟨hk, ⟨L, o, hf, _, ho, hdt⟩, hr⟩ hq
      have hfr : frs (a :: r) = L :: frs r := by unfold frs; rw [List.filterMap_cons, hf]
      exact ⟨hk, ⟨L, o, hf, hq L (by rw [hfr]; exact .head _), ho, hdt⟩, ih hr fun z hz => hq z (by rw [hfr]; exact .tail _ hz)⟩
  have FF1 : h1.FunFrames B (env :: outer) := by
    obtain ⟨m, ⟨o, es, ep, ho, hdo, r⟩, _⟩ := M1.F.ns
    refine ⟨hk, ⟨env.locals, o, Z₁.fn, hBN _ (.inl rfl), ho, fun vs q => by rw [hdo] at q; cases q⟩, ffs (Z₁.ff.of_keeps fun b o q _ => ⟨o, x.keeps b o q, rfl⟩) fun a ha => hBN a (.inr ha)⟩
  -- what a step leaves
  have land : ∀ {s₂ : Shared}, (∃ h' t, s₂ = { s with heap := h', toks := t }) → B.StaysIn s₂.heap → (∀ b o, h1.get? b = some o → (∀ vs, o.data ≠ .fields vs) → ∃ sl, s₂.heap.get? b = some { o with slots := sl }) → s₂.heap.FunFrames B (env :: outer) →
      MS H X₀ s₀ Z env ρ μ X s₂ ∧ Fz H A env outer X₀ Z s₀ s₂ := by
    intro s₂ hs hst hup hff
    have nf : ∀ b o, Nz env outer b → s.heap.get? b = some o → ∀ vs, o.data ≠ .fields vs := fun b o q ho vs z => by
      rcases q with q | q
      · obtain ⟨m, ⟨o', es, ep, ho', hd', r⟩, _⟩ := M.F.ns
        rw [q, ho'] at ho; cases ho; rw [hd'] at z; cases z
      · obtain ⟨_, o', ho', hn'⟩ := Z₁.ff.mem (b := b) q
        rw [ho'] at ho; cases ho; exact hn' vs z
    refine ⟨M.slots Z₁.ox (fun b o hn q => hst b o (hBs b o hn q)) hs fun b o q ho => hup b o (x.keeps b o ho) (nf b o q ho), Z₁.fr, Z₁.fn, ?_, Z₁.ox, fun a o ha q hn => ?_⟩
    · have : ∀ {l : List Env}, s₂.heap.FunFrames B l → (∀ a, a ∈ frs l → H.get? a = none) → s₂.heap.FunFrames H l := by
        intro l
        induction l with
        | nil => intro _ _; trivial
        | cons a r ih =>
          intro ⟨hk, ⟨L, o, hf, _, ho, hdt⟩, hr⟩ hq
          have hfr : frs (a :: r) = L :: frs r := by unfold frs; rw [List.filterMap_cons, hf]
          exact ⟨hk, ⟨L, o, hf, hq L (by rw [hfr]; exact .head _), ho, hdt⟩, ih hr fun z hz => hq z (by rw [hfr]; exact .tail _ hz)⟩
      exact this hff.2.2 fun a ha => hH a (by
        have hfr : frs (env :: outer) = env.locals :: frs outer := by unfold frs; rw [List.filterMap_cons, Z₁.fn]
        rw [hfr]; exact .tail _ ha)
    · obtain ⟨sl, e1⟩ := Z₁.up a o ha q hn
      obtain ⟨sl2, e2⟩ := hup a _ (x.keeps _ _ e1) hn
      exact ⟨sl2, e2⟩
  unfold noteFrame
  simp only [Z₁.fn]
  refine wpAny_bind (wpAny_field he hd (x := .none) rfl ?_)
  rw [if_neg (by decide)]
  refine wpAny_newEntryW Z₁.fr FF1 Z₁.fn he hBk hBe hd (by show 1 < 6; decide) (a0 := t0) rfl fun h2 hL => ?_
  obtain ⟨q1, q2, q3, q4⟩ := hL
  rw [hc] at q3
  have fl2 : Heap.FlyingW B (env :: outer) e (.type cls) t0 h2 := ⟨q1, hBe, q2, q3⟩
  obtain ⟨M2, Z2⟩ := land (s₂ := { s with heap := h2, toks := tk1 }) ⟨h2, tk1, rfl⟩ q1 q4 q2
  refine wpAny_handleBy_builtin (X := cls) (T := T) (b := true) hexc hnt hsub ?_
  refine (ht _).run X _ M2.F _ _ fun c s3 k3 r3 => ?_
  obtain rfl := r3.inv
  obtain ⟨h3, tk3, rfl, hk3⟩ := k3
  have fl3 := flying_keeps fl2 hk3
  obtain ⟨oe, hoe, hoc⟩ := fl3.there
  refine ⟨rfl, ⟨oe, hoe, hoc⟩, ?_⟩
  refine lands_againW fl3 fun h4 fl4 up4 => ?_
  obtain ⟨M4, Z4⟩ := land (s₂ := { s with heap := h4, toks := tk3 }) ⟨h4, tk3, rfl⟩ fl4.1 (fun b o q hn => by
    obtain ⟨sl, e2⟩ := q4 b o q hn
    obtain ⟨sl', e4⟩ := up4 b _ (hk3 b _ e2) hn
    exact ⟨sl', e4⟩) fl4.2.2.1
  exact hsuite _ _ M4 Z4
end
end Mine
end

noncomputable section
open PySem PySem.W PySem.Calls PyProof.Rows PySem.Spec
namespace Mine
open PySem.SeqAt

section
variable {prog : Program} {w : World} {H : Heap} {A : Around} {X₀ X X' Z : AS} {s₀ s s' : Shared} {env : Env} {outer : List Env} {ρ ρ' ρf : Rho} {μ μ' : Mu} {E : Value → Shared → Prop}

theorem MS.upd' {l : Addr} {ds ds' : List D} {f : Array Value → Array Value} {vs vs' : List Value} (M : MS H X₀ s₀ Z env ρ μ X s) (p : Put l (.list ds) (.list ds') μ μ') {n : Nat} (hn : s.heap.get? l = some { cls := .type "list", data := .seq vs.toArray n }) (hf : f vs.toArray = vs'.toArray) (hl : RdL X s.heap vs' ds') :
    MS H X₀ s₀ Z env ρ μ' X { s with heap := s.heap.update l (Obj.mapSeq f) } := by
  have hs : Heap.SameBut l s.heap (s.heap.update l (Obj.mapSeq f)) := Heap.SameBut.update ..
  refine M.put p rfl (List.mem_singleton.mpr rfl) (fun b o hb e => hs.extBut b o hb e) ⟨_, s.toks, rfl⟩ fun k kl => ?_
  have q : IsL (s.heap.update l (Obj.mapSeq f)) l (f vs.toArray) _ := IsL.update (x := hn) f
  rw [hf] at q
  exact .list ⟨_, q⟩ (kl _ _ hl)
theorem MS.mono' {c : Addr} (M : MS H X₀ s₀ Z env ρ μ X s) (hc : X c) {f : Obj → Obj} {v : Value} {d : D} (r : Rd X s.heap v d) : Rd X (s.heap.update c f) v d := r.sameBut hc (Heap.SameBut.update ..)

theorem rdl_split {h : Heap} : ∀ {vs : List Value} {ds : List D} {d : D}, RdL X h vs (ds ++ [d]) → ∃ us v, vs = us ++ [v] ∧ RdL X h us ds ∧ Rd X h v d
  | _, [], d, r => by obtain ⟨v, rfl, r'⟩ := one r; exact ⟨[], v, rfl, .nil, r'⟩
  | _, e :: ds, d, r => by
    obtain ⟨_, _, rfl, a, b⟩ := r.inv
    obtain ⟨us, v, rfl, r1, r2⟩ := rdl_split b
    exact ⟨_ :: us, v, rfl, .cons a r1, r2⟩

theorem MS.pop {l : Addr} {ds : List D} {d : D} (M : MS H X₀ s₀ Z env ρ μ X s) (p : Put l (.list (ds ++ [d])) (.list ds) μ μ') (hz : ds.length ≤ 10000) {Q : Value → Shared → Prop} (h : ∀ v s', MS H X₀ s₀ Z env ρ μ' X s' → Rd X s'.heap v d → Q v s') :
    wpAny (model prog w) A (call (.builtin "list.pop") [.ref l]) Q E s := by
  have M' := M
  cases M.mu l _ p.mem with | @list vs _ hp hl =>
  obtain ⟨us, v, rfl, r1, r2⟩ := rdl_split hl
  have hn := r1.length
  obtain ⟨n, e⟩ := hp
  have hk : (us ++ [v]).toArray.size - 1 = us.length := by rw [List.size_toArray, List.length_append]; rfl
  refine call_meets PySem.F.slot_list_pop ⟨_, e, rfl⟩ PySem.F.entry_list_pop (PySem.F.args_list_pop_1 _) (PySem.MeetsSeq.list_pop_last l _ n v (by rw [hk]; simp) (by rw [List.size_toArray, List.length_append, hn]; exact Nat.le_trans (by simp; omega : _ ≤ 10001) (by decide))) ⟨e, h v _ (M'.upd' p e (vs' := us) ?_ r1) (M.mono' (M.mx l (mem_flat p.mem (List.mem_singleton.mpr rfl))).1 r2)⟩
  show (us ++ [v]).toArray.eraseIdxIfInBounds ((us ++ [v]).toArray.size - 1) = us.toArray
  rw [hk, kl_erase, List.append_nil]

theorem eqGives_str (a b : Str) (t u : Tok) : MeetsSeq.EqGives (.str a t) (.str b u) (a == b) := fun prog w A E s Q h => EqAt.str_str a t b u (A := A) (s := s) prog w E Q h
def eqS (x : Str) : Value → Bool
  | .str b _ => b == x
  | _ => false
theorem rdl_erase {h : Heap} {x : Str} : ∀ {vs : List Value} {act : List Str}, RdL X h vs (dS act) → x ∈ act → ∃ j, ∃ hj : j < vs.length, eqS x vs[j] = true ∧ (∀ m (hm : m < vs.length), m < j → eqS x vs[m] = false) ∧ RdL X h (vs.eraseIdx j) (dS (act.erase x))
  | _, [], _, hx => nomatch hx
  | _, a :: act, r, hx => by
    obtain ⟨_, _, rfl, r1, r2⟩ := r.inv
    obtain ⟨t, rfl⟩ := rd_isStr r1
    by_cases q : a = x
    · subst q
      refine ⟨0, by simp, by simp [eqS], fun m _ hm => absurd hm (Nat.not_lt_zero _), ?_⟩
      simpa using r2
    · have hx' : x ∈ act := by rcases List.mem_cons.mp hx with z | z; exact absurd z.symm q; exact z
      obtain ⟨j, hj, h1, h2, h3⟩ := rdl_erase r2 hx'
      refine ⟨j + 1, by simp; omega, by simpa using h1, fun m hm hlt => ?_, ?_⟩
      · cases m with
        | zero => show (a == x) = false; simpa using q
        | succ m => simpa using h2 m (by simpa using hm) (by omega)
      · rw [List.erase_cons_tail (by simpa using q)]
        exact .cons (.str _ _) h3
theorem rdl_eqs {h : Heap} {x : Str} {t : Tok} {vs : List Value} {act : List Str} (r : RdL X h vs (dS act)) : ∀ y, y ∈ vs.toArray → MeetsSeq.EqGives y (.str x t) (eqS x y) := by
  intro y hy
  obtain ⟨d, hd, rd⟩ := rdl_mem r y (by simpa using hy)
  obtain ⟨b, _, rfl⟩ := List.mem_map.mp hd
  obtain ⟨u, rfl⟩ := rd_isStr rd
  exact eqGives_str b x u t

theorem MS.remove {l : Addr} {act : List Str} {x : Str} {t : Tok} (M : MS H X₀ s₀ Z env ρ μ X s) (p : Put l (.list (dS act)) (.list (dS (act.erase x))) μ μ') (hx : x ∈ act) (hz : act.length ≤ 10000) {Q : Value → Shared → Prop} (h : ∀ s', MS H X₀ s₀ Z env ρ μ' X s' → Q .none s') :
    wpAny (model prog w) A (call (.builtin "list.remove") [.ref l, .str x t]) Q E s := by
  have M' := M
  cases M.mu l _ p.mem with | @list vs _ hp hl =>
  obtain ⟨j, hj, h1, h2, h3⟩ := rdl_erase hl hx
  obtain ⟨n, e⟩ := hp
  have hn := hl.length
  rw [dS, List.length_map] at hn
  refine call_meets PySem.F.slot_list_remove ⟨_, e, rfl⟩ PySem.F.entry_list_remove (PySem.F.args_list_remove_2 _ _) (PySem.MeetsSeq.list_remove l vs.toArray n (.str x t) (eqS x) (rdl_eqs hl) j (by simpa using hj) (by simpa using h1) (fun m hm hlt => by simpa using h2 m (by simpa using hm) hlt) (by rw [List.size_toArray, hn]; exact Nat.le_trans hz (by decide))) ⟨e, h _ (M'.upd' p e (vs' := vs.eraseIdx j) ?_ h3)⟩
  simp [Array.eraseIdxIfInBounds, hj]
theorem MS.removeNone {l : Addr} {act : List Str} {x : Str} {t : Tok} (M : MS H X₀ s₀ Z env ρ μ X s) (hl : (l, .list (dS act)) ∈ μ) (hx : x ∉ act) (hA : A.handled = none) {Q : Value → Shared → Prop} (h : ∀ h' tk e, Heap.NewExc s.heap h' e "ValueError" → E (.ref e) { s with heap := h', toks := tk }) :
    wpAny (model prog w) A (call (.builtin "list.remove") [.ref l, .str x t]) Q E s := by
  cases M.mu l _ hl with | @list vs _ hp hl =>
  obtain ⟨n, e⟩ := hp
  refine call_meets PySem.F.slot_list_remove ⟨_, e, rfl⟩ PySem.F.entry_list_remove (PySem.F.args_list_remove_2 _ _) (PySem.MeetsSeq.list_remove_none l vs.toArray n (.str x t) (eqS x) (rdl_eqs hl) fun m hm => ?_) ⟨e, by exact hA, fun h' tk e x => h h' tk e x⟩
  have hm' : m < vs.length := by simpa using hm
  obtain ⟨d, hd, rd⟩ := hl.get' (List.getElem?_eq_getElem hm')
  rw [dS, List.getElem?_map] at hd
  cases hq : act[m]? with
  | none => rw [hq] at hd; cases hd
  | some y =>
    rw [hq] at hd; cases hd
    obtain ⟨u, hu⟩ := rd_isStr rd
    have : vs.toArray[m] = .str y u := by simpa using hu
    rw [this]
    show (y == x) = false
    have hne : y ≠ x := fun z => hx (z ▸ List.mem_of_getElem? hq)
    simpa using hne
end
end Mine
end

noncomputable section
open PySem PySem.W PySem.Calls PyProof.Rows PySem.Spec
namespace Mine
open PySem.SeqAt

/-- a new exception, with a context -/
structure NewE (h h' : Heap) (e : Addr) (cls : String) (c : Value) : Prop where
  keeps : ∀ b o, h.get? b = some o → h'.get? b = some o
  new : h.get? e = none
  there : ∃ ob t, h'.get? e = some ob ∧ ob.cls = .type cls ∧ ob.data = .fields #[t, .none, c, .none, .bool false, .none]
theorem NewE.of {h h' : Heap} {e : Addr} {cls : String} (x : Heap.NewExc h h' e cls) : NewE h h' e cls .none := ⟨x.keeps, x.new, x.there⟩

/-- what is handled: nothing, or an exception without a context -/
inductive Hd (A : Around) (h : Heap) : Value → Prop
  | none : A.handled = none → Hd A h .none
  | some {a : Addr} {o : Obj} {vs : Array Value} : A.handled = some (.ref a) → h.get? a = some o → o.data = .fields vs → vs[2]? = some .none → Hd A h (.ref a)

theorem entry_unchain : entryFor table "proto.unchain" = some Builtin.«proto.unchain» := entryFor_of_tree (by kernel_rfl)

section
variable {α : Type} {prog : Program} {w : World} {A : Around} {E : Value → Shared → Prop} {s : Shared}

theorem raiseNew_hd {c : Value} {e : Addr} {ob : Obj} {t : Value} {cls : String} {Q : α → Shared → Prop} {h0 : Heap} (hd : Hd A h0 c) (k : ∀ b o, h0.get? b = some o → s.heap.get? b = some o) (hn : h0.get? e = none)
    (he : s.heap.get? e = some ob) (hc : ob.cls = .type cls) (hdt : ob.data = .fields #[t, .none, .none, .none, .bool false, .none])
    (h : ∀ h' ob', (∀ b o, b ≠ e → s.heap.get? b = some o → h'.get? b = some o) → h'.get? e = some ob' → ob'.cls = .type cls → ob'.data = .fields #[t, .none, c, .none, .bool false, .none] → E (.ref e) { s with heap := h' }) : wpAny (model prog w) A (raiseNew (.ref e) : Sem α) Q E s := by
  cases hd with
  | none hh => exact wpAny_raiseNew_none hh (h s.heap ob (fun b o _ q => q) he hc hdt)
  | @some a o vs hh ho hod h2 =>
    have ha : s.heap.get? a = some o := k a o ho
    have hae : a ≠ e := fun q => by rw [q, hn] at ho; cases ho
    unfold raiseNew
    refine wpAny_bind (wpAny_handled ?_)
    rw [hh]
    dsimp only
    rw [if_pos (by simpa using hae)]
    refine wpAny_bind (wpAny_holding (wpAny_runValue (codeAny_builtin entry_unchain ?_)))
    unfold Builtin.«proto.unchain»
    dsimp only
    refine wpAny_bind (wpAny_field ha hod h2 ?_)
    rw [if_pos (by decide)]
    refine wpAny_pure ?_
    show wpAny (model prog w) A (do updateField e 2 (Value.ref a); throw (Value.ref e)) Q E s
    refine wpAny_bind (show wpAny (model prog w) A (updateField e 2 (Value.ref a)) _ _ _ from wpAny_setField (a := e) he hdt (by show 2 < 6; decide) (wpAny_throw ?_))
    refine h _ _ (fun b o hb q => (Heap.get?_update_other _ _ (Ne.symm hb)).trans q) (Heap.get?_update_self _ he (Obj.isFreed_of_fields (Obj.data_mapFields hdt _))) ((Obj.cls_mapFields _ _).trans hc) (Obj.data_mapFields hdt _)
theorem raiseWords_hd {c : Value} {cls msg : String} {Q : α → Shared → Prop} (hp : PlainExc cls) (hd : Hd A s.heap c) (h : ∀ h' tk e, NewE s.heap h' e cls c → E (.ref e) { s with heap := h', toks := tk }) :
    wpAny (model prog w) A (raiseErrorWords cls msg : Sem α) Q E s := by
  unfold raiseErrorWords
  refine wpAny_bind (wpAny_mkText (wpAny_bind ?_))
  unfold newExc newTuple
  refine wpAny_bind (wpAny_newObj_type ?_)
  refine wpAny_bind (m := firstArgMember _ _) (wpAny_of_eq (a := Value.none) (by simp only [firstArgMember, hp.first]; rfl) ?_)
  rw [hp.own]
  refine wpAny_newObj_type ?_
  generalize hT : ({ cls := .type "tuple", data := .seq #[Value.str (Str.ofString msg) s.toks] } : Obj) = T
  show wpAny (model prog w) A (raiseNew (.ref (s.heap.push T).objs.size)) Q E ⟨(s.heap.push T).push { cls := .type cls, data := .fields #[.ref s.heap.objs.size, .none, .none, .none, .bool false, .none] }, s.gens, s.drawn, s.toks + 1, s.os⟩
  have kp : ∀ b o, s.heap.get? b = some o → ((s.heap.push T).push { cls := .type cls, data := .fields #[.ref s.heap.objs.size, .none, .none, .none, .bool false, .none] }).get? b = some o := fun b o hb => Heap.get?_push_of_some _ (Heap.get?_push_of_some _ hb)
  have hn : s.heap.get? (s.heap.push T).objs.size = none := Heap.get?_none_of_le (by simp)
  refine raiseNew_hd (h0 := s.heap) hd kp hn (Heap.get?_push_size _ rfl) rfl rfl fun h' ob' k1 e1 c1 d1 => h _ _ _ ⟨fun b o hb => k1 b o (fun q => ?_) (kp b o hb), hn, ob', _, e1, c1, d1⟩
  rw [q, hn] at hb
  cases hb
end
section
variable {prog : Program} {w : World} {A : Around} {E : Value → Shared → Prop} {s : Shared}
theorem getItem_list_out {l : Addr} {items : Array Value} {k : Int} {t : Tok} {c : Value} {Q : Value → Shared → Prop} (hl : s.heap.IsList l items) (h0 : 0 ≤ k) (hfit : k < 2 ^ 63) (hx : items[k.toNat]? = none) (hd : Hd A s.heap c)
    (h : ∀ h' tk e, NewE s.heap h' e "IndexError" c → E (.ref e) { s with heap := h', toks := tk }) : wpAny (model prog w) A (getItem (.ref l) (.int k t)) Q E s := by
  obtain ⟨o, ho, hc, ne, hdt⟩ := id hl
  unfold getItem
  try with_reducible refine wpAny_holding ?_
  first | refine wpAny_bind (wpAny_pure ?_) | skip
  refine wpAny_bind (wpAny_sequenceKey hl.typeIs (by decide) ?_)
  refine wpAny_bind (wpAny_callSpecial?_slot (name := Str.ofString "__getitem__") hl.typeIs slot_list_getitem
    (wpAny_call_entry slot_list_getitem hl.typeIs entry_list_getitem ?_ (args_list_getitem _ _)))
  show wpAny _ _ (Builtin.List.listSubscript? (.int k t) >>= _) _ _ s
  refine wpAny_bind (wpAny_listSubscript_int (fitsIndex_of h0 hfit) ?_)
  clear hfit
  obtain ⟨j, rfl⟩ := Int.eq_ofNat_of_zero_le h0
  have hx' : items[j]? = none := hx
  show wpAny _ _ ((seqItemAt l j >>= fun r => pure (r.map (j, ·))) >>= _) _ _ s
  refine wpAny_bind (wpAny_bind (wpAny_seqItemAt ho hdt (wpAny_pure ?_)))
  rw [hx']
  refine wpAny_bind (wpAny_rule ?_)
  refine wpAny_bind (raiseWords_hd plainExc_IndexError ?_ h)
  cases hd with
  | none q => exact .none q
  | some q q1 q2 q3 => exact .some q q1 q2 q3
end
end Mine
end

noncomputable section
open PySem PySem.W PySem.Calls PyProof.Rows PySem.Spec
namespace Mine
open PySem.SeqAt

section
variable {prog : Program} {w : World} {H : Heap} {A : Around} {X₀ X X' Z : AS} {s₀ s s' : Shared} {env : Env} {outer : List Env} {ρ ρ' ρf : Rho} {μ μ' : Mu} {E : Value → Shared → Prop}

/-- an exception with its traceback: both turn, nothing of the state reads them -/
structure Fg (Z : AS) (s₀ : Shared) (env : Env) (outer : List Env) (μ : Mu) (cls : String) (c : Value) (fl : Value) (e T : Addr) (X : AS) (s : Shared) : Prop where
  x : X e ∧ X T
  new : (Z e ∨ s₀.heap.get? e = none) ∧ (Z T ∨ s₀.heap.get? T = none)
  own : ¬ OwnZ env e ∧ ¬ OwnZ env T
  mu : e ∉ flat μ ∧ T ∉ flat μ
  nz : ¬ Nz env outer e ∧ ¬ Nz env outer T
  ne : T ≠ e
  tr : ∃ oe vs oT ts a0, s.heap.get? e = some oe ∧ oe.cls = .type cls ∧ oe.data = .fields vs ∧ vs[0]? = some a0 ∧ vs[1]? = some (.ref T) ∧ vs[2]? = some c ∧ s.heap.get? T = some oT ∧ oT.data = .fields ts ∧ ts[3]? = some fl

theorem frs_cons (hf : env.frame = some env.locals) : frs (env :: outer) = env.locals :: frs outer := by unfold frs; rw [List.filterMap_cons, hf]
theorem nz_frs (hf : env.frame = some env.locals) {b : Addr} : Nz env outer b ↔ b ∈ frs (env :: outer) := by rw [frs_cons hf]; exact List.mem_cons.symm
theorem MS.nzData (M : MS H X₀ s₀ Z env ρ μ X s) (Z₁ : Fz H A env outer X₀ Z s₀ s) {b : Addr} {o : Obj} (q : Nz env outer b) (ho : s.heap.get? b = some o) : ∀ vs, o.data ≠ .fields vs := fun vs z => by
  rcases q with q | q
  · obtain ⟨m, ⟨o', es, ep, ho', hd', r⟩, _⟩ := M.F.ns
    rw [q, ho'] at ho; cases ho; rw [hd'] at z; cases z
  · obtain ⟨_, o', ho', hn'⟩ := Z₁.ff.mem (b := b) q
    rw [ho'] at ho; cases ho; exact hn' vs z
theorem MS.there (M : MS H X₀ s₀ Z env ρ μ X s) {b : Addr} (h : OwnZ env b ∨ b ∈ flat μ) : ∃ o, s.heap.get? b = some o := by
  rcases h with (q | ⟨x, q⟩) | h
  · obtain ⟨m, ⟨o', es, ep, ho', hd', r⟩, _⟩ := M.F.ns
    exact ⟨o', q ▸ ho'⟩
  · obtain ⟨_, v, o, ho, _⟩ := M.F.cellX x b q
    exact ⟨o, ho⟩
  · obtain ⟨⟨a, m⟩, hm, hb⟩ := List.mem_flatMap.mp h
    cases M.mu a m hm with
    | list hp hl =>
      obtain ⟨n, e⟩ := hp
      simp [MO.addrs] at hb
      exact ⟨_, hb ▸ e⟩
    | ent e1 e2 _ _ _ _ =>
      simp [MO.addrs] at hb
      rcases hb with rfl | rfl
      · exact ⟨_, e1⟩
      · exact ⟨_, e2⟩

/-- slots of the frames turn, new addresses come -/
theorem MS.slotsX {N : AS} (M : MS H X₀ s₀ Z env ρ μ X s) (ox : ∀ a, a ∈ frs outer → X₀ a ∧ Z a ∧ ¬ OwnZ env a) (k : ∀ b o, ¬ Nz env outer b → s.heap.get? b = some o → s'.heap.get? b = some o) (hs : ∃ h' t, s' = { s with heap := h', toks := t })
    (sl : ∀ b o, Nz env outer b → s.heap.get? b = some o → ∃ sl, s'.heap.get? b = some { o with slots := sl }) (hN : ∀ b, N b → s.heap.get? b = none ∧ ∃ o, s'.heap.get? b = some o) : MS H X₀ s₀ Z env ρ μ (fun b => X b ∨ N b) s' := by
  have M' := M.slots ox k hs sl
  have old : ∀ b o, s.heap.get? b = some o → ¬ N b := fun b o e q => by rw [(hN b q).1] at e; cases e
  have kr : ∀ b o, ¬ X b → s.heap.get? b = some o → ¬ (X b ∨ N b) ∧ s'.heap.get? b = some o := fun b o hx e => ⟨fun q => q.elim hx (old b o e), k b o (fun q => hx (q.elim (fun q => q ▸ M.F.xl) fun q => M.sub b (ox b q).1)) e⟩
  have hmx := fun b hb => M.mx b hb
  refine ⟨⟨M'.F.base, fun a q => q.elim (M'.F.bx a) fun q => ?_, fun a q => q.elim (M'.F.live a) fun q => ?_, M'.F.fn, M'.F.gl, M'.F.bl, .inl M'.F.xl, ?_, ?_, ?_, M'.F.own, M'.F.apart⟩, M'.kept, fun a h => .inl (M'.sub a h), M'.zo, fun a m h => (M.mu a m h).mono kr fun b o hb e => k b o (fun q => ?_) e, fun b hb => ?_, M'.nd, M'.low⟩
  · cases e : H.get? a with
    | none => rfl
    | some o => have := M.F.base a o e; rw [(hN a q).1] at this; cases this
  · obtain ⟨o, e⟩ := (hN a q).2
    exact ⟨a, o, Nat.le_refl _, e⟩
  · obtain ⟨m, ⟨o, es, ep, ho, hd, r⟩, hr⟩ := M.F.ns
    obtain ⟨sl', e'⟩ := sl _ o (.inl rfl) ho
    exact ⟨m, ⟨_, es, ep, e', hd, r⟩, fun x d e1 e2 => let ⟨v, e3, r⟩ := hr x d e1 e2; ⟨v, e3, r.mono kr⟩⟩
  · intro x d e1 e2
    obtain ⟨h1, c, v, h2, h3, h4⟩ := M.F.cells x d e1 e2
    obtain ⟨o, ho, hd⟩ := h3
    exact ⟨h1, c, v, h2, ⟨o, k _ o (fun q => q.elim (M.F.ns_cell h2) fun q => (ox _ q).2.2 (.inr ⟨_, h2⟩)) ho, hd⟩, h4.mono kr⟩
  · intro x c e
    obtain ⟨h1, v, h2⟩ := M'.F.cellX x c e
    exact ⟨.inl h1, v, h2⟩
  · obtain ⟨_, h2, h3, _⟩ := M.mx b (mem_flat h hb)
    exact q.elim (fun q => h3 (.inl q)) fun q => h2 (ox b q).1
  · obtain ⟨h1, h2, h3, h4⟩ := M.mx b hb
    exact ⟨.inl h1, h2, h3, h4⟩
end
end Mine
end

noncomputable section
open PySem PySem.W PySem.Calls PyProof.Rows PySem.Spec
namespace Mine
open PySem.SeqAt

section
variable {prog : Program} {w : World} {H : Heap} {A : Around} {X₀ X X' Z : AS} {s₀ s s' : Shared} {env : Env} {outer : List Env} {ρ ρ' ρf : Rho} {μ μ' : Mu} {E : Value → Shared → Prop}

theorem Fz.full (Z₁ : Fz H A env outer X₀ Z s₀ s) (M : MS H X₀ s₀ Z env ρ μ X s) (hk : env.scope.kind ≠ .module) : s.heap.FunFrames H (env :: outer) := by
  obtain ⟨m, ⟨o', es, ep, ho', hd', r⟩, _⟩ := M.F.ns
  exact ⟨hk, ⟨env.locals, o', Z₁.fn, M.F.bx _ M.F.xl, ho', fun vs q => by rw [hd'] at q; cases q⟩, Z₁.ff⟩
/-- the frames' facts after a step that turns slots and comes with new addresses -/
theorem Fz.step (Z₁ : Fz H A env outer X₀ Z s₀ s) (sl : ∀ b o, Nz env outer b → s.heap.get? b = some o → ∃ sl, s'.heap.get? b = some { o with slots := sl }) : Fz H A env outer X₀ Z s₀ s' := by
  refine ⟨Z₁.fr, Z₁.fn, ?_, Z₁.ox, fun a o ha q hn => ?_⟩
  · have : ∀ {l : List Env}, s.heap.FunFrames H l → (∀ a, a ∈ frs l → Nz env outer a) → s'.heap.FunFrames H l := by
      intro l
      induction l with
      | nil => intro _ _; trivial
      | cons a r ih =>
        intro ⟨hk, ⟨L, o, hf, hb, ho, hdt⟩, hr⟩ hq
        have hfr : frs (a :: r) = L :: frs r := by unfold frs; rw [List.filterMap_cons, hf]
        obtain ⟨sl', e'⟩ := sl L o (hq L (by rw [hfr]; exact .head _)) ho
        exact ⟨hk, ⟨L, _, hf, hb, e', hdt⟩, ih hr fun z hz => hq z (by rw [hfr]; exact .tail _ hz)⟩
    exact this Z₁.ff fun a ha => .inr ha
  · obtain ⟨sl1, e1⟩ := Z₁.up a o ha q hn
    obtain ⟨sl2, e2⟩ := sl a _ (.inr ha) e1
    exact ⟨sl2, e2⟩

/-- the first note of a fresh exception -/
theorem MS.noteNew {e : Addr} {cls : String} {c : Value} {h1 : Heap} {tk1 : Nat} {Q : Unit → Shared → Prop} (M : MS H X₀ s₀ Z env ρ μ X s) (Z₁ : Fz H A env outer X₀ Z s₀ s) (hk : env.scope.kind ≠ .module) (x : NewE s.heap h1 e cls c)
    (h : ∀ T X' s', MS H X₀ s₀ Z env ρ μ X' s' → Fz H A env outer X₀ Z s₀ s' → Fg Z s₀ env outer μ cls c (rawInt env.locals) e T X' s' → (∀ a, X a → X' a) → Q () s') :
    wpAny (model prog w) A (noteFrame (.ref e) env) Q E { s with heap := h1, toks := tk1 } := by
  obtain ⟨ob, t0, he, hc, hd⟩ := x.there
  have FF := Z₁.full M hk
  have FF1 : h1.FunFrames H (env :: outer) := FF.of_keeps fun b o q _ => ⟨o, x.keeps b o q, rfl⟩
  have hne : ∀ b, Nz env outer b → b ≠ e := fun b q z => by
    obtain ⟨_, o, ho, _⟩ := FF.mem (b := b) ((nz_frs Z₁.fn).mp q)
    rw [z, x.new] at ho; cases ho
  unfold noteFrame
  simp only [Z₁.fn]
  refine wpAny_bind (wpAny_field he hd (x := .none) rfl ?_)
  rw [if_neg (by decide)]
  refine wpAny_bind (wpAny_frameOf_fun Z₁.fr FF1 Z₁.fn fun h₁ hs₁ => ?_)
  refine wpAny_bind (wpAny_entryPlaceOf fun pl hpl => ?_)
  unfold EntryCells.newEntry newFields
  refine wpAny_bind (wpAny_newObj_type ?_ (hpl.sizeOk5 _ _ _ _ _))
  have he₁ : h₁.get? e = some ob := (hs₁.2.1 e fun hm => hne e ((nz_frs Z₁.fn).mpr hm) rfl).trans he
  generalize hTo : ({ cls := .type "traceback", dict := none, data := .fields ([Value.none, .ref env.locals, .none, rawInt env.locals, .none] ++ (if pl.isEmpty then List.replicate 6 Value.none else pl)).toArray } : Obj) = TO
  have hTd : TO.data = .fields ([Value.none, .ref env.locals, .none, rawInt env.locals, .none] ++ (if pl.isEmpty then List.replicate 6 Value.none else pl)).toArray := by rw [← hTo]
  have hTf : TO.isFreed = false := by rw [← hTo]; rfl
  have he₂ : (h₁.push TO).get? e = some ob := Heap.get?_push_of_some TO he₁
  have hsz : 1 < (#[t0, Value.none, c, .none, .bool false, .none] : Array Value).size := by show 1 < 6; decide
  show wpAny (model prog w) A (setField (.ref e) 1 (.ref h₁.objs.size)) Q E ⟨h₁.push TO, s.gens, s.drawn, tk1, s.os⟩
  refine wpAny_setField he₂ hd hsz ?_
  have hTe : h₁.objs.size ≠ e := Nat.ne_of_gt (Heap.lt_size he₁)
  have hd₃ := Obj.data_mapFields hd (·.setIfInBounds 1 (Value.ref h₁.objs.size))
  have he₃ := Heap.get?_update_self (Obj.mapFields (·.setIfInBounds 1 (Value.ref h₁.objs.size))) he₂ (Obj.isFreed_of_fields hd₃)
  have hT₃ := (Heap.get?_update_other (h₁.push TO) (Obj.mapFields (·.setIfInBounds 1 (Value.ref h₁.objs.size))) (Ne.symm hTe)).trans (Heap.get?_push_size h₁ hTf)
  have keep : ∀ b o, b ≠ e → h₁.get? b = some o → ((h₁.push TO).update e (Obj.mapFields (·.setIfInBounds 1 (Value.ref h₁.objs.size)))).get? b = some o := fun b o hbe hb => by
    rw [Heap.get?_update_other _ _ (Ne.symm hbe)]
    exact Heap.get?_push_of_some _ hb
  have hef : ∀ b o, s.heap.get? b = some o → b ≠ e := fun b o q z => by rw [z, x.new] at q; cases q
  have hTn : s.heap.get? h₁.objs.size = none := by
    cases q : s.heap.get? h₁.objs.size with
    | none => rfl
    | some o =>
      obtain ⟨sl, q2⟩ := hs₁.2.2 _ _ (x.keeps _ _ q)
      exact absurd (Heap.lt_size q2) (Nat.lt_irrefl _)
  have k1 : ∀ b o, ¬ Nz env outer b → s.heap.get? b = some o → ((h₁.push TO).update e (Obj.mapFields (·.setIfInBounds 1 (Value.ref h₁.objs.size)))).get? b = some o := fun b o hn q =>
    keep b o (hef b o q) ((hs₁.2.1 b fun hm => hn ((nz_frs Z₁.fn).mpr hm)).trans (x.keeps b o q))
  have sl1 : ∀ b o, Nz env outer b → s.heap.get? b = some o → ∃ sl, ((h₁.push TO).update e (Obj.mapFields (·.setIfInBounds 1 (Value.ref h₁.objs.size)))).get? b = some { o with slots := sl } := fun b o hn q => by
    obtain ⟨sl, q2⟩ := hs₁.2.2 _ _ (x.keeps _ _ q)
    exact ⟨sl, keep b _ (hef b o q) q2⟩
  have hOld : ∀ b, s.heap.get? b = none → ¬ OwnZ env b ∧ b ∉ flat μ ∧ ¬ Nz env outer b := fun b hb => by
    refine ⟨fun q => ?_, fun q => ?_, fun q => ?_⟩
    · obtain ⟨o, ho⟩ := M.there (.inl q); rw [hb] at ho; cases ho
    · obtain ⟨o, ho⟩ := M.there (.inr q); rw [hb] at ho; cases ho
    · obtain ⟨_, o, ho, _⟩ := FF.mem (b := b) ((nz_frs Z₁.fn).mp q); rw [hb] at ho; cases ho
  have h0 : ∀ b, s.heap.get? b = none → Z b ∨ s₀.heap.get? b = none := fun b hb => by
    by_cases hz : Z b
    · exact .inl hz
    right
    cases q : s₀.heap.get? b with
    | none => rfl
    | some o => have := kbKeep M.kept b o hz q; rw [hb] at this; cases this
  obtain ⟨a1, a2, a3⟩ := hOld e x.new
  obtain ⟨b1, b2, b3⟩ := hOld _ hTn
  refine h h₁.objs.size _ ⟨(h₁.push TO).update e (Obj.mapFields (·.setIfInBounds 1 (Value.ref h₁.objs.size))), s.gens, s.drawn, tk1, s.os⟩ (M.slotsX (N := fun b => b = e ∨ b = h₁.objs.size) Z₁.ox k1 ⟨_, tk1, rfl⟩ sl1 fun b hb => ?_) (Z₁.step sl1) ⟨⟨.inr (.inl rfl), .inr (.inr rfl)⟩, ⟨?_, ?_⟩, ⟨a1, b1⟩, ⟨a2, b2⟩, ⟨a3, b3⟩, hTe, ?_⟩ fun a q => .inl q
  · rcases hb with rfl | rfl
    · exact ⟨x.new, _, he₃⟩
    · exact ⟨hTn, _, hT₃⟩
  · exact h0 e x.new
  · exact h0 _ hTn
  · refine ⟨_, _, _, _, t0, he₃, (Obj.cls_mapFields _ _).trans hc, hd₃, rfl, rfl, rfl, hT₃, hTd, ?_⟩
    first | (simp; done) | (rcases hpl with rfl | ⟨_, _, _, _, _, _, _, rfl⟩ <;> simp)

theorem setFlight_any {e T : Addr} {oe oT : Obj} {vs ts : Array Value} {fr : Option Addr} {Q : Unit → Shared → Prop} (he : s.heap.get? e = some oe) (hd : oe.data = .fields vs) (h1 : vs[1]? = some (.ref T)) (hT : s.heap.get? T = some oT) (hdT : oT.data = .fields ts) (hsz : 3 < ts.size)
    (h : Q () { s with heap := s.heap.update T (Obj.mapFields (·.setIfInBounds 3 (fr.elim .none fun f => rawInt f))) }) : wpAny (model prog w) A (setFlight (.ref e) fr) Q E s := by
  unfold setFlight
  refine wpAny_bind (wpAny_field he hd h1 ?_)
  rw [if_pos (show (Value.ref T != Value.none) = true from by simp)]
  exact wpAny_setField hT hdT hsz h

/-- the flight's mark turns -/
theorem Fg.flight {e T : Addr} {cls : String} {c fl : Value} {fr : Option Addr} {Q : Unit → Shared → Prop} (G : Fg Z s₀ env outer μ cls c fl e T X s) (M : MS H X₀ s₀ Z env ρ μ X s) (Z₁ : Fz H A env outer X₀ Z s₀ s)
    (h : ∀ s', MS H X₀ s₀ Z env ρ μ X s' → Fz H A env outer X₀ Z s₀ s' → Fg Z s₀ env outer μ cls c (fr.elim .none fun f => rawInt f) e T X s' → Q () s') : wpAny (model prog w) A (setFlight (.ref e) fr) Q E s := by
  obtain ⟨oe, vs, oT, ts, a0, he, hc, hd, h0, h1, h2, hT, hdT, h3⟩ := G.tr
  have hsz : 3 < ts.size := (Array.getElem?_eq_some_iff.mp h3).1
  refine setFlight_any he hd h1 hT hdT hsz ?_
  generalize hv : (fr.elim Value.none fun f => rawInt f) = v
  rw [hv] at h
  have hd' := Obj.data_mapFields hdT (·.setIfInBounds 3 v)
  have hT' := Heap.get?_update_self (Obj.mapFields (·.setIfInBounds 3 v)) hT (Obj.isFreed_of_fields hd')
  have oth : ∀ b, b ≠ T → (s.heap.update T (Obj.mapFields (·.setIfInBounds 3 v))).get? b = s.heap.get? b := fun b hb => Heap.get?_update_other _ _ (Ne.symm hb)
  refine h _ (M.other (N := fun b => b = T) (fun b hb => ?_) ⟨_, s.toks, rfl, fun b o hb q => (oth b hb).trans q⟩) (Z₁.step fun b o hb q => ⟨o.slots, (oth b fun z => G.nz.2 (z ▸ hb)).trans q⟩) ⟨G.x, G.new, G.own, G.mu, G.nz, G.ne, ⟨oe, vs, _, _, a0, (oth e (Ne.symm G.ne)).trans he, hc, hd, h0, h1, h2, hT', hd', by simp [hsz]⟩⟩
  subst hb
  exact ⟨G.x.2, G.own.2, G.mu.2, G.new.2, _, hT'⟩
theorem Fg.again {e T : Addr} {cls : String} {c : Value} {Q : Unit → Shared → Prop} (G : Fg Z s₀ env outer μ cls c (rawInt env.locals) e T X s) (hf : env.frame = some env.locals) (h : Q () s) : wpAny (model prog w) A (noteFrame (.ref e) env) Q E s := by
  obtain ⟨oe, vs, oT, ts, a0, he, hc, hd, h0, h1, h2, hT, hdT, h3⟩ := G.tr
  exact wpAny_noteFrame_inFlight hf he hd h1 hT hdT h3 h
/-- out of a loop of its own -/
theorem Fg.back {e T : Addr} {cls : String} {c fl : Value} (G : Fg Z s₀ env outer μ cls c fl e T X s) (M : MS H X₀ s₀ Z env ρ μ X s) (Z₁ : Fz H A env outer X₀ Z s₀ s)
    (h : ∀ s', MS H X₀ s₀ Z env ρ μ X s' → Fz H A env outer X₀ Z s₀ s' → Fg Z s₀ env outer μ cls c (rawInt env.locals) e T X s' → E (.ref e) s') : cameBackBy (model prog w) A env E (.ref e) s := by
  obtain ⟨oe, vs, oT, ts, a0, he, hc, hd, h0, h1, h2, hT, hdT, h3⟩ := G.tr
  unfold cameBackBy
  refine wpAny_bind (wpAny_field he hd h1 ?_)
  rw [if_neg (show ¬ ((Value.ref T == Value.none) = true) from by simp)]
  rw [Z₁.fn]
  exact G.flight M Z₁ h
theorem Fg.passOn {α : Type} {e T : Addr} {cls what : String} {c fl : Value} {Q : α → Shared → Prop} (G : Fg Z s₀ env outer μ cls c fl e T X s) (M : MS H X₀ s₀ Z env ρ μ X s) (Z₁ : Fz H A env outer X₀ Z s₀ s)
    (h : ∀ s', MS H X₀ s₀ Z env ρ μ X s' → Fz H A env outer X₀ Z s₀ s' → Fg Z s₀ env outer μ cls c (rawInt env.locals) e T X s' → E (.ref e) s') : wpAny (model prog w) A (PySem.passOn what (.ref e) env : Sem α) Q E s := by
  obtain ⟨oe, vs, oT, ts, a0, he, hc, hd, h0, h1, h2, hT, hdT, h3⟩ := G.tr
  unfold PySem.passOn
  refine wpAny_bind (wpAny_field he hd h1 ?_)
  rw [if_neg (show ¬ ((Value.ref T == Value.none) = true) from by simp)]
  rw [Z₁.fn]
  exact wpAny_bind (G.flight M Z₁ fun s' a b g => wpAny_throw (h s' a b g))
/-- the handler that takes it -/
theorem Fg.handle {e T : Addr} {cls TT : String} {c fl : Value} {t : PySem.Expr} {b₀ : Stmt} {suite : List Stmt} {pos : Pos} {rest : List ExceptHandler} {Q : Flow → Shared → Prop} (G : Fg Z s₀ env outer μ cls c (rawInt env.locals) e T X s) (M : MS H X₀ s₀ Z env ρ μ X s) (Z₁ : Fz H A env outer X₀ Z s₀ s)
    (ht : ∀ A', Ev prog w H A' env ρ t (.val (.type TT))) (hexc : isSubtype (.type TT) (.type "BaseException") = pure true) (hnt : isSubtype (.type ((Manifest.find? TT).elim "type" fun x => x.metatype)) (.type "tuple") = pure false)
    (hsub : isSubtype (.type cls) (.type TT) = pure true) (hsuite : ∀ s' E', MS H X₀ s₀ Z env ρ μ X s' → Fz H A env outer X₀ Z s₀ s' → wpAny (model prog w) (A.mark (some (.ref e))) (execs (b₀ :: suite) env) Q E' s') :
    wpAny (model prog w) A (noteFrame (.ref e) env) (fun _ s₂ => wpAny (model prog w) A (setFlight (.ref e) none) (fun _ s₃ => wpAny (model prog w) A (handleBy (.ref e) env (.ExceptHandler (some t) none (b₀ :: suite) pos :: rest)) Q E s₃) E s₂) E s := by
  refine G.again Z₁.fn (G.flight M Z₁ fun s2 M2 Z2 G2 => ?_)
  refine wpAny_handleBy_builtin (X := cls) (T := TT) (b := true) hexc hnt hsub ?_
  refine (ht _).run X _ M2.F _ _ fun c s3 k3 r3 => ?_
  obtain rfl := r3.inv
  obtain ⟨oe, vs, oT, ts, a0, he, hc, hd, h0, h1, h2, hT, hdT, h3⟩ := G2.tr
  have M3 := M2.keeps k3
  have kk := kKeep k3
  have Z3 : Fz H A env outer X₀ Z s₀ s3 := Z2.step fun b o hb q => ⟨o.slots, kk b o q⟩
  have G3 : Fg Z s₀ env outer μ cls _ _ e T X s3 := ⟨G2.x, G2.new, G2.own, G2.mu, G2.nz, G2.ne, ⟨oe, vs, oT, ts, a0, kk _ _ he, hc, hd, h0, h1, h2, kk _ _ hT, hdT, h3⟩⟩
  refine ⟨rfl, ⟨oe, kk _ _ he, hc⟩, ?_⟩
  have Z3' : Fz H (A.mark (some (.ref e))) env outer X₀ Z s₀ s3 := ⟨Z3.fr, Z3.fn, Z3.ff, Z3.ox, Z3.up⟩
  exact G3.flight M3 Z3' fun s4 M4 Z4 G4 => hsuite s4 _ M4 ⟨Z4.fr, Z4.fn, Z4.ff, Z4.ox, Z4.up⟩
end
end Mine
end

noncomputable section
open PySem PySem.W PySem.Calls PyProof.Rows PySem.Spec
namespace Mine
open PySem.SeqAt

section
variable {prog : Program} {w : World} {H : Heap} {A : Around} {X X₀ X' Z : AS} {s s₀ s' : Shared} {env : Env} {outer : List Env} {ρ ρ' : Rho} {μ μ' : Mu} {E : Value → Shared → Prop} {value slice : PySem.Expr}

theorem hd_keeps {c : Value} {h h2 : Heap} (x : Hd A h c) (k : ∀ b o, h.get? b = some o → h2.get? b = some o) : Hd A h2 c := by
  cases x with
  | none q => exact .none q
  | some q1 q2 q3 q4 => exact .some q1 (k _ _ q2) q3 q4

/-- an index that is out of range -/
theorem Ev.itemOut {ds : List D} {k : Int} {c : Value} {pos : Pos} {Q : Value → Shared → Prop} (hv : Ev prog w H A env ρ value (.list ds)) (hi : Ev prog w H A env ρ slice (.int k)) (hs : NoSlice slice) (h0 : 0 ≤ k) (hk : k < 2 ^ 63) (hx : ds.length ≤ k.toNat) (F : FS H X env ρ s.heap) (hd : Hd A s.heap c)
    (h : ∀ s1 h' tk e, Keeps s s1 → NewE s1.heap h' e "IndexError" c → E (.ref e) { s1 with heap := h', toks := tk }) : wpAny (model prog w) A (eval (.Subscript value slice pos) env) Q E s := by
  refine Subscript_ (hv.run X s F _ _ fun v s1 k1 r1 => hi.run X s1 (F.keeps k1) _ _ fun i s2 k2 r2 => ?_)
  replace r1 := r1.keeps k2
  have kk := kTrans k1 k2
  obtain ⟨l, vs, rfl, hx', hp, hl⟩ := r1.inv
  obtain ⟨u, rfl⟩ := r2.inv
  exact tail_any hp.isList.typeIs slot_list_getitem.lookup (getItem_list_out hp.isList h0 hk (by have := hl.length; simp; omega) (hd_keeps hd (kKeep kk)) fun h' tk e x => h s2 h' tk e kk x) (hs _ _)

/-- the exception stays over statements that do not see it -/
theorem Fg.over {e T : Addr} {cls : String} {c fl : Value} (G : Fg Z s₀ env outer μ cls c fl e T X s) (M' : MS H X₀ s (ZL env μ) env ρ' μ' X s') (hμ : flat μ' = flat μ) : Fg Z s₀ env outer μ' cls c fl e T X s' := by
  obtain ⟨oe, vs, oT, ts, a0, he, hc, hd, h0, h1, h2, hT, hdT, h3⟩ := G.tr
  have kk := kbKeep M'.kept
  exact ⟨G.x, G.new, G.own, by rw [hμ]; exact G.mu, G.nz, G.ne, ⟨oe, vs, oT, ts, a0, kk _ _ (fun q => q.elim G.own.1 G.mu.1) he, hc, hd, h0, h1, h2, kk _ _ (fun q => q.elim G.own.2 G.mu.2) hT, hdT, h3⟩⟩
theorem fg_hd {e T : Addr} {cls : String} {c fl : Value} (G : Fg Z s₀ env outer μ cls c fl e T X s) (hc : c = .none) : Hd (A.mark (some (.ref e))) s.heap (.ref e) := by
  obtain ⟨oe, vs, oT, ts, a0, he, hc', hd, h0, h1, h2, hT, hdT, h3⟩ := G.tr
  subst hc
  exact .some rfl he hd h2
theorem Fg.weakT {e T : Addr} {cls : String} {c fl : Value} (G : Fg Z s₀ env outer μ cls c fl e T X s) (k : Keeps s s') : Fg Z s₀ env outer μ cls c fl e T X s' := by
  obtain ⟨oe, vs, oT, ts, a0, he, hc, hd, h0, h1, h2, hT, hdT, h3⟩ := G.tr
  have kk := kKeep k
  exact ⟨G.x, G.new, G.own, G.mu, G.nz, G.ne, ⟨oe, vs, oT, ts, a0, kk _ _ he, hc, hd, h0, h1, h2, kk _ _ hT, hdT, h3⟩⟩
end
end Mine
end

noncomputable section
open PySem PySem.W PySem.Calls PyProof.Rows PySem.Spec
namespace Mine
open PySem.SeqAt

section
variable {prog : Program} {w : World} {H : Heap} {A : Around} {X X₀ X' Z : AS} {s s₀ s' : Shared} {env : Env} {outer : List Env} {ρ ρ' : Rho} {μ μ' : Mu} {E : Value → Shared → Prop} {value slice : PySem.Expr}

theorem try_split {α : Type} {m : Sem α} {Qn : α → Shared → Prop} {HC : Value → Shared → Prop} (GN : α → Shared → Prop) (GE : Value → Shared → Prop)
    (walk : ∀ Q' HC', (∀ f s, GN f s → Q' f s) → (∀ e s, GE e s → HC' e s) → wpAny (model prog w) A m Q' HC' s) (hn : ∀ f s, GN f s → Qn f s) (he : ∀ e s, GE e s → HC e s) : wpAny (model prog w) A m Qn HC s := walk Qn HC hn he

/-- x = y = e -/
theorem Ex1.assign2 {x y : Str} {px py pos : Pos} {value : PySem.Expr} {d : D} (a : Ev prog w H A env ρ value d) (hx : StoreOk env x) (hy : StoreOk env y)
    (he : (assignEach [.Name x px, .Name y py] env).map (·.2) = [PySem.assign (.Name x px) env, PySem.assign (.Name y py) env]) (hw : swappedStores [.Name x px, .Name y py] value env = pure none) :
    Ex1 prog w H A env ρ (.Assign [.Name x px, .Name y py] value pos) ((y, d) :: (x, d) :: ρ) := by
  refine ⟨fun X s F Q E h => wpAny_Assign_two (a.run X s F _ _ fun v s₁ k₁ r₁ => ?_) he hw⟩
  refine (Asg.name (prog := prog) (w := w) (A := A) hx).run X _ _ (F.keeps k₁) r₁ _ _ fun s₂ kb1 F1 => ?_
  refine (Asg.name (prog := prog) (w := w) (A := A) hy).run X _ _ F1 (r₁.mono fun a o hx e => ⟨hx, kbKeep kb1 a o ?_ e⟩) _ _ fun s₃ kb2 F2 => h _ (kbTrans (kbOf k₁) (kbTrans (kbMono kb1 fun b => ZT_own) (kbMono kb2 fun b => ZT_own))) F2
  exact fun q => hx ((F.keeps k₁).ownX (ZT_own q))

theorem Fz.keeps (Z₁ : Fz H A env outer X₀ Z s₀ s) (k : Keeps s s') : Fz H A env outer X₀ Z s₀ s' := Z₁.step fun b o hb q => ⟨o.slots, kKeep k b o q⟩
theorem Fz.mark {h : Option Value} (Z₁ : Fz H A env outer X₀ Z s₀ s) : Fz H (A.mark h) env outer X₀ Z s₀ s := ⟨Z₁.fr, Z₁.fn, Z₁.ff, Z₁.ox, Z₁.up⟩
theorem Fz.unmark {h : Option Value} (Z₁ : Fz H (A.mark h) env outer X₀ Z s₀ s) : Fz H A env outer X₀ Z s₀ s := ⟨Z₁.fr, Z₁.fn, Z₁.ff, Z₁.ox, Z₁.up⟩

/-- while list[k] == x, where what lies there is not x -/
theorem MS.whileEq {Lx ix ex : Str} {p1 p2 p3 p4 p5 pos : Pos} {body : List Stmt} {xs : List Str} {x : Str} {n : Nat} {k : Int} {c : Value} (M : MS H X₀ s₀ Z env ρ μ X s) (Z₁ : Fz H A env outer X₀ Z s₀ s) (hk : env.scope.kind ≠ .module)
    (hL : Ev prog w H A env ρ (.Name Lx p1) (.list (dS xs))) (hi : Ev prog w H A env ρ (.Name ix p2) (.int k)) (he : Ev prog w H A env ρ (.Name ex p4) (.str x)) (hkn : k = (n : Int)) (hz : xs.length ≤ 1000) (hn : n ≤ 1000)
    (hne : ∀ y, xs[n]? = some y → y ≠ x) (hd : Hd A s.heap c) {Q : Flow → Shared → Prop}
    (h1 : n < xs.length → ∀ s', Keeps s s' → Q .next s')
    (h2 : xs.length ≤ n → ∀ e T X' s', MS H X₀ s₀ Z env ρ μ X' s' → Fz H A env outer X₀ Z s₀ s' → Fg Z s₀ env outer μ "IndexError" c (rawInt env.locals) e T X' s' → (∀ a, X a → X' a) → E (.ref e) s') :
    wpAny (model prog w) A (exec (.While (.Compare (.Subscript (.Name Lx p1) (.Name ix p2) p3) [.Eq] [.Name ex p4] p5) body [] pos) env) Q E s := by
  subst hkn
  refine wpAny_While (codeAny_whileLoop (I := fun n s' => s' = s) (fun m s' hI => ?_) 0 rfl)
  subst hI
  have hlen : (dS xs).length = xs.length := by simp [dS]
  by_cases hlt : n < xs.length
  · have hx : (dS xs)[((n : Nat) : Int).toNat]? = some (.str xs[n]) := by rw [Int.toNat_natCast, dS, List.getElem?_map, List.getElem?_eq_getElem hlt]; rfl
    have t : Tst prog w H A env ρ (.Compare (.Subscript (.Name Lx p1) (.Name ix p2) p3) [.Eq] [.Name ex p4] p5) (xs[n] == x) :=
      Tst.compare (Ev.item hL hi (item_list (d := .str xs[n]) (fun _ _ => rfl) (by omega) (by omega) hx)) he op_eqS rfl
    refine t.run X s' M.F _ _ fun s1 k1 => ?_
    have hne' : (xs[n] == x) = false := by
      have := hne xs[n] (List.getElem?_eq_getElem hlt)
      simpa using this
    rw [hne']
    exact wpAny_execs_nil (h1 hlt s1 k1)
  · refine wpAny_isTrue_Compare1 (Ev.itemOut hL hi (fun _ _ => rfl) (by omega) (by omega) (by rw [hlen]; simp; omega) M.F hd fun s1 h' tk e k x => ?_) rfl
    show wpAny (model prog w) A (noteFrame (.ref e) env) _ _ _
    exact (M.keeps k).noteNew (Z₁.keeps k) hk x fun T X' s2 M2 Z2 G2 hX => G2.back M2 Z2 fun s3 M3 Z3 G3 => h2 (by omega) e T X' s3 M3 Z3 G3 hX

/-- the handler that takes it, noted already -/
theorem Fg.handle' {e T : Addr} {cls TT : String} {c fl : Value} {t : PySem.Expr} {b₀ : Stmt} {suite : List Stmt} {pos : Pos} {rest : List ExceptHandler} {Q : Flow → Shared → Prop} (G : Fg Z s₀ env outer μ cls c fl e T X s) (M : MS H X₀ s₀ Z env ρ μ X s) (Z₁ : Fz H A env outer X₀ Z s₀ s)
    (ht : ∀ A', Ev prog w H A' env ρ t (.val (.type TT))) (hexc : isSubtype (.type TT) (.type "BaseException") = pure true) (hnt : isSubtype (.type ((Manifest.find? TT).elim "type" fun x => x.metatype)) (.type "tuple") = pure false)
    (hsub : isSubtype (.type cls) (.type TT) = pure true) (hsuite : ∀ s' E', MS H X₀ s₀ Z env ρ μ X s' → Fz H A env outer X₀ Z s₀ s' → wpAny (model prog w) (A.mark (some (.ref e))) (execs (b₀ :: suite) env) Q E' s') :
    wpAny (model prog w) A (setFlight (.ref e) none) (fun _ s₃ => wpAny (model prog w) A (handleBy (.ref e) env (.ExceptHandler (some t) none (b₀ :: suite) pos :: rest)) Q E s₃) E s := by
  refine G.flight M Z₁ fun s2 M2 Z2 G2 => ?_
  refine wpAny_handleBy_builtin (X := cls) (T := TT) (b := true) hexc hnt hsub ?_
  refine (ht _).run X _ M2.F _ _ fun c s3 k3 r3 => ?_
  obtain rfl := r3.inv
  obtain ⟨oe, vs, oT, ts, a0, he, hc, hd, h0, h1, h2, hT, hdT, h3⟩ := G2.tr
  have M3 := M2.keeps k3
  have kk := kKeep k3
  have Z3 : Fz H A env outer X₀ Z s₀ s3 := Z2.step fun b o hb q => ⟨o.slots, kk b o q⟩
  have G3 : Fg Z s₀ env outer μ cls _ _ e T X s3 := ⟨G2.x, G2.new, G2.own, G2.mu, G2.nz, G2.ne, ⟨oe, vs, oT, ts, a0, kk _ _ he, hc, hd, h0, h1, h2, kk _ _ hT, hdT, h3⟩⟩
  refine ⟨rfl, ⟨oe, kk _ _ he, hc⟩, ?_⟩
  exact G3.flight M3 Z3.mark fun s4 M4 Z4 G4 => hsuite s4 _ M4 Z4.unmark
end
end Mine
end

noncomputable section
open PySem PySem.W PySem.Calls PyProof.Rows PySem.Spec
namespace Mine
open PySem.SeqAt

section
variable {prog : Program} {w : World} {H : Heap} {A : Around} {X X₀ X' Z : AS} {s s₀ s' : Shared} {env : Env} {outer : List Env} {ρ ρ' : Rho} {μ μ' : Mu} {E : Value → Shared → Prop} {value slice : PySem.Expr}

theorem SrcE.tuple {iter : PySem.Expr} {ds : List D} {n : Nat} (R : Room A n) (hv : Ev prog w H A env ρ iter (.tuple ds)) : SrcE prog w H A env ρ iter ds := by
  refine ⟨fun X s F Q E h => ?_⟩
  refine hv.run X s F _ _ fun v s₁ k₁ r₁ => ?_
  obtain ⟨l, m, vs, rfl, hx, hp, hl⟩ := r₁.inv
  have ht : s₁.heap.IsTuple l vs.toArray := ⟨_, hp, rfl, m, rfl⟩
  refine wpAny_pyIter_tuple ht (h s₁ _ _ k₁ (kPush s₁ _) ?_)
  have hne : l ≠ s₁.heap.objs.size := Nat.ne_of_lt (Heap.lt_size hp)
  have hlen := hl.length
  have W := Walks.tuple (prog := prog) (w := w) (A := A) R.handled s₁.heap.objs.size l hne vs.toArray
  rw [show vs.toArray.size = ds.length by rw [List.size_toArray]; exact hlen] at W
  refine .mk _ _ _ _ W ⟨⟨_, Heap.get?_push_size _ rfl, rfl, rfl⟩, ht.push _⟩ ?_ ?_ ?_ ?_ ?_
  · intro b hb
    have sz : (s₁.heap.push { cls := .type "tuple_iterator", data := .fields #[.ref l, .int 0 0] }).objs.size = s₁.heap.objs.size + 1 := Heap.size_push ..
    rcases List.mem_cons.mp hb with rfl | hb
    · refine ⟨?_, fun q => ?_⟩
      · show _ < (s₁.heap.push _).objs.size; rw [sz]; exact Nat.lt_succ_self _
      · exact (F.keeps k₁).wd.fresh q
    · rw [List.mem_singleton] at hb; subst hb
      refine ⟨?_, hx⟩
      show _ < (s₁.heap.push _).objs.size; rw [sz]; exact Nat.lt_succ_of_lt (Heap.lt_size hp)
  · intro b hb
    rw [List.mem_singleton] at hb; subst hb
    exact ⟨Above.of_le (Nat.le_refl _), _, Heap.get?_push_size _ rfl⟩
  · intro i h hst b hb
    rw [List.mem_singleton] at hb; subst hb
    obtain ⟨⟨o, ho, _⟩, _⟩ := hst
    exact ⟨o, ho⟩
  · intro X' i v h' _ hv hk
    obtain ⟨d, hd, r⟩ := hl.get' (by simpa using hv)
    exact ⟨d, hd, r.mono hk⟩
  · intro target i s u Q E st hQ
    obtain ⟨⟨o, ho, hc, _⟩, _⟩ := st
    exact lot_of (n := "tuple_iterator") (by decide) ho hc hQ

theorem Ev.neg {e : PySem.Expr} {pos : Pos} {i : Int} (he : Ev prog w H A env ρ e (.int i)) : Ev prog w H A env ρ (.UnaryOp .USub e pos) (.int (-i)) := by
  refine ⟨fun X s F Q E h => wpAny_UnaryOp (he.run X s F _ _ fun v s₁ k₁ r₁ => ?_)⟩
  obtain ⟨_, rfl⟩ := r₁.inv
  exact PyProof.Rows.neg_int (h _ _ (kTrans k₁ (kTok _ _)) (.int _ _))

/-- list(e): a new list -/
theorem ev_listNew {func e : PySem.Expr} {pos : Pos} {xs : List Str} (hc : NameCall func) (hf : Ev prog w H A env ρ func (.val (.type "list"))) (he : Ev prog w H A env ρ e (.list (dS xs))) (hn : noStar [e] = true) (hz : xs.length ≤ 1000) (F : FS H X env ρ s.heap) {Q : Value → Shared → Prop}
    (h : ∀ la s' vs, Keeps s s' → Above s.heap la → s'.heap.PlainList la vs.toArray → RdL X s'.heap vs (dS xs) → Q (.ref la) s') : wpAny (model prog w) A (eval (.Call func [e] [] pos) env) Q E s := by
  rw [hc]
  refine wpAny_bind (hf.run X s F _ _ fun fv s₁ k₁ r₁ => ?_)
  obtain rfl := r₁.inv
  rw [star_trees env pos [e] hn]
  refine PySem.callWith_type (trees_plain env [e]) (evalArgs_trees (spliced_cons (he.run X s₁ (F.keeps k₁) _ _ fun v s₂ k₂ r₂ => spliced_nil ?_)))
  obtain ⟨l, vs, rfl, hx, hp, hl⟩ := r₂.inv
  have hlen := hl.length
  obtain ⟨n, eo⟩ := hp
  refine call_list_seq (hsz := by rw [List.size_toArray, hlen, dS, List.length_map]; exact Nat.le_trans hz (by decide)) l (.inl rfl) eo rfl rfl fun h' c' hk hD => ?_
  have k3 : Keeps s₂ { s₂ with heap := h' } := ⟨h', s₂.toks, rfl, hk⟩
  exact h _ _ vs (kTrans (kTrans k₁ k₂) k3) (Above.keeps (kTrans k₁ k₂) (Above.of_le (Nat.le_refl _))) ⟨c', hD⟩ (hl.keeps k3)

/-- an expression that may turn the frame's own slots -/
structure EvO (prog : Program) (w : World) (H : Heap) (A : Around) (env : Env) (ρ : Rho) (e : PySem.Expr) (d : D) : Prop where
  run : ∀ X s, FS H X env ρ s.heap → ∀ (Q : Value → Shared → Prop) (E : Value → Shared → Prop), (∀ v s', KeptBut (OwnZ env) s s' → FS H X env ρ s'.heap → Rd X s'.heap v d → Q v s') → wpAny (model prog w) A (eval e env) Q E s
structure TstO (prog : Program) (w : World) (H : Heap) (A : Around) (env : Env) (ρ : Rho) (e : PySem.Expr) (b : Bool) : Prop where
  run : ∀ X s, FS H X env ρ s.heap → ∀ (Q : Bool → Shared → Prop) (E : Value → Shared → Prop), (∀ s', KeptBut (OwnZ env) s s' → FS H X env ρ s'.heap → Q b s') → wpAny (model prog w) A (isTrue e env (eval e env)) Q E s
theorem TstO.compare {a b : PySem.Expr} {op : CmpOp} {pos : Pos} {d1 d2 : D} {k : Bool} (ha : EvO prog w H A env ρ a d1) (hb : Ev prog w H A env ρ b d2) (ho : OpG prog w H A (compareOp op) d1 d2 (.bool k)) (hm : behindInMarks op b = false) : TstO prog w H A env ρ (.Compare a [op] [b] pos) k := by
  refine ⟨fun X s F Q E h => wpAny_isTrue_Compare1 (ha.run X s F _ _ fun v s₁ k₁ F₁ r₁ => hb.run X s₁ F₁ _ _ fun u s₂ k₂ r₂ => ?_) hm⟩
  refine ho.run X s₂ v u (F₁.keeps k₂).wd (r₁.keeps k₂) r₂ _ _ fun t s₃ k₃ r₃ => ?_
  obtain rfl := r₃.inv
  exact wpAny_truthy_bool (h s₃ (kbTrans k₁ (kbOf (kTrans k₂ k₃))) (F₁.keeps (kTrans k₂ k₃)))
theorem Bd.ifSkipO {t : PySem.Expr} {body : List Stmt} {pos : Pos} {sts : List Stmt} {d : D} (a : TstO prog w H A env ρ t false) (b : Bd prog w H A env ρ sts d) : Bd prog w H A env ρ (.If t body [] pos :: sts) d :=
  ⟨fun X s F Q E h => wpAny_execs_cons (wpAny_If (a.run X s F _ _ fun s₁ k₁ F₁ => wpAny_execs_nil (b.run X s₁ F₁ _ _ fun v s₂ k₂ r₂ => h v s₂ (kbTrans k₁ k₂) r₂)))⟩

/-- the frame after its slots turned -/
theorem FS.slots {h h' : Heap} (F : FS H X env ρ h) (k : ∀ b o, b ≠ env.locals → h.get? b = some o → h'.get? b = some o) (sl : ∀ o, h.get? env.locals = some o → ∃ sl, h'.get? env.locals = some { o with slots := sl }) : FS H X env ρ h' := by
  have hXL := F.xl
  have kr : ∀ b o, ¬ X b → h.get? b = some o → ¬ X b ∧ h'.get? b = some o := fun b o hx e => ⟨hx, k b o (fun q => hx (q ▸ hXL)) e⟩
  have kr2 : ∀ {v : Value} {d : D}, Rd X h v d → Rd X h' v d := fun r => r.mono kr
  have kc : ∀ {x c v}, env.cells.lookup x = some c → h.IsCell c v → h'.IsCell c v := fun hc hv => let ⟨o, ho, hd⟩ := hv; ⟨o, k _ o (F.ns_cell hc) ho, hd⟩
  refine ⟨fun a o e => k a o (fun q => ?_) (F.base a o e), F.bx, fun a q => ?_, F.fn, F.gl, F.bl, F.xl, ?_, ?_, ?_, F.own, F.apart⟩
  · have := F.bx a (q ▸ hXL); rw [e] at this; cases this
  · obtain ⟨b, o, l, e⟩ := F.live a q
    by_cases z : b = env.locals
    · obtain ⟨sl', e'⟩ := sl o (z ▸ e); exact ⟨b, _, l, z ▸ e'⟩
    · exact ⟨b, o, l, k b o z e⟩
  · obtain ⟨m, ⟨o, es, ep, ho, hd, r⟩, hr⟩ := F.ns
    obtain ⟨sl', e'⟩ := sl o ho
    exact ⟨m, ⟨_, es, ep, e', hd, r⟩, fun x d e1 e2 => let ⟨v, e3, r⟩ := hr x d e1 e2; ⟨v, e3, kr2 r⟩⟩
  · intro x d e1 e2
    obtain ⟨h1, c, v, h2, h3, h4⟩ := F.cells x d e1 e2
    exact ⟨h1, c, v, h2, kc h2 h3, kr2 h4⟩
  · intro x c e
    obtain ⟨h1, v, h2⟩ := F.cellX x c e
    exact ⟨h1, v, kc e h2⟩
theorem FS.fun1 {h : Heap} (F : FS H X env ρ h) (hf : env.frame = some env.locals) : h.FunFrames H [env] := by
  obtain ⟨m, ⟨o, es, ep, ho, hd, r⟩, _⟩ := F.ns
  exact ⟨by rw [F.fn]; decide, ⟨env.locals, o, hf, F.bx _ F.xl, ho, fun vs q => by rw [hd] at q; cases q⟩, trivial⟩
theorem FS.nsData {h : Heap} (F : FS H X env ρ h) {o : Obj} (ho : h.get? env.locals = some o) : ∀ vs, o.data ≠ .fields vs := fun vs q => by
  obtain ⟨m, ⟨o', es, ep, ho', hd, r⟩, _⟩ := F.ns
  rw [ho] at ho'; cases ho'; rw [hd] at q; cases q
end
end Mine
end

noncomputable section
open PySem PySem.W PySem.Calls PyProof.Rows PySem.Spec
namespace Mine
open PySem.SeqAt

noncomputable abbrev KF (w : World) : Frag := topK w.params

-- look a name up
local macro_rules | `(tactic| ktr_unf) => `(tactic| first | with_reducible exact lk_hd | (refine lk_tl ?_ (by decide +kernel); ktr_unf))
-- a name | a constant | an operation
local macro_rules | `(tactic| tb_start) => `(tactic| first
  | with_reducible exact Ev.intC | with_reducible exact Ev.strC | with_reducible exact Ev.noneC | with_reducible exact Ev.boolC
  | (with_reducible refine Ev.name ?h1 ?h2; (case h1 => ktr_unf); (case h2 => decide +kernel)))

section
variable {prog : Program} {w : World} {H : Heap} {A : Around} {X : AS} {s : Shared} {ρ : Rho} {E : Value → Shared → Prop} {mg mb : Str → Option Value}

def alph : Str := Str.ofString "ABCDEFGHIJKLMNOPQRSTUVWXYZabcdefghijklmnopqrstuvwxyz0123456789+/"
theorem alph_size : alph.cps.size = 64 := by decide +kernel
def bI (b : Array UInt8) (i : Nat) : Int := ((b.toList.getD i 0).toNat : Int)
def cdNum (b : Array UInt8) : Int := bI b 0 * 65536 + bI b 1 * 256 + bI b 2
def cdIx (b : Array UInt8) (k : Int) : Int := ((cdNum b).fdiv (64 ^ k.toNat)).fmod 64
def cdAt (b : Array UInt8) (k : Int) : Str := ⟨#[alph.cps.getD (cdIx b k).toNat 0]⟩
def coded (b : Array UInt8) : Str := Txt.join (Str.ofString "") ([3, 2, 1, 0].map (cdAt b))
theorem bI_range (b : Array UInt8) (i : Nat) : 0 ≤ bI b i ∧ bI b i < 256 := by
  unfold bI
  have := (b.toList.getD i 0).toNat_lt
  omega

theorem noSlice_const {c : Const} {k : Nat} {p : Pos} : NoSlice (.Constant c k p) := fun _ _ => rfl
theorem noSlice_bin {a b : PySem.Expr} {o : Operator} {p : Pos} : NoSlice (.BinOp a o b p) := fun _ _ => rfl
theorem noSlice_name {x : Str} {p : Pos} : NoSlice (.Name x p) := fun _ _ => rfl
theorem mulOkR {a b : Int} (h : Builtin.Int.intBits b ≤ 64) : IntMulOk a b := by
  rw [show IntMulOk a b ↔ IntMulOk b a by unfold IntMulOk; constructor <;> intro h q <;> exact h (by simp only [Bool.and_eq_true, decide_eq_true_eq] at q ⊢; rw [Int.add_comm]; exact ⟨⟨q.1.2, q.1.1⟩, q.2⟩)]
  exact IntMulOk.of_left h

theorem f_coded (W : WF (KF w) H mg mb) {n : Nat} (R : Room A (n + 5)) {b : Array UInt8} (hb : b.size = 3) : CallG prog w H A (.ref 175) [.bytes b] (.str (coded b)) := by
  refine' CallG.fn (names := ["row"]) W (n := n + 4) R (f := 175) ?ho ?hcd ?hl ?hb ?hnd ?hck ?hk ?hco ?hgen fun L A' R' => ?body
  case ho => rfl
  case hcd => kernel_rfl
  case hl => rfl
  case hb => (intro vs hv; match vs, hv with | [v], _ => rfl)
  case hnd => decide
  case hck => kernel_rfl
  case hk => rfl
  case hco => rfl
  case hgen => rfl
  case body =>
    show Bd _ _ _ _ _ [(Str.ofString "row", D.bytes b)] _ _
    have it : ∀ {i : Int} {p : Pos} {value : PySem.Expr}, 0 ≤ i → i < 3 → ItemG prog w H A' value (.Constant (.int i) 0 p) (.bytes b) (.int i) (.int (bI b i.toNat)) := fun h0 h1 => item_bytes noSlice_const h0 (by rw [hb]; exact h1) (by omega)
    refine Bd.seq (Ex1.assign (d := .str alph) Ev.strC (.inr (by kernel_rfl)) (by kernel_rfl)) ?_
    refine Bd.seq (Ex1.assign (d := .int (cdNum b)) ?_ (.inr (by kernel_rfl)) (by kernel_rfl)) ?_
    · refine Ev.binop (Ev.binop (Ev.binop (Ev.item ?_ Ev.intC (it (by decide) (by decide))) Ev.intC (op_mul (mulOkR (by decide)))) (Ev.binop (Ev.item ?_ Ev.intC (it (by decide) (by decide))) Ev.intC (op_mul (mulOkR (by decide)))) op_add) (Ev.item ?_ Ev.intC (it (by decide) (by decide))) op_add
      all_goals tb_start
    · refine Bd.ret ?_
      show Ev _ _ _ _ _ _ _ (.str (Txt.join (Str.ofString "") ([3, 2, 1, 0].map (cdAt b))))
      refine Ev.join (pl := _) (by with_unfolding_all rfl) rfl ?_ (by have e0 : (Str.ofString "").cps.size = 0 := (by decide +kernel); simp [cdAt, Str.length, e0])
      rw [dS_map]
      refine Ev.comp1 (α := Int) (xs := [3, 2, 1, 0]) (ρf := [("alphabet", .str alph), ("number", .int (cdNum b))]) D.int (fun k => .str (cdAt b k)) (SrcE.list R' (Ev.list ?_ rfl (by decide))) (by kernel_rfl) (by kernel_rfl) (by decide) (by kernel_rfl) (fun _ _ => .inl (by kernel_rfl)) (fun C cells k hk => ?_) (fun _ => rfl)
      · exact .cons .intC (.cons .intC (.cons .intC (.cons .intC .nil)))
      · have hk' : 0 ≤ k ∧ k ≤ 3 := by simp at hk; omega
        have hi : 0 ≤ cdIx b k ∧ cdIx b k < 64 := by unfold cdIx; rw [Int.fmod_eq_emod_of_nonneg _ (by decide)]; omega
        have hp : (64 : Int) ^ k.toNat ≠ 0 ∧ ((64 : Int) ^ k.toNat).natAbs < 1073741824 := by
          have : k = 0 ∨ k = 1 ∨ k = 2 ∨ k = 3 := by omega
          rcases this with rfl | rfl | rfl | rfl <;> decide
        refine Ev.item (d1 := .str alph) (d2 := .int (cdIx b k)) ?_ (Ev.binop (Ev.binop (d1 := .int (cdNum b)) ?_ (Ev.binop (d1 := .int 64) Ev.intC (d2 := .int k) ?_ (op_pow hk'.1 ?_)) (op_fdiv hp.1 hp.2)) Ev.intC (op_mod (by decide))) (item_str noSlice_bin hi.1 (by omega) ?_)
        · tb_start
        · tb_start
        · tb_start
        · have e : Builtin.Int.intBits 64 = 7 := by decide
          rw [e]; omega
        · have hs : (cdIx b k).toNat < alph.cps.size := by rw [alph_size]; omega
          rw [Array.getElem?_eq_getElem hs]
          show _ = some (alph.cps.getD (cdIx b k).toNat 0)
          simp [Array.getD, hs]
end
end Mine
end

noncomputable section
open PySem PySem.W PySem.Calls PyProof.Rows PySem.Spec
namespace Mine
open PySem.SeqAt
local macro_rules | `(tactic| ktr_unf) => `(tactic| first | with_reducible exact lk_hd | (refine lk_tl ?_ (by decide +kernel); ktr_unf))
local macro_rules | `(tactic| tb_start) => `(tactic| first
  | with_reducible exact Ev.intC | with_reducible exact Ev.strC | with_reducible exact Ev.noneC | with_reducible exact Ev.boolC
  | (with_reducible refine Ev.name ?h1 ?h2; (case h1 => ktr_unf); (case h2 => decide +kernel)))

section
variable {prog : Program} {w : World} {H : Heap} {A : Around} {X : AS} {s : Shared} {ρ : Rho} {E : Value → Shared → Prop} {mg mb : Str → Option Value}

def octet (x : Int) (k : Nat) : Int := ((x.fdiv 3).fdiv (256 ^ k)).fmod 256
def rowB (x : Int) : Array UInt8 := byteArr ((List.range 3).map (octet x))
theorem octet_range (x : Int) (k : Nat) : 0 ≤ octet x k ∧ octet x k < 256 := by
  unfold octet; rw [Int.fmod_eq_emod_of_nonneg _ (by decide)]; omega
theorem rowB_size (x : Int) : (rowB x).size = 3 := by unfold rowB; rw [byteArr_size]; rfl
def kindNe (c : Int) (x : Int) : Bool := !decide (x.fmod 3 = c)

theorem f_lists (W : WF (KF w) H mg mb) {n : Nat} (R : Room A (n + 5)) {ns : List Int} (hn : ns.length ≤ 1000) :
    CallG prog w H A (.ref 170) [.list (dI ns)] (.tuple [.list (dB ((ns.filter (kindNe 1)).map rowB)), .list (dB ((ns.filter (kindNe 0)).map rowB))]) := by
  refine' CallG.fn (names := ["numbers"]) W (n := n + 4) R (f := 170) ?ho ?hcd ?hl ?hb ?hnd ?hck ?hk ?hco ?hgen fun L A' R' => ?body
  case ho => rfl
  case hcd => kernel_rfl
  case hl => rfl
  case hb => (intro vs hv; match vs, hv with | [v], _ => rfl)
  case hnd => decide
  case hck => kernel_rfl
  case hk => rfl
  case hco => rfl
  case hgen => rfl
  case body =>
    show Bd _ _ _ _ _ [(Str.ofString "numbers", D.list (dI ns))] _ _
    refine Bd.seq (Ex1.assignComp1 (xs := ns) D.int (fun x => .tuple [.int (x.fmod 3), .bytes (rowB x)]) ?h1 (.inl (by kernel_rfl)) (SrcE.list R' ?h2) rfl ?h3 (by omega) ?h4 (fun _ _ => .inr (by kernel_rfl)) (fun C cells x hx => ?h5) (fun _ => rfl)) ?_
    case h1 => kernel_rfl
    case h2 => tb_start
    case h3 => kernel_rfl
    case h4 => kernel_rfl
    case h5 =>
      show Ev _ _ _ _ _ [(Str.ofString "x", D.int x)] _ _
      refine Ev.tuple (.cons (Ev.binop ?_ Ev.intC (op_mod (by decide))) (.cons ?_ .nil)) rfl (by simp)
      · tb_start
      · refine Ev.callT nameCall (T := "bytes") (ds := [.list (dI ((List.range 3).map (octet x)))]) (Ev.builtin W (by kernel_rfl) boot_bytes (by decide) (by kernel_rfl) (by decide)) (.cons ?_ .nil) rfl (c_bytes (n := n + 4) R' (by intro m hm; obtain ⟨k, _, rfl⟩ := List.mem_map.mp hm; exact octet_range x k) (by simp))
        rw [dI_map]
        refine Ev.comp1 (α := Nat) (xs := List.range 3) dN (fun k => .int (octet x k)) (SrcE.range (N := 3) R' nameCall (Ev.builtin W (by kernel_rfl) boot_range (by decide) (by kernel_rfl) (by decide)) Ev.intC rfl (by decide) (by decide)) rfl ?h3 (by decide) ?h4 (fun _ _ => .inl (by kernel_rfl)) (fun C cells k hk => ?h5) (fun _ => rfl)
        case h3 => kernel_rfl
        case h4 => kernel_rfl
        case h5 =>
          show Ev _ _ _ _ _ [(Str.ofString "k", D.int k), (Str.ofString "x", D.int x)] _ _
          have hk' : k = 0 ∨ k = 1 ∨ k = 2 := by have := List.mem_range.mp hk; omega
          have hp : (256 : Int) ^ k ≠ 0 ∧ ((256 : Int) ^ k).natAbs < 1073741824 := by rcases hk' with rfl | rfl | rfl <;> decide
          refine Ev.binop (Ev.binop (Ev.binop (d1 := .int x) ?_ Ev.intC (op_fdiv (by decide) (by decide))) (Ev.binop (d1 := .int 256) Ev.intC (d2 := .int k) ?_ (op_pow (by omega) ?_)) (op_fdiv hp.1 hp.2)) Ev.intC (op_mod (by decide))
          · tb_start
          · tb_start
          · have e : Builtin.Int.intBits 256 = 9 := by decide
            rw [e]; omega
    · have hrows : ns.map (fun x => D.tuple [.int (x.fmod 3), .bytes (rowB x)]) = ns.map fun x => .tuple [(fun x => D.int (x.fmod 3)) x, (fun x => D.bytes (rowB x)) x] := rfl
      rw [hrows]
      refine Bd.ret (Ev.tuple (.cons ?_ (.cons ?_ .nil)) rfl (by simp))
      · rw [dB_map]
        refine Ev.comp2T R' (fun x => D.int (x.fmod 3)) (fun x => D.bytes (rowB x)) (kindNe 1) (fun x => .bytes (rowB x)) (SrcE.list R' ?h1) rfl ?h2 ?h3 (by omega) ?h4 (fun _ _ => .inl (by kernel_rfl)) (fun _ _ => .inl (by kernel_rfl)) (fun C cells x hx => ?h5) (fun C cells x hx _ => ?h6) (fun _ => rfl)
        case h1 => tb_start
        case h2 => kernel_rfl
        case h3 => kernel_rfl
        case h4 => kernel_rfl
        case h5 => exact Tst.compare (d1 := .int (x.fmod 3)) (by tb_start) Ev.intC op_neI rfl
        case h6 => tb_start
      · rw [dB_map]
        refine Ev.comp2T R' (fun x => D.int (x.fmod 3)) (fun x => D.bytes (rowB x)) (kindNe 0) (fun x => .bytes (rowB x)) (SrcE.list R' ?h1) rfl ?h2 ?h3 (by omega) ?h4 (fun _ _ => .inl (by kernel_rfl)) (fun _ _ => .inl (by kernel_rfl)) (fun C cells x hx => ?h5) (fun C cells x hx _ => ?h6) (fun _ => rfl)
        case h1 => tb_start
        case h2 => kernel_rfl
        case h3 => kernel_rfl
        case h4 => kernel_rfl
        case h5 => exact Tst.compare (d1 := .int (x.fmod 3)) (by tb_start) Ev.intC op_neI rfl
        case h6 => tb_start
end
end Mine
end

noncomputable section
open PySem PySem.W PySem.Calls PyProof.Rows PySem.Spec
namespace Mine
open PySem.SeqAt
local macro_rules | `(tactic| ktr_unf) => `(tactic| first | with_reducible exact lk_hd | (refine lk_tl ?_ (by decide +kernel); ktr_unf))
local macro_rules | `(tactic| tb_start) => `(tactic| first
  | with_reducible exact Ev.intC | with_reducible exact Ev.strC | with_reducible exact Ev.noneC | with_reducible exact Ev.boolC
  | (with_reducible refine Ev.name ?h1 ?h2; (case h1 => ktr_unf); (case h2 => decide +kernel)))

section
variable {prog : Program} {w : World} {H : Heap} {A : Around} {X : AS} {s : Shared} {ρ : Rho} {E : Value → Shared → Prop} {mg mb : Str → Option Value}

def uaLine (a : Str) : Str := Str.ofString "User-agent: " ++ a
def crawl (i : Int) : Str := Str.ofString "Crawl-delay: " ++ Str.ofString (toString i)
def dlLines : Option Int → List Str
  | none => []
  | some i => [crawl i]
def ruleLines (rules : List Str) : List Str := if rules.isEmpty then [Str.ofString "Allow:"] else rules
def saidLines (agents rules : List Str) (dl : Option Int) : List Str := (agents.map uaLine ++ dlLines dl) ++ ruleLines rules
def said (agents rules : List Str) (dl : Option Int) : Str := if agents.isEmpty then Str.ofString "" else Txt.join (Str.ofString "\n") (saidLines agents rules dl)
def dlOk (dl : Option Int) : Prop := dl = none ∨ dl = some 0 ∨ dl = some 4 ∨ dl = some 7
structure SaidOk (agents rules : List Str) (dl : Option Int) : Prop where
  al : agents.length ≤ 200
  as : ∀ a ∈ agents, a.length ≤ 50
  rl : rules.length ≤ 10
  rs : ∀ a ∈ rules, a.length ≤ 50
  d : dlOk dl
theorem crawl_len {i : Int} (h : dlOk (some i)) : (crawl i).length ≤ 100 := by
  rcases h with h | h | h | h
  · cases h
  all_goals cases h; decide +kernel
theorem dl_log {i : Int} (h : dlOk (some i)) : i.natAbs.log2 < 1920 := by
  rcases h with h | h | h | h
  · cases h
  all_goals cases h; decide
theorem dl_str {i : Int} (h : dlOk (some i)) : (Str.ofString (toString i)).length ≤ 100 := by
  rcases h with h | h | h | h
  · cases h
  all_goals cases h; decide +kernel
theorem len_app (a b : Str) : (a ++ b).length = a.length + b.length := by
  show (a.cps ++ b.cps).size = _
  rw [Array.size_append]; rfl
theorem saidLines_len {agents rules : List Str} {dl : Option Int} (h : SaidOk agents rules dl) : (∀ y ∈ saidLines agents rules dl, y.length ≤ 100) ∧ (saidLines agents rules dl).length ≤ 300 := by
  have e1 : (Str.ofString "User-agent: ").length = 12 := by decide +kernel
  have e2 : (Str.ofString "Allow:").length = 6 := by decide +kernel
  constructor
  · intro y hy
    rcases List.mem_append.mp hy with hy | hy
    · rcases List.mem_append.mp hy with hy | hy
      · obtain ⟨a, ha, rfl⟩ := List.mem_map.mp hy
        have := h.as a ha
        rw [uaLine, len_app]; omega
      · cases dl with
        | none => cases hy
        | some i => rw [dlLines, List.mem_singleton] at hy; subst hy; exact crawl_len h.d
    · unfold ruleLines at hy
      split at hy
      · rw [List.mem_singleton] at hy; subst hy; omega
      · have := h.rs y hy; omega
  · have := h.al; have := h.rl
    have h3 : (dlLines dl).length ≤ 1 := by cases dl <;> simp [dlLines]
    have h4 : (ruleLines rules).length ≤ 11 := by unfold ruleLines; split <;> first | exact Nat.le_trans (Nat.le_refl 1) (by decide) | omega
    rw [saidLines, List.length_append, List.length_append, List.length_map]; omega

theorem f_said (W : WF (KF w) H mg mb) {n : Nat} (R : Room A (n + 5)) {agents rules : List Str} {dl : Option Int} (ok : SaidOk agents rules dl) :
    CallG prog w H A (.ref 187) [.list (dS agents), .list (dS rules), dO dl] (.str (said agents rules dl)) := by
  have e1 : (Str.ofString "User-agent: ").length = 12 := by decide +kernel
  have e2 : (Str.ofString "Crawl-delay: ").length = 13 := by decide +kernel
  refine' CallG.fnM (names := ["agents", "rules", "delay"]) W (n := n + 4) R (f := 187) ?ho ?hcd ?hl ?hb ?hnd ?hck ?hk ?hco ?hgen fun L A' R' => ?body
  case ho => rfl
  case hcd => kernel_rfl
  case hl => rfl
  case hb => (intro vs hv; match vs, hv with | [u, v, x], _ => rfl)
  case hnd => decide
  case hck => kernel_rfl
  case hk => rfl
  case hco => rfl
  case hgen => rfl
  case body =>
    show BdM _ _ _ _ _ [(Str.ofString "agents", D.list (dS agents)), (Str.ofString "rules", D.list (dS rules)), (Str.ofString "delay", dO dl)] _ _
    refine ⟨fun X₀ s₀ X s M Q E h => ?_⟩
    refine wpAny_execs_cons (M.assignComp1 (α := Str) (xs := agents) D.str (fun a => .str (uaLine a)) ?h1 ?h2 (SrcE.list R' ?h3) rfl ?h4 ?h5 ?h6 (fun _ _ => ?h7) (fun C cells x hx => ?h8) (fun _ => rfl) fun l X' s' M' => ?_)
    case h1 => kernel_rfl
    case h2 => exact .inl (by kernel_rfl)
    case h3 => show Ev _ _ _ _ _ _ _ (.list (dS agents)); tb_start
    case h4 => kernel_rfl
    case h5 => have := ok.al; omega
    case h6 => kernel_rfl
    case h7 => exact .inl (by kernel_rfl)
    case h8 => exact Ev.binop Ev.strC (by tb_start) (op_addS (by have := ok.as x hx; rw [e1]; exact Nat.le_trans (by omega : _ ≤ 100) (by decide)))
    dsimp only
    rw [show agents.map (fun a => D.str (uaLine a)) = dS (agents.map uaLine) from (dS_map ..).symm] at M'
    refine M'.midS [(l, .list (dS (agents.map uaLine ++ dlLines dl)))] (M'.if (k := dl.isSome) ?t1 ?t2 ?t3) (fun X₂ s₂ M₂ => ?_)
    case t1 =>
      have : dl.isSome = !(dO dl).isNone := by cases dl <;> rfl
      rw [this]
      exact Tst.compare (d1 := dO dl) (by tb_start) Ev.noneC (op_isNotNone (by intro v; cases dl <;> exact fun q => nomatch q)) rfl
    case t2 =>
      intro hk s'' M''
      obtain ⟨i, rfl⟩ := Option.isSome_iff_exists.mp hk
      refine wpAny_execs_cons (M''.appendStmt (pl := _) (d := .str (crawl i)) (μ' := [(l, .list (dS (agents.map uaLine) ++ [.str (crawl i)]))]) (by with_unfolding_all rfl) ?a2 ?a3 .head ?a5 ?a6 ?a7 ?a8 ?a9 fun s₃ M₃ => wpAny_execs_nil ⟨rfl, X', ?_⟩)
      case a2 => ktr_unf
      case a3 => decide +kernel
      case a5 =>
        refine Ev.binop Ev.strC (Ev.callT nameCall (T := "str") (Ev.builtin W (by kernel_rfl) boot_str (by decide) (by kernel_rfl) (by decide)) (.cons (d := dO (some i)) (by tb_start) .nil) rfl (c_strI (dl_log ok.d))) (op_addS ?_)
        have := dl_str ok.d
        rw [e2]; exact Nat.le_trans (by omega : _ ≤ 200) (by decide)
      case a6 => rfl
      case a7 => have := ok.al; simp [dS]; omega
      case a8 => rfl
      case a9 => kernel_rfl
      rw [show dS (agents.map uaLine ++ dlLines (some i)) = dS (agents.map uaLine) ++ [.str (crawl i)] by simp [dS, dlLines]]
      exact M₃
    case t3 =>
      intro hk s'' M''
      cases dl with
      | some i => cases hk
      | none => exact wpAny_execs_nil ⟨rfl, _, by simpa [dlLines] using M''⟩
    refine M₂.retF (ρ' := (Str.ofString "lines", .list (dS (agents.map uaLine ++ dlLines dl))) :: [(Str.ofString "agents", D.list (dS agents)), (Str.ofString "rules", D.list (dS rules)), (Str.ofString "delay", dO dl)]) (rv_hd (M₂.listF (.head _)) rv_refl) ?_ h
    have hif : D.str (said agents rules dl) = if (!(dS agents).isEmpty) = true then .str (Txt.join (Str.ofString "\n") (saidLines agents rules dl)) else .str (Str.ofString "") := by
      unfold said; cases agents <;> simp [dS]
    rw [hif]
    have hrl : (.list (dS (ruleLines rules)) : D) = if (!(dS rules).isEmpty) = true then .list (dS rules) else .list (dS [Str.ofString "Allow:"]) := by
      unfold ruleLines; cases rules <;> simp [dS]
    obtain ⟨hs1, hs2⟩ := saidLines_len ok
    refine Ev.ifExp (Tst.compare (d1 := .list (dS agents)) (by tb_start) (Ev.list .nil rfl (by decide)) (op_neNil R') rfl) (fun _ => ?_) fun _ => Ev.strC
    refine Ev.join (pl := _) (by with_unfolding_all rfl) rfl ?_ (join_ok hs1 hs2 (by decide +kernel) (by decide))
    rw [show dS (saidLines agents rules dl) = dS (agents.map uaLine ++ dlLines dl) ++ dS (ruleLines rules) by simp [dS, saidLines]]
    refine Ev.binop (by tb_start) ?_ (op_addL ?_)
    · rw [hrl]
      exact Ev.ifExp (Tst.compare (d1 := .list (dS rules)) (by tb_start) (Ev.list .nil rfl (by decide)) (op_neNil R') rfl) (fun _ => by tb_start) fun _ => Ev.list (.cons .strC .nil) rfl (by decide)
    · rw [saidLines, List.length_append] at hs2
      simp only [dS, List.length_map]
      exact Nat.le_trans hs2 (by decide)
end
end Mine
end

noncomputable section
open PySem PySem.W PySem.Calls PyProof.Rows PySem.Spec
namespace Mine
open PySem.SeqAt
local macro_rules | `(tactic| ktr_unf) => `(tactic| first | with_reducible exact lk_hd | (refine lk_tl ?_ (by decide +kernel); ktr_unf))
local macro_rules | `(tactic| tb_start) => `(tactic| first
  | with_reducible exact Ev.intC | with_reducible exact Ev.strC | with_reducible exact Ev.noneC | with_reducible exact Ev.boolC
  | (with_reducible refine Ev.name ?h1 ?h2; (case h1 => ktr_unf); (case h2 => decide +kernel)))

section
variable {prog : Program} {w : World} {H : Heap} {A : Around} {X X₀ Z : AS} {s s₀ : Shared} {ρ : Rho} {μ : Mu} {env : Env} {E : Value → Shared → Prop} {mg mb : Str → Option Value}

theorem at_u : AtOk (KF w) 59 "useragents" := ⟨by kernel_rfl, by kernel_rfl, by kernel_rfl⟩
theorem at_r : AtOk (KF w) 59 "rulelines" := ⟨by kernel_rfl, by kernel_rfl, by kernel_rfl⟩
theorem at_d : AtOk (KF w) 59 "delay" := ⟨by kernel_rfl, by kernel_rfl, by kernel_rfl⟩
theorem at_q : AtOk (KF w) 59 "req_rate" := ⟨by kernel_rfl, by kernel_rfl, by kernel_rfl⟩
theorem st_f (f : Fld) : StOk (KF w) 59 f.name := by
  cases f
  all_goals exact ⟨by kernel_rfl, by kernel_rfl, by kernel_rfl, by kernel_rfl⟩

theorem init_set {x dx : Addr} {name : Str} {v : Value} {es : List DictEntry} {n : Nat} (W : WF (KF w) H mg mb) (M : MS H X₀ s₀ Z env ρ [] X s) (ok : StOk (KF w) 59 name) (e1 : s.heap.get? x = some (instObj 59 dx)) (e2 : s.heap.get? dx = some (dictOf es n)) (hxd : x ≠ dx)
    (hdx : X dx ∧ ¬ OwnZ env dx ∧ Z dx) (hc : (!es.any (·.key.isStr name) && es.any (·.refKey)) = false) (hz : (putL name (PyData.keyHash w.params name) (.str name (s.toks + 1)) v es).length ≤ 1000) {Q : Unit → Shared → Prop}
    (h : ∀ s', MS H X₀ s₀ Z env ρ [] X s' → KeptBut (fun b => b = dx) s s' → s'.heap.get? x = some (instObj 59 dx) → s'.heap.get? dx = some (dictOf (putL name (PyData.keyHash w.params name) (.str name (s.toks + 1)) v es) (putN name es n)) → Q () s') :
    wpAny (model prog w) A (setAttr (.ref x) name v) Q E s := by
  refine set_low (W.kin.keeps M.F.base) ⟨e1, rfl, rfl, e2⟩ rfl ok.set ok.plain ok.taker ok.dict hc hz fun h' hd hs => ?_
  have kb : KeptBut (fun b => b = dx) s { s with heap := h', toks := s.toks + 2 } := ⟨h', s.toks + 2, rfl, fun b o hb e => hs.extBut b o hb e⟩
  refine h _ (M.other (N := fun b => b = dx) (fun b hb => ?_) kb) kb (hs.extBut _ _ hxd e1) hd
  subst hb
  exact ⟨hdx.1, hdx.2.1, by simp [flat], .inl hdx.2.2, _, hd⟩

theorem entry_new (W : WF (KF w) H mg mb) {n : Nat} (R : Room A (n + 5)) (Wh : Wd H X s.heap) {Q : Value → Shared → Prop}
    (h : ∀ s' x dx l1 l2 h1 h2 h3 h4 t1 t2 t3 t4, Keeps s s' → Above s.heap x → Above s.heap dx → Above s.heap l1 → Above s.heap l2 → [x, dx, l1, l2].Nodup → s'.heap.get? x = some (instObj 59 dx) →
      s'.heap.get? dx = some (dictOf (entEs h1 h2 h3 h4 t1 t2 t3 t4 (.ref l1) (.ref l2) .none .none) 4) → s'.heap.PlainList l1 #[] → s'.heap.PlainList l2 #[] → Q (.ref x) s') :
    wpAny (model prog w) A (call (.ref 59) []) Q E s := by
  have hK := W.kin.keeps Wh.base
  obtain ⟨hp, g, d, t, os⟩ := s
  refine wpAny_call (make_core (init := .ref 35) (makes_of hK (by kernel_rfl)) (looks_findIn hK (by kernel_rfl)) (fun self => bind_fn hK self (by kernel_rfl)) (.inl rfl) ?_)
  generalize hs1 : (⟨(hp.push emptyDict).push (instObj 59 hp.objs.size), g, d, t, os⟩ : Shared) = s1
  have k01 : Keeps ⟨hp, g, d, t, os⟩ s1 := by
    subst hs1
    exact ⟨_, t, rfl, fun b o e => Heap.get?_push_of_some _ (Heap.get?_push_of_some _ e)⟩
  have ed1 : s1.heap.get? hp.objs.size = some (dictOf [] 0) := by subst hs1; exact Heap.get?_push_of_some _ (Heap.get?_push_size _ rfl)
  have ex1 : s1.heap.get? (hp.objs.size + 1) = some (instObj 59 hp.objs.size) := by
    subst hs1
    have := Heap.get?_push_size (hp.push emptyDict) (o := instObj 59 hp.objs.size) rfl
    rw [Heap.size_push] at this
    exact this
  have aD : Above hp hp.objs.size := Above.of_le (Nat.le_refl _)
  have aX : Above hp (hp.objs.size + 1) := Above.of_le (Nat.le_succ _)
  generalize hp.objs.size = dx at ed1 ex1 aD aX
  generalize hx : dx + 1 = x at ex1 aX
  have hxd : x ≠ dx := by omega
  have Wh1 : Wd H (fun b => X b ∨ b = dx ∨ b = x) s1.heap := by
    refine ⟨(Wh.keeps k01).base, fun a q => ?_, fun a q => ?_⟩
    · rcases q with q | q | q
      · exact Wh.bx a q
      · subst q
        cases e : H.get? a with
        | none => rfl
        | some o => have := Wh.base a o e; rw [show hp.get? a = none from aD.none] at this; cases this
      · subst q
        cases e : H.get? a with
        | none => rfl
        | some o => have := Wh.base a o e; rw [show hp.get? a = none from aX.none] at this; cases this
    · rcases q with q | q | q
      · exact (Wh.keeps k01).live a q
      · subst q; exact ⟨_, _, Nat.le_refl _, ed1⟩
      · subst q; exact ⟨_, _, Nat.le_refl _, ex1⟩
  have R' : Room (A.under (.builtin "type.__call__" ⟨[.ref 59], []⟩)) (n + 4) := by
    refine ⟨R.handled, ?_, ?_⟩
    · have := R.depth
      show A.depth + Code.weight (.builtin "type.__call__" ⟨[.ref 59], []⟩) + (n + 4) < 900
      have e : Code.weight (.builtin "type.__call__" ⟨[.ref 59], []⟩) ≤ 1 := by decide +kernel
      omega
    · have := R.units
      show A.units + Code.cUnits (.builtin "type.__call__" ⟨[.ref 59], []⟩) + 5 * (n + 4) + 200 < cLine
      have e : Code.cUnits (.builtin "type.__call__" ⟨[.ref 59], []⟩) ≤ 5 := by decide +kernel
      omega
  refine' call_low (s := s1) (K := KF w) W (n := n + 3) R' (f := 35) ?ho ?hcd (binds := [(Str.ofString "self", .ref x)]) (ρ₀ := [(Str.ofString "self", .val (.ref x))]) Wh1 ?hb (.cons (.val _) .nil) (by simp) ?hck ?hk ?hco ?hgen fun L A' s₁ E hL _ R' k F hfr => ?body
  case ho => rfl
  case hcd => kernel_rfl
  case hb => exact BindsTo.of_eq rfl
  case hck => kernel_rfl
  case hk => rfl
  case hco => rfl
  case hgen => rfl
  case body =>
    have own_new : ∀ b o, s1.heap.get? b = some o → ¬ OwnZ (fenv _ _ L 35 _) b := fun b o e q => by rw [hfr b q] at e; cases e
    have M : MS H X s1 (fun b => OwnZ (fenv _ _ L 35 _) b ∨ b = dx) (fenv _ _ L 35 _) [(Str.ofString "self", .val (.ref x))] [] _ s₁ :=
      ⟨F, kbOf k, fun a q => .inl (.inl q), fun _ q => .inl q, fun _ _ q => (nomatch q), fun _ q => (nomatch q), .nil, fun a q => by show a ≤ L; exact hL ▸ Nat.le_of_lt (Wh1.bound a (.inl q))⟩
    have hXd : ∀ b, (b = dx ∨ b = x) → XN (fun b => X b ∨ b = dx ∨ b = x) s1.heap s₁.heap b := fun b q => .inl (.inr q)
    generalize hY : XN (fun b => X b ∨ b = dx ∨ b = x) s1.heap s₁.heap = Y at M F hXd
    generalize henv : fenv _ _ L 35 _ = env at M F own_new hfr ⊢
    have abv : ∀ s' b, KeptBut (fun b => OwnZ env b ∨ b = dx) s1 s' → Above s'.heap b → Above hp b := fun s' b kb a c o e => by
      have e1 := kKeep k01 c o e
      exact a c o (kbKeep kb c o (fun q => q.elim (own_new c o e1) fun q => by subst q; rw [aD.none] at e; cases e) e1)
    have kk := kKeep k
    have hset : dx ≠ x := fun q => hxd q.symm
    have dxok : Y dx ∧ ¬ OwnZ env dx ∧ (OwnZ env dx ∨ dx = dx) := ⟨hXd dx (.inl rfl), own_new _ _ ed1, .inr rfl⟩
    have ee1 := kk _ _ ex1
    have ee2 := kk _ _ ed1
    have hself : ∀ {ρ : Rho} {p : Pos} {A : Around}, Ev prog w H A env ((Str.ofString "self", .val (.ref x)) :: ρ) (.Name (Str.ofString "self") p) (.val (.ref x)) := Ev.name lk_hd (by decide +kernel)
    -- self.useragents = []
    refine wpAny_execs_cons (plainObj_wpAny_Assign_Attribute ?_ (by kernel_rfl))
    refine List_ ?_
    show wpAny (model prog w) _ (spliced []) _ _ _
    refine spliced_nil (wpAny_newObj_type ?_ (by show ([] : List Value).toArray.size ≤ sizeLine; decide))
    have a1 : Above s₁.heap s₁.heap.objs.size := Above.of_le (Nat.le_refl _)
    have n1 := a1.notX M.F.wd
    have p1 : (s₁.heap.push { cls := .type "list", data := .seq ([] : List Value).toArray }).PlainList s₁.heap.objs.size #[] := ⟨0, Heap.get?_push_size _ rfl⟩
    have aa1 := abv _ _ M.kept a1
    have x1 : x < s₁.heap.objs.size := a1 _ _ ee1
    have d1 : dx < s₁.heap.objs.size := a1 _ _ ee2
    have kp1 := kPush s₁ { cls := .type "list", data := .seq ([] : List Value).toArray }
    have M1 := M.keeps kp1
    generalize s₁.heap.objs.size = l1 at a1 n1 p1 aa1 x1 d1 ⊢
    refine hself.run Y _ M1.F _ _ fun v s₂ k₂ r₂ => ?_
    obtain rfl := r₂.inv
    have M2 := M1.keeps k₂
    have kk2 := kKeep (kTrans kp1 k₂)
    refine init_set W M2 (st_f .u) (kk2 _ _ ee1) (kk2 _ _ ee2) hxd dxok rfl (by show 1 ≤ 1000; decide) fun s₃ M3 kb3 f1 f2 => ?_
    have p3 : s₃.heap.PlainList l1 #[] := p1.at fun o e => kbKeep kb3 _ o (Nat.ne_of_gt d1) (kKeep k₂ _ o e)
    -- self.rulelines = []
    refine wpAny_execs_cons (plainObj_wpAny_Assign_Attribute ?_ (by kernel_rfl))
    refine List_ ?_
    show wpAny (model prog w) _ (spliced []) _ _ _
    refine spliced_nil (wpAny_newObj_type ?_ (by show ([] : List Value).toArray.size ≤ sizeLine; decide))
    have a2 : Above s₃.heap s₃.heap.objs.size := Above.of_le (Nat.le_refl _)
    have p2 : (s₃.heap.push { cls := .type "list", data := .seq ([] : List Value).toArray }).PlainList s₃.heap.objs.size #[] := ⟨0, Heap.get?_push_size _ rfl⟩
    have aa2 := abv _ _ M3.kept a2
    have x2 : x < s₃.heap.objs.size := a2 _ _ f1
    have d2 : dx < s₃.heap.objs.size := a2 _ _ f2
    have l12 : l1 < s₃.heap.objs.size := let ⟨n, e⟩ := p3; a2 _ _ e
    have kp3 := kPush s₃ { cls := .type "list", data := .seq ([] : List Value).toArray }
    have M3' := M3.keeps kp3
    generalize s₃.heap.objs.size = l2 at a2 p2 aa2 x2 d2 l12 ⊢
    refine hself.run Y _ M3'.F _ _ fun v s₄ k₄ r₄ => ?_
    obtain rfl := r₄.inv
    have M4 := M3'.keeps k₄
    have kk4 := kKeep (kTrans kp3 k₄)
    refine init_set W M4 (st_f .r) (kk4 _ _ f1) (kk4 _ _ f2) hxd dxok rfl (by show 2 ≤ 1000; decide) fun s₅ M5 kb5 f3 f4 => ?_
    have p5 : s₅.heap.PlainList l1 #[] := p3.at fun o e => kbKeep kb5 _ o (Nat.ne_of_gt d1) (kk4 _ o e)
    have p5' : s₅.heap.PlainList l2 #[] := p2.at fun o e => kbKeep kb5 _ o (Nat.ne_of_gt d2) (kKeep k₄ _ o e)
    -- self.delay = None
    refine wpAny_execs_cons (plainObj_wpAny_Assign_Attribute ?_ (by kernel_rfl))
    refine wpAny_Constant_none ?_
    refine hself.run Y _ M5.F _ _ fun v s₆ k₆ r₆ => ?_
    obtain rfl := r₆.inv
    have M6 := M5.keeps k₆
    have kk6 := kKeep k₆
    refine init_set W M6 (st_f .d) (kk6 _ _ f3) (kk6 _ _ f4) hxd dxok rfl (by show 3 ≤ 1000; decide) fun s₇ M7 kb7 f5 f6 => ?_
    have p7 : s₇.heap.PlainList l1 #[] := p5.at fun o e => kbKeep kb7 _ o (Nat.ne_of_gt d1) (kk6 _ o e)
    have p7' : s₇.heap.PlainList l2 #[] := p5'.at fun o e => kbKeep kb7 _ o (Nat.ne_of_gt d2) (kk6 _ o e)
    -- self.req_rate = None
    refine wpAny_execs_cons (plainObj_wpAny_Assign_Attribute ?_ (by kernel_rfl))
    refine wpAny_Constant_none ?_
    refine hself.run Y _ M7.F _ _ fun v s₈ k₈ r₈ => ?_
    obtain rfl := r₈.inv
    have M8 := M7.keeps k₈
    have kk8 := kKeep k₈
    refine init_set W M8 (st_f .q) (kk8 _ _ f5) (kk8 _ _ f6) hxd dxok rfl (by show 4 ≤ 1000; decide) fun s₉ M9 kb9 f7 f8 => ?_
    have p9 : s₉.heap.PlainList l1 #[] := p7.at fun o e => kbKeep kb9 _ o (Nat.ne_of_gt d1) (kk8 _ o e)
    have p9' : s₉.heap.PlainList l2 #[] := p7'.at fun o e => kbKeep kb9 _ o (Nat.ne_of_gt d2) (kk8 _ o e)
    refine wpAny_execs_nil ⟨rfl, h s₉ x dx l1 l2 _ _ _ _ _ _ _ _ ?_ aX aD aa1 aa2 ?_ f7 f8 p9 p9'⟩
    · obtain ⟨hq, tq, eq, kq⟩ := M9.kept
      have e1 := hs1
      subst e1
      subst eq
      exact ⟨hq, tq, rfl, fun b o e => kq b o (fun q => q.elim (own_new b o (kKeep k01 b o e)) fun q => by subst q; rw [aD.none] at e; cases e) (kKeep k01 b o e)⟩
    · have : x ≠ l1 := Nat.ne_of_lt x1
      have : x ≠ l2 := Nat.ne_of_lt x2
      have : dx ≠ l1 := Nat.ne_of_lt d1
      have : dx ≠ l2 := Nat.ne_of_lt d2
      have : l1 ≠ l2 := Nat.ne_of_lt l12
      simp [*]
end
end Mine
end

noncomputable section
open PySem PySem.W PySem.Calls PyProof.Rows PySem.Spec
namespace Mine
open PySem.SeqAt
local macro_rules | `(tactic| ktr_unf) => `(tactic| first | with_reducible exact lk_hd | (refine lk_tl ?_ (by decide +kernel); ktr_unf))
local macro_rules | `(tactic| tb_start) => `(tactic| first
  | with_reducible exact Ev.intC | with_reducible exact Ev.strC | with_reducible exact Ev.noneC | with_reducible exact Ev.boolC
  | (with_reducible refine Ev.name ?h1 ?h2; (case h1 => ktr_unf); (case h2 => decide +kernel)))

section
variable {prog : Program} {w : World} {H : Heap} {A : Around} {X X₀ Z : AS} {s s₀ : Shared} {ρ : Rho} {μ : Mu} {env : Env} {E : Value → Shared → Prop} {mg mb : Str → Option Value}

/-- y = Entry() -/
theorem MS.newEnt (W : WF (KF w) H mg mb) {n : Nat} (R : Room A (n + 5)) {y : Str} {yp cp pos spos : Pos} (M : MS H X₀ s₀ Z env ρ μ X s) (hk : StoreOk env y) (hx : env.kindOf "Entry" = some .globalImplicit)
    (hs : swapsWith (.Call (.Name "Entry" cp) [] [] pos) (some (.Name y yp)) spos.line env = pure false) {Q : Flow → Shared → Prop}
    (h : ∀ x dx l1 l2 X' s', MS H X₀ s₀ Z env ((y, .val (.ref x)) :: ρ) ((x, .ent dx 59 (.val (.ref l1)) (.val (.ref l2)) .none .none) :: (l1, .list []) :: (l2, .list []) :: μ) X' s' → Q .next s') :
    wpAny (model prog w) A (exec (.Assign [.Name y yp] (.Call (.Name "Entry" cp) [] [] pos) spos) env) Q E s := by
  refine wpAny_Assign_Name ?_ hs
  rw [nameCall (x := "Entry") (p := cp) [] pos env]
  refine wpAny_bind ((Ev.global (prog := prog) (w := w) (A := A) (ρ := ρ) W (v := .ref 59) (by kernel_rfl) hx (by decide)).run X s M.F _ _ fun fv s₁ k₁ r₁ => ?_)
  obtain rfl := r₁.inv
  rw [star_trees env pos [] rfl]
  refine callWith_of (P := (KF w).In) (by rw [trees_plain]; rfl) (fun h X => keeps_K (by kernel_rfl) h X) (evalArgs_trees ?_)
  refine spliced_nil ⟨W.kin.keeps (M.keeps k₁).F.base, ?_⟩
  have M₁ := M.keeps k₁
  refine entry_new W R M₁.F.wd fun s₂ x dx l1 l2 h1 h2 h3 h4 t1 t2 t3 t4 k₂ ax ad al1 al2 nd e1 e2 p1 p2 => ?_
  have G := M₁.grow (ν := [(x, .ent dx 59 (.val (.ref l1)) (.val (.ref l2)) .none .none), (l1, .list []), (l2, .list [])]) (N := fun b => b ∈ [x, dx, l1, l2]) k₂ (fun b hb => ?_) (fun b hb => by simpa [flat, MO.addrs] using hb) (fun a m hm k kl => ?_) (by simpa [flat, MO.addrs] using nd)
  · exact G.F.store (.val _) hk fun s' k F' => h _ _ _ _ _ s' (G.own (kbMono k fun b => ZS_own) F')
  · simp only [List.mem_cons, List.not_mem_nil, or_false] at hb
    rcases hb with rfl | rfl | rfl | rfl
    · exact ⟨ax, _, e1⟩
    · exact ⟨ad, _, e2⟩
    · exact ⟨al1, let ⟨n, e⟩ := p1; ⟨_, e⟩⟩
    · exact ⟨al2, let ⟨n, e⟩ := p2; ⟨_, e⟩⟩
  · simp only [List.mem_cons, List.not_mem_nil, or_false] at hm
    rcases hm with hm | hm | hm <;> cases hm
    · exact .ent e1 e2 (.val _) (.val _) .none .none
    · exact .list (vs := []) p1 .nil
    · exact .list (vs := []) p2 .nil

theorem rd_none {h : Heap} {X X' : AS} : ∀ v, Rd X h v .none → Rd X' h v .none := fun v r => by cases r; exact .none
theorem rd_dO {h : Heap} {X X' : AS} {dl : Option Int} : ∀ v, Rd X h v (dO dl) → Rd X' h v (dO dl) := fun v r => by
  cases dl with
  | none => exact rd_none v r
  | some i => cases r; exact .int _ _
/-- a record of texts -/
def rec (agents rules : List Str) (dl : Option Int) : D := .ent 59 (.list (dS agents)) (.list (dS rules)) (dO dl) .none

theorem f_record (W : WF (KF w) H mg mb) {n : Nat} (R : Room A (n + 7)) {agents rules : List Str} {dl : Option Int} (ha : agents.length ≤ 200) (hr : rules.length ≤ 200) :
    CallG prog w H A (.ref 182) [.list (dS agents), .list (dS rules), dO dl] (rec agents rules dl) := by
  refine' CallG.fnM (names := ["agents", "rules", "delay"]) W (n := n + 6) R (f := 182) ?ho ?hcd ?hl ?hb ?hnd ?hck ?hk ?hco ?hgen fun L A' R' => ?body
  case ho => rfl
  case hcd => kernel_rfl
  case hl => rfl
  case hb => (intro vs hv; match vs, hv with | [u, v, x], _ => rfl)
  case hnd => decide
  case hck => kernel_rfl
  case hk => rfl
  case hco => rfl
  case hgen => rfl
  case body =>
    show BdM _ _ _ _ _ [(Str.ofString "agents", D.list (dS agents)), (Str.ofString "rules", D.list (dS rules)), (Str.ofString "delay", dO dl)] _ _
    refine ⟨fun X₀ s₀ X s M Q E h => ?_⟩
    refine wpAny_execs_cons (M.newEnt W (n := n + 1) (R'.le (by omega)) (.inl (by kernel_rfl)) (by kernel_rfl) (by kernel_rfl) fun x dx l1 l2 X1 s1 M1 => ?_)
    dsimp only
    refine wpAny_execs_cons (wpAny_Expr (M1.methO (l := l1) (pl := _) (id := "list.extend") (ds := []) (es := [.list (dS agents)]) (by with_unfolding_all rfl) (fun Q E hq => M1.attr W .u rfl ?a1 ?a2 (.head _) at_u ?a3 fun v s' k r => ?a4) ?a5 (.cons ?a6 .nil) rfl PySem.F.slot_list_extend PySem.F.type_list_extend fun vs s2 k2 M2 r2 => ?_) ?a8 ?a9)
    case a1 => ktr_unf
    case a2 => decide
    case a3 => intro v e; cases e; rfl
    case a4 => obtain rfl := r.inv; exact hq _ k
    case a5 => exact .tail _ (.head _)
    case a6 => tb_start
    case a8 => rfl
    case a9 => kernel_rfl
    obtain ⟨v, rfl, r2'⟩ := one r2
    refine M2.extend (μ' := [(x, .ent dx 59 (.val (.ref l1)) (.val (.ref l2)) .none .none), (l1, .list ([] ++ dS agents)), (l2, .list [])]) (.tail .head) r2' (by simp [dS]; omega) fun s3 M3 => ?_
    dsimp only
    refine wpAny_execs_cons (wpAny_Expr (M3.methO (l := l2) (pl := _) (id := "list.extend") (ds := []) (es := [.list (dS rules)]) (by with_unfolding_all rfl) (fun Q E hq => M3.attr W .r rfl ?a1 ?a2 (.head _) at_r ?a3 fun v s' k r => ?a4) ?a5 (.cons ?a6 .nil) rfl PySem.F.slot_list_extend PySem.F.type_list_extend fun vs s4 k4 M4 r4 => ?_) ?a8 ?a9)
    case a1 => ktr_unf
    case a2 => decide
    case a3 => intro v e; cases e; rfl
    case a4 => obtain rfl := r.inv; exact hq _ k
    case a5 => exact .tail _ (.tail _ (.head _))
    case a6 => tb_start
    case a8 => rfl
    case a9 => kernel_rfl
    obtain ⟨v, rfl, r4'⟩ := one r4
    refine M4.extend (μ' := [(x, .ent dx 59 (.val (.ref l1)) (.val (.ref l2)) .none .none), (l1, .list ([] ++ dS agents)), (l2, .list ([] ++ dS rules))]) (.tail (.tail .head)) r4' (by simp [dS]; omega) fun s5 M5 => ?_
    dsimp only
    refine wpAny_execs_cons (M5.setStmt W .d (dv := dO dl) (μ' := [(x, .ent dx 59 (.val (.ref l1)) (.val (.ref l2)) (dO dl) .none), (l1, .list ([] ++ dS agents)), (l2, .list ([] ++ dS rules))]) rfl ?b1 ?b2 .head (st_f .d) ?b3 (fun Q E hq => Ev.run ?b4 X1 _ M5.F Q E hq) fun s6 M6 => ?_)
    case b1 => ktr_unf
    case b2 => decide
    case b3 => kernel_rfl
    case b4 => tb_start
    refine wpAny_execs_cons (wpAny_Return_some (M6.ev (d := .val (.ref x)) (by tb_start) fun v s7 k7 M7 r7 => ?_))
    obtain rfl := r7.inv
    refine h _ s7 M7.kept (M7.entOut (.head _) (fun v r => ?_) (fun v r => ?_) rd_dO rd_none)
    · exact M7.listOut (.tail _ (.head _)) v r
    · exact M7.listOut (.tail _ (.tail _ (.head _))) v r
end
end Mine
end

noncomputable section
open PySem PySem.W PySem.Calls PyProof.Rows PySem.Spec
namespace Mine
open PySem.SeqAt
local macro_rules | `(tactic| ktr_unf) => `(tactic| first | with_reducible exact lk_hd | (refine lk_tl ?_ (by decide +kernel); ktr_unf))
local macro_rules | `(tactic| tb_start) => `(tactic| first
  | with_reducible exact Ev.intC | with_reducible exact Ev.strC | with_reducible exact Ev.noneC | with_reducible exact Ev.boolC
  | (with_reducible refine Ev.name ?h1 ?h2; (case h1 => ktr_unf); (case h2 => decide +kernel)))

section
variable {prog : Program} {w : World} {H : Heap} {A : Around} {X X₀ Z : AS} {s s₀ : Shared} {ρ : Rho} {μ : Mu} {env : Env} {E : Value → Shared → Prop} {mg mb : Str → Option Value}

theorem Ev.lower {o : PySem.Expr} {apos pos : Pos} {x : Str} {pl : Sem Bool} (he : MethForm o "lower" apos pos [] env pl) (ho : Ev prog w H A env ρ o (.str x)) (hx : x.length ≤ 1000) : Ev prog w H A env ρ (.Call (.Attribute o "lower" apos) [] [] pos) (.str (Txt.lower x)) :=
  Ev.methB (T := "str") (id := "str.lower") (d0 := .str x) he ho EvL.nil rfl (fun _ _ _ r => ty_str r) PySem.F.plainAttrs_str PySem.F.slot_str_lower PySem.F.type_str_lower (c_lower hx)

def sl : Str := Str.ofString "/"
theorem sl_kind : Builtin.Str.strKind sl = 1 := by decide +kernel
def nameOf (text : Str) : Str := Txt.lower (headOf text sl)
def hits (agents : List Str) (name : Str) : List Str := agents.filter fun a => hasSub (Txt.lower a) name
def lawApplies (agents : List Str) (text : Str) : Bool := !(hits agents (nameOf text)).isEmpty
theorem headOf_len (x : Str) : (headOf x sl).length ≤ x.length := part_short (List.mem_of_getElem? (headOf_at x sl))

theorem f_applies (W : WF (KF w) H mg mb) {n : Nat} (R : Room A (n + 5)) {agents : List Str} {text : Str} (ha : agents.length ≤ 200) (hs : ∀ a ∈ agents, a.length ≤ 1000) (ht : text.length ≤ 1000) :
    CallG prog w H A (.ref 192) [.list (dS agents), .str text] (.bool (lawApplies agents text)) := by
  refine' CallG.fn (names := ["agents", "text"]) W (n := n + 4) R (f := 192) ?ho ?hcd ?hl ?hb ?hnd ?hck ?hk ?hco ?hgen fun L A' R' => ?body
  case ho => rfl
  case hcd => kernel_rfl
  case hl => rfl
  case hb => (intro vs hv; match vs, hv with | [u, v], _ => rfl)
  case hnd => decide
  case hck => kernel_rfl
  case hk => rfl
  case hco => rfl
  case hgen => rfl
  case body =>
    show Bd _ _ _ _ _ [(Str.ofString "agents", D.list (dS agents)), (Str.ofString "text", .str text)] _ _
    refine Bd.seq (Ex1.assign (d := .str (nameOf text)) ?a1 (.inr (by kernel_rfl)) (by kernel_rfl)) ?_
    case a1 =>
      have e : D.str (nameOf text) = if hasSub sl text = true then .str (nameOf text) else .str (nameOf text) := by split <;> rfl
      rw [e]
      refine Ev.ifExp (Tst.compare (d1 := .str sl) (d2 := .str text) Ev.strC (by tb_start) op_inSub rfl) (fun hk => ?_) (fun hk => ?_)
      · have hne : ∃ i r, Builtin.Str.occurrences text sl 0 text.length 1 = i :: r := by
          unfold hasSub at hk
          cases q : Builtin.Str.occurrences text sl 0 text.length 1 with
          | nil => rw [q] at hk; cases hk
          | cons i r => exact ⟨i, r, rfl⟩
        obtain ⟨i, r, ho⟩ := hne
        have hh := headOf_some sl_kind ho
        have hl := headOf_len text
        unfold nameOf
        refine Ev.lower (pl := _) (by with_unfolding_all rfl) ?_ (Nat.le_trans hl ht)
        rw [hh]
        refine Ev.sliceS (lo := none) (hi := some (i : Int)) (by tb_start) rfl ⟨(i : Int), rfl, ?_⟩ (Nat.le_trans ht (by decide))
        exact Ev.methB (T := "str") (id := "str.index") (d0 := .str text) (pl := _) (by with_unfolding_all rfl) (by tb_start) (.cons (d := .str sl) Ev.strC .nil) rfl (fun _ _ _ r => ty_str r) PySem.F.plainAttrs_str PySem.F.slot_str_index PySem.F.type_str_index (c_index ho)
      · unfold nameOf
        rw [headOf_none sl_kind hk]
        exact Ev.lower (pl := _) (by with_unfolding_all rfl) (by tb_start) ht
    refine Bd.ret (Ev.compare (d1 := .list (dS (hits agents (nameOf text)))) ?_ (Ev.list .nil rfl (by decide)) ?b2 rfl)
    case b2 =>
      have : lawApplies agents text = !(dS (hits agents (nameOf text))).isEmpty := by unfold lawApplies; cases hits agents (nameOf text) <;> rfl
      rw [this]
      exact op_neNil R'
    have e : dS (hits agents (nameOf text)) = (agents.filter fun a => hasSub (Txt.lower a) (nameOf text)).map fun a => D.str a := rfl
    rw [e]
    refine Ev.comp1T (α := Str) (xs := agents) (ρf := [("name", .str (nameOf text))]) D.str (fun a => hasSub (Txt.lower a) (nameOf text)) (fun a => D.str a) (SrcE.list R' ?c1) ?c2 ?c3 (by omega) ?c4 (fun _ _ => .inl (by kernel_rfl)) (fun C cells x hx => ?c5) (fun C cells x hx _ => ?c6) (fun _ => rfl)
    case c1 => show Ev _ _ _ _ _ _ _ (.list (dS agents)); tb_start
    case c2 => kernel_rfl
    case c3 => kernel_rfl
    case c4 => kernel_rfl
    case c5 =>
      refine Tst.compare (d1 := .str (Txt.lower x)) (d2 := .str (nameOf text)) (Ev.lower (pl := _) (by with_unfolding_all rfl) (by tb_start) (hs x hx)) (by tb_start) op_inSub rfl
    case c6 => tb_start
end
end Mine
end

noncomputable section
open PySem PySem.W PySem.Calls PyProof.Rows PySem.Spec
namespace Mine
open PySem.SeqAt
local macro_rules | `(tactic| ktr_unf) => `(tactic| first | with_reducible exact lk_hd | (refine lk_tl ?_ (by decide +kernel); ktr_unf))
local macro_rules | `(tactic| tb_start) => `(tactic| first
  | with_reducible exact Ev.intC | with_reducible exact Ev.strC | with_reducible exact Ev.noneC | with_reducible exact Ev.boolC
  | (with_reducible refine Ev.name ?h1 ?h2; (case h1 => ktr_unf); (case h2 => decide +kernel)))

section
variable {prog : Program} {w : World} {H : Heap} {A : Around} {X X₀ Z : AS} {s s₀ : Shared} {ρ : Rho} {μ : Mu} {env : Env} {E : Value → Shared → Prop} {mg mb : Str → Option Value}

def txAt (ss : List Str) (k : Nat) : Str := ss.getD k ⟨#[]⟩
/-- the texts, each at its first place -/
def firsts (ss : List Str) : List Str := ((List.range ss.length).filter fun k => !decide (txAt ss k ∈ ss.take k)).map (txAt ss)
def once (ss : List Str) : List Str := sortS (firsts ss)
theorem firsts_len (ss : List Str) : (firsts ss).length ≤ ss.length := by
  unfold firsts
  rw [List.length_map]
  exact Nat.le_trans (List.length_filter_le _ _) (by rw [List.length_range]; exact Nat.le_refl _)

theorem f_once (W : WF (KF w) H mg mb) {n : Nat} (R : Room A (n + 5)) {texts : List Str} (ht : texts.length < 64) :
    CallG prog w H A (.ref 197) [.list (dS texts)] (.list (dS (once texts))) := by
  refine' CallG.fn (names := ["texts"]) W (n := n + 4) R (f := 197) ?ho ?hcd ?hl ?hb ?hnd ?hck ?hk ?hco ?hgen fun L A' R' => ?body
  case ho => rfl
  case hcd => kernel_rfl
  case hl => rfl
  case hb => (intro vs hv; match vs, hv with | [v], _ => rfl)
  case hnd => decide
  case hck => kernel_rfl
  case hk => rfl
  case hco => rfl
  case hgen => rfl
  case body =>
    show Bd _ _ _ _ _ [(Str.ofString "texts", D.list (dS texts))] _ _
    have hfl := firsts_len texts
    refine Bd.ret (Ev.callB nameCall (Ev.builtin W (by kernel_rfl) boot_sorted (by decide) (by kernel_rfl) (by decide)) (.cons ?_ .nil) rfl (c_sorted (ss := firsts texts) (by omega)))
    have hd : ∀ k, k < texts.length → (dS texts)[(k : Int).toNat]? = some (.str (txAt texts k)) := fun k hk => by
      rw [dS, List.getElem?_map, Int.toNat_natCast, List.getElem?_eq_getElem hk]
      simp [txAt, List.getD, List.getElem?_eq_getElem hk]
    have hN : ((dS texts).length : Int) = (texts.length : Int) := by simp [dS]
    unfold firsts
    rw [dS_map]
    refine Ev.comp1T (α := Nat) (xs := List.range texts.length) (ρf := [("texts", .list (dS texts))]) dN (fun k => !decide (txAt texts k ∈ texts.take k)) (fun k => D.str (txAt texts k)) ?c1 ?c2 ?c3 (by rw [List.length_range]; omega) ?c4 (fun _ _ => .inl (by kernel_rfl)) (fun C cells k hk => ?c5) (fun C cells k hk _ => ?c6) (fun _ => rfl)
    case c1 =>
      rw [show texts.length = ((dS texts).length : Int).toNat by simp [dS]]
      refine SrcE.range R' nameCall (Ev.builtin W (by kernel_rfl) boot_range (by decide) (by kernel_rfl) (by decide)) (Ev.callB nameCall (Ev.builtin W (by kernel_rfl) boot_len (by decide) (by kernel_rfl) (by decide)) (.cons ?_ .nil) rfl (c_len (ds := dS texts) (by rw [dS, List.length_map]; omega))) rfl (by omega) (by omega)
      tb_start
    case c2 => kernel_rfl
    case c3 => kernel_rfl
    case c4 => kernel_rfl
    case c5 =>
      have hk' := List.mem_range.mp hk
      show Tst _ _ _ _ _ [("k", D.int k), ("texts", D.list (dS texts))] _ _
      refine Tst.compare (d1 := .str (txAt texts k)) (d2 := .list (dS (texts.take k))) (Ev.item ?_ ?_ (item_list noSlice_name (by omega) (by omega) (hd k hk'))) ?_ op_notInS rfl
      · tb_start
      · tb_start
      · rw [show dS (texts.take k) = (dS texts).take (k : Int).toNat by simp [dS, List.map_take]]
        refine Ev.take ?_ ?_ (by omega) (by rw [dS, List.length_map]; exact Nat.le_trans (by omega : _ ≤ 64) (by decide))
        · tb_start
        · tb_start
    case c6 =>
      have hk' := List.mem_range.mp hk
      show Ev _ _ _ _ _ [("k", D.int k), ("texts", D.list (dS texts))] _ _
      refine Ev.item ?_ ?_ (item_list noSlice_name (by omega) (by omega) (hd k hk'))
      · tb_start
      · tb_start
end
end Mine
end

noncomputable section
open PySem PySem.W PySem.Calls PyProof.Rows PySem.Spec
namespace Mine
open PySem.SeqAt
local macro_rules | `(tactic| ktr_unf) => `(tactic| first | with_reducible exact lk_hd | (refine lk_tl ?_ (by decide +kernel); ktr_unf))
local macro_rules | `(tactic| tb_start) => `(tactic| first
  | with_reducible exact Ev.intC | with_reducible exact Ev.strC | with_reducible exact Ev.noneC | with_reducible exact Ev.boolC
  | (with_reducible refine Ev.name ?h1 ?h2; (case h1 => ktr_unf); (case h2 => decide +kernel)))

section
variable {prog : Program} {w : World} {H : Heap} {A : Around} {X X₀ Z : AS} {s s₀ : Shared} {ρ : Rho} {μ : Mu} {env : Env} {E : Value → Shared → Prop} {mg mb : Str → Option Value}

theorem ev_d {y attr : Str} {yp pos : Pos} {a r : List Str} {dl : Option Int} (W : WF (KF w) H mg mb) (hf : Fld.d.name = attr) (ok : AtOk (KF w) 59 attr) (ho : Ev prog w H A env ρ (.Name y yp) (.ent 59 (.list (dS a)) (.list (dS r)) (dO dl) .none)) : Ev prog w H A env ρ (.Attribute (.Name y yp) attr pos) (dO dl) :=
  Ev.attr W .d (u := .list (dS a)) (r := .list (dS r)) (d := dO dl) (q := .none) hf ho ok (by intro v e; cases dl <;> cases e)
theorem f_str (W : WF (KF w) H mg mb) {n : Nat} (R : Room A (n + 5)) {agents rules : List Str} {dl : Option Int} (ok : SaidOk agents rules dl) :
    CallG prog w H A (.ref 42) [rec agents rules dl] (.str (said agents rules dl)) := by
  have e1 : (Str.ofString "User-agent: ").length = 12 := by decide +kernel
  have e2 : (Str.ofString "Crawl-delay: ").length = 13 := by decide +kernel
  refine' CallG.fnM (names := ["self"]) W (n := n + 4) R (f := 42) ?ho ?hcd ?hl ?hb ?hnd ?hck ?hk ?hco ?hgen fun L A' R' => ?body
  case ho => rfl
  case hcd => kernel_rfl
  case hl => rfl
  case hb => (intro vs hv; match vs, hv with | [v], _ => rfl)
  case hnd => decide
  case hck => kernel_rfl
  case hk => rfl
  case hco => rfl
  case hgen => rfl
  case body =>
    show BdM _ _ _ _ _ [(Str.ofString "self", .ent 59 (.list (dS agents)) (.list (dS rules)) (dO dl) .none)] _ _
    refine ⟨fun X₀ s₀ X s M Q E h => ?_⟩
    have hal := ok.al
    have hrl := ok.rl
    have hk : (!(D.list (dS agents)).tru) = agents.isEmpty := by cases agents <;> rfl
    have tru_ok : ∀ l : List Str, l.length ≤ 200 → (D.list (dS l)).truOk = true := fun l hl => by
      show decide ((dS l).length ≤ 16777216) = true
      rw [dS, List.length_map]; exact decide_eq_true (by omega)
    refine wpAny_execs_cons (M.if (k := agents.isEmpty) (hk ▸ Tst.not (Tst.val (Ev.attr W .u rfl (by tb_start) at_u (by intro v e; cases e)) (tru_ok _ hal) (fun _ => rfl))) (fun he s1 M1 => ?t1) (fun he s1 M1 => wpAny_execs_nil ?t2))
    case t1 =>
      refine M1.ret (d := .str (said agents rules dl)) ?_ h
      have : said agents rules dl = Str.ofString "" := by unfold said; rw [if_pos he]
      rw [this]
      exact Ev.strC
    dsimp only
    refine wpAny_execs_cons (M1.newVar ?b1 ?b2 fun l X2 s2 M2 => ?_)
    case b1 => exact .inl (by kernel_rfl)
    case b2 => kernel_rfl
    dsimp only
    refine M2.midS [(l, .list (dS (agents.map uaLine)))] ?f1 fun X3 s3 M3 => ?_
    case f1 =>
      refine MS.for (M := M2) (ds := dS agents) (fun _ => [(Str.ofString "ret", .val (.ref l)), (Str.ofString "self", .ent 59 (.list (dS agents)) (.list (dS rules)) (dO dl) .none)]) (fun i => [(l, .list (dS ((agents.take i).map uaLine)))]) (fun _ => rfl) ?g1
        (SrcE.list R' (Ev.attr W .u rfl (by tb_start) at_u (by intro v e; cases e))) (fun _ => rfl) (fun i d Y sx E' hd Mx back => ?g4) (fun Y sx Mx => ⟨rfl, Y, ?g5⟩)
      case g1 => exact .inl (by kernel_rfl)
      case g4 =>
        rw [dS, List.getElem?_map] at hd
        cases hq : agents[i]? with
        | none => rw [hq] at hd; cases hd
        | some a =>
          rw [hq] at hd; cases hd
          have ha : a ∈ agents := List.mem_of_getElem? hq
          have hla := ok.as a ha
          replace Mx : MS H X₀ sx _ _ [(Str.ofString "agent", .str a), (Str.ofString "ret", .val (.ref l)), (Str.ofString "self", .ent 59 (.list (dS agents)) (.list (dS rules)) (dO dl) .none)] [(l, .list (dS ((agents.take i).map uaLine)))] Y sx := Mx
          refine wpAny_execs_cons (Mx.appendStmt (pl := _) (d := .str (uaLine a)) (μ' := [(l, .list (dS ((agents.take i).map uaLine) ++ [.str (uaLine a)]))]) (by with_unfolding_all rfl) ?xa2 ?xa3 .head ?xa5 ?xa6 ?xa7 ?xa8 ?xa9 fun s₃ M₃ => wpAny_execs_nil ?xa10)
          case xa2 => ktr_unf
          case xa3 => decide +kernel
          case xa5 => exact Ev.fstr (d := .str a) (by tb_start) (fmt_str (by omega)) (by rw [e1]; omega)
          case xa6 => rfl
          case xa7 => simp [dS]; omega
          case xa8 => rfl
          case xa9 => kernel_rfl
          have et : agents.take (i + 1) = agents.take i ++ [a] := by rw [List.take_add_one, hq]; rfl
          rw [show dS ((agents.take (i + 1)).map uaLine) = dS ((agents.take i).map uaLine) ++ [.str (uaLine a)] by rw [et]; simp [dS]]
          exact M₃.weak fun x d e => by
            rw [lookup_cons_eq]
            by_cases q : x = Str.ofString "agent"
            · subst q; cases e
            · rw [if_neg q]; exact e
      case g5 =>
        have : (dS agents).length = agents.length := by simp [dS]
        rw [this, List.take_length] at Mx
        exact Mx
    refine M3.midS [(l, .list (dS (agents.map uaLine ++ dlLines dl)))] (M3.if (k := dl.isSome) ?u1 ?u2 ?u3) fun X4 s4 M4 => ?_
    case u1 =>
      have : dl.isSome = !(dO dl).isNone := by cases dl <;> rfl
      rw [this]
      exact Tst.compare (d1 := dO dl) (ev_d (a := agents) (r := rules) W rfl at_d (by tb_start)) Ev.noneC (op_isNotNone (by intro v; cases dl <;> exact fun q => nomatch q)) rfl
    case u2 =>
      intro hk s5 M5
      obtain ⟨i, rfl⟩ := Option.isSome_iff_exists.mp hk
      refine wpAny_execs_cons (M5.appendStmt (pl := _) (d := .str (crawl i)) (μ' := [(l, .list (dS (agents.map uaLine) ++ [.str (crawl i)]))]) (by with_unfolding_all rfl) ?ya2 ?ya3 .head ?ya5 ?ya6 ?ya7 ?ya8 ?ya9 fun s₃ M₃ => wpAny_execs_nil ⟨rfl, X3, ?ya10⟩)
      case ya2 => ktr_unf
      case ya3 => decide +kernel
      case ya5 =>
        have := dl_str ok.d
        exact Ev.fstr (d := dO (some i)) (ev_d (a := agents) (r := rules) W rfl at_d (by tb_start)) (fmt_int (dl_log ok.d)) (by rw [e2]; omega)
      case ya6 => rfl
      case ya7 => simp [dS]; omega
      case ya8 => rfl
      case ya9 => kernel_rfl
      case ya10 =>
        rw [show dS (agents.map uaLine ++ dlLines (some i)) = dS (agents.map uaLine) ++ [.str (crawl i)] by simp [dS, dlLines]]
        exact M₃
    case u3 =>
      intro hk s5 M5
      cases dl with
      | some i => cases hk
      | none => exact wpAny_execs_nil ⟨rfl, _, by simpa [dlLines] using M5⟩
    refine M4.midS [(l, .list (dS (agents.map uaLine ++ dlLines dl)))] (M4.if (k := false) ?v1 (fun q => nomatch q) fun _ s5 M5 => wpAny_execs_nil ⟨rfl, _, M5⟩) fun X5 s5 M5 => ?_
    case v1 => exact Tst.compare (d1 := .none) (k := !D.none.isNone) (Ev.attr W .q rfl (by tb_start) at_q (by intro v e; cases e)) Ev.noneC (op_isNotNone (by intro v; exact fun q => nomatch q)) rfl
    have hk2 : (D.list (dS rules)).tru = !rules.isEmpty := by cases rules <;> rfl
    refine M5.midS [(l, .list (dS (saidLines agents rules dl)))] (M5.if (k := !rules.isEmpty) (hk2 ▸ Tst.val (Ev.attr W .r rfl (by tb_start) at_r (by intro v e; cases e)) (tru_ok _ (by omega)) (fun _ => rfl)) ?w3 ?w4) fun X6 s6 M6 => ?_
    case w3 =>
      intro hk s7 M7
      refine wpAny_execs_cons (M7.extendMap W R'.handled (pl := _) (rs := rules) (μ' := [(l, .list (dS (agents.map uaLine ++ dlLines dl) ++ dS rules))]) (by with_unfolding_all rfl) ?za2 ?za3 .head ?za5 ?za6 ?za7 rfl ?za8 rfl ?za9 fun s₃ M₃ => wpAny_execs_nil ⟨rfl, X5, ?za10⟩)
      case za2 => ktr_unf
      case za3 => decide +kernel
      case za5 => exact Ev.builtin W (by kernel_rfl) boot_map (by decide) (by kernel_rfl) (by decide)
      case za6 => exact Ev.builtin W (by kernel_rfl) boot_str (by decide) (by kernel_rfl) (by decide)
      case za7 => exact Ev.attr W .r rfl (by tb_start) at_r (by intro v e; cases e)
      case za8 =>
        have : (dlLines dl).length ≤ 1 := by cases dl <;> simp [dlLines]
        simp [dS]; omega
      case za9 => kernel_rfl
      case za10 =>
        have : saidLines agents rules dl = (agents.map uaLine ++ dlLines dl) ++ rules := by
          unfold saidLines ruleLines
          rw [if_neg (by simpa using hk)]
        rw [this, show dS ((agents.map uaLine ++ dlLines dl) ++ rules) = dS (agents.map uaLine ++ dlLines dl) ++ dS rules by simp [dS]]
        exact M₃
    case w4 =>
      intro hk s7 M7
      refine wpAny_execs_cons (M7.appendStmt (pl := _) (d := .str (Str.ofString "Allow:")) (μ' := [(l, .list (dS (agents.map uaLine ++ dlLines dl) ++ [.str (Str.ofString "Allow:")]))]) (by with_unfolding_all rfl) ?ua2 ?ua3 .head ?ua5 ?ua6 ?ua7 ?ua8 ?ua9 fun s₃ M₃ => wpAny_execs_nil ⟨rfl, X5, ?ua10⟩)
      case ua2 => ktr_unf
      case ua3 => decide +kernel
      case ua5 => exact Ev.strC
      case ua6 => rfl
      case ua7 =>
        have : (dlLines dl).length ≤ 1 := by cases dl <;> simp [dlLines]
        simp [dS]; omega
      case ua8 => rfl
      case ua9 => kernel_rfl
      case ua10 =>
        have : saidLines agents rules dl = (agents.map uaLine ++ dlLines dl) ++ [Str.ofString "Allow:"] := by
          unfold saidLines ruleLines
          rw [if_pos (by simpa using hk)]
        rw [this, show dS ((agents.map uaLine ++ dlLines dl) ++ [Str.ofString "Allow:"]) = dS (agents.map uaLine ++ dlLines dl) ++ [.str (Str.ofString "Allow:")] by simp [dS]]
        exact M₃
    obtain ⟨hs1, hs2⟩ := saidLines_len ok
    refine M6.retF (ρ' := [(Str.ofString "ret", .list (dS (saidLines agents rules dl))), (Str.ofString "self", .ent 59 (.list (dS agents)) (.list (dS rules)) (dO dl) .none)]) (rv_hd (M6.listF (.head _)) rv_refl) ?_ h
    have : said agents rules dl = Txt.join (Str.ofString "\n") (saidLines agents rules dl) := by unfold said; rw [he]; rfl
    rw [this]
    exact Ev.join (pl := _) (by with_unfolding_all rfl) rfl (by tb_start) (join_ok hs1 hs2 (by decide +kernel) (by decide))
end
end Mine
end

noncomputable section
open PySem PySem.W PySem.Calls PyProof.Rows PySem.Spec
namespace Mine
open PySem.SeqAt
local macro_rules | `(tactic| ktr_unf) => `(tactic| first | with_reducible exact lk_hd | (refine lk_tl ?_ (by decide +kernel); ktr_unf))
local macro_rules | `(tactic| tb_start) => `(tactic| first
  | with_reducible exact Ev.intC | with_reducible exact Ev.strC | with_reducible exact Ev.noneC | with_reducible exact Ev.boolC
  | (with_reducible refine Ev.name ?h1 ?h2; (case h1 => ktr_unf); (case h2 => decide +kernel)))

section
variable {prog : Program} {w : World} {H : Heap} {A : Around} {X X₀ Z : AS} {s s₀ : Shared} {ρ : Rho} {μ : Mu} {env : Env} {E : Value → Shared → Prop} {mg mb : Str → Option Value}

def star : Str := Str.ofString "*"
def appHit (name a : Str) : Bool := !decide (a = star) && hasSub (Txt.lower a) name
def applies (agents : List Str) (text : Str) : Bool := agents.any (appHit (nameOf text))
theorem len_lower3 (x : Str) : (Txt.lower x).length ≤ 3 * x.length := PyProof.Rows.len_lower x

theorem f_appliesNone (W : WF (KF w) H mg mb) {n : Nat} (R : Room A (n + 5)) {agents rules : List Str} {dl : Option Int} :
    CallG prog w H A (.ref 49) [rec agents rules dl, .none] (.bool (decide (star ∈ agents))) := by
  refine' CallG.fn (names := ["self", "useragent"]) W (n := n + 4) R (f := 49) ?ho ?hcd ?hl ?hb ?hnd ?hck ?hk ?hco ?hgen fun L A' R' => ?body
  case ho => rfl
  case hcd => kernel_rfl
  case hl => rfl
  case hb => (intro vs hv; match vs, hv with | [v, u], _ => rfl)
  case hnd => decide
  case hck => kernel_rfl
  case hk => rfl
  case hco => rfl
  case hgen => rfl
  case body =>
    show Bd _ _ _ _ _ [(Str.ofString "self", .ent 59 (.list (dS agents)) (.list (dS rules)) (dO dl) .none), (Str.ofString "useragent", .none)] _ _
    refine Bd.ifTake (Tst.compare (d1 := .none) (k := D.none.isNone) (by tb_start) Ev.noneC (op_isNone (by intro v; exact fun q => nomatch q)) rfl) ?_
    refine Bd.ret (Ev.compare (d1 := .str star) (d2 := .list (dS agents)) Ev.strC (Ev.attr W .u rfl (by tb_start) at_u (by intro v e; cases e)) op_inS rfl)

theorem f_appliesTo (W : WF (KF w) H mg mb) {n : Nat} (R : Room A (n + 5)) {agents rules : List Str} {dl : Option Int} {text : Str} (ha : agents.length ≤ 200) (hs : ∀ a ∈ agents, a.length ≤ 300) (ht : text.length ≤ 300) :
    CallG prog w H A (.ref 49) [rec agents rules dl, .str text] (.bool (applies agents text)) := by
  refine' CallG.fnM (names := ["self", "useragent"]) W (n := n + 4) R (f := 49) ?ho ?hcd ?hl ?hb ?hnd ?hck ?hk ?hco ?hgen fun L A' R' => ?body
  case ho => rfl
  case hcd => kernel_rfl
  case hl => rfl
  case hb => (intro vs hv; match vs, hv with | [v, u], _ => rfl)
  case hnd => decide
  case hck => kernel_rfl
  case hk => rfl
  case hco => rfl
  case hgen => rfl
  case body =>
    show BdM _ _ _ _ _ [(Str.ofString "self", .ent 59 (.list (dS agents)) (.list (dS rules)) (dO dl) .none), (Str.ofString "useragent", .str text)] _ _
    refine ⟨fun X₀ s₀ X s M Q E h => ?_⟩
    refine wpAny_execs_cons (M.if (k := false) ?t1 (fun q => nomatch q) fun _ s1 M1 => wpAny_execs_nil ?t2)
    case t1 => exact Tst.compare (d1 := .str text) (k := (D.str text).isNone) (by tb_start) Ev.noneC (op_isNone (by intro v; exact fun q => nomatch q)) rfl
    dsimp only
    have hl := headOf_len text
    have hn3 := len_lower3 (headOf text sl)
    refine M1.seq (Ex1.assign (d := .str (nameOf text)) ?a1 (.inl (by kernel_rfl)) (by kernel_rfl)) fun s2 M2 => ?_
    case a1 =>
      refine Ev.lower (pl := _) (by with_unfolding_all rfl) ?_ (by omega)
      refine Ev.item (d1 := .list (dS (Txt.split text sl))) (d2 := .int 0) ?_ Ev.intC (item_list noSlice_const (by decide) (by decide) ?_)
      · exact Ev.methB (T := "str") (id := "str.split") (d0 := .str text) (pl := _) (by with_unfolding_all rfl) (by tb_start) (.cons (d := .str sl) Ev.strC .nil) rfl (fun _ _ _ r => ty_str r) PySem.F.plainAttrs_str PySem.F.slot_str_split PySem.F.type_str_split (c_split (by decide +kernel) (by omega))
      · rw [dS, List.getElem?_map]
        rw [show (0 : Int).toNat = 0 from rfl, headOf_at text sl]; rfl
    refine wpAny_execs_cons (MS.forJ (M := M2) (ds := dS agents) (fun i => (agents.take i).any (appHit (nameOf text)) = false) rfl (fun _ => [(Str.ofString "useragent", .str (nameOf text)), (Str.ofString "self", .ent 59 (.list (dS agents)) (.list (dS rules)) (dO dl) .none), (Str.ofString "useragent", .str text)]) (fun _ => []) (fun _ => rfl) ?g1
        (SrcE.list R' (Ev.attr W .u rfl (by tb_start) at_u (by intro v e; cases e))) (fun _ => rfl) (fun i d Y sx E' hd hJ Mx back => ?g4) (fun Y sx hJ Mx => ?g5))
    case g1 => exact .inl (by kernel_rfl)
    case g4 =>
      rw [dS, List.getElem?_map] at hd
      cases hq : agents[i]? with
      | none => rw [hq] at hd; cases hd
      | some a =>
        rw [hq] at hd; cases hd
        have ham : a ∈ agents := List.mem_of_getElem? hq
        have hla := hs a ham
        have hnx : (agents.take (i + 1)).any (appHit (nameOf text)) = appHit (nameOf text) a := by
          rw [List.take_add_one, hq]
          simp [hJ]
        replace Mx : MS H X₀ sx _ _ [(Str.ofString "agent", .str a), (Str.ofString "useragent", .str (nameOf text)), (Str.ofString "self", .ent 59 (.list (dS agents)) (.list (dS rules)) (dO dl) .none), (Str.ofString "useragent", .str text)] [] Y sx := Mx
        refine wpAny_execs_cons (Mx.if (k := !decide (a = star)) (Tst.compare (d1 := .str a) (d2 := .str star) (by tb_start) Ev.strC op_neS rfl) (fun hk s3 M3 => ?x1) fun hk s3 M3 => wpAny_execs_nil ?x2)
        case x2 =>
          refine wpAny_execs_nil ⟨?_, ?_⟩
          · rw [hnx, appHit, hk]; rfl
          · exact M3.weak fun x d e => by
              rw [lookup_cons_eq]
              by_cases q : x = Str.ofString "agent"
              · subst q; cases e
              · rw [if_neg q]; exact e
        refine M3.seq (Ex1.assign (d := .str (Txt.lower a)) (Ev.lower (pl := _) (by with_unfolding_all rfl) (by tb_start) (by omega)) (.inl (by kernel_rfl)) (by kernel_rfl)) fun s4 M4 => ?_
        refine wpAny_execs_cons (M4.if (k := hasSub (Txt.lower a) (nameOf text)) (Tst.compare (d1 := .str (Txt.lower a)) (d2 := .str (nameOf text)) (by tb_start) (by tb_start) op_inSub rfl) (fun hk2 s5 M5 => ?y1) fun hk2 s5 M5 => wpAny_execs_nil (wpAny_execs_nil (wpAny_execs_nil ⟨?y2, ?y3⟩)))
        case y1 =>
          refine (back _ _ _ _ M5).ret (d := .bool true) Ev.boolC fun v s' kb r => h v s' kb ?_
          have : applies agents text = true := by
            unfold applies
            rw [List.any_eq_true]
            exact ⟨a, ham, by unfold appHit; rw [hk, hk2]; rfl⟩
          rw [this]; exact r
        case y2 => rw [hnx, appHit, hk2, Bool.and_false]
        case y3 =>
          exact M5.weak fun x d e => by
            rw [lookup_cons_eq, lookup_cons_eq]
            by_cases q : x = Str.ofString "agent"
            · subst q; cases e
            · rw [if_neg q, if_neg q]; exact e
    case g5 =>
      refine Mx.ret (d := .bool false) Ev.boolC fun v s' kb r => h v s' kb ?_
      have : applies agents text = false := by
        have e : (dS agents).length = agents.length := by simp [dS]
        rw [e, List.take_length] at hJ
        exact hJ
      rw [this]; exact r
end
end Mine
end

noncomputable section
open PySem PySem.W PySem.Calls PyProof.Rows PySem.Spec
namespace Mine
open PySem.SeqAt
local macro_rules | `(tactic| ktr_unf) => `(tactic| first | with_reducible exact lk_hd | (refine lk_tl ?_ (by decide +kernel); ktr_unf))
local macro_rules | `(tactic| tb_start) => `(tactic| first
  | with_reducible exact Ev.intC | with_reducible exact Ev.strC | with_reducible exact Ev.noneC | with_reducible exact Ev.boolC
  | (with_reducible refine Ev.name ?h1 ?h2; (case h1 => ktr_unf); (case h2 => decide +kernel)))

section
variable {prog : Program} {w : World} {H : Heap} {A : Around} {X X₀ Z : AS} {s s₀ : Shared} {ρ : Rho} {μ : Mu} {env : Env} {E : Value → Shared → Prop} {mg mb : Str → Option Value}

theorem f_buffer (W : WF (KF w) H mg mb) {n : Nat} (R : Room A (n + 3)) {b : Array UInt8} : CallG prog w H A (.ref 105) [.bytes b] (.bytes b) := by
  refine' CallG.fn (names := ["data"]) W (n := n + 2) R (f := 105) ?ho ?hcd ?hl ?hb ?hnd ?hck ?hk ?hco ?hgen fun L A' R' => ?body
  case ho => rfl
  case hcd => kernel_rfl
  case hl => rfl
  case hb => (intro vs hv; match vs, hv with | [v], _ => rfl)
  case hnd => decide
  case hck => kernel_rfl
  case hk => rfl
  case hco => rfl
  case hgen => rfl
  case body =>
    show Bd _ _ _ _ _ [(Str.ofString "data", .bytes b)] _ _
    refine Bd.seq (Ex1.assign (d := .val (.type "bytes")) (Ev.callT nameCall (T := "type") (Ev.builtin W (by kernel_rfl) boot_type (by decide) (by kernel_rfl) (by decide)) (.cons (d := .bytes b) (by tb_start) .nil) rfl (c_type rfl (by decide) (by decide))) (.inl (by kernel_rfl)) (by kernel_rfl)) ?_
    refine Bd.ifTake (Tst.compare (d1 := .val (.type "bytes")) (by tb_start) (Ev.builtin W (by kernel_rfl) boot_bytes (by decide) (by kernel_rfl) (by decide)) op_isT rfl) ?_
    exact Bd.ret (by tb_start)
theorem f_truth (W : WF (KF w) H mg mb) {n : Nat} (R : Room A (n + 3)) {b : Bool} : CallG prog w H A (.ref 112) [.bool b] (.bool b) := by
  refine' CallG.fn (names := ["x"]) W (n := n + 2) R (f := 112) ?ho ?hcd ?hl ?hb ?hnd ?hck ?hk ?hco ?hgen fun L A' R' => ?body
  case ho => rfl
  case hcd => kernel_rfl
  case hl => rfl
  case hb => (intro vs hv; match vs, hv with | [v], _ => rfl)
  case hnd => decide
  case hck => kernel_rfl
  case hk => rfl
  case hco => rfl
  case hgen => rfl
  case body =>
    show Bd _ _ _ _ _ [(Str.ofString "x", .bool b)] _ _
    refine Bd.seq (Ex1.assign (d := .val (.type "bool")) (Ev.callT nameCall (T := "type") (Ev.builtin W (by kernel_rfl) boot_type (by decide) (by kernel_rfl) (by decide)) (.cons (d := .bool b) (by tb_start) .nil) rfl (c_type rfl (by decide) (by decide))) (.inl (by kernel_rfl)) (by kernel_rfl)) ?_
    refine Bd.ifTake (Tst.orMiss (Tst.compare (d1 := .bool b) (k := (D.bool b).isNone) (by tb_start) Ev.noneC (op_isNone (by intro v; exact fun q => nomatch q)) rfl) (Tst.orHit (Tst.compare (d1 := .val (.type "bool")) (by tb_start) (Ev.builtin W (by kernel_rfl) boot_bool (by decide) (by kernel_rfl) (by decide)) op_isT rfl))) ?_
    refine Bd.ret ?_
    exact Ev.cast (d' := if (D.bool b).tru = true then .bool true else .bool false) (by cases b <;> rfl) (Ev.ifExp (Tst.val (d := .bool b) (by tb_start) rfl (fun _ => rfl)) (fun _ => Ev.boolC) fun _ => Ev.boolC)

def b64tab : Array UInt8 := #[65, 66, 67, 68, 69, 70, 71, 72, 73, 74, 75, 76, 77, 78, 79, 80, 81, 82, 83, 84, 85, 86, 87, 88, 89, 90, 97, 98, 99, 100, 101, 102, 103, 104, 105, 106, 107, 108, 109, 110, 111, 112, 113, 114, 115, 116, 117, 118, 119, 120, 121, 122, 48, 49, 50, 51, 52, 53, 54, 55, 56, 57, 43, 47]
theorem glob_b64 : nsIn (KF w) mainGlobals "_B64" = some (some (.bytes b64tab 317)) := by kernel_rfl
theorem b64tab_at : b64tab.toList.map UInt8.toNat = alph.cps.toList := by decide +kernel
theorem b64tab_size : b64tab.size = 64 := rfl
theorem Ev.tab (W : WF (KF w) H mg mb) {pos : Pos} (hx : env.kindOf "_B64" = some .globalImplicit) : Ev prog w H A env ρ (.Name "_B64" pos) (.bytes b64tab) := Ev.globalD W glob_b64 hx (by decide) fun _ _ => .bytes _ _

/-- the sign at a place of the code -/
def sign (x : Int) (k : Nat) : Int := bI b64tab (Builtin.bitAnd (x.fdiv (2 ^ k)) 63).toNat
noncomputable def lcN (b : Array UInt8) : Nat → Int
  | 0 => 0
  | i + 1 => Builtin.bitAnd (Builtin.bitOr (lcN b i * 2 ^ 8) (bI b i)) 65535
def lbN (i : Nat) : Nat := (2 * i) % 6
def nW (i : Nat) : Nat := (lbN i + 8) / 6
def turnOut (x : Int) (i : Nat) : List Int := (List.range (nW i)).map fun j => sign x (lbN (i + 1) + 6 * (nW i - 1 - j))
noncomputable def outN (b : Array UInt8) : Nat → List Int
  | 0 => []
  | i + 1 => outN b i ++ turnOut (lcN b (i + 1)) i
theorem sign_range (x : Int) (k : Nat) : 0 ≤ sign x k ∧ sign x k < 256 := bI_range _ _
def encB (b : Array UInt8) : Array UInt8 := byteArr (outN b 3)

theorem lcN_range (b : Array UInt8) : ∀ i, 0 ≤ lcN b i ∧ lcN b i < 65536
  | 0 => ⟨Int.le_refl _, by show (0 : Int) < 65536; decide⟩
  | i + 1 => by
    unfold lcN
    rw [bitAnd_m16]
    omega
theorem lbN_lt (i : Nat) : lbN i < 6 := Nat.mod_lt _ (by decide)
theorem lbN_next (i : Nat) : lbN i + 8 = lbN (i + 1) + 6 * nW i := by unfold nW lbN; omega
theorem nW_pos (i : Nat) : 1 ≤ nW i := by unfold nW; omega
theorem nW_le (i : Nat) : nW i ≤ 2 := by have := lbN_lt i; unfold nW; omega

theorem f_b2a (W : WF (KF w) H mg mb) {n : Nat} (R : Room A (n + 6)) {b : Array UInt8} (hb3 : b.size = 3) : CallKw prog w H A (.ref 135) [.bytes b] "newline" (.bool false) (.bytes (encB b)) := by
  refine ⟨fun X s vs v Wh r rv => ?_⟩
  obtain ⟨u, rfl, r1⟩ := one r
  refine' call_defM (args := ⟨[u], [("newline", v)]⟩) (K := KF w) W (n := n + 5) R (f := 135) ?ho ?hcd (binds := [(Str.ofString "data", u), (Str.ofString "newline", v)]) (ρ₀ := [(Str.ofString "data", .bytes b), (Str.ofString "newline", .bool false)]) Wh ?hb (.cons r1 (.cons rv .nil)) ?hnd ?hck ?hk ?hco ?hgen fun L A' R' => ?body
  case ho => rfl
  case hcd => kernel_rfl
  case hb => exact kp_binds (W.kin.keeps Wh.base) fun S => by kernel_rfl
  case hnd => simp only [List.map]; decide
  case hck => kernel_rfl
  case hk => rfl
  case hco => rfl
  case hgen => rfl
  case body =>
    clear Wh r r1 rv
    refine ⟨fun X₀ s₀ X s M Q E h => ?_⟩
    refine M.seq (Ex1.assign (d := .bytes b) (Ev.callRef W nameCall (Ev.global W (by kernel_rfl) (by kernel_rfl) (by decide)) (.cons (d := .bytes b) (by tb_start) .nil) rfl (by kernel_rfl) (f_buffer W (n := n + 2) R')) (.inl (by kernel_rfl)) (by kernel_rfl)) fun s1 M1 => ?_
    refine M1.seq (Ex1.assign (d := .bool false) (Ev.callRef W nameCall (Ev.global W (by kernel_rfl) (by kernel_rfl) (by decide)) (.cons (d := .bool false) (by tb_start) .nil) rfl (by kernel_rfl) (f_truth W (n := n + 2) R')) (.inl (by kernel_rfl)) (by kernel_rfl)) fun s2 M2 => ?_
    refine wpAny_execs_cons (M2.newVar (.inl (by kernel_rfl)) (by kernel_rfl) fun l X3 s3 M3 => ?_)
    dsimp only
    refine M3.seq (Ex1.assign (d := .int 0) Ev.intC (.inl (by kernel_rfl)) (by kernel_rfl)) fun s4 M4 => ?_
    refine M4.seq (Ex1.assign (d := .int 0) Ev.intC (.inl (by kernel_rfl)) (by kernel_rfl)) fun s5 M5 => ?_
    replace M5 : MS H X₀ s₀ _ _ [(Str.ofString "leftbits", .int (lbN 0)), (Str.ofString "leftchar", .int (lcN b 0)), (Str.ofString "out", .val (.ref l)), (Str.ofString "bin_data", .bytes b), (Str.ofString "newline", .bool false)] _ X3 s5 :=
      M5.weak (ρ' := [(Str.ofString "leftbits", .int 0), (Str.ofString "leftchar", .int 0), (Str.ofString "out", .val (.ref l)), (Str.ofString "bin_data", .bytes b), (Str.ofString "newline", .bool false)])
      (Wk.cons (by ktr_unf) (Wk.cons (by ktr_unf) (Wk.cons (by ktr_unf) (Wk.cons (by ktr_unf) (Wk.cons (by ktr_unf) Wk.nil)))))
    refine wpAny_execs_cons (MS.for (M := M5) (ds := b.toList.map fun c => .int c.toNat) (fun i => [(Str.ofString "leftbits", .int (lbN i)), (Str.ofString "leftchar", .int (lcN b i)), (Str.ofString "out", .val (.ref l)), (Str.ofString "bin_data", .bytes b), (Str.ofString "newline", .bool false)])
      (fun i => [(l, .list (dI (outN b i)))]) (fun _ => rfl) ?g1 (SrcE.bytes R' ?g2) (fun _ => rfl) (fun i d Y sx E' hd Mx back => ?g4) (fun Y sx Mx => ?g5))
    case g1 => exact .inl (by kernel_rfl)
    case g2 => tb_start
    case g4 =>
      have hi : i < 3 ∧ d = .int (bI b i) := by
        rw [List.getElem?_map] at hd
        cases hq : b.toList[i]? with
        | none => rw [hq] at hd; cases hd
        | some c =>
          rw [hq] at hd; cases hd
          have := (List.getElem?_eq_some_iff.mp hq).1
          rw [Array.length_toList, hb3] at this
          exact ⟨this, by unfold bI; rw [List.getD_eq_getElem?_getD, hq]; rfl⟩
      obtain ⟨hi, rfl⟩ := hi
      have hlr := lcN_range b i
      have hbits : Builtin.Int.intBits (lcN b i) ≤ 16 := intBits_le_iff.mpr (by omega)
      refine Mx.seq (Ex1.assign (d := .int (lcN b (i + 1))) (Ev.cast (d' := .int (Builtin.bitAnd (Builtin.bitOr (lcN b i * 2 ^ (8 : Int).toNat) (bI b i)) 65535)) rfl
        (Ev.binop (Ev.binop (Ev.binop (d1 := .int (lcN b i)) (by tb_start) Ev.intC (op_shl (by decide) (by omega))) (d2 := .int (bI b i)) (by tb_start) op_or) Ev.intC op_and)) (.inl (by kernel_rfl)) (by kernel_rfl)) fun s6 M6 => ?_
      refine M6.seq (Ex1.assign (d := .int ((lbN i : Int) + 8)) (Ev.binop (d1 := .int (lbN i)) (by tb_start) Ev.intC op_add) (.inl (by kernel_rfl)) (by kernel_rfl)) fun s7 M7 => ?_
      have hnx := lbN_next i
      have hl6 := lbN_lt (i + 1)
      replace M7 := M7.weak (ρ' := [(Str.ofString "leftbits", .int ((lbN (i + 1) + 6 * nW i : Nat) : Int)), (Str.ofString "leftchar", .int (lcN b (i + 1))), (Str.ofString "out", .val (.ref l)), (Str.ofString "bin_data", .bytes b), (Str.ofString "newline", .bool false)])
        (Wk.cons (by rw [show ((lbN (i + 1) + 6 * nW i : Nat) : Int) = (lbN i : Int) + 8 by omega]; ktr_unf) (Wk.cons (by ktr_unf) (Wk.cons (by ktr_unf) (Wk.cons (by ktr_unf) (Wk.cons (by ktr_unf) Wk.nil)))))
      refine wpAny_execs_cons (MS.while (nW i) (fun k => [(Str.ofString "leftbits", .int ((lbN (i + 1) + 6 * k : Nat) : Int)), (Str.ofString "leftchar", .int (lcN b (i + 1))), (Str.ofString "out", .val (.ref l)), (Str.ofString "bin_data", .bytes b), (Str.ofString "newline", .bool false)])
        (fun k => [(l, .list (dI (outN b i ++ (List.range (nW i - k)).map fun j => sign (lcN b (i + 1)) (lbN (i + 1) + 6 * (nW i - 1 - j)))))]) (by rw [Nat.sub_self]; simpa using M7) (fun k hk => ?w1) (fun k sy E2 hk My => ?w2) fun sy My => wpAny_execs_nil ?w3)
      case w1 =>
        have e : (k != 0) = decide ((6 : Int) ≤ ((lbN (i + 1) + 6 * k : Nat) : Int)) := by
          by_cases q : k = 0
          · subst q; simp; omega
          · have : (k != 0) = true := by simpa using q
            rw [this]; symm; exact decide_eq_true (by omega)
        rw [e]
        exact Tst.compare (d1 := .int ((lbN (i + 1) + 6 * k : Nat) : Int)) (by tb_start) Ev.intC op_geI rfl
      case w3 =>
        rw [Nat.sub_zero] at My
        exact My
      case w2 =>
        have hle := nW_le i
        have hol : ∀ i, (outN b i).length ≤ 2 * i := by
          intro i
          induction i with
          | zero => exact Nat.le_refl _
          | succ i ih =>
            have := nW_le i
            simp only [outN, turnOut, List.length_append, List.length_map, List.length_range]; omega
        have hol := hol i
        refine wpAny_execs_cons (My.appendStmt (pl := _) (d := .int (sign (lcN b (i + 1)) (lbN (i + 1) + 6 * k))) (μ' := [(l, .list (dI (outN b i ++ (List.range (nW i - (k + 1))).map fun j => sign (lcN b (i + 1)) (lbN (i + 1) + 6 * (nW i - 1 - j))) ++ [.int (sign (lcN b (i + 1)) (lbN (i + 1) + 6 * k))]))]) (by with_unfolding_all rfl) ?a2 ?a3 .head ?a5 ?a6 ?a7 ?a8 ?a9 fun s8 M8 => ?_)
        case a2 => ktr_unf
        case a3 => decide +kernel
        case a5 =>
          have hm := bitAnd_m6 ((lcN b (i + 1)).fdiv (2 ^ (lbN (i + 1) + 6 * k)))
          have hix : 0 ≤ Builtin.bitAnd ((lcN b (i + 1)).fdiv (2 ^ (lbN (i + 1) + 6 * k))) 63 ∧ Builtin.bitAnd ((lcN b (i + 1)).fdiv (2 ^ (lbN (i + 1) + 6 * k))) 63 < 64 := by rw [hm]; omega
          refine Ev.item (d1 := .bytes b64tab) (d2 := .int (Builtin.bitAnd ((lcN b (i + 1)).fdiv (2 ^ (lbN (i + 1) + 6 * k))) 63)) (Ev.tab W (by kernel_rfl)) ?_ (item_bytes noSlice_bin hix.1 (by rw [b64tab_size]; exact hix.2) (by decide))
          refine Ev.binop (d1 := .int ((lcN b (i + 1)).fdiv (2 ^ (lbN (i + 1) + 6 * k)))) ?_ Ev.intC op_and
          refine Ev.cast (d' := .int ((lcN b (i + 1)).fdiv (2 ^ (((lbN (i + 1) + 6 * k : Nat) : Int)).toNat))) (by rw [Int.toNat_natCast]) (Ev.binop (d1 := .int (lcN b (i + 1))) (d2 := .int ((lbN (i + 1) + 6 * k : Nat) : Int)) (by tb_start) ?_ (op_shr (by omega)))
          exact Ev.cast (d' := .int (((lbN (i + 1) + 6 * (k + 1) : Nat) : Int) - 6)) (by congr 1; omega) (Ev.binop (d1 := .int ((lbN (i + 1) + 6 * (k + 1) : Nat) : Int)) (by tb_start) Ev.intC op_sub)
        case a6 => rfl
        case a7 => simp [dI]; omega
        case a8 => rfl
        case a9 => kernel_rfl
        dsimp only
        refine M8.seq (Ex1.assign (d := .int ((lbN (i + 1) + 6 * k : Nat) : Int)) (Ev.cast (d' := .int (((lbN (i + 1) + 6 * (k + 1) : Nat) : Int) - 6)) (by congr 1; omega) (Ev.binop (d1 := .int ((lbN (i + 1) + 6 * (k + 1) : Nat) : Int)) (by tb_start) Ev.intC op_sub)) (.inl (by kernel_rfl)) (by kernel_rfl)) fun s9 M9 => wpAny_execs_nil ?_
        have er : nW i - k = (nW i - (k + 1)) + 1 := by omega
        have ek : nW i - 1 - (nW i - (k + 1)) = k := by omega
        rw [er, List.range_succ, List.map_append, List.map_singleton, ek]
        rw [show dI (outN b i ++ (List.map (fun j => sign (lcN b (i + 1)) (lbN (i + 1) + 6 * (nW i - 1 - j))) (List.range (nW i - (k + 1))) ++ [sign (lcN b (i + 1)) (lbN (i + 1) + 6 * k)])) = dI (outN b i ++ (List.range (nW i - (k + 1))).map fun j => sign (lcN b (i + 1)) (lbN (i + 1) + 6 * (nW i - 1 - j))) ++ [.int (sign (lcN b (i + 1)) (lbN (i + 1) + 6 * k))] by simp [dI]]
        exact M9.weak (Wk.cons (by ktr_unf) (Wk.cons (by ktr_unf) (Wk.cons (by ktr_unf) (Wk.cons (by ktr_unf) (Wk.cons (by ktr_unf) Wk.nil)))))
    case g5 =>
      have e3 : (b.toList.map fun c => D.int c.toNat).length = 3 := by rw [List.length_map, Array.length_toList, hb3]
      rw [e3] at Mx
      dsimp only
      refine wpAny_execs_cons (Mx.if (k := false) (Tst.compare (d1 := .int (lbN 3)) (by tb_start) Ev.intC op_eqI rfl) (fun q => nomatch q) fun _ s6 M6 => ?_)
      refine wpAny_execs_cons (M6.if (k := false) (Tst.compare (d1 := .int (lbN 3)) (by tb_start) Ev.intC op_eqI rfl) (fun q => nomatch q) fun _ s7 M7 => wpAny_execs_nil (wpAny_execs_nil ?_))
      dsimp only
      refine wpAny_execs_cons (M7.if (k := false) (Tst.val (d := .bool false) (by tb_start) rfl (fun _ => rfl)) (fun q => nomatch q) fun _ s8 M8 => wpAny_execs_nil ?_)
      dsimp only
      refine M8.retF (ρ' := [(Str.ofString "leftbits", .int (lbN 3)), (Str.ofString "leftchar", .int (lcN b 3)), (Str.ofString "out", .list (dI (outN b 3)))]) ?_ ?_ h
      · exact rv_tl (rv_tl (rv_hd (M8.listF (.head _)) fun _ _ e => nomatch e))
      · refine Ev.callT nameCall (T := "bytes") (Ev.builtin W (by kernel_rfl) boot_bytes (by decide) (by kernel_rfl) (by decide)) (.cons (d := .list (dI (outN b 3))) (by tb_start) .nil) rfl (c_bytes (n := n + 5) R' (fun m hm => ?_) ?_)
        · simp only [outN, turnOut, List.nil_append, List.mem_append, List.mem_map] at hm
          rcases hm with (⟨j, _, rfl⟩ | ⟨j, _, rfl⟩) | ⟨j, _, rfl⟩ <;> exact sign_range _ _
        · have h0 := nW_le 0
          have h1 := nW_le 1
          have h2 := nW_le 2
          simp only [outN, turnOut, List.nil_append, List.length_append, List.length_map, List.length_range]; omega
end
end Mine
end

noncomputable section
open PySem PySem.W PySem.Calls PyProof.Rows PySem.Spec
namespace Mine
open PySem.SeqAt
local macro_rules | `(tactic| ktr_unf) => `(tactic| first | with_reducible exact lk_hd | (refine lk_tl ?_ (by decide +kernel); ktr_unf))
local macro_rules | `(tactic| tb_start) => `(tactic| first
  | with_reducible exact Ev.intC | with_reducible exact Ev.strC | with_reducible exact Ev.noneC | with_reducible exact Ev.boolC
  | (with_reducible refine Ev.name ?h1 ?h2; (case h1 => ktr_unf); (case h2 => decide +kernel)))

section
variable {prog : Program} {w : World} {H : Heap} {A : Around} {X X₀ Z : AS} {s s₀ : Shared} {ρ : Rho} {μ : Mu} {env : Env} {E : Value → Shared → Prop} {mg mb : Str → Option Value}

theorem f_b64encode (W : WF (KF w) H mg mb) {n : Nat} (R : Room A (n + 7)) {b : Array UInt8} (hb3 : b.size = 3) : CallG prog w H A (.ref 143) [.bytes b] (.bytes (encB b)) := by
  refine ⟨fun X s vs Wh r => ?_⟩
  obtain ⟨u, rfl, r1⟩ := one r
  refine' call_def (args := ⟨[u], []⟩) (K := KF w) W (n := n + 6) R (f := 143) ?ho ?hcd (binds := [(Str.ofString "s", u), (Str.ofString "altchars", .none)]) (ρ₀ := [(Str.ofString "s", .bytes b), (Str.ofString "altchars", .none)]) Wh ?hb (.cons r1 (.cons .none .nil)) ?hnd ?hck ?hk ?hco ?hgen fun L A' R' => ?body
  case ho => rfl
  case hcd => kernel_rfl
  case hb => exact kp_binds (W.kin.keeps Wh.base) fun S => by kernel_rfl
  case hnd => simp only [List.map]; decide
  case hck => kernel_rfl
  case hk => rfl
  case hco => rfl
  case hgen => rfl
  case body =>
    clear Wh r r1
    refine Bd.seq (Ex1.assign (d := .bytes (encB b)) (Ev.callKw W (dk := .bool false) (ds := [.bytes b]) (by with_unfolding_all rfl) (Ev.global W (by kernel_rfl) (by kernel_rfl) (by decide)) (.cons (d := .bytes b) (by tb_start) .nil) rfl (by kernel_rfl) Ev.boolC (f_b2a W (n := n) R' hb3)) (.inl (by kernel_rfl)) (by kernel_rfl)) ?_
    refine Bd.ifSkip (Tst.compare (d1 := .none) (k := !D.none.isNone) (by tb_start) Ev.noneC (op_isNotNone (by intro v; exact fun q => nomatch q)) rfl) ?_
    exact Bd.ret (by tb_start)

def b64v (c : Int) : Int := if 65 ≤ c ∧ c ≤ 90 then c - 65 else if 97 ≤ c ∧ c ≤ 122 then c - 71 else if 48 ≤ c ∧ c ≤ 57 then c + 4 else if c = 43 then 62 else if c = 47 then 63 else 64
theorem f_b64value (W : WF (KF w) H mg mb) {n : Nat} (R : Room A (n + 3)) {c : Int} : CallG prog w H A (.ref 119) [.int c] (.int (b64v c)) := by
  refine' CallG.fn (names := ["c"]) W (n := n + 2) R (f := 119) ?ho ?hcd ?hl ?hb ?hnd ?hck ?hk ?hco ?hgen fun L A' R' => ?body
  case ho => rfl
  case hcd => kernel_rfl
  case hl => rfl
  case hb => (intro vs hv; match vs, hv with | [v], _ => rfl)
  case hnd => decide
  case hck => kernel_rfl
  case hk => rfl
  case hco => rfl
  case hgen => rfl
  case body =>
    show Bd _ _ _ _ _ [(Str.ofString "c", .int c)] _ _
    have tk : ∀ {a b : Int} {t : PySem.Expr} {env : Env}, (decide (a ≤ c) && decide (c ≤ b)) = true → (a ≤ c ∧ c ≤ b) := fun h => by simpa using h
    unfold b64v
    by_cases h1 : 65 ≤ c ∧ c ≤ 90
    · rw [if_pos h1]
      refine Bd.ifTake ((show (decide (65 ≤ c) && decide (c ≤ 90)) = true by simpa using h1) ▸ Tst.chain (x := 65) (y := c) (z := 90) Ev.intC (by tb_start) Ev.intC rfl) (Bd.ret (Ev.binop (d1 := .int c) (by tb_start) Ev.intC op_sub))
    · rw [if_neg h1]
      refine Bd.ifSkip ((show (decide (65 ≤ c) && decide (c ≤ 90)) = false by simpa using h1) ▸ Tst.chain (x := 65) (y := c) (z := 90) Ev.intC (by tb_start) Ev.intC rfl) ?_
      by_cases h2 : 97 ≤ c ∧ c ≤ 122
      · rw [if_pos h2]
        refine Bd.ifTake ((show (decide (97 ≤ c) && decide (c ≤ 122)) = true by simpa using h2) ▸ Tst.chain (x := 97) (y := c) (z := 122) Ev.intC (by tb_start) Ev.intC rfl) (Bd.ret (Ev.binop (d1 := .int c) (by tb_start) Ev.intC op_sub))
      · rw [if_neg h2]
        refine Bd.ifSkip ((show (decide (97 ≤ c) && decide (c ≤ 122)) = false by simpa using h2) ▸ Tst.chain (x := 97) (y := c) (z := 122) Ev.intC (by tb_start) Ev.intC rfl) ?_
        by_cases h3 : 48 ≤ c ∧ c ≤ 57
        · rw [if_pos h3]
          refine Bd.ifTake ((show (decide (48 ≤ c) && decide (c ≤ 57)) = true by simpa using h3) ▸ Tst.chain (x := 48) (y := c) (z := 57) Ev.intC (by tb_start) Ev.intC rfl) (Bd.ret (Ev.binop (d1 := .int c) (by tb_start) Ev.intC op_add))
        · rw [if_neg h3]
          refine Bd.ifSkip ((show (decide (48 ≤ c) && decide (c ≤ 57)) = false by simpa using h3) ▸ Tst.chain (x := 48) (y := c) (z := 57) Ev.intC (by tb_start) Ev.intC rfl) ?_
          by_cases h4 : c = 43
          · rw [if_pos h4]
            exact Bd.ifTake ((show decide (c = 43) = true from decide_eq_true h4) ▸ Tst.compare (d1 := .int c) (by tb_start) Ev.intC op_eqI rfl) (Bd.ret Ev.intC)
          · rw [if_neg h4]
            refine Bd.ifSkip ((show decide (c = 43) = false from decide_eq_false h4) ▸ Tst.compare (d1 := .int c) (by tb_start) Ev.intC op_eqI rfl) ?_
            by_cases h5 : c = 47
            · rw [if_pos h5]
              exact Bd.ifTake ((show decide (c = 47) = true from decide_eq_true h5) ▸ Tst.compare (d1 := .int c) (by tb_start) Ev.intC op_eqI rfl) (Bd.ret Ev.intC)
            · rw [if_neg h5]
              exact Bd.ifSkip ((show decide (c = 47) = false from decide_eq_false h5) ▸ Tst.compare (d1 := .int c) (by tb_start) Ev.intC op_eqI rfl) (Bd.ret Ev.intC)
theorem f_asciiBuffer (W : WF (KF w) H mg mb) {n : Nat} (R : Room A (n + 3)) {b : Array UInt8} : CallG prog w H A (.ref 98) [.bytes b] (.bytes b) := by
  refine' CallG.fn (names := ["data"]) W (n := n + 2) R (f := 98) ?ho ?hcd ?hl ?hb ?hnd ?hck ?hk ?hco ?hgen fun L A' R' => ?body
  case ho => rfl
  case hcd => kernel_rfl
  case hl => rfl
  case hb => (intro vs hv; match vs, hv with | [v], _ => rfl)
  case hnd => decide
  case hck => kernel_rfl
  case hk => rfl
  case hco => rfl
  case hgen => rfl
  case body =>
    show Bd _ _ _ _ _ [(Str.ofString "data", .bytes b)] _ _
    refine Bd.seq (Ex1.assign (d := .val (.type "bytes")) (Ev.callT nameCall (T := "type") (Ev.builtin W (by kernel_rfl) boot_type (by decide) (by kernel_rfl) (by decide)) (.cons (d := .bytes b) (by tb_start) .nil) rfl (c_type rfl (by decide) (by decide))) (.inl (by kernel_rfl)) (by kernel_rfl)) ?_
    refine Bd.ifSkip (Tst.compare (d1 := .val (.type "bytes")) (by tb_start) (Ev.builtin W (by kernel_rfl) boot_str (by decide) (by kernel_rfl) (by decide)) op_isT rfl) ?_
    refine Bd.ifTake (Tst.compare (d1 := .val (.type "bytes")) (by tb_start) (Ev.builtin W (by kernel_rfl) boot_bytes (by decide) (by kernel_rfl) (by decide)) op_isT rfl) ?_
    exact Bd.ret (by tb_start)
theorem f_decodeData (W : WF (KF w) H mg mb) {n : Nat} (R : Room A (n + 3)) {a b c d : Nat} (ha : a < 128) (hb : b < 128) (hc : c < 128) (hd : d < 128) :
    CallG prog w H A (.ref 78) [.str ⟨#[a, b, c, d]⟩] (.bytes #[a.toUInt8, b.toUInt8, c.toUInt8, d.toUInt8]) := by
  refine' CallG.fn (names := ["s"]) W (n := n + 2) R (f := 78) ?ho ?hcd ?hl ?hb ?hnd ?hck ?hk ?hco ?hgen fun L A' R' => ?body
  case ho => rfl
  case hcd => kernel_rfl
  case hl => rfl
  case hb => (intro vs hv; match vs, hv with | [v], _ => rfl)
  case hnd => decide
  case hck => kernel_rfl
  case hk => rfl
  case hco => rfl
  case hgen => rfl
  case body =>
    show Bd _ _ _ _ _ [(Str.ofString "s", .str ⟨#[a, b, c, d]⟩)] _ _
    refine Bd.ifTake (Tst.val (d := .bool true) (Ev.callB nameCall (Ev.builtin W (by kernel_rfl) boot_isinstance (by decide) (by kernel_rfl) (by decide)) (.cons (d := .str ⟨#[a, b, c, d]⟩) (by tb_start) (.cons (Ev.builtin W (by kernel_rfl) boot_str (by decide) (by kernel_rfl) (by decide)) .nil)) rfl c_isStr) rfl (fun _ => rfl)) ?_
    refine Bd.tryRet ?_
    exact Ev.methB (T := "str") (id := "str.encode") (d0 := .str ⟨#[a, b, c, d]⟩) (pl := _) (by with_unfolding_all rfl) (by tb_start) (.cons Ev.strC .nil) rfl (fun _ _ _ r => ty_str r) PySem.F.plainAttrs_str PySem.F.slot_str_encode PySem.F.type_str_encode (c_encode ha hb hc hd)
end
end Mine
end

noncomputable section
open PySem PySem.W PySem.Calls PyProof.Rows PySem.Spec
namespace Mine
open PySem.SeqAt
local macro_rules | `(tactic| ktr_unf) => `(tactic| first | with_reducible exact lk_hd | (refine lk_tl ?_ (by decide +kernel); ktr_unf))
local macro_rules | `(tactic| tb_start) => `(tactic| first
  | with_reducible exact Ev.intC | with_reducible exact Ev.strC | with_reducible exact Ev.noneC | with_reducible exact Ev.boolC
  | (with_reducible refine Ev.name ?h1 ?h2; (case h1 => ktr_unf); (case h2 => decide +kernel)))

section
variable {prog : Program} {w : World} {H : Heap} {A : Around} {X X₀ Z : AS} {s s₀ : Shared} {ρ : Rho} {μ : Mu} {env : Env} {E : Value → Shared → Prop} {mg mb : Str → Option Value}

def dv (cs : Array UInt8) (j : Nat) : Int := b64v (bI cs j)
def lf (cs : Array UInt8) : Nat → Int
  | 1 => dv cs 0
  | 2 => Builtin.bitAnd (dv cs 1) 15
  | 3 => Builtin.bitAnd (dv cs 2) 3
  | _ => 0
def qd (j : Nat) : Int := ((j % 4 : Nat) : Int)
def d1 (cs : Array UInt8) : Int := Builtin.bitOr (lf cs 1 * 2 ^ (2 : Int).toNat) ((dv cs 1).fdiv (2 ^ (4 : Int).toNat))
def d2 (cs : Array UInt8) : Int := Builtin.bitOr (lf cs 2 * 2 ^ (4 : Int).toNat) ((dv cs 2).fdiv (2 ^ (2 : Int).toNat))
def d3 (cs : Array UInt8) : Int := Builtin.bitOr (lf cs 3 * 2 ^ (6 : Int).toNat) (dv cs 3)
def dOut (cs : Array UInt8) : Nat → List Int
  | 0 => []
  | 1 => []
  | 2 => [d1 cs]
  | 3 => [d1 cs, d2 cs]
  | _ => [d1 cs, d2 cs, d3 cs]
def decB (cs : Array UInt8) : Array UInt8 := byteArr [d1 cs, d2 cs, d3 cs]
structure CsOk (cs : Array UInt8) : Prop where
  size : cs.size = 4
  ne : ∀ j, j < 4 → bI cs j ≠ 61
  lt : ∀ j, j < 4 → 0 ≤ dv cs j ∧ dv cs j < 64
theorem lf_range {cs : Array UInt8} (ok : CsOk cs) (j : Nat) : 0 ≤ lf cs j ∧ lf cs j < 64 := by
  have h0 := ok.lt 0 (by decide)
  unfold lf
  split
  · exact h0
  · rw [bitAnd_m4]; omega
  · rw [bitAnd_m2]; omega
  · omega
theorem d_eq {cs : Array UInt8} (ok : CsOk cs) : d1 cs = dv cs 0 * 4 + dv cs 1 / 16 ∧ d2 cs = dv cs 1 % 16 * 16 + dv cs 2 / 4 ∧ d3 cs = dv cs 2 % 4 * 64 + dv cs 3 := by
  have h0 := ok.lt 0 (by decide)
  have h1 := ok.lt 1 (by decide)
  have h2 := ok.lt 2 (by decide)
  have h3 := ok.lt 3 (by decide)
  have e2 : (2 : Int) ^ (2 : Int).toNat = 4 := by decide
  have e4 : (2 : Int) ^ (4 : Int).toNat = 16 := by decide
  have f1 : (dv cs 1).fdiv 16 = dv cs 1 / 16 := Int.fdiv_eq_ediv_of_nonneg _ (by decide)
  have f2 : (dv cs 2).fdiv 4 = dv cs 2 / 4 := Int.fdiv_eq_ediv_of_nonneg _ (by decide)
  refine ⟨?_, ?_, ?_⟩
  · unfold d1
    rw [e4, f1]
    show Builtin.bitOr (dv cs 0 * 2 ^ 2) _ = _
    rw [bor_low 2 _ _ (by omega) (by show _ < (4 : Int); omega)]; rfl
  · unfold d2
    rw [e2, f2]
    show Builtin.bitOr (Builtin.bitAnd (dv cs 1) 15 * 2 ^ 4) _ = _
    rw [bitAnd_m4, bor_low 4 _ _ (by omega) (by show _ < (16 : Int); omega)]; rfl
  · unfold d3
    show Builtin.bitOr (Builtin.bitAnd (dv cs 2) 3 * 2 ^ 6) _ = _
    rw [bitAnd_m2, bor_low 6 _ _ (by omega) (by show _ < (64 : Int); omega)]; rfl

theorem MS.midX {st : Stmt} {sts : List Stmt} (M : MS H X₀ s₀ Z env ρ μ X s) (ρ' : Rho) (μ' : Mu) {Q : Flow → Shared → Prop} (h1 : wpAny (model prog w) A (exec st env) (fun f s' => f = .next ∧ MS H X₀ s₀ Z env ρ' μ' X s') E s)
    (h2 : ∀ s', MS H X₀ s₀ Z env ρ' μ' X s' → wpAny (model prog w) A (execs sts env) Q E s') : wpAny (model prog w) A (execs (st :: sts) env) Q E s := by
  refine wpAny_execs_cons (wpAny_mono h1 (fun f s' hq => ?_) fun _ _ e => e)
  obtain ⟨rfl, M'⟩ := hq
  exact h2 s' M'
theorem f_a2b (W : WF (KF w) H mg mb) {n : Nat} (R : Room A (n + 6)) {cs : Array UInt8} (ok : CsOk cs) : CallKw prog w H A (.ref 127) [.bytes cs] "strict_mode" (.bool false) (.bytes (decB cs)) := by
  refine ⟨fun X s vs v Wh r rv => ?_⟩
  obtain ⟨u, rfl, r1⟩ := one r
  refine' call_defM (args := ⟨[u], [("strict_mode", v)]⟩) (K := KF w) W (n := n + 5) R (f := 127) ?ho ?hcd (binds := [(Str.ofString "data", u), (Str.ofString "strict_mode", v)]) (ρ₀ := [(Str.ofString "data", .bytes cs), (Str.ofString "strict_mode", .bool false)]) Wh ?hb (.cons r1 (.cons rv .nil)) ?hnd ?hck ?hk ?hco ?hgen fun L A' R' => ?body
  case ho => rfl
  case hcd => kernel_rfl
  case hb => exact kp_binds (W.kin.keeps Wh.base) fun S => by kernel_rfl
  case hnd => simp only [List.map]; decide
  case hck => kernel_rfl
  case hk => rfl
  case hco => rfl
  case hgen => rfl
  case body =>
    clear Wh r r1 rv
    refine ⟨fun X₀ s₀ X s M Q E h => ?_⟩
    refine M.seq (Ex1.assign (d := .bytes cs) (Ev.callRef W nameCall (Ev.global W (by kernel_rfl) (by kernel_rfl) (by decide)) (.cons (d := .bytes cs) (by tb_start) .nil) rfl (by kernel_rfl) (f_asciiBuffer W (n := n + 2) R')) (.inl (by kernel_rfl)) (by kernel_rfl)) fun s1 M1 => ?_
    refine M1.seq (Ex1.assign (d := .bool false) (Ev.callRef W nameCall (Ev.global W (by kernel_rfl) (by kernel_rfl) (by decide)) (.cons (d := .bool false) (by tb_start) .nil) rfl (by kernel_rfl) (f_truth W (n := n + 2) R')) (.inl (by kernel_rfl)) (by kernel_rfl)) fun s2 M2 => ?_
    refine wpAny_execs_cons (M2.newVar (.inl (by kernel_rfl)) (by kernel_rfl) fun l X3 s3 M3 => ?_)
    dsimp only
    refine M3.seq (Ex1.assign (d := .int 0) Ev.intC (.inl (by kernel_rfl)) (by kernel_rfl)) fun s4 M4 => ?_
    refine M4.seq (Ex1.assign (d := .int 0) Ev.intC (.inl (by kernel_rfl)) (by kernel_rfl)) fun s5 M5 => ?_
    refine M5.seq (Ex1.assign (d := .int 0) Ev.intC (.inl (by kernel_rfl)) (by kernel_rfl)) fun s6 M6 => ?_
    refine M6.seq (Ex1.assign (d := .int 0) Ev.intC (.inl (by kernel_rfl)) (by kernel_rfl)) fun s7 M7 => ?_
    replace M7 : MS H X₀ s₀ _ _ [(Str.ofString "i", .int (0 : Nat)), (Str.ofString "pads", .int 0), (Str.ofString "leftchar", .int (lf cs 0)), (Str.ofString "quad_pos", .int (qd 0)), (Str.ofString "out", .val (.ref l)), (Str.ofString "strict_mode", .bool false), (Str.ofString "ascii_data", .bytes cs)] _ X3 s7 :=
      M7.weak (ρ' := [(Str.ofString "i", .int 0), (Str.ofString "pads", .int 0), (Str.ofString "leftchar", .int 0), (Str.ofString "quad_pos", .int 0), (Str.ofString "out", .val (.ref l)), (Str.ofString "strict_mode", .bool false), (Str.ofString "ascii_data", .bytes cs)])
      (Wk.cons (by ktr_unf) (Wk.cons (by ktr_unf) (Wk.cons (by ktr_unf) (Wk.cons (by ktr_unf) (Wk.cons (by ktr_unf) (Wk.cons (by ktr_unf) (Wk.cons (by ktr_unf) Wk.nil)))))))
    refine wpAny_execs_cons (MS.for (M := M7) (ds := cs.toList.map fun c => .int c.toNat) (fun j => [(Str.ofString "i", .int (j : Nat)), (Str.ofString "pads", .int 0), (Str.ofString "leftchar", .int (lf cs j)), (Str.ofString "quad_pos", .int (qd j)), (Str.ofString "out", .val (.ref l)), (Str.ofString "strict_mode", .bool false), (Str.ofString "ascii_data", .bytes cs)])
      (fun j => [(l, .list (dI (dOut cs j)))]) (fun _ => rfl) ?g1 (SrcE.bytes R' ?g2) (fun _ => rfl) (fun j d Y sx E' hd Mx back => ?g4) (fun Y sx Mx => ?g5))
    case g1 => exact .inl (by kernel_rfl)
    case g2 => tb_start
    case g4 =>
      have hj : j < 4 ∧ d = .int (bI cs j) := by
        rw [List.getElem?_map] at hd
        cases hq : cs.toList[j]? with
        | none => rw [hq] at hd; cases hd
        | some c =>
          rw [hq] at hd; cases hd
          have := (List.getElem?_eq_some_iff.mp hq).1
          rw [Array.length_toList, ok.size] at this
          exact ⟨this, by unfold bI; rw [List.getD_eq_getElem?_getD, hq]; rfl⟩
      obtain ⟨hj, rfl⟩ := hj
      have hne := ok.ne j hj
      have hlt := ok.lt j hj
      refine wpAny_execs_cons (Mx.if (k := false) ((show decide (bI cs j = 61) = false from decide_eq_false hne) ▸ Tst.compare (d1 := .int (bI cs j)) (by tb_start) Ev.intC op_eqI rfl) (fun q => nomatch q) fun _ t1 N1 => wpAny_execs_nil ?_)
      refine N1.seq (Ex1.assign (d := .int (dv cs j)) (Ev.callRef W nameCall (Ev.global W (by kernel_rfl) (by kernel_rfl) (by decide)) (.cons (d := .int (bI cs j)) (by tb_start) .nil) rfl (by kernel_rfl) (f_b64value W (n := n + 2) R')) (.inl (by kernel_rfl)) (by kernel_rfl)) fun t2 N2 => ?_
      refine wpAny_execs_cons (N2.if (k := false) ((show decide ((64 : Int) ≤ dv cs j) = false from decide_eq_false (by omega)) ▸ Tst.compare (d1 := .int (dv cs j)) (by tb_start) Ev.intC op_geI rfl) (fun q => nomatch q) fun _ t3 N3 => wpAny_execs_nil ?_)
      refine wpAny_execs_cons (N3.if (k := false && false) (Tst.and2 (p := false) (q := false) (Tst.val (d := .int 0) (by tb_start) rfl (fun _ => rfl)) (fun q => nomatch q)) (fun q => nomatch q) fun _ t4 N4 => wpAny_execs_nil ?_)
      refine N4.seq (Ex1.assign (d := .int 0) Ev.intC (.inl (by kernel_rfl)) (by kernel_rfl)) fun t5 N5 => ?_
      replace N5 : MS H X₀ sx _ _ [(Str.ofString "i", .int (j : Nat)), (Str.ofString "pads", .int 0), (Str.ofString "leftchar", .int (lf cs j)), (Str.ofString "quad_pos", .int (qd j)), (Str.ofString "out", .val (.ref l)), (Str.ofString "strict_mode", .bool false), (Str.ofString "ascii_data", .bytes cs), (Str.ofString "this_ch", .int (dv cs j))] _ Y t5 :=
        N5.weak (Wk.cons (by ktr_unf) (Wk.cons (by ktr_unf) (Wk.cons (by ktr_unf) (Wk.cons (by ktr_unf) (Wk.cons (by ktr_unf) (Wk.cons (by ktr_unf) (Wk.cons (by ktr_unf) (Wk.cons (by ktr_unf) Wk.nil))))))))
      refine N5.midX [(Str.ofString "i", .int (j : Nat)), (Str.ofString "pads", .int 0), (Str.ofString "leftchar", .int (lf cs (j + 1))), (Str.ofString "quad_pos", .int (qd (j + 1))), (Str.ofString "out", .val (.ref l)), (Str.ofString "strict_mode", .bool false), (Str.ofString "ascii_data", .bytes cs)] [(l, .list (dI (dOut cs (j + 1))))] ?m1 fun t6 N6 => ?m2
      case m2 =>
        refine N6.seq (Ex1.assign (d := .int ((j : Int) + 1)) (Ev.binop (d1 := .int (j : Nat)) (by tb_start) Ev.intC op_add) (.inl (by kernel_rfl)) (by kernel_rfl)) fun t7 N7 => wpAny_execs_nil ?_
        exact N7.weak (Wk.cons (by rw [show (((j + 1 : Nat)) : Int) = (j : Int) + 1 by omega]; ktr_unf) (Wk.cons (by ktr_unf) (Wk.cons (by ktr_unf) (Wk.cons (by ktr_unf) (Wk.cons (by ktr_unf) (Wk.cons (by ktr_unf) (Wk.cons (by ktr_unf) Wk.nil)))))))
      case m1 =>
        have hlf := lf_range ok j
        have hbits : Builtin.Int.intBits (lf cs j) ≤ 6 := intBits_le_iff.mpr (by omega)
        have hj' : j = 0 ∨ j = 1 ∨ j = 2 ∨ j = 3 := by omega
        rcases hj' with rfl | rfl | rfl | rfl
        · refine N5.if (k := true) (Tst.compare (d1 := .int (qd 0)) (by tb_start) Ev.intC op_eqI rfl) (fun _ u1 O1 => ?_) (fun q => nomatch q)
          refine O1.seq (Ex1.assign (d := .int 1) Ev.intC (.inl (by kernel_rfl)) (by kernel_rfl)) fun u2 O2 => ?_
          refine O2.seq (Ex1.assign (d := .int (dv cs 0)) (by tb_start) (.inl (by kernel_rfl)) (by kernel_rfl)) fun u3 O3 => wpAny_execs_nil ⟨rfl, ?_⟩
          exact O3.weak (Wk.cons (by ktr_unf) (Wk.cons (by ktr_unf) (Wk.cons (by show List.lookup _ _ = some (D.int (dv cs 0)); ktr_unf) (Wk.cons (by show List.lookup _ _ = some (D.int 1); ktr_unf) (Wk.cons (by ktr_unf) (Wk.cons (by ktr_unf) (Wk.cons (by ktr_unf) Wk.nil)))))))
        · refine N5.if (k := false) (Tst.compare (d1 := .int (qd 1)) (by tb_start) Ev.intC op_eqI rfl) (fun q => nomatch q) fun _ u1 O1 => wpAny_execs_cons ?_
          refine O1.if (k := true) (Tst.compare (d1 := .int (qd 1)) (by tb_start) Ev.intC op_eqI rfl) (fun _ u1 O1 => ?_) (fun q => nomatch q)
          refine O1.seq (Ex1.assign (d := .int 2) Ev.intC (.inl (by kernel_rfl)) (by kernel_rfl)) fun u2 O2 => ?_
          refine wpAny_execs_cons (O2.appendStmt (pl := _) (d := .int (d1 cs)) (μ' := [(l, .list ([] ++ [.int (d1 cs)]))]) (by with_unfolding_all rfl) ?a2 ?a3 .head ?a5 ?a6 ?a7 ?a8 ?a9 fun u3 O3 => ?_)
          case a2 => ktr_unf
          case a3 => decide +kernel
          case a5 => exact Ev.binop (Ev.binop (d1 := .int (lf cs 1)) (by tb_start) Ev.intC (op_shl (by decide) (by omega))) (Ev.binop (d1 := .int (dv cs 1)) (by tb_start) Ev.intC (op_shr (by decide))) op_or
          case a6 => rfl
          case a7 => show 0 ≤ 100000; decide
          case a8 => rfl
          case a9 => kernel_rfl
          dsimp only
          refine O3.seq (Ex1.assign (d := .int (Builtin.bitAnd (dv cs 1) 15)) (Ev.binop (d1 := .int (dv cs 1)) (by tb_start) Ev.intC op_and) (.inl (by kernel_rfl)) (by kernel_rfl)) fun u4 O4 => wpAny_execs_nil (wpAny_execs_nil ⟨rfl, ?_⟩)
          exact O4.weak (Wk.cons (by ktr_unf) (Wk.cons (by ktr_unf) (Wk.cons (by show List.lookup _ _ = some (D.int (Builtin.bitAnd (dv cs 1) 15)); ktr_unf) (Wk.cons (by show List.lookup _ _ = some (D.int 2); ktr_unf) (Wk.cons (by ktr_unf) (Wk.cons (by ktr_unf) (Wk.cons (by ktr_unf) Wk.nil)))))))
        · refine N5.if (k := false) (Tst.compare (d1 := .int (qd 2)) (by tb_start) Ev.intC op_eqI rfl) (fun q => nomatch q) fun _ u1 O1 => wpAny_execs_cons ?_
          refine O1.if (k := false) (Tst.compare (d1 := .int (qd 2)) (by tb_start) Ev.intC op_eqI rfl) (fun q => nomatch q) fun _ u1 O1 => wpAny_execs_cons ?_
          refine O1.if (k := true) (Tst.compare (d1 := .int (qd 2)) (by tb_start) Ev.intC op_eqI rfl) (fun _ u1 O1 => ?_) (fun q => nomatch q)
          refine O1.seq (Ex1.assign (d := .int 3) Ev.intC (.inl (by kernel_rfl)) (by kernel_rfl)) fun u2 O2 => ?_
          refine wpAny_execs_cons (O2.appendStmt (pl := _) (d := .int (d2 cs)) (μ' := [(l, .list ([.int (d1 cs)] ++ [.int (d2 cs)]))]) (by with_unfolding_all rfl) ?b2 ?b3 .head ?b5 ?b6 ?b7 ?b8 ?b9 fun u3 O3 => ?_)
          case b2 => ktr_unf
          case b3 => decide +kernel
          case b5 => exact Ev.binop (Ev.binop (d1 := .int (lf cs 2)) (by tb_start) Ev.intC (op_shl (by decide) (by omega))) (Ev.binop (d1 := .int (dv cs 2)) (by tb_start) Ev.intC (op_shr (by decide))) op_or
          case b6 => rfl
          case b7 => show 1 ≤ 100000; decide
          case b8 => rfl
          case b9 => kernel_rfl
          dsimp only
          refine O3.seq (Ex1.assign (d := .int (Builtin.bitAnd (dv cs 2) 3)) (Ev.binop (d1 := .int (dv cs 2)) (by tb_start) Ev.intC op_and) (.inl (by kernel_rfl)) (by kernel_rfl)) fun u4 O4 => wpAny_execs_nil (wpAny_execs_nil (wpAny_execs_nil ⟨rfl, ?_⟩))
          exact O4.weak (Wk.cons (by ktr_unf) (Wk.cons (by ktr_unf) (Wk.cons (by show List.lookup _ _ = some (D.int (Builtin.bitAnd (dv cs 2) 3)); ktr_unf) (Wk.cons (by show List.lookup _ _ = some (D.int 3); ktr_unf) (Wk.cons (by ktr_unf) (Wk.cons (by ktr_unf) (Wk.cons (by ktr_unf) Wk.nil)))))))
        · refine N5.if (k := false) (Tst.compare (d1 := .int (qd 3)) (by tb_start) Ev.intC op_eqI rfl) (fun q => nomatch q) fun _ u1 O1 => wpAny_execs_cons ?_
          refine O1.if (k := false) (Tst.compare (d1 := .int (qd 3)) (by tb_start) Ev.intC op_eqI rfl) (fun q => nomatch q) fun _ u1 O1 => wpAny_execs_cons ?_
          refine O1.if (k := false) (Tst.compare (d1 := .int (qd 3)) (by tb_start) Ev.intC op_eqI rfl) (fun q => nomatch q) fun _ u1 O1 => ?_
          refine O1.seq (Ex1.assign (d := .int 0) Ev.intC (.inl (by kernel_rfl)) (by kernel_rfl)) fun u2 O2 => ?_
          refine wpAny_execs_cons (O2.appendStmt (pl := _) (d := .int (d3 cs)) (μ' := [(l, .list ([.int (d1 cs), .int (d2 cs)] ++ [.int (d3 cs)]))]) (by with_unfolding_all rfl) ?c2 ?c3 .head ?c5 ?c6 ?c7 ?c8 ?c9 fun u3 O3 => ?_)
          case c2 => ktr_unf
          case c3 => decide +kernel
          case c5 => exact Ev.binop (Ev.binop (d1 := .int (lf cs 3)) (by tb_start) Ev.intC (op_shl (by decide) (by omega))) (d2 := .int (dv cs 3)) (by tb_start) op_or
          case c6 => rfl
          case c7 => show 2 ≤ 100000; decide
          case c8 => rfl
          case c9 => kernel_rfl
          dsimp only
          refine O3.seq (Ex1.assign (d := .int 0) Ev.intC (.inl (by kernel_rfl)) (by kernel_rfl)) fun u4 O4 => wpAny_execs_nil (wpAny_execs_nil (wpAny_execs_nil ⟨rfl, ?_⟩))
          exact O4.weak (Wk.cons (by ktr_unf) (Wk.cons (by ktr_unf) (Wk.cons (by show List.lookup _ _ = some (D.int 0); ktr_unf) (Wk.cons (by show List.lookup _ _ = some (D.int 0); ktr_unf) (Wk.cons (by ktr_unf) (Wk.cons (by ktr_unf) (Wk.cons (by ktr_unf) Wk.nil)))))))
    case g5 =>
      have e3 : (cs.toList.map fun c => D.int c.toNat).length = 4 := by rw [List.length_map, Array.length_toList, ok.size]
      rw [e3] at Mx
      dsimp only
      refine wpAny_execs_cons (Mx.if (k := false) (Tst.compare (d1 := .int (qd 4)) (by tb_start) Ev.intC op_eqI rfl) (fun q => nomatch q) fun _ t1 N1 => wpAny_execs_nil ?_)
      dsimp only
      refine wpAny_execs_cons (N1.if (k := false && false) (Tst.and2 (p := false) (q := false) (Tst.compare (d1 := .int (qd 4)) (by tb_start) Ev.intC op_neI rfl) (fun q => nomatch q)) (fun q => nomatch q) fun _ t2 N2 => wpAny_execs_nil ?_)
      dsimp only
      obtain ⟨q1, q2, q3⟩ := d_eq ok
      have h0 := ok.lt 0 (by decide)
      have h1 := ok.lt 1 (by decide)
      have h2 := ok.lt 2 (by decide)
      have h3 := ok.lt 3 (by decide)
      refine N2.retF (ρ' := [(Str.ofString "i", .int (4 : Nat)), (Str.ofString "pads", .int 0), (Str.ofString "leftchar", .int (lf cs 4)), (Str.ofString "quad_pos", .int (qd 4)), (Str.ofString "out", .list (dI (dOut cs 4)))]) ?_ ?_ h
      · exact rv_tl (rv_tl (rv_tl (rv_tl (rv_hd (N2.listF (.head _)) fun _ _ e => nomatch e))))
      · refine Ev.callT nameCall (T := "bytes") (Ev.builtin W (by kernel_rfl) boot_bytes (by decide) (by kernel_rfl) (by decide)) (.cons (d := .list (dI (dOut cs 4))) (by tb_start) .nil) rfl (c_bytes (n := n + 5) R' (fun m hm => ?_) (by show 3 ≤ 1000; decide))
        have hm' : m = d1 cs ∨ m = d2 cs ∨ m = d3 cs := by simpa [dOut] using hm
        rcases hm' with rfl | rfl | rfl <;> omega

theorem f_b64decode (W : WF (KF w) H mg mb) {n : Nat} (R : Room A (n + 7)) {a b c d : Nat} (ha : a < 128) (hb : b < 128) (hc : c < 128) (hd : d < 128) (ok : CsOk #[a.toUInt8, b.toUInt8, c.toUInt8, d.toUInt8]) :
    CallG prog w H A (.ref 151) [.str ⟨#[a, b, c, d]⟩] (.bytes (decB #[a.toUInt8, b.toUInt8, c.toUInt8, d.toUInt8])) := by
  refine ⟨fun X s vs Wh r => ?_⟩
  obtain ⟨u, rfl, r1⟩ := one r
  refine' call_def (args := ⟨[u], []⟩) (K := KF w) W (n := n + 6) R (f := 151) ?ho ?hcd (binds := [(Str.ofString "s", u), (Str.ofString "altchars", .none), (Str.ofString "validate", .bool false)]) (ρ₀ := [(Str.ofString "s", .str ⟨#[a, b, c, d]⟩), (Str.ofString "altchars", .none), (Str.ofString "validate", .bool false)]) Wh ?hb (.cons r1 (.cons .none (.cons (.bool _) .nil))) ?hnd ?hck ?hk ?hco ?hgen fun L A' R' => ?body
  case ho => rfl
  case hcd => kernel_rfl
  case hb => exact kp_binds (W.kin.keeps Wh.base) fun S => by kernel_rfl
  case hnd => simp only [List.map]; decide
  case hck => kernel_rfl
  case hk => rfl
  case hco => rfl
  case hgen => rfl
  case body =>
    clear Wh r r1
    refine Bd.seq (Ex1.assign (d := .bytes #[a.toUInt8, b.toUInt8, c.toUInt8, d.toUInt8]) (Ev.callRef W nameCall (Ev.global W (by kernel_rfl) (by kernel_rfl) (by decide)) (.cons (d := .str ⟨#[a, b, c, d]⟩) (by tb_start) .nil) rfl (by kernel_rfl) (f_decodeData W (n := n + 3) R' ha hb hc hd)) (.inl (by kernel_rfl)) (by kernel_rfl)) ?_
    refine Bd.ifSkip (Tst.compare (d1 := .none) (k := !D.none.isNone) (by tb_start) Ev.noneC (op_isNotNone (by intro v; exact fun q => nomatch q)) rfl) ?_
    exact Bd.ret (Ev.callKw W (dk := .bool false) (ds := [.bytes #[a.toUInt8, b.toUInt8, c.toUInt8, d.toUInt8]]) (by with_unfolding_all rfl) (Ev.global W (by kernel_rfl) (by kernel_rfl) (by decide)) (.cons (d := .bytes #[a.toUInt8, b.toUInt8, c.toUInt8, d.toUInt8]) (by tb_start) .nil) rfl (by kernel_rfl) (by tb_start) (f_a2b W (n := n) R' ok))
end
end Mine
end

noncomputable section
open PySem PySem.W PySem.Calls PyProof.Rows PySem.Spec
namespace Mine
open PySem.SeqAt
local macro_rules | `(tactic| ktr_unf) => `(tactic| first | with_reducible exact lk_hd | (refine lk_tl ?_ (by decide +kernel); ktr_unf))
local macro_rules | `(tactic| tb_start) => `(tactic| first
  | with_reducible exact Ev.intC | with_reducible exact Ev.strC | with_reducible exact Ev.noneC | with_reducible exact Ev.boolC
  | (with_reducible refine Ev.name ?h1 ?h2; (case h1 => ktr_unf); (case h2 => decide +kernel)))

section
variable {prog : Program} {w : World} {H : Heap} {A : Around} {X X₀ Z : AS} {s s₀ : Shared} {ρ : Rho} {μ : Mu} {env : Env} {E : Value → Shared → Prop} {mg mb : Str → Option Value}

def recE (a r : List Str) (dl : Option Int) : D := .ent 59 (.list (dS a)) (.list (dS r)) (dO dl) .none
theorem ev_u {y attr : Str} {yp pos : Pos} {a r : List Str} {dl : Option Int} (W : WF (KF w) H mg mb) (hf : Fld.u.name = attr) (ok : AtOk (KF w) 59 attr) (ho : Ev prog w H A env ρ (.Name y yp) (recE a r dl)) : Ev prog w H A env ρ (.Attribute (.Name y yp) attr pos) (.list (dS a)) :=
  Ev.attr W .u (u := .list (dS a)) (r := .list (dS r)) (d := dO dl) (q := .none) hf ho ok (by intro v e; cases e)
theorem ev_r {y attr : Str} {yp pos : Pos} {a r : List Str} {dl : Option Int} (W : WF (KF w) H mg mb) (hf : Fld.r.name = attr) (ok : AtOk (KF w) 59 attr) (ho : Ev prog w H A env ρ (.Name y yp) (recE a r dl)) : Ev prog w H A env ρ (.Attribute (.Name y yp) attr pos) (.list (dS r)) :=
  Ev.attr W .r (u := .list (dS a)) (r := .list (dS r)) (d := dO dl) (q := .none) hf ho ok (by intro v e; cases e)
theorem ev_dl {y attr : Str} {yp pos : Pos} {a r : List Str} {dl : Option Int} (W : WF (KF w) H mg mb) (hf : Fld.d.name = attr) (ok : AtOk (KF w) 59 attr) (ho : Ev prog w H A env ρ (.Name y yp) (recE a r dl)) : Ev prog w H A env ρ (.Attribute (.Name y yp) attr pos) (dO dl) :=
  Ev.attr W .d (u := .list (dS a)) (r := .list (dS r)) (d := dO dl) (q := .none) hf ho ok (by intro v e; cases dl <;> cases e)
theorem ev_q {y attr : Str} {yp pos : Pos} {a r : List Str} {dl : Option Int} (W : WF (KF w) H mg mb) (hf : Fld.q.name = attr) (ok : AtOk (KF w) 59 attr) (ho : Ev prog w H A env ρ (.Name y yp) (recE a r dl)) : Ev prog w H A env ρ (.Attribute (.Name y yp) attr pos) .none :=
  Ev.attr W .q (u := .list (dS a)) (r := .list (dS r)) (d := dO dl) (q := .none) hf ho ok (by intro v e; cases e)

def both (a b : List Str) : List Str := a.filter fun x => decide (x ∈ b)
def dlOr (d1 d2 : Option Int) : Option Int := match d2 with | none => d1 | some i => some i
theorem dO_isNone (d : Option Int) : (dO d).isNone = d.isNone := by cases d <;> rfl
theorem dO_val (d : Option Int) : ∀ v, dO d ≠ .val v := by intro v; cases d <;> exact fun q => nomatch q
theorem f_merge (W : WF (KF w) H mg mb) {n : Nat} (R : Room A (n + 7)) {a1 a2 r1 r2 : List Str} {e1 e2 : Option Int} (h1 : a1.length ≤ 100) (h2 : a2.length ≤ 100) (hr1 : r1.length ≤ 100) (hr2 : r2.length ≤ 100) :
    CallG prog w H A (.ref 70) [rec a1 r1 e1, rec a2 r2 e2] (rec (both a1 a2) (r1 ++ r2) (dlOr e1 e2)) := by
  refine' CallG.fnM (names := ["e1", "e2"]) W (n := n + 6) R (f := 70) ?ho ?hcd ?hl ?hb ?hnd ?hck ?hk ?hco ?hgen fun L A' R' => ?body
  case ho => rfl
  case hcd => kernel_rfl
  case hl => rfl
  case hb => (intro vs hv; match vs, hv with | [u, v], _ => rfl)
  case hnd => decide
  case hck => kernel_rfl
  case hk => rfl
  case hco => rfl
  case hgen => rfl
  case body =>
    show BdM _ _ _ _ _ [(Str.ofString "e1", recE a1 r1 e1), (Str.ofString "e2", recE a2 r2 e2)] _ _
    refine ⟨fun X₀ s₀ X s M Q E h => ?_⟩
    refine wpAny_execs_cons (M.newEnt W (n := n + 1) (R'.le (by omega)) (.inl (by kernel_rfl)) (by kernel_rfl) (by kernel_rfl) fun x dx l1 l2 X1 s1 M1 => ?_)
    dsimp only
    refine wpAny_execs_cons (M1.setStmt W .u (dv := .list (dS (both a1 a2))) (μ' := [(x, .ent dx 59 (.list (dS (both a1 a2))) (.val (.ref l2)) .none .none), (l1, .list []), (l2, .list [])]) rfl ?b1 ?b2 .head (st_f .u) ?b3 (fun Q E hq => Ev.run ?b4 X1 _ M1.F Q E hq) fun s2 M2 => ?_)
    case b1 => ktr_unf
    case b2 => decide
    case b3 => kernel_rfl
    case b4 =>
      refine Ev.keepIn R' (ev_u W rfl at_u (a := a1) (r := r1) (dl := e1) (by tb_start)) (ev_u W rfl at_u (a := a2) (r := r2) (dl := e2) (by tb_start)) (Ev.builtin W (by kernel_rfl) boot_list (by decide) (by kernel_rfl) (by decide)) (Ev.builtin W (by kernel_rfl) boot_filter (by decide) (by kernel_rfl) (by decide)) (Ev.builtin W (by kernel_rfl) boot_set (by decide) (by kernel_rfl) (by decide)) rfl rfl (by omega) (by omega) ?_
      with_unfolding_all rfl
    dsimp only
    refine wpAny_execs_cons (M2.setStmt W .r (dv := .list (dS (r1 ++ r2))) (μ' := [(x, .ent dx 59 (.list (dS (both a1 a2))) (.list (dS (r1 ++ r2))) .none .none), (l1, .list []), (l2, .list [])]) rfl ?c1 ?c2 .head (st_f .r) ?c3 (fun Q E hq => Ev.run ?c4 X1 _ M2.F Q E hq) fun s3 M3 => ?_)
    case c1 => ktr_unf
    case c2 => decide
    case c3 => kernel_rfl
    case c4 =>
      rw [show dS (r1 ++ r2) = dS r1 ++ dS r2 by simp [dS]]
      refine Ev.binop (ev_r W rfl at_r (a := a1) (r := r1) (dl := e1) (by tb_start)) (ev_r W rfl at_r (a := a2) (r := r2) (dl := e2) (by tb_start)) (op_addL ?_)
      simp only [dS, List.length_map]
      exact Nat.le_trans (by omega : _ ≤ 200) (by decide)
    dsimp only
    refine wpAny_execs_cons (M3.setStmt W .d (dv := dO (dlOr e1 e2)) (μ' := [(x, .ent dx 59 (.list (dS (both a1 a2))) (.list (dS (r1 ++ r2))) (dO (dlOr e1 e2)) .none), (l1, .list []), (l2, .list [])]) rfl ?d1 ?d2 .head (st_f .d) ?d3 (fun Q E hq => Ev.run ?d4 X1 _ M3.F Q E hq) fun s4 M4 => ?_)
    case d1 => ktr_unf
    case d2 => decide
    case d3 => kernel_rfl
    case d4 =>
      refine Ev.cast (d' := if (dO e2).isNone = true then dO e1 else dO e2) (by cases e2 <;> rfl) ?_
      exact Ev.ifExp (Tst.compare (ev_dl W rfl at_d (a := a2) (r := r2) (dl := e2) (by tb_start)) Ev.noneC (op_isNone (dO_val e2)) rfl) (fun _ => ev_dl W rfl at_d (a := a1) (r := r1) (dl := e1) (by tb_start)) (fun _ => ev_dl W rfl at_d (a := a2) (r := r2) (dl := e2) (by tb_start))
    dsimp only
    refine wpAny_execs_cons (M4.setStmt W .q (dv := .none) (μ' := [(x, .ent dx 59 (.list (dS (both a1 a2))) (.list (dS (r1 ++ r2))) (dO (dlOr e1 e2)) .none), (l1, .list []), (l2, .list [])]) rfl ?q1 ?q2 .head (st_f .q) ?q3 (fun Q E hq => Ev.run ?q4 X1 _ M4.F Q E hq) fun s5 M5 => ?_)
    case q1 => ktr_unf
    case q2 => decide
    case q3 => kernel_rfl
    case q4 =>
      refine Ev.cast (d' := if D.none.isNone = true then .none else .none) rfl ?_
      exact Ev.ifExp (Tst.compare (ev_q W rfl at_q (a := a2) (r := r2) (dl := e2) (by tb_start)) Ev.noneC (op_isNone (by intro v; exact fun q => nomatch q)) rfl) (fun _ => ev_q W rfl at_q (a := a1) (r := r1) (dl := e1) (by tb_start)) (fun _ => ev_q W rfl at_q (a := a2) (r := r2) (dl := e2) (by tb_start))
    dsimp only
    refine wpAny_execs_cons (wpAny_Return_some (M5.ev (d := .val (.ref x)) (by tb_start) fun v s7 k7 M7 r7 => ?_))
    obtain rfl := r7.inv
    exact h _ s7 M7.kept (M7.entOut (.head _) (fun v r => M7.frz r) (fun v r => M7.frz r) rd_dO rd_none)
end
end Mine
end

noncomputable section
open PySem PySem.W PySem.Calls PyProof.Rows PySem.Spec
namespace Mine
open PySem.SeqAt
local macro_rules | `(tactic| ktr_unf) => `(tactic| first | with_reducible exact lk_hd | (refine lk_tl ?_ (by decide +kernel); ktr_unf))
local macro_rules | `(tactic| tb_start) => `(tactic| first
  | with_reducible exact Ev.intC | with_reducible exact Ev.strC | with_reducible exact Ev.noneC | with_reducible exact Ev.boolC
  | (with_reducible refine Ev.name ?h1 ?h2; (case h1 => ktr_unf); (case h2 => decide +kernel)))

section
variable {prog : Program} {w : World} {H : Heap} {A : Around} {X X₀ Z : AS} {s s₀ : Shared} {ρ : Rho} {μ : Mu} {env : Env} {outer : List Env} {E : Value → Shared → Prop} {mg mb : Str → Option Value}

theorem MS.both' {X' : AS} {ρ' : Rho} {μ' : Mu} {s' : Shared} (M : MS H X₀ s₀ Z env ρ μ X s) (Z₁ : Fz H A env outer X₀ Z s₀ s) (M' : MS H X₀ s (ZL env μ) env ρ' μ' X' s') : MS H X₀ s₀ Z env ρ' μ' X' s' ∧ Fz H A env outer X₀ Z s₀ s' := by
  have kk := kbKeep M'.kept
  have no : ∀ a, a ∈ frs outer → ¬ ZL env μ a := fun a ha q => q.elim (Z₁.ox a ha).2.2 fun q => (M.mx a q).2.1 (Z₁.ox a ha).1
  refine ⟨M.unbase M', Z₁.fr, Z₁.fn, ?_, Z₁.ox, fun a o ha q hn => ?_⟩
  · have : ∀ {l : List Env}, s.heap.FunFrames H l → (∀ a, a ∈ frs l → ¬ ZL env μ a) → s'.heap.FunFrames H l := by
      intro l
      induction l with
      | nil => intro _ _; trivial
      | cons a r ih =>
        intro ⟨hk, ⟨L, o, hf, hn, ho, hdt⟩, hr⟩ hq
        have hfr : frs (a :: r) = L :: frs r := by unfold frs; rw [List.filterMap_cons, hf]
        exact ⟨hk, ⟨L, o, hf, hn, kk L o (hq L (by rw [hfr]; exact .head _)) ho, hdt⟩, ih hr fun z hz => hq z (by rw [hfr]; exact .tail _ hz)⟩
    exact this Z₁.ff no
  · obtain ⟨sl, e⟩ := Z₁.up a o ha q hn
    exact ⟨sl, kk a _ (no a ha) e⟩
theorem MS.retFk {ρ' : Rho} {e : PySem.Expr} {d : D} {pos : Pos} {sts : List Stmt} (M : MS H X₀ s₀ Z env ρ μ X s) (k : ∀ x d, ρ'.lookup x = some d → ρ.lookup x = some d ∨ ∃ v, ρ.lookup x = some (.val v) ∧ Rd (XF X μ) s.heap v d) (a : Ev prog w H A env ρ' e d)
    {Q : Flow → Shared → Prop} (h : ∀ v s', Keeps s s' → KeptBut Z s₀ s' → Rd X₀ s'.heap v d → Q (.ret v) s') : wpAny (model prog w) A (execs (.Return (some e) pos :: sts) env) Q E s :=
  wpAny_execs_cons (wpAny_Return_some (a.run _ s (M.frozen k) _ _ fun v s' kk r => h v s' kk (M.keeps kk).kept (M.out r)))
theorem rdl_str_any {X X' : AS} {h h' : Heap} : ∀ {vs : List Value} {a : List Str}, RdL X h vs (dS a) → RdL X' h' vs (dS a)
  | _, [], r => by cases r; exact .nil
  | _, x :: a, r => by
    obtain ⟨_, _, rfl, r1, r2⟩ := r.inv
    obtain ⟨t, rfl⟩ := rd_isStr r1
    exact .cons (.str _ _) (rdl_str_any r2)

/-- what unorderable_list_difference leaves: the wanted texts from the end on -/
noncomputable def uldR : List Str → List Str → List Str → List Str × List Str
  | [], act, mis => (mis, act)
  | x :: r, act, mis => if x ∈ act then uldR r (act.erase x) mis else uldR r act (mis ++ [x])

theorem uld_call (W : WF (KF w) H mg mb) {n : Nat} (R : Room A (n + 6)) (hfr : A.frames = some outer) (Wh : Wd H X s.heap) (hff : s.heap.FunFrames H outer) (hox : ∀ c, c ∈ frs outer → X c) {la lb : Addr} {a b : List Str}
    (ea : ∃ vs, s.heap.PlainList la vs.toArray ∧ RdL X s.heap vs (dS a)) (eb : ∃ vs, s.heap.PlainList lb vs.toArray ∧ RdL X s.heap vs (dS b)) (hne : la ≠ lb) (hXa : ¬ X la) (hXb : ¬ X lb) (hHa : H.get? la = none) (hHb : H.get? lb = none)
    (hza : a.length ≤ 100) (hzb : b.length ≤ 100) {Q : Value → Shared → Prop}
    (h : ∀ v s', KeptBut (fun c => (c = la ∨ c = lb) ∨ c ∈ frs outer) s s' → (∀ c o, c ∈ frs outer → s.heap.get? c = some o → (∀ vs, o.data ≠ .fields vs) → ∃ sl, s'.heap.get? c = some { o with slots := sl }) →
      Rd X s'.heap v (.tuple [.list (dS (uldR a.reverse b []).1), .list (dS (uldR a.reverse b []).2)]) → Q v s') :
    wpAny (model prog w) A (call (.ref 165) [.ref la, .ref lb]) Q E s := by
  obtain ⟨vsa, pa, ra⟩ := ea
  obtain ⟨vsb, pb, rb⟩ := eb
  have Wh1 : Wd H (fun c => X c ∨ (c = la ∨ c = lb)) s.heap := by
    refine ⟨Wh.base, fun c q => ?_, fun c q => ?_⟩
    · rcases q with q | rfl | rfl
      · exact Wh.bx c q
      · exact hHa
      · exact hHb
    · rcases q with q | rfl | rfl
      · exact Wh.live c q
      · obtain ⟨n, e⟩ := pa; exact ⟨_, _, Nat.le_refl _, e⟩
      · obtain ⟨n, e⟩ := pb; exact ⟨_, _, Nat.le_refl _, e⟩
  refine wpAny_call ?_
  refine' call_low (K := KF w) W (n := n + 5) R (f := 165) ?ho ?hcd (args := ⟨[.ref la, .ref lb], []⟩) (binds := [(Str.ofString "expected", .ref la), (Str.ofString "actual", .ref lb)]) (ρ₀ := [(Str.ofString "expected", .val (.ref la)), (Str.ofString "actual", .val (.ref lb))]) Wh1 ?hb (.cons (.val _) (.cons (.val _) .nil)) ?hnd ?hck ?hk ?hco ?hgen fun L A' s₁ E hL hA' R' k F hown => ?body
  case ho => rfl
  case hcd => kernel_rfl
  case hb => exact BindsTo.of_eq rfl
  case hnd => simp only [List.map]; decide
  case hck => kernel_rfl
  case hk => rfl
  case hco => rfl
  case hgen => rfl
  case body =>
    have kk := kKeep k
    have own_s : ∀ c o, s.heap.get? c = some o → ¬ OwnZ (fenv _ _ L 165 _) c := fun c o e q => by rw [hown c q] at e; cases e
    have hfs : ∀ c, c ∈ frs outer → ∃ o, s.heap.get? c = some o := fun c hc => let ⟨_, o, ho, _⟩ := hff.mem hc; ⟨o, ho⟩
    have hla : ∃ o, s.heap.get? la = some o := let ⟨n, e⟩ := pa; ⟨_, e⟩
    have hlb : ∃ o, s.heap.get? lb = some o := let ⟨n, e⟩ := pb; ⟨_, e⟩
    generalize hen : fenv (Str.ofString "unorderable_list_difference") _ L 165 _ = env at F hown hA' own_s ⊢
    have hfn : env.frame = some env.locals := by rw [← hen]; rfl
    have hkf : env.scope.kind ≠ .module := by rw [F.fn]; decide
    generalize hZ : (fun c => OwnZ env c ∨ ((c = la ∨ c = lb) ∨ c ∈ frs outer) : AS) = Zs
    have zAt : ∀ c, Zs c = (OwnZ env c ∨ ((c = la ∨ c = lb) ∨ c ∈ frs outer)) := fun c => by rw [← hZ]
    have M : MS H X s Zs env [(Str.ofString "expected", .val (.ref la)), (Str.ofString "actual", .val (.ref lb))] [(la, .list (dS a)), (lb, .list (dS b))] (XN (fun c => X c ∨ (c = la ∨ c = lb)) s.heap s₁.heap) s₁ := by
      refine ⟨F, kbOf k, fun c q => .inl (.inl q), fun c q => by rw [zAt]; exact .inl q, fun c m hm => ?_, fun c hc => ?_, ?_, fun c q => ?_⟩
      · simp only [List.mem_cons, List.not_mem_nil, or_false] at hm
        rcases hm with hm | hm <;> cases hm
        · exact .list (pa.at fun o e => kk _ o e) (rdl_str_any ra)
        · exact .list (pb.at fun o e => kk _ o e) (rdl_str_any rb)
      · simp [flat, MO.addrs] at hc
        refine ⟨.inl (.inr hc), fun q => ?_, fun q => ?_, by rw [zAt]; exact .inl (.inr (.inl hc))⟩
        · rcases hc with rfl | rfl
          · exact hXa q
          · exact hXb q
        · rcases hc with rfl | rfl
          · obtain ⟨o, e⟩ := hla; exact own_s _ o e q
          · obtain ⟨o, e⟩ := hlb; exact own_s _ o e q
      · simpa [flat, MO.addrs] using hne
      · have : env.locals = L := by rw [← hen]; rfl
        rw [this]
        exact Nat.le_of_lt (hL ▸ Wh.bound c q)
    have Z1 : Fz H A' env outer X Zs s s₁ := by
      refine ⟨by rw [hA']; exact Around.frames_deeper hfr, hfn, hff.of_keeps fun c o e _ => ⟨o, kk c o e, rfl⟩, fun c hc => ⟨hox c hc, by rw [zAt]; exact .inr (.inr hc), ?_⟩, fun c o hc e _ => ⟨o.slots, kk c o e⟩⟩
      obtain ⟨o, e⟩ := hfs c hc
      exact own_s c o e
    have hH : ∀ c, c ∈ frs (env :: outer) → H.get? c = none := fun c hc => by
      have hfr' : frs (env :: outer) = env.locals :: frs outer := by unfold frs; rw [List.filterMap_cons, hfn]
      rw [hfr'] at hc
      rcases List.mem_cons.mp hc with rfl | hc
      · exact F.bx _ F.xl
      · exact (hff.mem hc).1
    have ak := R'.handled
    generalize XN (fun c => X c ∨ (c = la ∨ c = lb)) s.heap s₁.heap = X1 at M F
    subst hen
    -- missing = []
    refine wpAny_execs_cons (M.rebase.newVar (.inl (by kernel_rfl)) (by kernel_rfl) fun lm X2 s2 N2 => ?_)
    dsimp only
    obtain ⟨M2, Z2⟩ := M.both' Z1 N2
    replace M2 := M2.weak (ρ' := [(Str.ofString "missing", .val (.ref lm)), (Str.ofString "expected", .val (.ref la)), (Str.ofString "actual", .val (.ref lb))]) (fun _ _ e => e)
    refine wpAny_execs_cons (wpAny_While (codeAny_whileLoop (I := fun k s' => ∃ p act mis X', k = p.length ∧ p.length ≤ 100 ∧ act.length ≤ 100 ∧ mis.length + p.length ≤ 100 ∧ uldR p.reverse act mis = uldR a.reverse b [] ∧
      MS H X s Zs _ [(Str.ofString "missing", .val (.ref lm)), (Str.ofString "expected", .val (.ref la)), (Str.ofString "actual", .val (.ref lb))] [(lm, .list (dS mis)), (la, .list (dS p)), (lb, .list (dS act))] X' s' ∧ Fz H A' _ outer X Zs s s') (fun k s' hI => ?turn) a.length
      ⟨a, b, [], X2, rfl, hza, hzb, by simpa using hza, rfl, M2, Z2⟩))
    case turn =>
      obtain ⟨p, act, mis, X', rfl, hp1, hp2, hp3, hinv, M, Z1⟩ := hI
      refine wpAny_isTrue_value ((Ev.name (prog := prog) (w := w) (A := A') (x := Str.ofString "expected") (d := .val (.ref la)) (by ktr_unf) (by decide +kernel)).run X' s' M.F _ _ fun v s3 k3 r3 => ?_)
      obtain rfl := r3.inv
      have N3 := M.rebase.keeps k3
      refine truthyG (d := .list (dS p)) (by show decide ((dS p).length ≤ 16777216) = true; rw [dS, List.length_map]; exact decide_eq_true (by omega)) (N3.listF (.tail _ (.head _))) fun s4 k4 => ?_
      have N4 := N3.keeps k4
      have ht : (D.list (dS p)).tru = !p.isEmpty := by cases p <;> rfl
      rw [ht]
      cases hpe : p.isEmpty with
      | true =>
        have hp0 : p = [] := by simpa using hpe
        subst hp0
        obtain ⟨M4, Z4⟩ := M.both' Z1 N4
        refine wpAny_execs_nil ?_
        have e1 : uldR a.reverse b [] = (mis, act) := by rw [← hinv]; rfl
        rw [e1] at h
        refine M4.retFk (d := .tuple [.list (dS mis), .list (dS act)]) (ρ' := [(Str.ofString "missing", .list (dS mis)), (Str.ofString "expected", .val (.ref la)), (Str.ofString "actual", .list (dS act))]) ?_ ?_ fun v s5 k5 kb r => ?_
        · exact rv_hd (M4.listF (.head _)) (rv_tl (rv_hd (M4.listF (.tail _ (.tail _ (.head _)))) rv_refl))
        · exact Ev.tuple (.cons (d := .list (dS mis)) (by tb_start) (.cons (d := .list (dS act)) (by tb_start) .nil)) rfl (by simp)
        · refine h v s5 ?_ (fun c o hc e hn => ?_) r
          · obtain ⟨h', t', e', kq⟩ := kb
            exact ⟨h', t', e', fun c o hc e => kq c o (fun q => by rw [zAt] at q; exact q.elim (own_s c o e) hc) e⟩
          · obtain ⟨sl, e1⟩ := Z4.up c o hc e hn
            exact ⟨sl, kKeep k5 _ _ e1⟩
      | false =>
        -- item = expected.pop()
        have hpne : p ≠ [] := by simpa using hpe
        obtain ⟨p', x, rfl⟩ : ∃ p' x, p = p' ++ [x] := ⟨p.dropLast, p.getLast hpne, (List.dropLast_concat_getLast hpne).symm⟩
        have hlen : (p' ++ [x]).length = p'.length + 1 := by simp
        rw [List.reverse_append, List.reverse_singleton, List.singleton_append] at hinv
        simp only [if_true, Bool.not_false]
        have hds : dS (p' ++ [x]) = dS p' ++ [.str x] := by simp [dS]
        refine wpAny_execs_cons (wpAny_Assign_Name (N4.meth (pl := _) (l := la) (ds := dS (p' ++ [x])) (es := []) (by with_unfolding_all rfl) (by ktr_unf) (.tail _ (.head _)) (by decide +kernel) .nil rfl PySem.F.slot_list_pop PySem.F.type_list_pop fun vs s5 k5 N5 r5 => ?_) (by kernel_rfl))
        obtain rfl := r5.inv
        rw [hds] at N5
        refine N5.pop (ds := dS p') (d := .str x) (μ' := [(lm, .list (dS mis)), (la, .list (dS p')), (lb, .list (dS act))]) (.tail .head) (by simp [dS]; omega) fun v s6 N6 r6 => ?_
        refine N6.F.store r6 (.inl (by kernel_rfl)) fun s7 k7 F7 => ?_
        have N7 := N6.own (kbMono k7 fun b => ZS_own) F7
        rw [← hds] at N7
        obtain ⟨M7, Z7⟩ := M.both' Z1 N7
        dsimp only
        replace M7 := M7.weak (ρ' := [(Str.ofString "missing", .val (.ref lm)), (Str.ofString "expected", .val (.ref la)), (Str.ofString "actual", .val (.ref lb)), (Str.ofString "item", .str x)]) (Wk.cons (by ktr_unf) (Wk.cons (by ktr_unf) (Wk.cons (by ktr_unf) (Wk.cons (by ktr_unf) Wk.nil))))
        have done : ∀ {ev : Env} {act2 mis2 : List Str} {s8 : Shared}, act2.length ≤ 100 → mis2.length + p'.length ≤ 100 → uldR p'.reverse act2 mis2 = uldR a.reverse b [] →
            MS H X s Zs ev [(Str.ofString "missing", .val (.ref lm)), (Str.ofString "expected", .val (.ref la)), (Str.ofString "actual", .val (.ref lb)), (Str.ofString "item", .str x)] [(lm, .list (dS mis2)), (la, .list (dS p')), (lb, .list (dS act2))] X' s8 → Fz H A' ev outer X Zs s s8 →
            ∃ m, m < (p' ++ [x]).length ∧ ∃ p act mis X', m = p.length ∧ p.length ≤ 100 ∧ act.length ≤ 100 ∧ mis.length + p.length ≤ 100 ∧ uldR p.reverse act mis = uldR a.reverse b [] ∧
      MS H X s Zs ev [(Str.ofString "missing", .val (.ref lm)), (Str.ofString "expected", .val (.ref la)), (Str.ofString "actual", .val (.ref lb))] [(lm, .list (dS mis)), (la, .list (dS p)), (lb, .list (dS act))] X' s8 ∧ Fz H A' ev outer X Zs s s8 := fun h1 h2 h3 M8 Z8 =>
          ⟨p'.length, by omega, p', _, _, X', rfl, by omega, h1, h2, h3, M8.weak (Wk.cons (by ktr_unf) (Wk.cons (by ktr_unf) (Wk.cons (by ktr_unf) Wk.nil))), Z8⟩
        refine wpAny_execs_cons (wpAny_Try_except (wpAny_execs_cons (wpAny_Expr (M7.meth (pl := _) (l := lb) (ds := dS act) (es := [.str x]) (by with_unfolding_all rfl) (by ktr_unf) (.tail _ (.tail _ (.head _))) (by decide +kernel) (.cons (by tb_start) .nil) rfl PySem.F.slot_list_remove PySem.F.type_list_remove fun vs s8 k8 M8 r8 => ?rem) rfl (by kernel_rfl))))
        case rem =>
          obtain ⟨vx, rfl, rx⟩ := one r8
          obtain ⟨tx, rfl⟩ := rd_isStr rx
          have N8 := M7.rebase.keeps k8
          by_cases hxa : x ∈ act
          · have hinv' : uldR p'.reverse (act.erase x) mis = uldR a.reverse b [] := by rw [← hinv]; show _ = if x ∈ act then _ else _; rw [if_pos hxa]
            refine N8.remove (μ' := [(lm, .list (dS mis)), (la, .list (dS p')), (lb, .list (dS (act.erase x)))]) (.tail (.tail .head)) hxa (by omega) fun s9 N9 => ?_
            obtain ⟨M9, Z9⟩ := M7.both' Z7 N9
            refine wpAny_execs_nil (wpAny_execs_nil ?_)
            exact wpAny_execs_nil (done (by have := List.length_erase_le (a := x) (l := act); omega) (by omega) hinv' M9 Z9)
          · have hinv' : uldR p'.reverse act (mis ++ [x]) = uldR a.reverse b [] := by rw [← hinv]; show _ = if x ∈ act then _ else _; rw [if_neg hxa]
            obtain ⟨M8', Z8⟩ := M7.both' Z7 N8
            refine M8'.removeNone (.tail _ (.tail _ (.head _))) hxa ak fun h' tk e xe => ?_
            refine M8'.caught Z8 hH hkf xe (T := "ValueError") (fun A'' => Ev.builtin W (by kernel_rfl) Boot.«ValueError» (by decide) (by kernel_rfl) (by decide)) PySem.F.isExc_ValueError PySem.F.notTuple_ValueError (by rw [isSubtype_type]; kernel_rfl) fun s9 E' M9 Z9 => ?_
            refine wpAny_execs_cons (M9.rebase.appendStmt (pl := _) (l := lm) (ds := dS mis) (d := .str x) (μ' := [(lm, .list (dS mis ++ [.str x])), (la, .list (dS p')), (lb, .list (dS act))]) (by with_unfolding_all rfl) (by ktr_unf) (by decide +kernel) .head (by tb_start) rfl (by simp [dS]; omega) rfl (by kernel_rfl) fun s10 N10 => wpAny_execs_nil ?_)
            obtain ⟨M10, Z10⟩ := M9.both' Z9 N10
            rw [show dS mis ++ [.str x] = dS (mis ++ [x]) by simp [dS]] at M10
            exact wpAny_execs_nil (done hp2 (by simp; omega) hinv' M10 Z10)
end
end Mine
end

noncomputable section
open PySem PySem.W PySem.Calls PyProof.Rows PySem.Spec
namespace Mine
open PySem.SeqAt
local macro_rules | `(tactic| ktr_unf) => `(tactic| first | with_reducible exact lk_hd | (refine lk_tl ?_ (by decide +kernel); ktr_unf))
local macro_rules | `(tactic| tb_start) => `(tactic| first
  | with_reducible exact Ev.intC | with_reducible exact Ev.strC | with_reducible exact Ev.noneC | with_reducible exact Ev.boolC
  | (with_reducible refine Ev.name ?h1 ?h2; (case h1 => ktr_unf); (case h2 => decide +kernel)))

section
variable {prog : Program} {w : World} {H : Heap} {A : Around} {X X₀ Z : AS} {s s₀ : Shared} {ρ : Rho} {μ : Mu} {env : Env} {outer : List Env} {E : Value → Shared → Prop} {mg mb : Str → Option Value}

/-- str(record) -/
theorem c_strRec (W : WF (KF w) H mg mb) {n : Nat} (R : Room A (n + 7)) {agents rules : List Str} {dl : Option Int} (ok : SaidOk agents rules dl) : CallG prog w H A (.type "str") [rec agents rules dl] (.str (said agents rules dl)) := by
  refine ⟨fun X s vs Wh r Q E h => ?_⟩
  obtain ⟨v, rfl, r1⟩ := one r
  have r1' := r1
  cases r1 with | ent hx hy e1 e2 ru rr rd rq =>
  have R2 : Room A.in1.in1 (n + 5) := Room.in1 (n := n + 5) (Room.in1 (n := n + 6) R)
  have hu : A.in1.in1.units < cLine := by have := R2.units; omega
  refine kso_call (K := KF w) hu (W.kin.keeps Wh.base) (od := some (dictOf _ _)) ⟨e1, rfl, rfl, e2⟩ (f := 42) (by kernel_rfl) (by kernel_rfl) ?_
  refine (f_str W (n := n) R2 ok).run X s _ Wh (.cons r1' .nil) _ _ fun v s' k r => ?_
  obtain ⟨t, rfl⟩ := r.inv; exact h _ _ k (.str _ _)

/-- a method of a record -/
theorem ev_methEnt (W : WF (KF w) H mg mb) {o : PySem.Expr} {name : Str} {apos pos : Pos} {args : List PySem.Expr} {pl : Sem Bool} {f : Addr} {u r d q dr : D} {ds : List D} (he : MethForm o name apos pos args env pl)
    (ho : Ev prog w H A env ρ o (.ent 59 u r d q)) (ha : EvL prog w H A env ρ args ds) (hn : noStar args = true) (hg : plainGet (KF w) 59 name = true) (hf : findIn (KF w) (.ref 59) name = some (some (.ref f))) (ht : typeIn (KF w) (.ref f) = some (.type "function"))
    (hl : ∀ h1 h2 h3 h4 t1 t2 t3 t4 vu vr vd vq, getL name (entEs h1 h2 h3 h4 t1 t2 t3 t4 vu vr vd vq) = some none) (hk : keepIn (KF w) (.ref f) = true) (hcall : CallG prog w H A (.ref f) (.ent 59 u r d q :: ds) dr) :
    Ev prog w H A env ρ (.Call (.Attribute o name apos) args [] pos) dr := by
  refine ⟨fun X s F Q E h => ?_⟩
  refine MethodCall_ (pl := pl) (ho.run X s F _ _ fun v s₁ k₁ r₁ => ?_) he
  have r1' := r₁
  cases r₁ with | ent hx hy e1 e2 ru rr rd rq =>
  have F₁ := F.keeps k₁
  refine method_fn (K := KF w) (f := f) (W.kin.keeps F₁.base) (od := some (dictOf _ _)) ⟨e1, rfl, rfl, e2⟩ (plainGet_of hg).1 (plainGet_of hg).2 hf ht (by show (lookIn name (dictOf _ _)).map _ = _; rw [lookIn_dict, hl]; rfl) ?_
  rw [star_trees env pos args hn]
  refine callWith_of (P := (KF w).In) (by rw [trees_plain]; rfl) (fun h X => keeps_K hk h X) (evalArgs_trees ?_)
  refine ha.run X s₁ F₁ _ _ fun vs s₂ k₂ r₂ => ⟨W.kin.keeps (F₁.keeps k₂).base, ?_⟩
  exact hcall.run X s₂ (_ :: vs) (F₁.keeps k₂).wd (.cons (r1'.keeps k₂) r₂) _ _ fun v s₃ k₃ r₃ => h v s₃ (kTrans (kTrans k₁ k₂) k₃) r₃
end
end Mine
end

noncomputable section
open PySem PySem.W PySem.Calls PyProof.Rows PySem.Spec
namespace Mine
open PySem.SeqAt

theorem lc_1 (b : Array UInt8) : lcN b 1 = bI b 0 := by
  have h0 := bI_range b 0
  show Builtin.bitAnd (Builtin.bitOr (0 * 2 ^ 8) (bI b 0)) 65535 = _
  rw [bor_low 8 0 _ h0.1 (by show _ < (256 : Int); exact h0.2), bitAnd_m16]; omega
theorem lc_2 (b : Array UInt8) : lcN b 2 = bI b 0 * 256 + bI b 1 := by
  have h0 := bI_range b 0
  have h1 := bI_range b 1
  show Builtin.bitAnd (Builtin.bitOr (lcN b 1 * 2 ^ 8) (bI b 1)) 65535 = _
  rw [lc_1, bor_low 8 _ _ h1.1 (by show _ < (256 : Int); exact h1.2), bitAnd_m16, show (2 : Int) ^ 8 = 256 from rfl]; omega
theorem lc_3 (b : Array UInt8) : lcN b 3 = bI b 1 * 256 + bI b 2 := by
  have h0 := bI_range b 0
  have h1 := bI_range b 1
  have h2 := bI_range b 2
  show Builtin.bitAnd (Builtin.bitOr (lcN b 2 * 2 ^ 8) (bI b 2)) 65535 = _
  rw [lc_2, bor_low 8 _ _ h2.1 (by show _ < (256 : Int); exact h2.2), bitAnd_m16, show (2 : Int) ^ 8 = 256 from rfl]; omega
theorem cdIx_range (b : Array UInt8) (k : Int) : 0 ≤ cdIx b k ∧ cdIx b k < 64 := by unfold cdIx; rw [Int.fmod_eq_emod_of_nonneg _ (by decide)]; omega
theorem tab_alph {i : Nat} (hi : i < 64) : (bI b64tab i).toNat = alph.cps.getD i 0 := by
  have h := b64tab_at
  have hs : i < b64tab.toList.length := hi
  have h2 : (b64tab.toList.map UInt8.toNat)[i]? = alph.cps.toList[i]? := by rw [h]
  rw [List.getElem?_map, List.getElem?_eq_getElem hs] at h2
  have hs2 : i < alph.cps.size := by rw [alph_size]; exact hi
  have h3 : alph.cps.toList[i]? = some alph.cps[i] := by simp [hs2]
  rw [h3] at h2
  simp only [Option.map_some, Option.some.injEq] at h2
  unfold bI
  rw [List.getD_eq_getElem?_getD, List.getElem?_eq_getElem hs]
  simp only [Option.getD_some, Int.toNat_natCast]
  rw [h2]
  simp [Array.getD, hs2]
theorem sign_ix (x : Int) (k : Nat) (ix : Int) (h : (x.fdiv (2 ^ k)) % 64 = ix) : (sign x k).toNat = alph.cps.getD ix.toNat 0 := by
  unfold sign
  rw [bitAnd_m6, h]
  exact tab_alph (by omega)
theorem out_3 (b : Array UInt8) : outN b 3 = [sign (lcN b 1) 2, sign (lcN b 2) 4, sign (lcN b 3) 6, sign (lcN b 3) 0] := rfl
theorem sign_eqs (b : Array UInt8) : (outN b 3).map Int.toNat = [3, 2, 1, 0].map fun k => alph.cps.getD (cdIx b k).toNat 0 := by
  have h0 := bI_range b 0
  have h1 := bI_range b 1
  have h2 := bI_range b 2
  have fd : ∀ (x : Int) (k : Nat), x.fdiv (2 ^ k) = x / 2 ^ k := fun x k => Int.fdiv_eq_ediv_of_nonneg _ (Int.le_of_lt (kbt_pos k))
  have cd : ∀ k : Int, cdIx b k = cdNum b / 64 ^ k.toNat % 64 := fun k => by
    unfold cdIx
    rw [Int.fmod_eq_emod_of_nonneg _ (by decide), Int.fdiv_eq_ediv_of_nonneg _ (Int.le_of_lt (Int.pow_pos (by decide)))]
  rw [out_3]
  simp only [List.map_cons, List.map_nil]
  rw [sign_ix _ 2 (cdIx b 3) (by rw [fd, cd, lc_1]; show bI b 0 / 4 % 64 = cdNum b / 262144 % 64; unfold cdNum; omega),
    sign_ix _ 4 (cdIx b 2) (by rw [fd, cd, lc_2]; show (bI b 0 * 256 + bI b 1) / 16 % 64 = cdNum b / 4096 % 64; unfold cdNum; omega),
    sign_ix _ 6 (cdIx b 1) (by rw [fd, cd, lc_3]; show (bI b 1 * 256 + bI b 2) / 64 % 64 = cdNum b / 64 % 64; unfold cdNum; omega),
    sign_ix _ 0 (cdIx b 0) (by rw [fd, cd, lc_3]; show (bI b 1 * 256 + bI b 2) / 1 % 64 = cdNum b / 1 % 64; unfold cdNum; omega)]
end Mine
end

noncomputable section
open PySem PySem.W PySem.Calls PyProof.Rows PySem.Spec
namespace Mine
open PySem.SeqAt

def cc (b : Array UInt8) (k : Int) : Nat := alph.cps.getD (cdIx b k).toNat 0
theorem coded_is (b : Array UInt8) : coded b = ⟨#[cc b 3, cc b 2, cc b 1, cc b 0]⟩ := rfl
theorem alph_back : ∀ i : Fin 64, b64v (alph.cps.getD i.val 0 : Nat) = (i.val : Int) ∧ alph.cps.getD i.val 0 < 128 ∧ alph.cps.getD i.val 0 ≠ 61 := by decide +kernel
theorem cc_back (b : Array UInt8) (k : Int) : b64v (cc b k : Nat) = cdIx b k ∧ cc b k < 128 ∧ cc b k ≠ 61 := by
  have h := cdIx_range b k
  have := alph_back ⟨(cdIx b k).toNat, by omega⟩
  refine ⟨?_, this.2⟩
  have h1 := this.1
  unfold cc
  rw [h1]
  simp only
  omega
def ccA (b : Array UInt8) : Array UInt8 := #[(cc b 3).toUInt8, (cc b 2).toUInt8, (cc b 1).toUInt8, (cc b 0).toUInt8]
theorem toU8 {x : Nat} (h : x < 128) : (x.toUInt8).toNat = x := by
  show x % 256 = x
  omega
theorem ccA_at (b : Array UInt8) : bI (ccA b) 0 = cc b 3 ∧ bI (ccA b) 1 = cc b 2 ∧ bI (ccA b) 2 = cc b 1 ∧ bI (ccA b) 3 = cc b 0 := by
  refine ⟨?_, ?_, ?_, ?_⟩
  · show (((cc b 3).toUInt8).toNat : Int) = _; rw [toU8 (cc_back b 3).2.1]
  · show (((cc b 2).toUInt8).toNat : Int) = _; rw [toU8 (cc_back b 2).2.1]
  · show (((cc b 1).toUInt8).toNat : Int) = _; rw [toU8 (cc_back b 1).2.1]
  · show (((cc b 0).toUInt8).toNat : Int) = _; rw [toU8 (cc_back b 0).2.1]
theorem ccA_dv (b : Array UInt8) : dv (ccA b) 0 = cdIx b 3 ∧ dv (ccA b) 1 = cdIx b 2 ∧ dv (ccA b) 2 = cdIx b 1 ∧ dv (ccA b) 3 = cdIx b 0 := by
  obtain ⟨h0, h1, h2, h3⟩ := ccA_at b
  unfold dv
  rw [h0, h1, h2, h3]
  exact ⟨(cc_back b 3).1, (cc_back b 2).1, (cc_back b 1).1, (cc_back b 0).1⟩
theorem ccA_ok (b : Array UInt8) : CsOk (ccA b) := by
  obtain ⟨h0, h1, h2, h3⟩ := ccA_at b
  obtain ⟨g0, g1, g2, g3⟩ := ccA_dv b
  refine ⟨rfl, fun j hj => ?_, fun j hj => ?_⟩
  · have : j = 0 ∨ j = 1 ∨ j = 2 ∨ j = 3 := by omega
    rcases this with rfl | rfl | rfl | rfl
    · rw [h0]; have := (cc_back b 3).2.2; omega
    · rw [h1]; have := (cc_back b 2).2.2; omega
    · rw [h2]; have := (cc_back b 1).2.2; omega
    · rw [h3]; have := (cc_back b 0).2.2; omega
  · have : j = 0 ∨ j = 1 ∨ j = 2 ∨ j = 3 := by omega
    rcases this with rfl | rfl | rfl | rfl
    · rw [g0]; exact cdIx_range b 3
    · rw [g1]; exact cdIx_range b 2
    · rw [g2]; exact cdIx_range b 1
    · rw [g3]; exact cdIx_range b 0
theorem byte3 {b : Array UInt8} (hb : b.size = 3) : byteArr [bI b 0, bI b 1, bI b 2] = b := by
  obtain ⟨l⟩ := b
  have hl : l.length = 3 := hb
  cases l with
  | nil => simp at hl
  | cons x l => cases l with
    | nil => simp at hl
    | cons y l => cases l with
      | nil => simp at hl
      | cons z l => cases l with
        | nil =>
          unfold byteArr bI
          simp
        | cons u l => simp at hl
theorem dec_back {b : Array UInt8} (hb : b.size = 3) : decB (ccA b) = b := by
  obtain ⟨q1, q2, q3⟩ := d_eq (ccA_ok b)
  obtain ⟨g0, g1, g2, g3⟩ := ccA_dv b
  have h0 := bI_range b 0
  have h1 := bI_range b 1
  have h2 := bI_range b 2
  have cd : ∀ k : Int, cdIx b k = cdNum b / 64 ^ k.toNat % 64 := fun k => by
    unfold cdIx
    rw [Int.fmod_eq_emod_of_nonneg _ (by decide), Int.fdiv_eq_ediv_of_nonneg _ (Int.le_of_lt (Int.pow_pos (by decide)))]
  have p3 : (64 : Int) ^ (3 : Int).toNat = 262144 := by decide
  have p2 : (64 : Int) ^ (2 : Int).toNat = 4096 := by decide
  have p1 : (64 : Int) ^ (1 : Int).toNat = 64 := by decide
  have p0 : (64 : Int) ^ (0 : Int).toNat = 1 := by decide
  have c3 := cd 3
  have c2 := cd 2
  have c1 := cd 1
  have c0 := cd 0
  rw [p3] at c3
  rw [p2] at c2
  rw [p1] at c1
  rw [p0] at c0
  clear cd
  have e1 : d1 (ccA b) = bI b 0 := by rw [q1, g0, g1, c3, c2]; unfold cdNum; omega
  have e2 : d2 (ccA b) = bI b 1 := by rw [q2, g1, g2, c2, c1]; unfold cdNum; omega
  have e3 : d3 (ccA b) = bI b 2 := by rw [q3, g2, g3, c1, c0]; unfold cdNum; omega
  unfold decB
  rw [e1, e2, e3]
  exact byte3 hb
end Mine
end

noncomputable section
open PySem PySem.W PySem.Calls PyProof.Rows PySem.Spec
namespace Mine
open PySem.SeqAt
local macro_rules | `(tactic| ktr_unf) => `(tactic| first | with_reducible exact lk_hd | (refine lk_tl ?_ (by decide +kernel); ktr_unf))
local macro_rules | `(tactic| tb_start) => `(tactic| first
  | with_reducible exact Ev.intC | with_reducible exact Ev.strC | with_reducible exact Ev.noneC | with_reducible exact Ev.boolC
  | (with_reducible refine Ev.name ?h1 ?h2; (case h1 => ktr_unf); (case h2 => decide +kernel)))

section
variable {prog : Program} {w : World} {H : Heap} {A : Around} {X X₀ Z : AS} {s s₀ : Shared} {ρ : Rho} {μ : Mu} {env : Env} {outer : List Env} {E : Value → Shared → Prop} {mg mb : Str → Option Value}

/-- what sorted_list_difference gives of two lists in order -/
noncomputable def sldR : List Str → List Str → List Str → List Str → List Str × List Str
  | [], b, m, u => (m, u ++ b)
  | x :: a, [], m, u => (m ++ x :: a, u)
  | x :: a, y :: b, m, u => if ltS x y then sldR a (y :: b) (m ++ [x]) u else if ltS y x then sldR (x :: a) b m (u ++ [y]) else sldR a b m u
termination_by a b => a.length + b.length

theorem sldR_end {a b m u : List Str} (h : a = [] ∨ b = []) : sldR a b m u = (m ++ a, u ++ b) := by
  rcases h with rfl | rfl
  · unfold sldR; simp
  · cases a <;> (unfold sldR; simp)
theorem sldR_cons (x : Str) (a : List Str) (y : Str) (b m u : List Str) : sldR (x :: a) (y :: b) m u = if ltS x y then sldR a (y :: b) (m ++ [x]) u else if ltS y x then sldR (x :: a) b m (u ++ [y]) else sldR a b m u := by
  conv => lhs; unfold sldR
theorem dS_drop (a : List Str) (i : Nat) : (dS a).drop i = dS (a.drop i) := by simp [dS, List.map_drop]
theorem dS_app (a b : List Str) : dS a ++ dS b = dS (a ++ b) := by simp [dS]
theorem pw_next {a : List Str} (sa : a.Pairwise ltS) {i : Nat} {x : Str} (hx : a[i]? = some x) : ∀ y, a[i + 1]? = some y → y ≠ x := by
  intro y hy q
  subst q
  have h1 := (List.getElem?_eq_some_iff.mp hx)
  have h2 := (List.getElem?_eq_some_iff.mp hy)
  obtain ⟨i1, e1⟩ := h1
  obtain ⟨i2, e2⟩ := h2
  have := List.pairwise_iff_getElem.mp sa i (i + 1) i1 i2 (Nat.lt_succ_self _)
  rw [e1, e2] at this
  exact ltS_irrefl _ this

theorem Ex1.incN {ρ : Rho} {x : Str} {px cp pos : Pos} {c i : Nat} (hx : ρ.lookup x = some (.int (i : Int))) (hk : StoreOk env x) :
    Ex1 prog w H A env ρ (.AugAssign (.Name x px) .Add (.Constant (.int 1) c cp) pos) ((x, .int ((i + 1 : Nat) : Int)) :: ρ) := Ex1.addInt (b := 1) hx Ev.intC hk
theorem getS {a : List Str} {i : Nat} {x : Str} (hx : a[i]? = some x) : (dS a)[((i : Nat) : Int).toNat]? = some (.str x) := by rw [Int.toNat_natCast, dS, List.getElem?_map, hx]; rfl

theorem sld_call (W : WF (KF w) H mg mb) {n : Nat} (R : Room A (n + 6)) (hfr : A.frames = some outer) (Wh : Wd H X s.heap) (hff : s.heap.FunFrames H outer) (hox : ∀ c, c ∈ frs outer → X c) {va vb : Value} {a b : List Str}
    (ra : Rd X s.heap va (.list (dS a))) (rb : Rd X s.heap vb (.list (dS b))) (hza : a.length ≤ 100) (hzb : b.length ≤ 100) (sa : a.Pairwise ltS) (sb : b.Pairwise ltS) {Q : Value → Shared → Prop}
    (h : ∀ v s', KeptBut (fun c => c ∈ frs outer) s s' → (∀ c o, c ∈ frs outer → s.heap.get? c = some o → (∀ vs, o.data ≠ .fields vs) → ∃ sl, s'.heap.get? c = some { o with slots := sl }) →
      Rd X s'.heap v (.tuple [.list (dS (sldR a b [] []).1), .list (dS (sldR a b [] []).2)]) → Q v s') :
    wpAny (model prog w) A (call (.ref 158) [va, vb]) Q E s := by
  refine wpAny_call ?_
  refine' call_low (K := KF w) W (n := n + 5) R (f := 158) ?ho ?hcd (args := ⟨[va, vb], []⟩) (binds := [(Str.ofString "expected", va), (Str.ofString "actual", vb)]) (ρ₀ := [(Str.ofString "expected", .list (dS a)), (Str.ofString "actual", .list (dS b))]) Wh ?hb (.cons ra (.cons rb .nil)) ?hnd ?hck ?hk ?hco ?hgen fun L A' s₁ E hL hA' R' k F hown => ?body
  case ho => rfl
  case hcd => kernel_rfl
  case hb => exact BindsTo.of_eq rfl
  case hnd => simp only [List.map]; decide
  case hck => kernel_rfl
  case hk => rfl
  case hco => rfl
  case hgen => rfl
  case body =>
    have kk := kKeep k
    have own_s : ∀ c o, s.heap.get? c = some o → ¬ OwnZ (fenv _ _ L 158 _) c := fun c o e q => by rw [hown c q] at e; cases e
    have hfs : ∀ c, c ∈ frs outer → ∃ o, s.heap.get? c = some o := fun c hc => let ⟨_, o, ho, _⟩ := hff.mem hc; ⟨o, ho⟩
    generalize hen : fenv (Str.ofString "sorted_list_difference") _ L 158 _ = env at F hown hA' own_s ⊢
    have hfn : env.frame = some env.locals := by rw [← hen]; rfl
    have hkf : env.scope.kind ≠ .module := by rw [F.fn]; decide
    generalize hZ : (fun c => OwnZ env c ∨ c ∈ frs outer : AS) = Zs
    have zAt : ∀ c, Zs c = (OwnZ env c ∨ c ∈ frs outer) := fun c => by rw [← hZ]
    have M : MS H X s Zs env [(Str.ofString "expected", .list (dS a)), (Str.ofString "actual", .list (dS b))] [] (XN X s.heap s₁.heap) s₁ := by
      refine ⟨F, kbOf k, fun c q => .inl q, fun c q => by rw [zAt]; exact .inl q, fun c m hm => (nomatch hm), fun c hc => (nomatch hc), .nil, fun c q => ?_⟩
      have : env.locals = L := by rw [← hen]; rfl
      rw [this]
      exact Nat.le_of_lt (hL ▸ Wh.bound c q)
    have Z1 : Fz H A' env outer X Zs s s₁ := by
      refine ⟨by rw [hA']; exact Around.frames_deeper hfr, hfn, hff.of_keeps fun c o e _ => ⟨o, kk c o e, rfl⟩, fun c hc => ⟨hox c hc, by rw [zAt]; exact .inr hc, ?_⟩, fun c o hc e _ => ⟨o.slots, kk c o e⟩⟩
      obtain ⟨o, e⟩ := hfs c hc
      exact own_s c o e
    have ak := R'.handled
    have hH : ∀ c, c ∈ frs (env :: outer) → H.get? c = none := fun c hc => by
      rw [frs_cons hfn] at hc
      rcases List.mem_cons.mp hc with rfl | hc
      · exact F.bx _ F.xl
      · exact (hff.mem hc).1
    generalize XN X s.heap s₁.heap = X1 at M F
    generalize hSt : (fun (lm lu : Addr) (i j : Nat) (mis une : List Str) (X' : AS) (s' : Shared) => MS H X s Zs env [(Str.ofString "unexpected", .val (.ref lu)), (Str.ofString "missing", .val (.ref lm)), (Str.ofString "j", .int (j : Int)), (Str.ofString "i", .int (i : Int)), (Str.ofString "expected", .list (dS a)), (Str.ofString "actual", .list (dS b))] [(lu, .list (dS une)), (lm, .list (dS mis))] X' s' ∧ Fz H A' env outer X Zs s s' : Addr → Addr → Nat → Nat → List Str → List Str → AS → Shared → Prop) = St
    have stAt : ∀ lm lu i j mis une X' s', St lm lu i j mis une X' s' = (MS H X s Zs env [(Str.ofString "unexpected", .val (.ref lu)), (Str.ofString "missing", .val (.ref lm)), (Str.ofString "j", .int (j : Int)), (Str.ofString "i", .int (i : Int)), (Str.ofString "expected", .list (dS a)), (Str.ofString "actual", .list (dS b))] [(lu, .list (dS une)), (lm, .list (dS mis))] X' s' ∧ Fz H A' env outer X Zs s s') := fun lm lu i j mis une X' s' => by rw [← hSt]
    generalize hGs : (fun (lm lu : Addr) (mis une : List Str) (c : Value) (e T : Addr) (X' : AS) (s' : Shared) => Fg Zs s env outer [(lu, .list (dS une)), (lm, .list (dS mis))] "IndexError" c (rawInt env.locals) e T X' s' : Addr → Addr → List Str → List Str → Value → Addr → Addr → AS → Shared → Prop) = Gs
    have gsAt : ∀ lm lu mis une c e T X' s', Gs lm lu mis une c e T X' s' = Fg Zs s env outer [(lu, .list (dS une)), (lm, .list (dS mis))] "IndexError" c (rawInt env.locals) e T X' s' := fun lm lu mis une c e T X' s' => by rw [← hGs]
    clear hSt hGs
    subst hen
    refine wpAny_execs_cons (M.rebase.run (Ex1.assign2 (d := .int 0) Ev.intC (.inl (by kernel_rfl)) (.inl (by kernel_rfl)) rfl (by kernel_rfl)) fun s2 N2 => ?_)
    dsimp only
    obtain ⟨M2, Z2⟩ := M.both' Z1 N2
    refine wpAny_execs_cons (M2.rebase.newVar (.inl (by kernel_rfl)) (by kernel_rfl) fun lm X3 s3 N3 => ?_)
    dsimp only
    obtain ⟨M3, Z3⟩ := M2.both' Z2 N3
    refine wpAny_execs_cons (M3.rebase.newVar (.inl (by kernel_rfl)) (by kernel_rfl) fun lu X4 s4 N4 => ?_)
    dsimp only
    obtain ⟨M4, Z4⟩ := M3.both' Z3 N4
    have S4 : St lm lu 0 0 [] [] X4 s4 := by rw [stAt]; exact ⟨M4, Z4⟩
    clear M4 Z4 N4 M3 Z3 N3 M2 Z2 N2
    replace stAt := stAt lm lu
    replace gsAt := gsAt lm lu
    generalize St lm lu = St at stAt S4
    generalize Gs lm lu = Gs at gsAt
    generalize hInv : (fun (i j : Nat) (mis une : List Str) => i ≤ a.length ∧ j ≤ b.length ∧ mis.length ≤ i ∧ une.length ≤ j ∧ sldR (a.drop i) (b.drop j) mis une = sldR a b [] [] : Nat → Nat → List Str → List Str → Prop) = Inv
    have invAt : ∀ i j mis une, Inv i j mis une = (i ≤ a.length ∧ j ≤ b.length ∧ mis.length ≤ i ∧ une.length ≤ j ∧ sldR (a.drop i) (b.drop j) mis une = sldR a b [] []) := fun i j mis une => by rw [← hInv]
    clear hInv
    refine wpAny_execs_cons (wpAny_While (codeAny_whileLoop (I := fun k s' => ∃ i j mis une X', k = (a.length - i) + (b.length - j) ∧ Inv i j mis une ∧ St i j mis une X' s') (fun k s' hI => ?turn) (a.length + b.length)
      ⟨0, 0, [], [], X4, by omega, by rw [invAt]; exact ⟨Nat.zero_le _, Nat.zero_le _, Nat.le_refl _, Nat.le_refl _, rfl⟩, S4⟩))
    case turn =>
      obtain ⟨i, j, mis, une, X', rfl, hinv, hst⟩ := hI
      have hst' := hst
      rw [stAt] at hst'
      obtain ⟨M, Z1⟩ := hst'
      have hinv' := hinv
      rw [invAt] at hinv'
      obtain ⟨b1, b2, b3, b4, hsld⟩ := hinv'
      refine Tst.run (b := true) ⟨fun X s F Q E h => ?tt⟩ X' s' M.F _ _ fun s5 k5 => ?go
      case tt => exact (Tst.val (d := .bool true) (Ev.boolC (prog := prog) (w := w) (H := H) (A := A')) rfl (fun _ => rfl)).run X s F Q E h
      case go =>
      simp only [if_true]
      have M5 := M.keeps k5
      have Z5 := Z1.keeps k5
      clear M Z1
      refine wpAny_execs_cons (wpAny_Try_except (try_split
        (fun f s' => f = .next ∧ ∃ i' j' mis' une' X', (a.length - i') + (b.length - j') < (a.length - i) + (b.length - j) ∧ Inv i' j' mis' une' ∧ St i' j' mis' une' X' s')
        (fun ev s' => ∃ e i' j' mis' une' X', ev = .ref e ∧ Inv i' j' mis' une' ∧ (a.drop i' = [] ∨ b.drop j' = []) ∧
          ((∃ s1 h1 tk1, s' = { s1 with heap := h1, toks := tk1 } ∧ NewE s1.heap h1 e "IndexError" .none ∧ St i' j' mis' une' X' s1) ∨
           (∃ T c, St i' j' mis' une' X' s' ∧ Gs mis' une' c e T X' s')))
        (fun Q' HC hN hE => ?walk) (fun f s' hg => ?gn) (fun ev s' hg => ?ge)))
      case gn =>
        obtain ⟨rfl, i', j', mis', une', X'', hm, hi, hs⟩ := hg
        exact wpAny_execs_nil (wpAny_execs_nil ⟨_, hm, i', j', mis', une', X'', rfl, hi, hs⟩)
      case ge =>
        obtain ⟨e, i', j', mis', une', X'', rfl, hi, hend, hs⟩ := hg
        refine wpAny_mono (Q := fun _ s₂ => ∃ T c X', St i' j' mis' une' X' s₂ ∧ Gs mis' une' c e T X' s₂) ?note (fun _ s₂ hq => ?rest) (fun _ _ x => x)
        case note =>
          rcases hs with ⟨s1, h1, tk1, rfl, x1, hs⟩ | ⟨T, c, hs, hg⟩
          · rw [stAt] at hs
            refine hs.1.noteNew hs.2 hkf x1 fun T X3 s3 M3 Z3 G3 hX => ⟨T, _, X3, by rw [stAt]; exact ⟨M3, Z3⟩, by rw [gsAt]; exact G3⟩
          · have hs' := hs
            rw [stAt] at hs'
            have hg' := hg
            rw [gsAt] at hg'
            exact hg'.again hs'.2.fn ⟨T, c, X'', hs, hg⟩
        case rest =>
          obtain ⟨T, c, X3, hs, hg⟩ := hq
          rw [stAt] at hs
          rw [gsAt] at hg
          obtain ⟨M, Z1⟩ := hs
          rw [invAt] at hi
          obtain ⟨c1, c2, c3, c4, hsl⟩ := hi
          rw [sldR_end hend] at hsl
          refine hg.handle' M Z1 (TT := "IndexError") (fun A'' => Ev.builtin W (by kernel_rfl) Boot.«IndexError» (by decide) (by kernel_rfl) (by decide)) PySem.F.isExc_IndexError PySem.F.notTuple_IndexError (by rw [isSubtype_type]; kernel_rfl) fun s6 E' M6 Z6 => ?suite
          have hda : (a.drop i').length ≤ 100 := by rw [List.length_drop]; omega
          have hdb : (b.drop j').length ≤ 100 := by rw [List.length_drop]; omega
          refine wpAny_execs_cons (wpAny_Expr (M6.rebase.meth (pl := _) (l := lm) (ds := dS mis') (es := [.list (dS (a.drop i'))]) (by with_unfolding_all rfl) (by ktr_unf) (.tail _ (.head _)) (by decide +kernel) (.cons ?a1 .nil) rfl PySem.F.slot_list_extend PySem.F.type_list_extend fun vs s7 k7 N7 r7 => ?a2) rfl (by kernel_rfl))
          case a1 =>
            rw [← dS_drop]
            exact Ev.dropL (k := (i' : Int)) (by tb_start) (by tb_start) (by omega) (by rw [dS, List.length_map]; exact Nat.le_trans hza (by decide))
          case a2 =>
          obtain ⟨v7, rfl, rv7⟩ := one r7
          refine N7.extend (μ' := [(lu, .list (dS une')), (lm, .list (dS mis' ++ dS (a.drop i')))]) (.tail .head) rv7 (by simp only [dS, List.length_map]; omega) fun s8 N8 => ?a3
          dsimp only
          refine wpAny_execs_cons (wpAny_Expr (N8.meth (pl := _) (l := lu) (ds := dS une') (es := [.list (dS (b.drop j'))]) (by with_unfolding_all rfl) (by ktr_unf) (.head _) (by decide +kernel) (.cons ?a4 .nil) rfl PySem.F.slot_list_extend PySem.F.type_list_extend fun vs s9 k9 N9 r9 => ?a5) rfl (by kernel_rfl))
          case a4 =>
            rw [← dS_drop]
            exact Ev.dropL (k := (j' : Int)) (by tb_start) (by tb_start) (by omega) (by rw [dS, List.length_map]; exact Nat.le_trans hzb (by decide))
          case a5 =>
          obtain ⟨v9, rfl, rv9⟩ := one r9
          refine N9.extend (μ' := [(lu, .list (dS une' ++ dS (b.drop j'))), (lm, .list (dS mis' ++ dS (a.drop i')))]) .head rv9 (by simp only [dS, List.length_map]; omega) fun s10 N10 => ?a6
          dsimp only
          refine wpAny_execs_cons (wpAny_Break ?a7)
          dsimp only
          obtain ⟨M10, Z10⟩ := M6.both' Z6 N10
          rw [dS_app, dS_app] at M10
          rw [← hsl] at h
          refine M10.retFk (d := .tuple [.list (dS (mis' ++ a.drop i')), .list (dS (une' ++ b.drop j'))]) (ρ' := [(Str.ofString "unexpected", .list (dS (une' ++ b.drop j'))), (Str.ofString "missing", .list (dS (mis' ++ a.drop i')))]) ?r1 ?r2 fun v s11 k11 kb r => ?r3
          case r1 =>
            exact rv_hd (M10.listF (.head _)) (rv_hd (M10.listF (.tail _ (.head _))) (fun _ _ e => nomatch e))
          case r2 => exact Ev.tuple (.cons (d := .list (dS (mis' ++ a.drop i'))) (by tb_start) (.cons (d := .list (dS (une' ++ b.drop j'))) (by tb_start) .nil)) rfl (by simp)
          case r3 =>
            refine h v s11 ?_ (fun c o hc e hn => ?_) r
            · obtain ⟨h', t', e', kq⟩ := kb
              exact ⟨h', t', e', fun c o hc e => kq c o (fun q => by rw [zAt] at q; exact q.elim (own_s c o e) hc) e⟩
            · obtain ⟨sl, e1⟩ := Z10.up c o hc e hn
              exact ⟨sl, kKeep k11 _ _ e1⟩
      case walk =>
        by_cases hi : i < a.length
        rotate_left
        · refine wpAny_execs_cons (wpAny_Assign_Name (Ev.itemOut (ds := dS a) (k := (i : Int)) (c := .none) (by tb_start) (by tb_start) noSlice_name (by omega) (by omega) (by simp [dS]; omega) M5.F (.none ak) fun s6 h6 tk e k6 x6 => ?_) (by kernel_rfl))
          exact hE _ _ ⟨e, i, j, mis, une, X', rfl, hinv, .inl (by simp; omega), .inl ⟨s6, h6, tk, rfl, x6, by rw [stAt]; exact ⟨M5.keeps k6, Z5.keeps k6⟩⟩⟩
        have hx : a[i]? = some a[i] := List.getElem?_eq_getElem hi
        have hda : a.drop i = a[i] :: a.drop (i + 1) := List.drop_eq_getElem_cons hi
        generalize a[i] = x at hx hda
        refine wpAny_execs_cons (M5.rebase.run (Ex1.assign (d := .str x) (Ev.item (d1 := .list (dS a)) (d2 := .int (i : Int)) (by tb_start) (by tb_start) (item_list noSlice_name (by omega) (by omega) (getS hx))) (.inl (by kernel_rfl)) (by kernel_rfl)) fun s6 N6 => ?_)
        obtain ⟨M6, Z6⟩ := M5.both' Z5 N6
        dsimp only
        by_cases hj : j < b.length
        rotate_left
        · refine wpAny_execs_cons (wpAny_Assign_Name (Ev.itemOut (ds := dS b) (k := (j : Int)) (c := .none) (by tb_start) (by tb_start) noSlice_name (by omega) (by omega) (by simp [dS]; omega) M6.F (.none ak) fun s7 h7 tk e k7 x7 => ?_) (by kernel_rfl))
          refine hE _ _ ⟨e, i, j, mis, une, X', rfl, hinv, .inr (by simp; omega), .inl ⟨s7, h7, tk, rfl, x7, ?_⟩⟩
          rw [stAt]
          exact ⟨(M6.keeps k7).weak (Wk.cons (by ktr_unf) (Wk.cons (by ktr_unf) (Wk.cons (by ktr_unf) (Wk.cons (by ktr_unf) (Wk.cons (by ktr_unf) (Wk.cons (by ktr_unf) Wk.nil)))))), Z6.keeps k7⟩
        have hy : b[j]? = some b[j] := List.getElem?_eq_getElem hj
        have hdb : b.drop j = b[j] :: b.drop (j + 1) := List.drop_eq_getElem_cons hj
        generalize b[j] = y at hy hdb
        refine wpAny_execs_cons (M6.rebase.run (Ex1.assign (d := .str y) (Ev.item (d1 := .list (dS b)) (d2 := .int (j : Int)) (by tb_start) (by tb_start) (item_list noSlice_name (by omega) (by omega) (getS hy))) (.inl (by kernel_rfl)) (by kernel_rfl)) fun s7 N7 => ?_)
        obtain ⟨M7, Z7⟩ := M6.both' Z6 N7
        dsimp only
        have hsld' := hsld
        rw [hda, hdb, sldR_cons] at hsld'
        have wk : ∀ {i' j' : Nat} {ρ : Rho} {mis' une' : List Str} {X'' : AS} {s8 : Shared}, Wk [(Str.ofString "unexpected", .val (.ref lu)), (Str.ofString "missing", .val (.ref lm)), (Str.ofString "j", .int (j' : Int)), (Str.ofString "i", .int (i' : Int)), (Str.ofString "expected", .list (dS a)), (Str.ofString "actual", .list (dS b))] ρ →
            MS H X s Zs _ ρ [(lu, .list (dS une')), (lm, .list (dS mis'))] X'' s8 → Fz H A' _ outer X Zs s s8 → St i' j' mis' une' X'' s8 := fun hw M8 Z8 => by rw [stAt]; exact ⟨M8.weak hw, Z8⟩
        refine wpAny_execs_cons (M7.rebase.if (k := decide (x.cps.toList < y.cps.toList)) (Tst.compare (d1 := .str x) (d2 := .str y) (by tb_start) (by tb_start) op_ltS rfl) (fun hk s8 N8 => ?lt) (fun hk s8 N8 => ?ge))
        case lt =>
          have hlt : ltS x y := of_decide_eq_true hk
          rw [if_pos hlt, ← hdb] at hsld'
          have inv2 : Inv (i + 1) j (mis ++ [x]) une := by rw [invAt]; exact ⟨hi, b2, by simp; omega, b4, hsld'⟩
          refine wpAny_execs_cons (N8.appendStmt (pl := _) (l := lm) (ds := dS mis) (d := .str x) (μ' := [(lu, .list (dS une)), (lm, .list (dS mis ++ [.str x]))]) (by with_unfolding_all rfl) (by ktr_unf) (by decide +kernel) (.tail .head) (by tb_start) rfl (by simp [dS]; omega) rfl (by kernel_rfl) fun s9 N9 => ?_)
          refine wpAny_execs_cons (N9.run (Ex1.incN (i := i) (by ktr_unf) (.inl (by kernel_rfl))) fun s10 N10 => ?_)
          dsimp only
          obtain ⟨M10, Z10⟩ := M7.both' Z7 N10
          rw [show dS mis ++ [.str x] = dS (mis ++ [x]) by simp [dS]] at M10
          refine wpAny_execs_cons (M10.whileEq Z10 hkf (xs := a) (x := x) (n := i + 1) (by tb_start) (by tb_start) (by tb_start) rfl (by omega) (by omega) (pw_next sa hx) (.none ak) (fun hl s11 k11 => ?_) (fun hl e T X'' s11 M11 Z11 G11 hX => ?_))
          · exact wpAny_execs_nil (wpAny_execs_nil (hN _ _ ⟨rfl, i + 1, j, _, _, X', by omega, inv2, wk (Wk.cons (by ktr_unf) (Wk.cons (by ktr_unf) (Wk.cons (by ktr_unf) (Wk.cons (by ktr_unf) (Wk.cons (by ktr_unf) (Wk.cons (by ktr_unf) Wk.nil)))))) (M10.keeps k11) (Z10.keeps k11)⟩))
          · exact hE _ _ ⟨e, i + 1, j, _, _, X'', rfl, inv2, .inl (by simp; omega), .inr ⟨T, _, wk (Wk.cons (by ktr_unf) (Wk.cons (by ktr_unf) (Wk.cons (by ktr_unf) (Wk.cons (by ktr_unf) (Wk.cons (by ktr_unf) (Wk.cons (by ktr_unf) Wk.nil)))))) M11 Z11, by rw [gsAt]; exact G11⟩⟩
        case ge =>
          have hnlt : ¬ ltS x y := of_decide_eq_false hk
          rw [if_neg hnlt] at hsld'
          refine wpAny_execs_cons (N8.if (k := decide (y.cps.toList < x.cps.toList)) (Tst.compare (d1 := .str x) (d2 := .str y) (by tb_start) (by tb_start) op_gtS rfl) (fun hk2 s9 N9 => ?gt) (fun hk2 s9 N9 => ?eq))
          case gt =>
            have hgt : ltS y x := of_decide_eq_true hk2
            rw [if_pos hgt, ← hda] at hsld'
            have inv2 : Inv i (j + 1) mis (une ++ [y]) := by rw [invAt]; exact ⟨b1, hj, b3, by simp; omega, hsld'⟩
            refine wpAny_execs_cons (N9.appendStmt (pl := _) (l := lu) (ds := dS une) (d := .str y) (μ' := [(lu, .list (dS une ++ [.str y])), (lm, .list (dS mis))]) (by with_unfolding_all rfl) (by ktr_unf) (by decide +kernel) .head (by tb_start) rfl (by simp [dS]; omega) rfl (by kernel_rfl) fun s10 N10 => ?_)
            refine wpAny_execs_cons (N10.run (Ex1.incN (i := j) (by ktr_unf) (.inl (by kernel_rfl))) fun s11 N11 => ?_)
            dsimp only
            obtain ⟨M11, Z11⟩ := M7.both' Z7 N11
            rw [show dS une ++ [.str y] = dS (une ++ [y]) by simp [dS]] at M11
            refine wpAny_execs_cons (M11.whileEq Z11 hkf (xs := b) (x := y) (n := j + 1) (by tb_start) (by tb_start) (by tb_start) rfl (by omega) (by omega) (pw_next sb hy) (.none ak) (fun hl s12 k12 => ?_) (fun hl e T X'' s12 M12 Z12 G12 hX => ?_))
            · exact wpAny_execs_nil (wpAny_execs_nil (wpAny_execs_nil (hN _ _ ⟨rfl, i, j + 1, _, _, X', by omega, inv2, wk (Wk.cons (by ktr_unf) (Wk.cons (by ktr_unf) (Wk.cons (by ktr_unf) (Wk.cons (by ktr_unf) (Wk.cons (by ktr_unf) (Wk.cons (by ktr_unf) Wk.nil)))))) (M11.keeps k12) (Z11.keeps k12)⟩)))
            · exact hE _ _ ⟨e, i, j + 1, _, _, X'', rfl, inv2, .inr (by simp; omega), .inr ⟨T, _, wk (Wk.cons (by ktr_unf) (Wk.cons (by ktr_unf) (Wk.cons (by ktr_unf) (Wk.cons (by ktr_unf) (Wk.cons (by ktr_unf) (Wk.cons (by ktr_unf) Wk.nil)))))) M12 Z12, by rw [gsAt]; exact G12⟩⟩
          case eq =>
            have hngt : ¬ ltS y x := of_decide_eq_false hk2
            rw [if_neg hngt] at hsld'
            have inv2 : Inv (i + 1) (j + 1) mis une := by rw [invAt]; exact ⟨hi, hj, by omega, by omega, hsld'⟩
            refine wpAny_execs_cons (N9.run (Ex1.incN (i := i) (by ktr_unf) (.inl (by kernel_rfl))) fun s10 N10 => ?_)
            dsimp only
            obtain ⟨M10, Z10⟩ := M7.both' Z7 N10
            refine wpAny_execs_cons (wpAny_Try_finally (wpAny_execs_cons (M10.whileEq Z10 hkf (xs := a) (x := x) (n := i + 1) (by tb_start) (by tb_start) (by tb_start) rfl (by omega) (by omega) (pw_next sa hx) (.none ak) (fun hl s11 k11 => ?inn) (fun hl e T X'' s11 M11 Z11 G11 hX => ?out))))
            case inn =>
              have M11 := M10.keeps k11
              have Z11 := Z10.keeps k11
              refine wpAny_execs_nil (wpAny_execs_nil (wpAny_execs_cons (M11.rebase.run (Ex1.incN (i := j) (by ktr_unf) (.inl (by kernel_rfl))) fun s12 N12 => ?_)))
              dsimp only
              obtain ⟨M12, Z12⟩ := M11.both' Z11 N12
              refine wpAny_execs_cons (M12.whileEq Z12 hkf (xs := b) (x := y) (n := j + 1) (by tb_start) (by tb_start) (by tb_start) rfl (by omega) (by omega) (pw_next sb hy) (.none ak) (fun hl s13 k13 => ?_) (fun hl e T X'' s13 M13 Z13 G13 hX => ?_))
              · exact wpAny_execs_nil (wpAny_execs_nil (wpAny_execs_nil (wpAny_execs_nil (hN _ _ ⟨rfl, i + 1, j + 1, _, _, X', by omega, inv2, wk (Wk.cons (by ktr_unf) (Wk.cons (by ktr_unf) (Wk.cons (by ktr_unf) (Wk.cons (by ktr_unf) (Wk.cons (by ktr_unf) (Wk.cons (by ktr_unf) Wk.nil)))))) (M12.keeps k13) (Z12.keeps k13)⟩))))
              · show wpAny (model prog w) A' (noteFrame (.ref e) _) _ _ _
                refine G13.again Z13.fn (G13.back M13 Z13 fun s14 M14 Z14 G14 => ?_)
                exact hE _ _ ⟨e, i + 1, j + 1, _, _, X'', rfl, inv2, .inr (by simp; omega), .inr ⟨T, _, wk (Wk.cons (by ktr_unf) (Wk.cons (by ktr_unf) (Wk.cons (by ktr_unf) (Wk.cons (by ktr_unf) (Wk.cons (by ktr_unf) (Wk.cons (by ktr_unf) Wk.nil)))))) M14 Z14, by rw [gsAt]; exact G14⟩⟩
            case out =>
              refine G11.again Z11.fn ⟨ref_ne_byPass _, G11.again Z11.fn (G11.flight M11 Z11 fun s12 M12 Z12 G12 => ?_)⟩
              refine wpAny_execs_cons (M12.rebase.run (Ex1.incN (i := j) (by ktr_unf) (.inl (by kernel_rfl))) fun s13 N13 => ?_)
              dsimp only
              obtain ⟨M13, Z13⟩ := M12.both' Z12 N13
              have G13 := G12.over N13 rfl
              refine wpAny_execs_cons (M13.whileEq Z13.mark hkf (xs := b) (x := y) (n := j + 1) (by tb_start) (by tb_start) (by tb_start) rfl (by omega) (by omega) (pw_next sb hy) (fg_hd G13 rfl) (fun hl s14 k14 => ?_) (fun hl e2 T2 X3 s14 M14 Z14 G14 hX2 => ?_))
              · refine wpAny_execs_nil ((G13.weakT k14).passOn (M13.keeps k14) (Z13.keeps k14) fun s15 M15 Z15 G15 => ?_)
                exact hE _ _ ⟨e, i + 1, j + 1, _, _, X'', rfl, inv2, .inl (by simp; omega), .inr ⟨T, _, wk (Wk.cons (by ktr_unf) (Wk.cons (by ktr_unf) (Wk.cons (by ktr_unf) (Wk.cons (by ktr_unf) (Wk.cons (by ktr_unf) (Wk.cons (by ktr_unf) Wk.nil)))))) M15 Z15, by rw [gsAt]; exact G15⟩⟩
              · show wpAny (model prog w) (A'.mark _) (noteFrame (.ref e2) _) _ _ _
                refine G14.again Z14.fn (G14.back M14 Z14.unmark fun s15 M15 Z15 G15 => ?_)
                exact hE _ _ ⟨e2, i + 1, j + 1, _, _, X3, rfl, inv2, .inl (by simp; omega), .inr ⟨T2, _, wk (Wk.cons (by ktr_unf) (Wk.cons (by ktr_unf) (Wk.cons (by ktr_unf) (Wk.cons (by ktr_unf) (Wk.cons (by ktr_unf) (Wk.cons (by ktr_unf) Wk.nil)))))) M15 Z15, by rw [gsAt]; exact G15⟩⟩
end
end Mine
end

noncomputable section
open PySem PySem.W PySem.Calls PyProof.Rows PySem.Spec
namespace Mine
open PySem.SeqAt

section
variable {prog : Program} {w : World} {H : Heap} {A : Around} {X X₀ Z : AS} {s s₀ : Shared} {ρ : Rho} {μ : Mu} {env : Env} {outer : List Env} {E : Value → Shared → Prop} {mg mb : Str → Option Value}

theorem frs_one (hf : env.frame = some env.locals) {c : Addr} : c ∈ frs [env] ↔ c = env.locals := by rw [frs_cons hf]; simp [frs]

theorem ev_sld (W : WF (KF w) H mg mb) {n : Nat} (R : Room A (n + 6)) (hfr : A.frames = some [env]) (hf : env.frame = some env.locals) (hx : env.kindOf "sorted_list_difference" = some .globalImplicit) {fp pos : Pos} {e1 e2 : PySem.Expr} {a b : List Str}
    (h1 : Ev prog w H A env ρ e1 (.list (dS a))) (h2 : Ev prog w H A env ρ e2 (.list (dS b))) (hn : noStar [e1, e2] = true) (hza : a.length ≤ 100) (hzb : b.length ≤ 100) (sa : a.Pairwise ltS) (sb : b.Pairwise ltS) :
    EvO prog w H A env ρ (.Call (.Name "sorted_list_difference" fp) [e1, e2] [] pos) (.tuple [.list (dS (sldR a b [] []).1), .list (dS (sldR a b [] []).2)]) := by
  refine ⟨fun X s F Q E h => ?_⟩
  rw [nameCall (x := "sorted_list_difference") (p := fp) [e1, e2] pos env]
  refine wpAny_bind ((Ev.global (prog := prog) (w := w) (A := A) (ρ := ρ) W (v := .ref 158) (by kernel_rfl) hx (by decide)).run X s F _ _ fun fv s₁ k₁ r₁ => ?_)
  obtain rfl := r₁.inv
  rw [star_trees env pos _ hn]
  refine callWith_of (P := (KF w).In) (by rw [trees_plain]; rfl) (fun h X => keeps_K (by kernel_rfl) h X) (evalArgs_trees ?_)
  refine EvL.run (.cons h1 (.cons h2 .nil)) X s₁ (F.keeps k₁) _ _ fun vs s₂ k₂ r₂ => ⟨W.kin.keeps ((F.keeps k₁).keeps k₂).base, ?_⟩
  obtain ⟨u, v, rfl, ru, rv⟩ := two r₂
  have F₂ := (F.keeps k₁).keeps k₂
  refine sld_call W R hfr F₂.wd (F₂.fun1 hf) (fun c hc => by rw [(frs_one hf).mp hc]; exact F.xl) ru rv hza hzb sa sb fun v' s' kb sl r => ?_
  refine h v' s' (kbTrans (kbOf (kTrans k₁ k₂)) (kbMono kb fun c hc => .inl ((frs_one hf).mp hc))) (F₂.slots (fun c o hc e => kbKeep kb c o (fun q => hc ((frs_one hf).mp q)) e) fun o e => sl _ o ((frs_one hf).mpr rfl) e (F₂.nsData e)) r

theorem ev_uld (W : WF (KF w) H mg mb) {n : Nat} (R : Room A (n + 6)) (hfr : A.frames = some [env]) (hf : env.frame = some env.locals) (hx : env.kindOf "unorderable_list_difference" = some .globalImplicit) {fp pos l1 l2 p1 p2 : Pos} {e1 e2 : PySem.Expr} {a b : List Str}
    (hl1 : Ev prog w H A env ρ (.Name "list" l1) (.val (.type "list"))) (hl2 : Ev prog w H A env ρ (.Name "list" l2) (.val (.type "list")))
    (h1 : Ev prog w H A env ρ e1 (.list (dS a))) (h2 : Ev prog w H A env ρ e2 (.list (dS b))) (hn1 : noStar [e1] = true) (hn2 : noStar [e2] = true) (hza : a.length ≤ 100) (hzb : b.length ≤ 100) :
    EvO prog w H A env ρ (.Call (.Name "unorderable_list_difference" fp) [.Call (.Name "list" l1) [e1] [] p1, .Call (.Name "list" l2) [e2] [] p2] [] pos) (.tuple [.list (dS (uldR a.reverse b []).1), .list (dS (uldR a.reverse b []).2)]) := by
  refine ⟨fun X s F Q E h => ?_⟩
  rw [nameCall (x := "unorderable_list_difference") (p := fp) _ pos env]
  refine wpAny_bind ((Ev.global (prog := prog) (w := w) (A := A) (ρ := ρ) W (v := .ref 165) (by kernel_rfl) hx (by decide)).run X s F _ _ fun fv s₁ k₁ r₁ => ?_)
  obtain rfl := r₁.inv
  rw [star_trees env pos _ rfl]
  refine callWith_of (P := (KF w).In) (by rw [trees_plain]; rfl) (fun h X => keeps_K (by kernel_rfl) h X) (evalArgs_trees ?_)
  have F₁ := F.keeps k₁
  refine spliced_cons (ev_listNew nameCall hl1 h1 hn1 (by omega) F₁ fun la s₂ vs k₂ aa pa ra => ?_)
  have F₂ := F₁.keeps k₂
  refine spliced_cons (ev_listNew nameCall hl2 h2 hn2 (by omega) F₂ fun lb s₃ us k₃ ab pb rb => spliced_nil ?_)
  have F₃ := F₂.keeps k₃
  refine ⟨W.kin.keeps F₃.base, ?_⟩
  have hH : ∀ {c : Addr} {h : Heap}, FS H X env ρ h → Above h c → H.get? c = none := fun Fc ac => by
    rename_i c h
    cases e : H.get? c with
    | none => rfl
    | some o => have := Fc.base c o e; rw [ac.none] at this; cases this
  obtain ⟨na, ea⟩ := pa
  have hne : la ≠ lb := fun q => by
    have := ab la _ ea
    rw [q] at this
    exact Nat.lt_irrefl _ this
  refine uld_call W R hfr F₃.wd (F₃.fun1 hf) (fun c hc => by rw [(frs_one hf).mp hc]; exact F.xl) (la := la) (lb := lb) (a := a) (b := b) ⟨vs, ⟨na, kKeep k₃ _ _ ea⟩, ra.keeps k₃⟩ ⟨us, pb, rb⟩ hne (aa.notX F₁.wd) (ab.notX F₂.wd) (hH F₁ aa) (hH F₂ ab) hza hzb fun v' s' kb sl r => ?_
  have k13 := kKeep (kTrans (kTrans k₁ k₂) k₃)
  have old : ∀ c o, s.heap.get? c = some o → c ≠ la ∧ c ≠ lb := fun c o e => by
    refine ⟨fun q => ?_, fun q => ?_⟩
    · have := aa.none; rw [← q, kKeep k₁ c o e] at this; cases this
    · have := ab.none; rw [← q, kKeep (kTrans k₁ k₂) c o e] at this; cases this
  have kall : ∀ c o, c ≠ env.locals → s.heap.get? c = some o → s'.heap.get? c = some o := fun c o hc e => kbKeep kb c o (fun q => by
    rcases q with (q | q) | q
    · exact (old c o e).1 q
    · exact (old c o e).2 q
    · exact hc ((frs_one hf).mp q)) (k13 c o e)
  refine h v' s' ?_ (F.slots kall fun o e => sl _ o ((frs_one hf).mpr rfl) (k13 _ _ e) (F.nsData e)) r
  obtain ⟨h1', t1, e1', _⟩ := kTrans (kTrans k₁ k₂) k₃
  obtain ⟨h2', t2, e2', _⟩ := kb
  exact ⟨h2', t2, by rw [e2', e1'], fun c o hc e => by
    have := kall c o (fun q => hc (.inl q)) e
    rw [e2'] at this
    exact this⟩
end
end Mine
end

noncomputable section
open PySem PySem.W PySem.Calls PyProof.Rows PySem.Spec
namespace Mine
open PySem.SeqAt

/- split of joined lines -/
noncomputable def jl (c : Nat) : List (List Nat) → List Nat
  | [] => []
  | [x] => x
  | x :: y :: r => x ++ c :: jl c (y :: r)
theorem app_cons_inj {c : Nat} : ∀ {p q X Y : List Nat}, c ∉ p → c ∉ q → p ++ c :: X = q ++ c :: Y → p = q ∧ X = Y
  | [], [], X, Y, _, _, h => by simpa using h
  | [], b :: q, X, Y, _, hq, h => by
    simp only [List.nil_append, List.cons_append, List.cons.injEq] at h
    exact absurd (h.1 ▸ List.mem_cons_self) hq
  | a :: p, [], X, Y, hp, _, h => by
    simp only [List.nil_append, List.cons_append, List.cons.injEq] at h
    exact absurd (h.1 ▸ List.mem_cons_self) hp
  | a :: p, b :: q, X, Y, hp, hq, h => by
    simp only [List.cons_append, List.cons.injEq] at h
    obtain ⟨h1, h2⟩ := app_cons_inj (fun z => hp (.tail _ z)) (fun z => hq (.tail _ z)) h.2
    exact ⟨by rw [h.1, h1], h2⟩
theorem jl_inj {c : Nat} : ∀ {ps qs : List (List Nat)}, ps ≠ [] → qs ≠ [] → (∀ p ∈ ps, c ∉ p) → (∀ q ∈ qs, c ∉ q) → jl c ps = jl c qs → ps = qs
  | [], _, h, _, _, _, _ => absurd rfl h
  | _ :: _, [], _, h, _, _, _ => absurd rfl h
  | [p], [q], _, _, _, _, h => by have h' : p = q := h; rw [h']
  | [p], q :: q2 :: r, _, _, hp, _, h => by
    have h' : p = q ++ c :: jl c (q2 :: r) := h
    exact absurd (by rw [h']; simp) (hp p (.head _))
  | p :: p2 :: r, [q], _, _, _, hq, h => by
    have h' : p ++ c :: jl c (p2 :: r) = q := h
    exact absurd (by rw [← h']; simp) (hq q (.head _))
  | p :: p2 :: r, q :: q2 :: s, _, _, hp, hq, h => by
    have h' : p ++ c :: jl c (p2 :: r) = q ++ c :: jl c (q2 :: s) := h
    obtain ⟨h1, h2⟩ := app_cons_inj (hp p (.head _)) (hq q (.head _)) h'
    have := jl_inj (by simp) (by simp) (fun z hz => hp z (.tail _ hz)) (fun z hz => hq z (.tail _ hz)) h2
    rw [h1, this]
theorem join_jl (c : Nat) : ∀ parts : List Str, (Str.join ⟨#[c]⟩ parts).cps.toList = jl c (parts.map fun p => p.cps.toList)
  | [] => rfl
  | [x] => rfl
  | x :: y :: r => by
    have ih := join_jl c (y :: r)
    show ((x ++ ⟨#[c]⟩ : Str) ++ Str.join ⟨#[c]⟩ (y :: r)).cps.toList = x.cps.toList ++ c :: jl c ((y :: r).map fun p => p.cps.toList)
    rw [← ih]
    show ((x.cps ++ #[c]) ++ (Str.join ⟨#[c]⟩ (y :: r)).cps).toList = _
    simp
theorem split_join (c : Nat) {parts : List Str} (hne : parts ≠ []) (hf : ∀ p ∈ parts, c ∉ p.cps.toList) : Txt.split (Txt.join ⟨#[c]⟩ parts) ⟨#[c]⟩ = parts := by
  have e : Txt.join ⟨#[c]⟩ parts = Str.join ⟨#[c]⟩ parts := StrLaws.glued_eq_join _ _
  rw [e]
  have h1 := StrLaws.join_split (Str.join ⟨#[c]⟩ parts) ⟨#[c]⟩
  have hfree := StrLaws.split_free (Str.join ⟨#[c]⟩ parts) c
  have hpos := split_pos (Str.join ⟨#[c]⟩ parts) ⟨#[c]⟩
  generalize Txt.split (Str.join ⟨#[c]⟩ parts) ⟨#[c]⟩ = ps at h1 hfree hpos
  have h2 : jl c (ps.map fun p => p.cps.toList) = jl c (parts.map fun p => p.cps.toList) := by rw [← join_jl, ← join_jl, h1]
  have h3 := jl_inj (c := c) (ps := ps.map fun p => p.cps.toList) (qs := parts.map fun p => p.cps.toList) (by intro q; simp at q; subst q; simp at hpos) (by simpa using hne) (by simpa using hfree) (by simpa using hf) h2
  exact List.map_inj_right (fun a b h => str_ext h) |>.mp h3

/- the texts of rows -/
def nlS : Str := Str.ofString "\n"
theorem nlS_is : nlS = ⟨#[10]⟩ := by decide +kernel
theorem alph_ok : ∀ i : Fin 64, alph.cps.getD i.val 0 ≠ 10 ∧ alph.cps.getD i.val 0 ≠ 47 ∨ alph.cps.getD i.val 0 = 47 := by decide +kernel
theorem cc_no10 (b : Array UInt8) (k : Int) : cc b k ≠ 10 := by
  have h := cdIx_range b k
  have := alph_ok ⟨(cdIx b k).toNat, by omega⟩
  unfold cc
  rcases this with h | h
  · exact h.1
  · simp only at h; omega
theorem coded_cps (b : Array UInt8) : (coded b).cps.toList = [cc b 3, cc b 2, cc b 1, cc b 0] := by rw [coded_is]
theorem coded_no10 (b : Array UInt8) : 10 ∉ (coded b).cps.toList := by
  rw [coded_cps]
  intro h
  simp only [List.mem_cons, List.not_mem_nil, or_false] at h
  rcases h with h | h | h | h <;> exact cc_no10 b _ h.symm
theorem coded_len (b : Array UInt8) : (coded b).length = 4 := by rw [coded_is]; rfl
theorem coded_inj {a b : Array UInt8} (ha : a.size = 3) (hb : b.size = 3) (h : coded a = coded b) : a = b := by
  have h1 := coded_cps a
  rw [h, coded_cps] at h1
  simp only [List.cons.injEq, and_true] at h1
  obtain ⟨q3, q2, q1, q0⟩ := h1
  rw [← dec_back ha, ← dec_back hb]
  unfold ccA
  rw [q3, q2, q1, q0]
theorem app_cps (a b : Str) : (a ++ b).cps.toList = a.cps.toList ++ b.cps.toList := by
  show (a.cps ++ b.cps).toList = _
  simp
theorem ua_no10 : 10 ∉ (Str.ofString "User-agent: ").cps.toList := by decide +kernel
theorem ua_len : (Str.ofString "User-agent: ").length = 12 := by decide +kernel
theorem uaLine_no10 {a : Str} (h : 10 ∉ a.cps.toList) : 10 ∉ (uaLine a).cps.toList := by
  unfold uaLine
  rw [app_cps]
  intro q
  exact (List.mem_append.mp q).elim ua_no10 h
theorem crawl_no10 {i : Int} (h : dlOk (some i)) : 10 ∉ (crawl i).cps.toList := by
  rcases h with h | h | h | h
  · cases h
  all_goals cases h; decide +kernel
theorem allow_no10 : 10 ∉ (Str.ofString "Allow:").cps.toList := by decide +kernel
theorem said_split {agents rules : List Str} {dl : Option Int} (hne : agents ≠ []) (ha : ∀ a ∈ agents, 10 ∉ a.cps.toList) (hr : ∀ a ∈ rules, 10 ∉ a.cps.toList) (hd : dlOk dl) : Txt.split (said agents rules dl) nlS = saidLines agents rules dl := by
  have e : said agents rules dl = Txt.join nlS (saidLines agents rules dl) := by
    unfold said
    rw [if_neg (by simpa using hne)]
    rfl
  rw [e, nlS_is]
  refine split_join 10 ?_ fun p hp => ?_
  · unfold saidLines
    cases agents with
    | nil => exact absurd rfl hne
    | cons a r => simp
  · unfold saidLines at hp
    rcases List.mem_append.mp hp with hp | hp
    · rcases List.mem_append.mp hp with hp | hp
      · obtain ⟨a, h1, rfl⟩ := List.mem_map.mp hp
        exact uaLine_no10 (ha a h1)
      · cases dl with
        | none => cases hp
        | some i => rw [dlLines, List.mem_singleton] at hp; subst hp; exact crawl_no10 hd
    · unfold ruleLines at hp
      split at hp
      · rw [List.mem_singleton] at hp; subst hp; exact allow_no10
      · exact hr p hp
theorem said_take {agents rules : List Str} {dl : Option Int} (ha : ∀ a ∈ agents, 10 ∉ a.cps.toList) (hr : ∀ a ∈ rules, 10 ∉ a.cps.toList) (hd : dlOk dl) : (Txt.split (said agents rules dl) nlS).take agents.length = agents.map uaLine := by
  by_cases hne : agents = []
  · subst hne; simp
  · rw [said_split hne ha hr hd]
    unfold saidLines
    rw [List.append_assoc, List.take_append_of_le_length (by simp)]
    exact List.take_of_length_le (by simp)
theorem uaLine_drop (a : Str) : Txt.slice (uaLine a) (some 12) none = a := by
  have hl : (uaLine a).length = 12 + a.length := by unfold uaLine; rw [len_app, ua_len]
  have := eq_of_beq (slice_closes_fromL (x := uaLine a) (i := 12) (b := (uaLine a).length) (by decide) (by omega) rfl)
  rw [this]
  apply str_ext
  show ((uaLine a).cps.toList.drop 12).take _ = _
  rw [hl]
  unfold uaLine
  rw [app_cps]
  have h12 : (Str.ofString "User-agent: ").cps.toList.length = 12 := by decide +kernel
  rw [List.drop_append_of_le_length (by omega), List.drop_of_length_le (by omega), List.nil_append]
  refine List.take_of_length_le ?_
  have : a.length = a.cps.toList.length := by simp [Str.length]
  omega

theorem chars_eq {b : Array UInt8} (hb : b.size = 3) : Txt.join (Str.ofString "") ((encB b).toList.map fun c => (⟨#[c.toNat]⟩ : Str)) = coded b := by
  have h := sign_eqs b
  have e : (encB b).toList.map UInt8.toNat = (outN b 3).map Int.toNat := by
    unfold encB byteArr
    rw [List.toList_toArray, List.map_map]
    apply List.map_congr_left
    intro n hn
    rw [out_3] at hn
    have hr : 0 ≤ n ∧ n < 256 := by
      simp only [List.mem_cons, List.not_mem_nil, or_false] at hn
      rcases hn with rfl | rfl | rfl | rfl <;> exact sign_range _ _
    show n.toNat.toUInt8.toNat = n.toNat
    show n.toNat % 256 = n.toNat
    omega
  rw [h] at e
  have e2 : (encB b).toList.map (fun c => (⟨#[c.toNat]⟩ : Str)) = ((encB b).toList.map UInt8.toNat).map fun x => (⟨#[x]⟩ : Str) := by rw [List.map_map]; rfl
  rw [e2, e]
  rfl
end Mine
end

noncomputable section
open PySem PySem.W PySem.Calls PyProof.Rows PySem.Spec
namespace Mine
open PySem.SeqAt

def keepB (r0 r1 : List (Array UInt8)) : List (Array UInt8) := r0.filter fun b => decide (b ∈ r1)
theorem both_coded {r0 r1 : List (Array UInt8)} (h0 : ∀ b ∈ r0, b.size = 3) (h1 : ∀ b ∈ r1, b.size = 3) : both (r0.map coded) (r1.map coded) = (keepB r0 r1).map coded := by
  unfold both keepB
  rw [List.filter_map]
  congr 1
  apply List.filter_congr
  intro b hb
  show decide (coded b ∈ r1.map coded) = decide (b ∈ r1)
  rw [Bool.eq_iff_iff, decide_eq_true_eq, decide_eq_true_eq]
  constructor
  · intro h
    obtain ⟨c, hc, e⟩ := List.mem_map.mp h
    rw [← coded_inj (h1 c hc) (h0 b hb) e]; exact hc
  · exact fun h => List.mem_map.mpr ⟨b, h, rfl⟩

def lostS (f s : List Str) : List Str := f.reverse.filter fun x => !decide (x ∈ s)
theorem uld_one (s : List Str) : ∀ (l act mis : List Str), act.Perm (l.filter fun x => decide (x ∈ s)) → uldR l act mis = (mis ++ l.filter (fun x => !decide (x ∈ s)), [])
  | [], act, mis, h => by
    have : act = [] := by simpa using h
    subst this
    simp [uldR]
  | x :: r, act, mis, h => by
    unfold uldR
    by_cases hx : x ∈ s
    · have e1 : (x :: r).filter (fun x => decide (x ∈ s)) = x :: r.filter (fun x => decide (x ∈ s)) := by rw [List.filter_cons_of_pos (by simpa using hx)]
      have e2 : (x :: r).filter (fun x => !decide (x ∈ s)) = r.filter (fun x => !decide (x ∈ s)) := by rw [List.filter_cons_of_neg (by simpa using hx)]
      rw [e1] at h
      have hm : x ∈ act := h.mem_iff.mpr (.head _)
      rw [if_pos hm, e2]
      refine uld_one s r _ _ ?_
      have := h.erase x
      rwa [List.erase_cons_head] at this
    · have e1 : (x :: r).filter (fun x => decide (x ∈ s)) = r.filter (fun x => decide (x ∈ s)) := by rw [List.filter_cons_of_neg (by simpa using hx)]
      have e2 : (x :: r).filter (fun x => !decide (x ∈ s)) = x :: r.filter (fun x => !decide (x ∈ s)) := by rw [List.filter_cons_of_pos (by simpa using hx)]
      rw [e1] at h
      have hm : x ∉ act := fun q => by
        have := h.mem_iff.mp q
        rw [List.mem_filter] at this
        exact hx (by simpa using this.2)
      rw [if_neg hm, e2, uld_one s r _ _ h]
      simp
theorem erase_pos {p : Str → Bool} {x : Str} (hx : p x = true) : ∀ act : List Str, (act.erase x).filter p = (act.filter p).erase x
  | [] => rfl
  | y :: r => by
    by_cases q : y = x
    · subst q
      rw [List.erase_cons_head, List.filter_cons_of_pos hx, List.erase_cons_head]
    · rw [List.erase_cons_tail (by simpa using q)]
      by_cases hy : p y = true
      · rw [List.filter_cons_of_pos hy, List.filter_cons_of_pos hy, List.erase_cons_tail (by simpa using q), erase_pos hx r]
      · rw [List.filter_cons_of_neg hy, List.filter_cons_of_neg hy, erase_pos hx r]
theorem erase_neg {p : Str → Bool} {x : Str} (hx : ¬ p x = true) : ∀ act : List Str, (act.erase x).filter p = act.filter p
  | [] => rfl
  | y :: r => by
    by_cases q : y = x
    · subst q
      rw [List.erase_cons_head, List.filter_cons_of_neg hx]
    · rw [List.erase_cons_tail (by simpa using q)]
      by_cases hy : p y = true
      · rw [List.filter_cons_of_pos hy, List.filter_cons_of_pos hy, erase_neg hx r]
      · rw [List.filter_cons_of_neg hy, List.filter_cons_of_neg hy, erase_neg hx r]
theorem uld_two (s : List Str) : ∀ (l act mis : List Str), l.Perm (act.filter fun x => decide (x ∈ s)) → uldR l act mis = (mis, act.filter fun x => !decide (x ∈ s))
  | [], act, mis, h => by
    have h0 : act.filter (fun x => decide (x ∈ s)) = [] := by simpa using h.symm
    have : act.filter (fun x => !decide (x ∈ s)) = act := by
      rw [List.filter_eq_self]
      intro a ha
      rw [List.filter_eq_nil_iff] at h0
      have := h0 a ha
      simpa using this
    rw [this]; rfl
  | x :: r, act, mis, h => by
    have hm := h.mem_iff.mp (.head _)
    rw [List.mem_filter] at hm
    have hs : decide (x ∈ s) = true := hm.2
    unfold uldR
    rw [if_pos hm.1, uld_two s r (act.erase x) mis ?_, erase_neg (p := fun x => !decide (x ∈ s)) (by simpa using hs)]
    rw [erase_pos (p := fun x => decide (x ∈ s)) hs]
    have := h.erase x
    rwa [List.erase_cons_head] at this
theorem uldA (f s : List Str) : uldR f.reverse (both f s) [] = (lostS f s, []) := by
  rw [uld_one s f.reverse (both f s) [] ((List.reverse_perm f).symm.filter _)]
  rfl
theorem uldB (f s : List Str) : uldR (both f s).reverse f [] = ([], (lostS f s).reverse) := by
  rw [show uldR (both f s).reverse f [] = _ from uld_two s (both f s).reverse f [] (List.reverse_perm _)]
  unfold lostS
  rw [List.filter_reverse, List.reverse_reverse]

/- sorted lists -/
theorem sld_law : ∀ (a b m u : List Str), a.Pairwise ltS → b.Pairwise ltS → sldR a b m u = (m ++ a.filter (fun x => !decide (x ∈ b)), u ++ b.filter (fun x => !decide (x ∈ a)))
  | [], b, m, u, _, _ => by
    rw [sldR_end (.inl rfl)]
    have : b.filter (fun x => !decide (x ∈ ([] : List Str))) = b := by rw [List.filter_eq_self]; intro a _; simp
    rw [this]; simp
  | x :: a, [], m, u, _, _ => by
    rw [sldR_end (.inr rfl)]
    have : (x :: a).filter (fun z => !decide (z ∈ ([] : List Str))) = x :: a := by rw [List.filter_eq_self]; intro a _; simp
    rw [this]; simp
  | x :: a, y :: b, m, u, ha, hb => by
    have ha' := List.pairwise_cons.mp ha
    have hb' := List.pairwise_cons.mp hb
    rw [sldR_cons]
    by_cases h1 : ltS x y
    · have hn : x ∉ y :: b := fun q => by
        rcases List.mem_cons.mp q with q | q
        · subst q; exact ltS_irrefl _ h1
        · exact ltS_irrefl _ (ltS_trans h1 (hb'.1 x q))
      rw [if_pos h1, sld_law a (y :: b) (m ++ [x]) u ha'.2 hb, List.filter_cons_of_pos (a := x) (by simpa using hn)]
      have : (y :: b).filter (fun z => !decide (z ∈ a)) = (y :: b).filter (fun z => !decide (z ∈ x :: a)) := List.filter_congr fun z hz => by
        have hzx : z ≠ x := fun q => hn (q ▸ hz)
        simp [hzx]
      rw [this]; simp
    · rw [if_neg h1]
      by_cases h2 : ltS y x
      · have hn : y ∉ x :: a := fun q => by
          rcases List.mem_cons.mp q with q | q
          · subst q; exact ltS_irrefl _ h2
          · exact ltS_irrefl _ (ltS_trans h2 (ha'.1 y q))
        have : (x :: a).filter (fun z => !decide (z ∈ b)) = (x :: a).filter (fun z => !decide (z ∈ y :: b)) := List.filter_congr fun z hz => by
          have hzx : z ≠ y := fun q => hn (q ▸ hz)
          simp [hzx]
        rw [if_pos h2, sld_law (x :: a) b m (u ++ [y]) ha hb'.2, List.filter_cons_of_pos (a := y) (by simpa using hn), this]
        simp
      · have hxy : x = y := ltS_total h1 h2
        subst hxy
        have e1 : a.filter (fun z => !decide (z ∈ b)) = a.filter (fun z => !decide (z ∈ x :: b)) := List.filter_congr fun z hz => by
          have hzx : z ≠ x := fun q => ltS_irrefl _ (q ▸ ha'.1 z hz)
          simp [hzx]
        have e2 : b.filter (fun z => !decide (z ∈ a)) = b.filter (fun z => !decide (z ∈ x :: a)) := List.filter_congr fun z hz => by
          have hzx : z ≠ x := fun q => ltS_irrefl _ (q ▸ hb'.1 z hz)
          simp [hzx]
        rw [if_neg h2, sld_law a b m u ha'.2 hb'.2, List.filter_cons_of_neg (a := x) (by simp), List.filter_cons_of_neg (a := x) (by simp), e1, e2]
termination_by a b => a.length + b.length

theorem txAt_get {ss : List Str} {k : Nat} (hk : k < ss.length) : txAt ss k = ss[k] := by simp [txAt, List.getD, List.getElem?_eq_getElem hk]
theorem mem_firsts {ss : List Str} {x : Str} : x ∈ firsts ss ↔ x ∈ ss := by
  unfold firsts
  rw [List.mem_map]
  constructor
  · rintro ⟨k, hk, rfl⟩
    have := List.mem_range.mp (List.mem_filter.mp hk).1
    rw [txAt_get this]
    exact List.getElem_mem this
  · intro h
    have key : ∀ n, ∀ k, k ≤ n → (hk : k < ss.length) → ss[k] = x → ∃ a, a ∈ (List.range ss.length).filter (fun k => !decide (txAt ss k ∈ ss.take k)) ∧ txAt ss a = x := by
      intro n
      induction n with
      | zero =>
        intro k h0 hk e
        have : k = 0 := by omega
        subst this
        exact ⟨0, List.mem_filter.mpr ⟨List.mem_range.mpr hk, by simp⟩, by rw [txAt_get hk, e]⟩
      | succ n ih =>
        intro k h0 hk e
        by_cases q : txAt ss k ∈ ss.take k
        · rw [txAt_get hk] at q
          obtain ⟨j, hj, ej⟩ := List.getElem_of_mem q
          rw [List.length_take] at hj
          rw [List.getElem_take] at ej
          exact ih j (by omega) (by omega) (by rw [ej, e])
        · exact ⟨k, List.mem_filter.mpr ⟨List.mem_range.mpr hk, by simpa using q⟩, by rw [txAt_get hk, e]⟩
    obtain ⟨k, hk, e⟩ := List.getElem_of_mem h
    exact key k k (Nat.le_refl _) hk e
theorem firsts_nodup (ss : List Str) : (firsts ss).Nodup := by
  unfold firsts
  have hp : ((List.range ss.length).filter fun k => !decide (txAt ss k ∈ ss.take k)).Pairwise (· < ·) := (List.pairwise_lt_range).filter _
  rw [List.Nodup, List.pairwise_map]
  refine List.Pairwise.imp_of_mem (fun {a b} ha hb hlt => ?_) hp
  intro e
  have hb' := List.mem_filter.mp hb
  have ha' := List.mem_filter.mp ha
  have hbl := List.mem_range.mp hb'.1
  have hal := List.mem_range.mp ha'.1
  have : txAt ss b ∈ ss.take b := by
    rw [← e, txAt_get hal]
    exact List.mem_take_iff_getElem.mpr ⟨a, by omega, rfl⟩
  have h2 := hb'.2
  simp at h2
  exact h2 this
theorem mem_once {ss : List Str} {x : Str} : x ∈ once ss ↔ x ∈ ss := (sortS_perm _).mem_iff.trans mem_firsts
theorem once_sorted (ss : List Str) : (once ss).Pairwise ltS := by
  have h1 : (once ss).Nodup := (sortS_perm _).nodup_iff.mpr (firsts_nodup ss)
  refine List.Pairwise.imp (fun {a b} h => ?_) ((sortS_pair (firsts ss)).and h1)
  obtain ⟨h2, h3⟩ := h
  simp only [leB, Bool.not_eq_true', decide_eq_false_iff_not] at h2
  exact Classical.byContradiction fun q => h3 (ltS_total q h2)
theorem once_len (ss : List Str) : (once ss).length ≤ ss.length := by
  unfold once
  rw [(sortS_perm _).length_eq]
  exact firsts_len ss
theorem sld_once (f s : List Str) : sldR (once f) (once s) [] [] = ((once f).filter (fun x => !decide (x ∈ s)), (once s).filter (fun x => !decide (x ∈ f))) := by
  rw [sld_law _ _ _ _ (once_sorted f) (once_sorted s)]
  have e1 : (once f).filter (fun x => !decide (x ∈ once s)) = (once f).filter (fun x => !decide (x ∈ s)) := List.filter_congr fun z _ => by simp [mem_once]
  have e2 : (once s).filter (fun x => !decide (x ∈ once f)) = (once s).filter (fun x => !decide (x ∈ f)) := List.filter_congr fun z _ => by simp [mem_once]
  rw [e1, e2]; simp

/- applies_to -/
theorem any_filter {α : Type} (p : α → Bool) : ∀ l : List α, l.any p = !(l.filter p).isEmpty
  | [] => rfl
  | a :: l => by
    rw [List.any_cons, any_filter p l]
    by_cases h : p a = true
    · rw [List.filter_cons_of_pos h, h]; rfl
    · rw [List.filter_cons_of_neg h]
      have : p a = false := by simpa using h
      rw [this, Bool.false_or]
theorem applies_law {agents : List Str} (h : star ∉ agents) (text : Str) : applies agents text = lawApplies agents text := by
  unfold applies lawApplies hits
  rw [any_filter]
  congr 2
  apply List.filter_congr
  intro a ha
  have hne : a ≠ star := fun q => h (q ▸ ha)
  simp [appHit, hne]
theorem star_not (r : List (Array UInt8)) : star ∉ r.map coded := by
  intro h
  obtain ⟨b, _, e⟩ := List.mem_map.mp h
  have h1 := coded_len b
  rw [e] at h1
  exact absurd h1 (by decide +kernel)
def starAg : List Str := [star, Str.ofString "a"]
theorem star_none : decide (star ∈ starAg) = true := by decide +kernel
theorem star_b : applies starAg (Str.ofString "b*") = false := by decide +kernel
theorem star_a : applies starAg (Str.ofString "XA/b") = true := by decide +kernel
end Mine
end

noncomputable section
open PySem PySem.W PySem.Calls PyProof.Rows PySem.Spec
namespace Mine
open PySem.SeqAt
local macro_rules | `(tactic| ktr_unf) => `(tactic| first | with_reducible exact lk_hd | (refine lk_tl ?_ (by decide +kernel); ktr_unf))
local macro_rules | `(tactic| tb_start) => `(tactic| first
  | with_reducible exact Ev.intC | with_reducible exact Ev.strC | with_reducible exact Ev.noneC | with_reducible exact Ev.boolC
  | (with_reducible refine Ev.name ?h1 ?h2; (case h1 => ktr_unf); (case h2 => decide +kernel)))

section
variable {prog : Program} {w : World} {H : Heap} {A : Around} {X X₀ Z : AS} {s s₀ : Shared} {ρ : Rho} {μ : Mu} {env : Env} {outer : List Env} {E : Value → Shared → Prop} {mg mb : Str → Option Value}

def lawBody : List Stmt := fnBody (defAt 29)
def lawScope : Scope := fnScope (defAt 29)
abbrev lenv (L fa : Addr) (cdv : Value) : Env := fenv (Str.ofString "law") lawScope L fa cdv

def tot (ns : List Int) : Int := (ns.take 5).sum
def nums (ns : List Int) : List Int := [21311450 - (tot ns).fmod 2 * 2, 50331645, 6573637] ++ ns.take 5
def rowsOf (c : Int) (ns : List Int) : List (Array UInt8) := ((nums ns).filter (kindNe c)).map rowB
def dl0 (t : Int) : Option Int := if t.fmod 2 = 0 then none else some 4
def dl1 (t : Int) : Option Int := if t.fmod 3 = 0 then none else if t.fmod 3 = 1 then some 0 else some 7
def ru0 (t : Int) : List Str := (List.replicate (1 - (t.fdiv 2).fmod 2).toNat [Str.ofString "Allow: /a"]).flatten
def ru1 (t : Int) : List Str := [Str.ofString "Disallow: /", Str.ofString "Allow: /b"].take (t.fmod 3).toNat

theorem fmod2 (t : Int) : t.fmod 2 = 0 ∨ t.fmod 2 = 1 := by rw [Int.fmod_eq_emod_of_nonneg _ (by decide)]; omega
theorem fmod3 (t : Int) : t.fmod 3 = 0 ∨ t.fmod 3 = 1 ∨ t.fmod 3 = 2 := by rw [Int.fmod_eq_emod_of_nonneg _ (by decide)]; omega

structure LawD (r0 r1 : List (Array UInt8)) (e0 e1 : Option Int) (u0 u1 : List Str) : Prop where
  s0 : ∀ b ∈ r0, b.size = 3
  s1 : ∀ b ∈ r1, b.size = 3
  l0 : r0.length ≤ 20
  l1 : r1.length ≤ 20
  d0 : dlOk e0
  d1 : dlOk e1
  v0 : u0.length ≤ 2 ∧ ∀ a ∈ u0, a.length ≤ 50 ∧ 10 ∉ a.cps.toList
  v1 : u1.length ≤ 2 ∧ ∀ a ∈ u1, a.length ≤ 50 ∧ 10 ∉ a.cps.toList

theorem EvO.cast {e : PySem.Expr} {d d' : D} (q : d' = d) (h : EvO prog w H A env ρ e d') : EvO prog w H A env ρ e d := q ▸ h
def dT : Option Str → D
  | none => .none
  | some t => .str t
def stA : Option Str → Bool
  | none => decide (star ∈ starAg)
  | some t => applies starAg t
def askT (t : Str) : Str := (Str.ofString "x" ++ Txt.lower t) ++ Str.ofString "y/1"
theorem eqOk_bool (p : Str → Bool) : ∀ l : List Str, D.eqOkL (l.map fun t => D.bool (p t)) = true
  | [] => rfl
  | a :: l => by
    have := eqOk_bool p l
    show (D.eqOk (.bool (p a)) && D.eqOkL (l.map fun t => D.bool (p t))) = true
    rw [this]; rfl
theorem dep_bool (p : Str → Bool) : ∀ l : List Str, D.depL (l.map fun t => D.bool (p t)) = 0
  | [] => rfl
  | a :: l => by
    show max 0 (D.depL (l.map fun t => D.bool (p t))) = 0
    rw [dep_bool p l]; rfl
theorem eqOk_dS : ∀ l : List Str, D.eqOkL (dS l) = true
  | [] => rfl
  | a :: l => by
    have := eqOk_dS l
    show (D.eqOk (.str a) && D.eqOkL (dS l)) = true
    rw [this]; rfl
theorem eqOk_dB : ∀ l : List (Array UInt8), D.eqOkL (dB l) = true
  | [] => rfl
  | a :: l => by
    have := eqOk_dB l
    show (D.eqOk (.bytes a) && D.eqOkL (dB l)) = true
    rw [this]; rfl
theorem dep_dS : ∀ l : List Str, D.depL (dS l) = 0
  | [] => rfl
  | a :: l => by
    show max 0 (D.depL (dS l)) = 0
    rw [dep_dS l]; rfl
theorem dep_dB : ∀ l : List (Array UInt8), D.depL (dB l) = 0
  | [] => rfl
  | a :: l => by
    show max 0 (D.depL (dB l)) = 0
    rw [dep_dB l]; rfl

theorem law_rest (W : WF (KF w) H mg mb) {L fa : Addr} {cdv : Value} (R : Room A 40) (hfr : A.frames = some [lenv L fa cdv]) {r0 r1 : List (Array UInt8)} {e0 e1 : Option Int} {u0 u1 : List Str} (LD : LawD r0 r1 e0 e1 u0 u1) :
    Bd prog w H A (lenv L fa cdv) ((Str.ofString "rules", .list [.list (dS u0), .list (dS u1)]) :: (Str.ofString "delays", .list [dO e0, dO e1]) :: (Str.ofString "rows", .tuple [.list (dB r0), .list (dB r1)]) :: ρ) (lawBody.drop 4) (.bool true) := by
  have hl0 := LD.l0
  have hl1 := LD.l1
  have hf : (lenv L fa cdv).frame = some (lenv L fa cdv).locals := rfl
  refine Bd.seq (Ex1.assignPair R (dx := .list (dS (r0.map coded))) (dy := .list (dS (r1.map coded))) ?fs (.inr (by kernel_rfl)) (.inr (by kernel_rfl)) (by kernel_rfl) (by kernel_rfl)) ?_
  case fs =>
    refine Ev.comp1 (α := List (Array UInt8)) (xs := [r0, r1]) (ρf := []) (fun h => .list (dB h)) (fun h => .list (dS (h.map coded))) (SrcE.tuple (ds := [.list (dB r0), .list (dB r1)]) R (by tb_start)) (by kernel_rfl) rfl (by simp) (by kernel_rfl) (fun _ _ => .inl (by kernel_rfl)) (fun C cells h hh => ?_) (fun _ => rfl)
    have hs : (∀ b ∈ h, b.size = 3) ∧ h.length ≤ 20 := by
      simp only [List.mem_cons, List.not_mem_nil, or_false] at hh
      rcases hh with rfl | rfl
      · exact ⟨LD.s0, LD.l0⟩
      · exact ⟨LD.s1, LD.l1⟩
    rw [dS_map]
    refine Ev.comp1 (α := Array UInt8) (xs := h) (ρf := []) D.bytes (fun b => .str (coded b)) (SrcE.list R (by tb_start)) (by kernel_rfl) rfl (by omega) (by kernel_rfl) (fun _ _ => .inl (by kernel_rfl)) (fun C cells b hb => ?_) (fun _ => rfl)
    exact Ev.callRef W nameCall (Ev.global W (v := .ref 175) (by kernel_rfl) (by kernel_rfl) (by decide)) (.cons (d := .bytes b) (by tb_start) .nil) rfl (by kernel_rfl) (f_coded W (n := 35) R (hs.1 b hb))
  generalize hF : r0.map coded = f
  generalize hS : r1.map coded = g
  have hfl : f.length ≤ 20 := by rw [← hF, List.length_map]; exact hl0
  have hgl : g.length ≤ 20 := by rw [← hS, List.length_map]; exact hl1
  refine Bd.ifSkip (Tst.compare (d1 := .list (dS (f ++ g))) (d2 := .list (dS (f ++ g))) ?lhs ?rhs (op_neSame (.inl ⟨_, rfl⟩) (eqOk_dS _) (by show D.depL (dS _) + 1 ≤ 8; rw [dep_dS]; decide) R) rfl) ?_
  case lhs =>
    refine Ev.cast (d' := .list ((r0 ++ r1).map fun b => D.str (coded b))) (by rw [← hF, ← hS, ← List.map_append, dS_map]) ?_
    have hs : ∀ b ∈ r0 ++ r1, b.size = 3 := fun b hb => (List.mem_append.mp hb).elim (LD.s0 b) (LD.s1 b)
    refine Ev.comp1 (α := Array UInt8) (xs := r0 ++ r1) (ρf := []) D.bytes (fun b => .str (coded b)) (SrcE.list R ?l1) (by kernel_rfl) rfl (by rw [List.length_append]; omega) (by kernel_rfl) (fun _ _ => .inl (by kernel_rfl)) (fun C cells b hb => ?l2) (fun _ => rfl)
    case l1 =>
      rw [show (r0 ++ r1).map D.bytes = dB r0 ++ dB r1 by simp [dB]]
      refine Ev.binop (Ev.item (d1 := .tuple [.list (dB r0), .list (dB r1)]) (by tb_start) Ev.intC (item_tuple noSlice_const (by decide) (by decide) rfl)) (Ev.item (d1 := .tuple [.list (dB r0), .list (dB r1)]) (by tb_start) Ev.intC (item_tuple noSlice_const (by decide) (by decide) rfl)) (op_addL ?_)
      simp only [dB, List.length_map]
      exact Nat.le_trans (by omega : _ ≤ 40) (by decide)
    case l2 =>
      rw [← chars_eq (hs b hb)]
      refine Ev.join (pl := _) (by with_unfolding_all rfl) rfl ?l3 ?l4
      case l3 =>
        rw [dS_map]
        refine Ev.comp1 (α := UInt8) (xs := (encB b).toList) (ρf := []) (fun c => .int c.toNat) (fun c => .str ⟨#[c.toNat]⟩) (SrcE.bytes R ?m1) (by kernel_rfl) rfl (by simp [encB, byteArr_size, out_3]) (by kernel_rfl) (fun _ _ => .inl (by kernel_rfl)) (fun C cells c hc => ?m2) (fun _ => rfl)
        case m1 => exact Ev.callRef W nameCall (Ev.global W (v := .ref 143) (by kernel_rfl) (by kernel_rfl) (by decide)) (.cons (d := .bytes b) (by tb_start) .nil) rfl (by kernel_rfl) (f_b64encode W (n := 33) R (hs b hb))
        case m2 =>
          refine Ev.callB nameCall (Ev.builtin W (by kernel_rfl) Boot.«chr» (by decide) (by kernel_rfl) (by decide)) (.cons (d := .int c.toNat) (by tb_start) .nil) rfl ?_
          have := c_chr (prog := prog) (w := w) (H := H) (A := A) (i := (c.toNat : Int)) (by have := c.toNat_lt; simp; omega)
          simpa using this
      case l4 =>
        have e0 : (Str.ofString "").length = 0 := by decide +kernel
        rw [e0]
        have h4 : (encB b).toList.length = 4 := by simp [encB, byteArr_size, out_3]
        have := sum_le (c := 1) Str.length (l := (encB b).toList.map fun c => (⟨#[c.toNat]⟩ : Str)) (fun x hx => by obtain ⟨c, _, rfl⟩ := List.mem_map.mp hx; exact Nat.le_refl 1)
        rw [List.length_map, h4] at this
        rw [Nat.mul_zero]
        exact Nat.le_trans this (by decide)
  case rhs =>
    rw [show dS (f ++ g) = dS f ++ dS g by simp [dS]]
    refine Ev.binop (d1 := .list (dS f)) (d2 := .list (dS g)) (by tb_start) (by tb_start) (op_addL ?_)
    simp only [dS, List.length_map]
    exact Nat.le_trans (by omega : _ ≤ 40) (by decide)
  -- records
  have it2 : ∀ {ρ : Rho} {x : Str} {p1 p2 p3 : Pos} {c : Nat} {a b : D}, ρ.lookup x = some (.list [a, b]) → (x == ("__debug__" : Str)) = false →
      Ev prog w H A (lenv L fa cdv) ρ (.Subscript (.Name x p1) (.Constant (.int 0) c p2) p3) a ∧ Ev prog w H A (lenv L fa cdv) ρ (.Subscript (.Name x p1) (.Constant (.int 1) c p2) p3) b := fun h hd =>
    ⟨Ev.item (Ev.name h hd) Ev.intC (item_list noSlice_const (by decide) (by decide) rfl), Ev.item (Ev.name h hd) Ev.intC (item_list noSlice_const (by decide) (by decide) rfl)⟩
  have it2T : ∀ {ρ : Rho} {x : Str} {p1 p2 p3 : Pos} {c : Nat} {a b : D}, ρ.lookup x = some (.tuple [a, b]) → (x == ("__debug__" : Str)) = false →
      Ev prog w H A (lenv L fa cdv) ρ (.Subscript (.Name x p1) (.Constant (.int 0) c p2) p3) a ∧ Ev prog w H A (lenv L fa cdv) ρ (.Subscript (.Name x p1) (.Constant (.int 1) c p2) p3) b := fun h hd =>
    ⟨Ev.item (Ev.name h hd) Ev.intC (item_tuple noSlice_const (by decide) (by decide) rfl), Ev.item (Ev.name h hd) Ev.intC (item_tuple noSlice_const (by decide) (by decide) rfl)⟩
  have hu0 := LD.v0
  have hu1 := LD.v1
  refine Bd.seq (Ex1.assign (d := .tuple [recE f u0 e0, recE g u1 e1]) (Ev.tuple (.cons ?rec0 (.cons ?rec1 .nil)) rfl (by simp)) (.inr (by kernel_rfl)) (by kernel_rfl)) ?_
  case rec0 => exact Ev.callRef W nameCall (Ev.global W (v := .ref 182) (by kernel_rfl) (by kernel_rfl) (by decide)) (.cons (d := .list (dS f)) (by tb_start) (.cons (d := .list (dS u0)) (it2 (b := .list (dS u1)) (by ktr_unf) (by decide +kernel)).1 (.cons (d := dO e0) (it2 (b := dO e1) (by ktr_unf) (by decide +kernel)).1 .nil))) rfl (by kernel_rfl) (f_record W (n := 33) R (by omega) (by omega))
  case rec1 => exact Ev.callRef W nameCall (Ev.global W (v := .ref 182) (by kernel_rfl) (by kernel_rfl) (by decide)) (.cons (d := .list (dS g)) (by tb_start) (.cons (d := .list (dS u1)) (it2 (a := .list (dS u0)) (by ktr_unf) (by decide +kernel)).2 (.cons (d := dO e1) (it2 (a := dO e0) (by ktr_unf) (by decide +kernel)).2 .nil))) rfl (by kernel_rfl) (f_record W (n := 33) R (by omega) (by omega))
  -- merged
  refine Bd.seq (Ex1.assign (d := recE (both f g) (u0 ++ u1) (dlOr e0 e1)) ?mrg (.inl (by kernel_rfl)) (by kernel_rfl)) ?_
  case mrg => exact Ev.callRef W nameCall (Ev.global W (v := .ref 70) (by kernel_rfl) (by kernel_rfl) (by decide)) (.cons (d := recE f u0 e0) (it2T (b := recE g u1 e1) (by ktr_unf) (by decide +kernel)).1 (.cons (d := recE g u1 e1) (it2T (a := recE f u0 e0) (by ktr_unf) (by decide +kernel)).2 .nil)) rfl (by kernel_rfl) (f_merge W (n := 33) R (by omega) (by omega) (by omega) (by omega))
  -- both
  refine Bd.seq (Ex1.assignComp1T (α := Str) (xs := f) (ρf := [(Str.ofString "second", .list (dS g))]) D.str (fun x => decide (x ∈ g)) D.str ?b1 (.inl (by kernel_rfl)) (SrcE.list R (ds := dS f) (by tb_start)) (by kernel_rfl) (by kernel_rfl) (by omega) (by kernel_rfl) (fun _ _ => .inl (by kernel_rfl)) (fun C cells x hx => ?b2) (fun C cells x hx _ => by tb_start) (fun _ => rfl)) ?_
  case b1 => kernel_rfl
  case b2 => exact Tst.compare (d1 := .str x) (d2 := .list (dS g)) (by tb_start) (by tb_start) op_inS rfl
  rw [show D.list ((f.filter fun x => decide (x ∈ g)).map D.str) = .list (dS (both f g)) from rfl]
  -- delay
  refine Bd.seq (Ex1.assign (d := dO (dlOr e0 e1)) ?del (.inl (by kernel_rfl)) (by kernel_rfl)) ?_
  case del =>
    refine Ev.cast (d' := if (dO e1).isNone = true then dO e0 else dO e1) (by cases e1 <;> rfl) ?_
    exact Ev.ifExp (Tst.compare (d1 := dO e1) (it2 (a := dO e0) (by ktr_unf) (by decide +kernel)).2 Ev.noneC (op_isNone (dO_val e1)) rfl) (fun _ => (it2 (b := dO e1) (by ktr_unf) (by decide +kernel)).1) (fun _ => (it2 (a := dO e0) (by ktr_unf) (by decide +kernel)).2)
  have hbl : (both f g).length ≤ 20 := Nat.le_trans (List.length_filter_le _ _) hfl
  have hfs : ∀ a ∈ f, a.length ≤ 4 ∧ 10 ∉ a.cps.toList := fun a ha => by
    rw [← hF] at ha
    obtain ⟨b, _, rfl⟩ := List.mem_map.mp ha
    exact ⟨Nat.le_of_eq (coded_len b), coded_no10 b⟩
  have hgs : ∀ a ∈ g, a.length ≤ 4 ∧ 10 ∉ a.cps.toList := fun a ha => by
    rw [← hS] at ha
    obtain ⟨b, _, rfl⟩ := List.mem_map.mp ha
    exact ⟨Nat.le_of_eq (coded_len b), coded_no10 b⟩
  have hbs : ∀ a ∈ both f g, a.length ≤ 4 ∧ 10 ∉ a.cps.toList := fun a ha => hfs a (List.mem_filter.mp ha).1
  have hdl : dlOk (dlOr e0 e1) := by
    unfold dlOr
    cases e1 with
    | none => exact LD.d0
    | some i => exact LD.d1
  have hu01 : ∀ a ∈ u0 ++ u1, a.length ≤ 50 ∧ 10 ∉ a.cps.toList := fun a ha => (List.mem_append.mp ha).elim (hu0.2 a) (hu1.2 a)
  have okM : SaidOk (both f g) (u0 ++ u1) (dlOr e0 e1) := ⟨by omega, fun a ha => by have := (hbs a ha).1; omega, by rw [List.length_append]; omega, fun a ha => (hu01 a ha).1, hdl⟩
  have ok0 : SaidOk f u0 e0 := ⟨by omega, fun a ha => by have := (hfs a ha).1; omega, by omega, fun a ha => (hu0.2 a ha).1, LD.d0⟩
  have ok1 : SaidOk g u1 e1 := ⟨by omega, fun a ha => by have := (hgs a ha).1; omega, by omega, fun a ha => (hu1.2 a ha).1, LD.d1⟩
  have strM : ∀ {ρ : Rho} {p1 p2 p3 : Pos}, ρ.lookup (Str.ofString "merged") = some (recE (both f g) (u0 ++ u1) (dlOr e0 e1)) → Ev prog w H A (lenv L fa cdv) ρ (.Call (.Name (Str.ofString "str") p1) [.Name (Str.ofString "merged") p2] [] p3) (.str (said (both f g) (u0 ++ u1) (dlOr e0 e1))) := fun hl =>
    Ev.callT nameCall (Ev.builtin W (by kernel_rfl) Pv.boot_str (by decide) (by kernel_rfl) (by decide)) (.cons (Ev.name hl (by decide +kernel)) .nil) rfl (c_strRec W (n := 33) R okM)
  refine Bd.ifSkip (Tst.compare (d1 := .list [.list (dS (both f g)), dO (dlOr e0 e1), .str (said (both f g) (u0 ++ u1) (dlOr e0 e1))]) (d2 := .list [.list (dS (both f g)), dO (dlOr e0 e1), .str (said (both f g) (u0 ++ u1) (dlOr e0 e1))]) ?i1 ?i2 (op_neSame (.inl ⟨_, rfl⟩) ?i3 ?i4 R) rfl) ?_
  case i1 => exact Ev.list (.cons (ev_u W rfl at_u (a := both f g) (r := u0 ++ u1) (dl := dlOr e0 e1) (by tb_start)) (.cons (ev_dl W rfl at_d (a := both f g) (r := u0 ++ u1) (dl := dlOr e0 e1) (by tb_start)) (.cons (strM (by ktr_unf)) .nil))) rfl (by simp)
  case i2 =>
    refine Ev.list (.cons (d := .list (dS (both f g))) (by tb_start) (.cons (d := dO (dlOr e0 e1)) (by tb_start) (.cons ?j1 .nil))) rfl (by simp)
    refine Ev.callRef W nameCall (Ev.global W (v := .ref 187) (by kernel_rfl) (by kernel_rfl) (by decide)) (.cons (d := .list (dS (both f g))) (by tb_start) (.cons (d := .list (dS (u0 ++ u1))) ?j2 (.cons (d := dO (dlOr e0 e1)) (by tb_start) .nil))) rfl (by kernel_rfl) (f_said W (n := 35) R okM)
    refine Ev.cast (d' := .list (dS u0 ++ dS u1)) (by simp [dS]) (Ev.binop (it2 (b := .list (dS u1)) (by ktr_unf) (by decide +kernel)).1 (it2 (a := .list (dS u0)) (by ktr_unf) (by decide +kernel)).2 (op_addL ?_))
    simp only [dS, List.length_map]
    exact Nat.le_trans (by omega : _ ≤ 4) (by decide)
  case i3 =>
    show (D.eqOkL (dS (both f g)) && ((dO (dlOr e0 e1)).eqOk && true)) = true
    rw [eqOk_dS]
    cases dlOr e0 e1 <;> rfl
  case i4 =>
    show max (D.depL (dS (both f g)) + 1) (max (dO (dlOr e0 e1)).dep 0) + 1 ≤ 8
    rw [dep_dS]
    cases dlOr e0 e1 <;> exact (by decide : max (0 + 1) (max 0 0) + 1 ≤ 8)
  -- the rows that both have
  have lenB : ∀ {ρ : Rho} {p1 p2 p3 : Pos}, ρ.lookup (Str.ofString "both") = some (.list (dS (both f g))) → Ev prog w H A (lenv L fa cdv) ρ (.Call (.Name (Str.ofString "len") p1) [.Name (Str.ofString "both") p2] [] p3) (.int ((both f g).length : Int)) := fun hl =>
    Ev.cast (d' := .int ((dS (both f g)).length : Int)) (by simp [dS]) (Ev.callB nameCall (Ev.builtin W (by kernel_rfl) boot_len (by decide) (by kernel_rfl) (by decide)) (.cons (Ev.name hl (by decide +kernel)) .nil) rfl (c_len (ds := dS (both f g)) (by rw [dS, List.length_map]; omega)))
  have hrb : both f g = (keepB r0 r1).map coded := by rw [← hF, ← hS]; exact both_coded LD.s0 LD.s1
  have hkl : (keepB r0 r1).length ≤ 20 := Nat.le_trans (List.length_filter_le _ _) hl0
  have hk3 : ∀ b ∈ keepB r0 r1, b.size = 3 := fun b hb => LD.s0 b (List.mem_filter.mp hb).1
  refine Bd.ifSkip (Tst.compare (d1 := .list (dB (keepB r0 r1))) (d2 := .list (dB (keepB r0 r1))) ?k1 ?k2 (op_neSame (.inl ⟨_, rfl⟩) (eqOk_dB _) (by show D.depL (dB _) + 1 ≤ 8; rw [dep_dB]; decide) R) rfl) ?_
  case k1 =>
    refine Ev.cast (d' := .list ((keepB r0 r1).map fun b => D.bytes b)) rfl ?_
    refine Ev.comp1 (α := Array UInt8) (xs := keepB r0 r1) (ρf := []) (fun b => .str (uaLine (coded b))) D.bytes (SrcE.list R ?n1) (by kernel_rfl) rfl (by omega) (by kernel_rfl) (fun _ _ => .inl (by kernel_rfl)) (fun C cells b hb => ?n2) (fun _ => rfl)
    case n1 =>
      have hT := said_take (agents := both f g) (rules := u0 ++ u1) (dl := dlOr e0 e1) (fun a ha => (hbs a ha).2) (fun a ha => (hu01 a ha).2) hdl
      have hsl : (said (both f g) (u0 ++ u1) (dlOr e0 e1)).length ≤ 60000 := by
        unfold said
        split
        · exact (by decide +kernel : (Str.ofString "").length ≤ 60000)
        · obtain ⟨q1, q2⟩ := saidLines_len okM
          have h1 := StrLaws.join_length_le (Str.ofString "\n") (saidLines (both f g) (u0 ++ u1) (dlOr e0 e1))
          have h2 := sum_le (c := 100) Str.length q1
          have q3 : Txt.join (Str.ofString "\n") (saidLines (both f g) (u0 ++ u1) (dlOr e0 e1)) = Str.join (Str.ofString "\n") (saidLines (both f g) (u0 ++ u1) (dlOr e0 e1)) := StrLaws.glued_eq_join _ _
          have q4 : (Str.ofString "\n").length = 1 := by decide +kernel
          rw [q3]
          rw [q4] at h1
          have h3 : (saidLines (both f g) (u0 ++ u1) (dlOr e0 e1)).length * 100 ≤ 30000 := by omega
          have h4 : ((saidLines (both f g) (u0 ++ u1) (dlOr e0 e1)).map (·.length)).sum ≤ 30000 := Nat.le_trans h2 h3
          omega
      refine Ev.cast (d' := .list ((dS (Txt.split (said (both f g) (u0 ++ u1) (dlOr e0 e1)) nlS)).take ((both f g).length : Int).toNat)) ?o1 (Ev.take (Ev.methB (T := "str") (id := "str.split") (d0 := .str (said (both f g) (u0 ++ u1) (dlOr e0 e1))) (pl := _) (by with_unfolding_all rfl) (strM (by ktr_unf)) (.cons (d := .str nlS) Ev.strC .nil) rfl (fun _ _ _ r => ty_str r) PySem.F.plainAttrs_str PySem.F.slot_str_split PySem.F.type_str_split (c_split (by decide +kernel) (by omega))) ?o2 (by omega) ?o3)
      case o1 =>
        rw [Int.toNat_natCast, show (dS (Txt.split (said (both f g) (u0 ++ u1) (dlOr e0 e1)) nlS)).take (both f g).length = dS ((Txt.split (said (both f g) (u0 ++ u1) (dlOr e0 e1)) nlS).take (both f g).length) by simp [dS, List.map_take], hT, hrb]
        simp [dS, List.map_map]
      case o2 => exact lenB (by ktr_unf)
      case o3 =>
        have := split_le (said (both f g) (u0 ++ u1) (dlOr e0 e1)) nlS
        rw [dS, List.length_map]
        exact Nat.le_trans (by omega : _ ≤ 60002) (by decide)
    case n2 =>
      have hc : ∀ k, cc b k < 128 := fun k => (cc_back b k).2.1
      have := f_b64decode (prog := prog) (H := H) (A := A) W (n := 33) R (hc 3) (hc 2) (hc 1) (hc 0) (ccA_ok b)
      rw [show decB #[(cc b 3).toUInt8, (cc b 2).toUInt8, (cc b 1).toUInt8, (cc b 0).toUInt8] = b from dec_back (hk3 b hb), ← coded_is] at this
      refine Ev.callRef W nameCall (Ev.global W (v := .ref 151) (by kernel_rfl) (by kernel_rfl) (by decide)) (.cons (d := .str (coded b)) ?o4 .nil) rfl (by kernel_rfl) this
      refine Ev.cast (d' := .str (Txt.slice (uaLine (coded b)) (some 12) none)) (by rw [uaLine_drop]) ?_
      exact Ev.sliceS (lo := some 12) (hi := none) (by tb_start) ⟨12, rfl, Ev.intC⟩ rfl (by unfold uaLine; rw [len_app, ua_len, coded_len]; decide)
  case k2 =>
    refine Ev.cast (d' := .list ((r0.filter fun b => decide (b ∈ r1)).map D.bytes)) rfl ?_
    refine Ev.comp1T (α := Array UInt8) (xs := r0) (ρf := [(Str.ofString "rows", .tuple [.list (dB r0), .list (dB r1)])]) D.bytes (fun b => decide (b ∈ r1)) D.bytes (SrcE.list (ds := dB r0) R (it2T (b := .list (dB r1)) (by ktr_unf) (by decide +kernel)).1) (by kernel_rfl) (by kernel_rfl) (by omega) (by kernel_rfl) (fun _ _ => .inl (by kernel_rfl)) (fun C cells b hb => ?_) (fun C cells b hb _ => by tb_start) (fun _ => rfl)
    exact Tst.compare (d1 := .bytes b) (d2 := .list (dB r1)) (by tb_start) (Ev.item (d1 := .tuple [.list (dB r0), .list (dB r1)]) (by tb_start) Ev.intC (item_tuple noSlice_const (by decide) (by decide) rfl)) op_inB rfl
  -- lost
  have revE : ∀ {ρ : Rho} {x : Str} {p1 p2 p3 p4 p5 : Pos} {c : Nat} {l : List Str}, ρ.lookup x = some (.list (dS l)) → (x == ("__debug__" : Str)) = false → l.length ≤ 1000 →
      Ev prog w H A (lenv L fa cdv) ρ (.Subscript (.Name x p1) (.Slice none none (some (.UnaryOp .USub (.Constant (.int 1) c p2) p3)) p4) p5) (.list (dS l.reverse)) := fun hl hd hz =>
    Ev.cast (d' := .list (dS _).reverse) (by simp [dS]) (Ev.rev (Ev.name hl hd) (Ev.neg Ev.intC) (by rw [dS, List.length_map]; exact Nat.le_trans hz (by decide)))
  refine Bd.seq (Ex1.assignComp1T (α := Str) (xs := f.reverse) (ρf := [(Str.ofString "second", .list (dS g))]) D.str (fun x => !decide (x ∈ g)) D.str ?p1 (.inl (by kernel_rfl)) (SrcE.list R (ds := dS f.reverse) (revE (by ktr_unf) (by decide +kernel) (by omega))) (by kernel_rfl) (by kernel_rfl) (by rw [List.length_reverse]; omega) (by kernel_rfl) (fun _ _ => .inl (by kernel_rfl)) (fun C cells x hx => ?p2) (fun C cells x hx _ => by tb_start) (fun _ => rfl)) ?_
  case p1 => kernel_rfl
  case p2 => exact Tst.compare (d1 := .str x) (d2 := .list (dS g)) (by tb_start) (by tb_start) op_notInS rfl
  rw [show D.list ((f.reverse.filter fun x => !decide (x ∈ g)).map D.str) = .list (dS (lostS f g)) from rfl]
  have eqT : ∀ a b : List Str, OpG prog w H A (compareOp .NotEq) (.tuple [.list (dS a), .list (dS b)]) (.tuple [.list (dS a), .list (dS b)]) (.bool false) := fun a b => by
    refine op_neSame (.inr ⟨_, rfl⟩) ?_ ?_ R
    · show (D.eqOkL (dS a) && (D.eqOkL (dS b) && true)) = true
      rw [eqOk_dS, eqOk_dS]; rfl
    · show max (D.depL (dS a) + 1) (max (D.depL (dS b) + 1) 0) + 1 ≤ 8
      rw [dep_dS, dep_dS]; decide
  have hll : (lostS f g).length ≤ 20 := by
    have := List.length_filter_le (fun x => !decide (x ∈ g)) f.reverse
    rw [List.length_reverse] at this
    exact Nat.le_trans this hfl
  have tyL : ∀ {ρ : Rho} {p : Pos}, Ev prog w H A (lenv L fa cdv) ρ (.Name (Str.ofString "list") p) (.val (.type "list")) := Ev.builtin W (by kernel_rfl) Pv.boot_list (by decide) (by kernel_rfl) (by decide)
  refine Bd.ifSkipO (TstO.compare (d1 := .tuple [.list (dS (lostS f g)), .list (dS [])]) (d2 := .tuple [.list (dS (lostS f g)), .list (dS [])]) ?q1 ?q2 (eqT _ _) rfl) ?_
  case q1 =>
    refine EvO.cast (d' := .tuple [.list (dS (uldR f.reverse (both f g) []).1), .list (dS (uldR f.reverse (both f g) []).2)]) (by rw [uldA]) ?_
    exact ev_uld W (n := 34) R hfr hf (by kernel_rfl) tyL tyL (by tb_start) (ev_u W rfl at_u (a := both f g) (r := u0 ++ u1) (dl := dlOr e0 e1) (by tb_start)) rfl rfl (by omega) (by omega)
  case q2 => exact Ev.tuple (.cons (d := .list (dS (lostS f g))) (by tb_start) (.cons (d := .list (dS [])) (Ev.list .nil rfl (by decide)) .nil)) rfl (by simp)
  refine Bd.ifSkipO (TstO.compare (d1 := .tuple [.list (dS []), .list (dS (lostS f g).reverse)]) (d2 := .tuple [.list (dS []), .list (dS (lostS f g).reverse)]) ?r1 ?r2 (eqT _ _) rfl) ?_
  case r1 =>
    refine EvO.cast (d' := .tuple [.list (dS (uldR (both f g).reverse f []).1), .list (dS (uldR (both f g).reverse f []).2)]) (by rw [uldB]) ?_
    exact ev_uld W (n := 34) R hfr hf (by kernel_rfl) tyL tyL (ev_u W rfl at_u (a := both f g) (r := u0 ++ u1) (dl := dlOr e0 e1) (by tb_start)) (by tb_start) rfl rfl (by omega) (by omega)
  case r2 => exact Ev.tuple (.cons (d := .list (dS [])) (Ev.list .nil rfl (by decide)) (.cons (d := .list (dS (lostS f g).reverse)) (revE (by ktr_unf) (by decide +kernel) (by omega)) .nil)) rfl (by simp)
  -- once, alone
  have hof := once_len f
  have hog := once_len g
  have onceE : ∀ {ρ : Rho} {x : Str} {p1 p2 p3 : Pos} {l : List Str}, ρ.lookup x = some (.list (dS l)) → (x == ("__debug__" : Str)) = false → l.length < 64 → Ev prog w H A (lenv L fa cdv) ρ (.Call (.Name (Str.ofString "_law_once") p1) [.Name x p2] [] p3) (.list (dS (once l))) := fun hl hd hz =>
    Ev.callRef W nameCall (Ev.global W (v := .ref 197) (by kernel_rfl) (by kernel_rfl) (by decide)) (.cons (Ev.name hl hd) .nil) rfl (by kernel_rfl) (f_once W (n := 35) R hz)
  refine Bd.seq (Ex1.assign (d := .tuple [.list (dS (once f)), .list (dS (once g))]) (Ev.tuple (.cons (onceE (by ktr_unf) (by decide +kernel) (by omega)) (.cons (onceE (by ktr_unf) (by decide +kernel) (by omega)) .nil)) rfl (by simp)) (.inl (by kernel_rfl)) (by kernel_rfl)) ?_
  refine Bd.seq (Ex1.assign (d := .tuple [.list (dS ((once f).filter fun x => !decide (x ∈ g))), .list (dS ((once g).filter fun x => !decide (x ∈ f)))]) (Ev.tuple (.cons ?s1 (.cons ?s2 .nil)) rfl (by simp)) (.inl (by kernel_rfl)) (by kernel_rfl)) ?_
  case s1 =>
    refine Ev.comp1T (α := Str) (xs := once f) (ρf := [(Str.ofString "second", .list (dS g))]) D.str (fun x => !decide (x ∈ g)) D.str (SrcE.list (ds := dS (once f)) R (it2T (b := .list (dS (once g))) (by ktr_unf) (by decide +kernel)).1) (by kernel_rfl) (by kernel_rfl) (by omega) (by kernel_rfl) (fun _ _ => .inl (by kernel_rfl)) (fun C cells x hx => ?_) (fun C cells x hx _ => by tb_start) (fun _ => rfl)
    exact Tst.compare (d1 := .str x) (d2 := .list (dS g)) (by tb_start) (by tb_start) op_notInS rfl
  case s2 =>
    refine Ev.comp1T (α := Str) (xs := once g) (ρf := [(Str.ofString "first", .list (dS f))]) D.str (fun x => !decide (x ∈ f)) D.str (SrcE.list (ds := dS (once g)) R (it2T (a := .list (dS (once f))) (by ktr_unf) (by decide +kernel)).2) (by kernel_rfl) (by kernel_rfl) (by omega) (by kernel_rfl) (fun _ _ => .inl (by kernel_rfl)) (fun C cells x hx => ?_) (fun C cells x hx _ => by tb_start) (fun _ => rfl)
    exact Tst.compare (d1 := .str x) (d2 := .list (dS f)) (by tb_start) (by tb_start) op_notInS rfl
  refine Bd.ifSkipO (TstO.compare (d1 := .tuple [.list (dS ((once f).filter fun x => !decide (x ∈ g))), .list (dS ((once g).filter fun x => !decide (x ∈ f)))]) (d2 := .tuple [.list (dS ((once f).filter fun x => !decide (x ∈ g))), .list (dS ((once g).filter fun x => !decide (x ∈ f)))]) ?t1 (by tb_start) (eqT _ _) rfl) ?_
  case t1 =>
    refine EvO.cast (d' := .tuple [.list (dS (sldR (once f) (once g) [] []).1), .list (dS (sldR (once f) (once g) [] []).2)]) (by rw [sld_once]) ?_
    exact ev_sld W (n := 34) R hfr hf (by kernel_rfl) (it2T (b := .list (dS (once g))) (by ktr_unf) (by decide +kernel)).1 (it2T (a := .list (dS (once f))) (by ktr_unf) (by decide +kernel)).2 rfl (by omega) (by omega) (once_sorted f) (once_sorted g)
  -- the records as they were
  have nk : ∀ k ∈ List.range 2, k = 0 ∨ k = 1 := fun k hk => by have := List.mem_range.mp hk; omega
  have rngE : ∀ {ρ : Rho} {p1 p2 p3 : Pos} {c : Nat}, SrcE prog w H A (lenv L fa cdv) ρ (.Call (.Name (Str.ofString "range") p1) [.Constant (.int 2) c p2] [] p3) ((List.range 2).map dN) := SrcE.range (N := 2) R nameCall (Ev.builtin W (by kernel_rfl) boot_range (by decide) (by kernel_rfl) (by decide)) Ev.intC rfl (by decide) (by decide)
  refine Bd.ifSkip (Tst.compare (d1 := .list [.str (said f u0 e0), .str (said g u1 e1)]) (d2 := .list [.str (said f u0 e0), .str (said g u1 e1)]) ?v1 ?v2 (op_neSame (.inl ⟨_, rfl⟩) rfl (by show (0 + 1 : Nat) ≤ 8; decide) R) rfl) ?_
  case v1 =>
    refine Ev.cast (d' := .list ((List.range 2).map fun k => if k = 0 then D.str (said f u0 e0) else .str (said g u1 e1))) rfl ?_
    refine Ev.comp1 (α := Nat) (xs := List.range 2) (ρf := [(Str.ofString "records", .tuple [recE f u0 e0, recE g u1 e1])]) dN (fun k => if k = 0 then D.str (said f u0 e0) else .str (said g u1 e1)) rngE (by kernel_rfl) (by kernel_rfl) (by decide) (by kernel_rfl) (fun _ _ => .inl (by kernel_rfl)) (fun C cells k hk => ?_) (fun _ => rfl)
    rcases nk k hk with rfl | rfl
    · exact Ev.callT nameCall (Ev.builtin W (by kernel_rfl) Pv.boot_str (by decide) (by kernel_rfl) (by decide)) (.cons (Ev.item (d1 := .tuple [recE f u0 e0, recE g u1 e1]) (d2 := .int 0) (by tb_start) (Ev.name lk_hd (by decide +kernel)) (item_tuple noSlice_name (by decide) (by decide) rfl)) .nil) rfl (c_strRec W (n := 33) R ok0)
    · exact Ev.callT nameCall (Ev.builtin W (by kernel_rfl) Pv.boot_str (by decide) (by kernel_rfl) (by decide)) (.cons (Ev.item (d1 := .tuple [recE f u0 e0, recE g u1 e1]) (d2 := .int 1) (by tb_start) (Ev.name lk_hd (by decide +kernel)) (item_tuple noSlice_name (by decide) (by decide) rfl)) .nil) rfl (c_strRec W (n := 33) R ok1)
  case v2 =>
    refine Ev.cast (d' := .list ((List.range 2).map fun k => if k = 0 then D.str (said f u0 e0) else .str (said g u1 e1))) rfl ?_
    refine Ev.comp1 (α := Nat) (xs := List.range 2) (ρf := [(Str.ofString "delays", .list [dO e0, dO e1]), (Str.ofString "first", .list (dS f)), (Str.ofString "rules", .list [.list (dS u0), .list (dS u1)]), (Str.ofString "second", .list (dS g))]) dN (fun k => if k = 0 then D.str (said f u0 e0) else .str (said g u1 e1)) rngE (by kernel_rfl) (by kernel_rfl) (by decide) (by kernel_rfl) (fun _ _ => .inl (by kernel_rfl)) (fun C cells k hk => ?_) (fun _ => rfl)
    rcases nk k hk with rfl | rfl
    · exact Ev.callRef W nameCall (Ev.global W (v := .ref 187) (by kernel_rfl) (by kernel_rfl) (by decide)) (.cons (d := .list (dS f)) (Ev.item (d1 := .list [.list (dS f), .list (dS g)]) (d2 := .int 0) (Ev.list (.cons (by tb_start) (.cons (by tb_start) .nil)) rfl (by simp)) (Ev.name lk_hd (by decide +kernel)) (item_list noSlice_name (by decide) (by decide) rfl)) (.cons (d := .list (dS u0)) (Ev.item (d1 := .list [.list (dS u0), .list (dS u1)]) (d2 := .int 0) (by tb_start) (Ev.name lk_hd (by decide +kernel)) (item_list noSlice_name (by decide) (by decide) rfl)) (.cons (d := dO e0) (Ev.item (d1 := .list [dO e0, dO e1]) (d2 := .int 0) (by tb_start) (Ev.name lk_hd (by decide +kernel)) (item_list noSlice_name (by decide) (by decide) rfl)) .nil))) rfl (by kernel_rfl) (f_said W (n := 35) R ok0)
    · exact Ev.callRef W nameCall (Ev.global W (v := .ref 187) (by kernel_rfl) (by kernel_rfl) (by decide)) (.cons (d := .list (dS g)) (Ev.item (d1 := .list [.list (dS f), .list (dS g)]) (d2 := .int 1) (Ev.list (.cons (by tb_start) (.cons (by tb_start) .nil)) rfl (by simp)) (Ev.name lk_hd (by decide +kernel)) (item_list noSlice_name (by decide) (by decide) rfl)) (.cons (d := .list (dS u1)) (Ev.item (d1 := .list [.list (dS u0), .list (dS u1)]) (d2 := .int 1) (by tb_start) (Ev.name lk_hd (by decide +kernel)) (item_list noSlice_name (by decide) (by decide) rfl)) (.cons (d := dO e1) (Ev.item (d1 := .list [dO e0, dO e1]) (d2 := .int 1) (by tb_start) (Ev.name lk_hd (by decide +kernel)) (item_list noSlice_name (by decide) (by decide) rfl)) .nil))) rfl (by kernel_rfl) (f_said W (n := 35) R ok1)
  -- star
  refine Bd.seq (Ex1.assign (d := recE starAg [] none) (Ev.callRef W nameCall (Ev.global W (v := .ref 182) (by kernel_rfl) (by kernel_rfl) (by decide)) (.cons (d := .list (dS starAg)) (Ev.list (.cons Ev.strC (.cons Ev.strC .nil)) rfl (by decide)) (.cons (d := .list (dS [])) (Ev.list .nil rfl (by decide)) (.cons (d := dO none) Ev.noneC .nil))) rfl (by kernel_rfl) (f_record W (n := 33) R (by decide) (by decide))) (.inr (by kernel_rfl)) (by kernel_rfl)) ?_
  have nstar : star ∉ f := by rw [← hF]; exact star_not r0
  have gl : ∀ h1 h2 h3 h4 t1 t2 t3 t4 vu vr vd vq, getL (Str.ofString "applies_to") (entEs h1 h2 h3 h4 t1 t2 t3 t4 vu vr vd vq) = some none := fun _ _ _ _ _ _ _ _ _ _ _ _ => rfl
  refine Bd.ifSkip (Tst.compare (d1 := .list [.bool false, .bool true, .bool false, .bool true]) (d2 := .list [.bool false, .bool true, .bool false, .bool true]) ?w1 ?w2 (op_neSame (.inl ⟨_, rfl⟩) rfl (by decide) R) rfl) ?_
  case w2 => exact Ev.list (.cons Ev.boolC (.cons Ev.boolC (.cons Ev.boolC (.cons Ev.boolC .nil)))) rfl (by decide)
  case w1 =>
    refine Ev.cast (d' := .list ([.bool (decide (star ∈ f))] ++ [none, some (Str.ofString "b*"), some (Str.ofString "XA/b")].map fun o => .bool (stA o))) ?w3 (Ev.binop (Ev.list (.cons ?w4 .nil) rfl (by simp)) ?w5 (op_addL (by simp only [List.length_map, List.length_cons, List.length_nil]; decide)))
    case w3 =>
      have q1 : decide (star ∈ f) = false := by simpa using nstar
      show D.list [.bool (decide (star ∈ f)), .bool (decide (star ∈ starAg)), .bool (applies starAg (Str.ofString "b*")), .bool (applies starAg (Str.ofString "XA/b"))] = _
      rw [q1, star_none, star_b, star_a]
    case w4 => exact ev_methEnt W (pl := _) (f := 49) (by with_unfolding_all rfl) (it2T (a := recE f u0 e0) (b := recE g u1 e1) (by ktr_unf) (by decide +kernel)).1 (.cons (d := .none) Ev.noneC .nil) rfl (by kernel_rfl) (by kernel_rfl) (by kernel_rfl) gl (by kernel_rfl) (f_appliesNone W (n := 35) R)
    case w5 =>
      refine Ev.comp1 (α := Option Str) (xs := [none, some (Str.ofString "b*"), some (Str.ofString "XA/b")]) (ρf := [(Str.ofString "star", recE starAg [] none)]) dT (fun o => .bool (stA o)) (SrcE.list (ds := [.none, .str (Str.ofString "b*"), .str (Str.ofString "XA/b")]) R (Ev.list (.cons Ev.noneC (.cons Ev.strC (.cons Ev.strC .nil))) rfl (by decide))) (by kernel_rfl) (by kernel_rfl) (by decide) (by kernel_rfl) (fun _ _ => .inl (by kernel_rfl)) (fun C cells o ho => ?_) (fun _ => rfl)
      cases o with
      | none => exact ev_methEnt W (pl := _) (f := 49) (by with_unfolding_all rfl) (show Ev _ _ _ _ _ _ _ (recE starAg [] none) by tb_start) (.cons (d := .none) (Ev.name lk_hd (by decide +kernel)) .nil) rfl (by kernel_rfl) (by kernel_rfl) (by kernel_rfl) gl (by kernel_rfl) (f_appliesNone W (n := 35) R)
      | some t =>
        have ht : t.length ≤ 300 := by
          simp only [List.mem_cons, Option.some.injEq, List.not_mem_nil, or_false, reduceCtorEq, false_or] at ho
          rcases ho with rfl | rfl <;> decide +kernel
        exact ev_methEnt W (pl := _) (f := 49) (by with_unfolding_all rfl) (show Ev _ _ _ _ _ _ _ (recE starAg [] none) by tb_start) (.cons (d := .str t) (Ev.name lk_hd (by decide +kernel)) .nil) rfl (by kernel_rfl) (by kernel_rfl) (by kernel_rfl) gl (by kernel_rfl) (f_appliesTo W (n := 35) R (by decide) (by decide +kernel) ht)
  -- asked
  have hask : ∀ t ∈ f ++ g.map askT, t.length ≤ 300 := fun t ht => by
    rcases List.mem_append.mp ht with ht | ht
    · have := (hfs t ht).1; omega
    · obtain ⟨a, ha, rfl⟩ := List.mem_map.mp ht
      have h1 := (hgs a ha).1
      have h2 := len_lower3 a
      have h3 : (Str.ofString "x").length = 1 := by decide +kernel
      have h4 : (Str.ofString "y/1").length = 3 := by decide +kernel
      unfold askT
      rw [len_app, len_app, h3, h4]; omega
  refine Bd.seq (Ex1.assign (d := .list (dS (f ++ g.map askT))) ?x1 (.inl (by kernel_rfl)) (by kernel_rfl)) ?_
  case x1 =>
    refine Ev.cast (d' := .list (dS f ++ g.map fun t => D.str (askT t))) (by simp [dS]) (Ev.binop (by tb_start) ?x2 (op_addL ?x3))
    case x3 =>
      simp only [dS, List.length_map]
      exact Nat.le_trans (by omega : _ ≤ 40) (by decide)
    case x2 =>
      refine Ev.comp1 (α := Str) (xs := g) (ρf := []) D.str (fun t => .str (askT t)) (SrcE.list (ds := dS g) R (by tb_start)) (by kernel_rfl) rfl (by omega) (by kernel_rfl) (fun _ _ => .inl (by kernel_rfl)) (fun C cells t ht => ?_) (fun _ => rfl)
      have h1 := (hgs t ht).1
      have h2 := len_lower3 t
      have h3 : (Str.ofString "x").length = 1 := by decide +kernel
      have h4 : (Str.ofString "y/1").length = 3 := by decide +kernel
      refine Ev.binop (d1 := .str (Str.ofString "x" ++ Txt.lower t)) (Ev.binop Ev.strC (Ev.lower (x := t) (pl := _) (by with_unfolding_all rfl) (by tb_start) (by omega)) (op_addS ?_)) Ev.strC (op_addS ?_)
      · rw [h3]; exact Nat.le_trans (by omega : _ ≤ 100) (by decide)
      · rw [len_app, h3, h4]; exact Nat.le_trans (by omega : _ ≤ 100) (by decide)
  -- the answer
  have hal : (f ++ g.map askT).length ≤ 40 := by rw [List.length_append, List.length_map]; omega
  refine Bd.ret (Ev.compare (d1 := .list ((f ++ g.map askT).map fun t => D.bool (lawApplies f t))) (d2 := .list ((f ++ g.map askT).map fun t => D.bool (lawApplies f t))) ?y1 ?y2 (op_eqSame (.inl ⟨_, rfl⟩) (eqOk_bool _ _) (by show D.depL (List.map _ _) + 1 ≤ 8; rw [dep_bool]; decide) R) rfl)
  case y1 =>
    refine Ev.comp1 (α := Str) (xs := f ++ g.map askT) (ρf := [(Str.ofString "records", .tuple [recE f u0 e0, recE g u1 e1])]) D.str (fun t => D.bool (lawApplies f t)) (SrcE.list (ds := dS (f ++ g.map askT)) R (by tb_start)) (by kernel_rfl) (by kernel_rfl) (by omega) (by kernel_rfl) (fun _ _ => .inl (by kernel_rfl)) (fun C cells t ht => ?_) (fun _ => rfl)
    rw [← applies_law nstar]
    exact ev_methEnt W (pl := _) (f := 49) (by with_unfolding_all rfl) (Ev.item (d1 := .tuple [recE f u0 e0, recE g u1 e1]) (d := recE f u0 e0) (by tb_start) Ev.intC (item_tuple noSlice_const (by decide) (by decide) rfl)) (.cons (d := .str t) (Ev.name lk_hd (by decide +kernel)) .nil) rfl (by kernel_rfl) (by kernel_rfl) (by kernel_rfl) gl (by kernel_rfl) (f_appliesTo W (n := 35) R (by omega) (fun a ha => by have := (hfs a ha).1; omega) (hask t ht))
  case y2 =>
    refine Ev.comp1 (α := Str) (xs := f ++ g.map askT) (ρf := [(Str.ofString "first", .list (dS f))]) D.str (fun t => D.bool (lawApplies f t)) (SrcE.list (ds := dS (f ++ g.map askT)) R (by tb_start)) (by kernel_rfl) (by kernel_rfl) (by omega) (by kernel_rfl) (fun _ _ => .inl (by kernel_rfl)) (fun C cells t ht => ?_) (fun _ => rfl)
    exact Ev.callRef W nameCall (Ev.global W (v := .ref 192) (by kernel_rfl) (by kernel_rfl) (by decide)) (.cons (d := .list (dS f)) (by tb_start) (.cons (d := .str t) (Ev.name lk_hd (by decide +kernel)) .nil)) rfl (by kernel_rfl) (f_applies W (n := 35) R (by omega) (fun a ha => by have := (hfs a ha).1; omega) (by have := hask t ht; omega))
end
end Mine
end

noncomputable section
open PySem PySem.W PySem.Calls PyProof.Rows PySem.Spec
namespace Mine
open PySem.SeqAt
local macro_rules | `(tactic| ktr_unf) => `(tactic| first | with_reducible exact lk_hd | (refine lk_tl ?_ (by decide +kernel); ktr_unf))
local macro_rules | `(tactic| tb_start) => `(tactic| first
  | with_reducible exact Ev.intC | with_reducible exact Ev.strC | with_reducible exact Ev.noneC | with_reducible exact Ev.boolC
  | (with_reducible refine Ev.name ?h1 ?h2; (case h1 => ktr_unf); (case h2 => decide +kernel)))

section
variable {prog : Program} {w : World} {H : Heap} {A : Around} {X X₀ Z : AS} {s s₀ : Shared} {ρ : Rho} {μ : Mu} {env : Env} {outer : List Env} {E : Value → Shared → Prop} {mg mb : Str → Option Value}

theorem rowsOf_size (c : Int) (ns : List Int) : ∀ b ∈ rowsOf c ns, b.size = 3 := fun b hb => by
  obtain ⟨x, _, rfl⟩ := List.mem_map.mp hb
  exact rowB_size x
theorem rowsOf_len (c : Int) (ns : List Int) : (rowsOf c ns).length ≤ 20 := by
  unfold rowsOf
  rw [List.length_map]
  refine Nat.le_trans (List.length_filter_le _ _) ?_
  unfold nums
  rw [List.length_append, List.length_take]
  simp; omega
theorem rule_ok : ∀ a ∈ [Str.ofString "Allow: /a", Str.ofString "Disallow: /", Str.ofString "Allow: /b"], a.length ≤ 50 ∧ 10 ∉ a.cps.toList := by decide +kernel
theorem lawD {ns : List Int} (hn : ns.length ≤ 63) : LawD (rowsOf 1 ns) (rowsOf 0 ns) (dl0 (tot ns)) (dl1 (tot ns)) (ru0 (tot ns)) (ru1 (tot ns)) := by
  refine ⟨rowsOf_size _ _, rowsOf_size _ _, rowsOf_len _ _, rowsOf_len _ _, ?_, ?_, ?_, ?_⟩
  · unfold dl0 dlOk
    split <;> simp
  · unfold dl1 dlOk
    split
    · simp
    · split <;> simp
  · have hk : (1 - ((tot ns).fdiv 2).fmod 2) = 1 ∨ (1 - ((tot ns).fdiv 2).fmod 2) = 0 := by rcases fmod2 ((tot ns).fdiv 2) with h | h <;> rw [h] <;> decide
    unfold ru0
    rcases hk with h | h
    · rw [h]
      refine ⟨by decide, fun a ha => rule_ok a ?_⟩
      have ha' : a ∈ [Str.ofString "Allow: /a"] := ha
      rw [List.mem_singleton] at ha'
      subst ha'
      exact .head _
    · rw [h]
      refine ⟨by decide, fun a ha => ?_⟩
      have ha' : a ∈ ([] : List Str) := ha
      cases ha'
  · unfold ru1
    refine ⟨by rw [List.length_take]; simp; omega, fun a ha => rule_ok a ?_⟩
    exact .tail _ (List.mem_of_mem_take ha)

theorem law_bd (W : WF (KF w) H mg mb) {L fa : Addr} {cdv : Value} (R : Room A 40) (hfr : A.frames = some [lenv L fa cdv]) {ns : List Int} (hn : ns.length ≤ 63) :
    Bd prog w H A (lenv L fa cdv) [(Str.ofString "script", .list (dI ns))] lawBody (.bool true) := by
  have hle5 : (ns.take 5).length ≤ 5 := by rw [List.length_take]; omega
  have htk : ∀ {ρ : Rho} {p1 p2 p3 p4 : Pos} {c : Nat}, ρ.lookup (Str.ofString "script") = some (.list (dI ns)) →
      Ev prog w H A (lenv L fa cdv) ρ (.Subscript (.Name (Str.ofString "script") p1) (.Slice none (some (.Constant (.int 5) c p2)) none p3) p4) (.list (dI (ns.take 5))) := fun hl => by
    rw [show dI (ns.take 5) = (dI ns).take (5 : Int).toNat by simp [dI, List.map_take]]
    exact Ev.take (Ev.name hl (by decide +kernel)) Ev.intC (by decide) (by rw [dI, List.length_map]; exact Nat.le_trans hn (by decide))
  refine Bd.seq (Ex1.assign (d := .int (tot ns)) (Ev.callB nameCall (Ev.builtin W (by kernel_rfl) Boot.«sum» (by decide) (by kernel_rfl) (by decide)) (.cons (htk (by ktr_unf)) .nil) rfl (c_sum R)) (.inl (by kernel_rfl)) (by kernel_rfl)) ?_
  refine Bd.seq (Ex1.assign (d := .tuple [.list (dB (rowsOf 1 ns)), .list (dB (rowsOf 0 ns))]) (Ev.callRef W nameCall (Ev.global W (v := .ref 170) (by kernel_rfl) (by kernel_rfl) (by decide)) (.cons (d := .list (dI (nums ns))) ?rows .nil) rfl (by kernel_rfl) (f_lists W (n := 35) R ?rl)) (.inr (by kernel_rfl)) (by kernel_rfl)) ?_
  case rl => unfold nums; rw [List.length_append]; simp; omega
  case rows =>
    rw [show dI (nums ns) = [.int (21311450 - (tot ns).fmod 2 * 2), .int 50331645, .int 6573637] ++ dI (ns.take 5) by simp [dI, nums]]
    refine Ev.binop (Ev.list (.cons (Ev.binop Ev.intC (Ev.binop (Ev.binop (d1 := .int (tot ns)) (by tb_start) Ev.intC (op_mod (by decide))) Ev.intC (op_mul (mulOkR (by decide)))) op_sub) (.cons Ev.intC (.cons Ev.intC .nil))) rfl (by simp)) (htk (by ktr_unf)) (op_addL ?_)
    rw [dI, List.length_map]
    exact Nat.le_trans (by simp; omega : _ ≤ 8) (by decide)
  refine Bd.seq (Ex1.assign (d := .list [dO (dl0 (tot ns)), dO (dl1 (tot ns))]) ?dels (.inr (by kernel_rfl)) (by kernel_rfl)) ?_
  case dels =>
    refine Ev.list (.cons (Ev.item (Ev.list (.cons Ev.noneC (.cons Ev.intC .nil)) rfl (by decide)) (Ev.binop (d1 := .int (tot ns)) (by tb_start) Ev.intC (op_mod (by decide))) (item_list noSlice_bin ?a1 ?a2 ?a3)) (.cons (Ev.item (Ev.list (.cons Ev.noneC (.cons Ev.intC (.cons Ev.intC .nil))) rfl (by decide)) (Ev.binop (d1 := .int (tot ns)) (by tb_start) Ev.intC (op_mod (by decide))) (item_list noSlice_bin ?b1 ?b2 ?b3)) .nil)) rfl (by simp)
    case a1 => rcases fmod2 (tot ns) with h | h <;> rw [h] <;> decide
    case a2 => rcases fmod2 (tot ns) with h | h <;> rw [h] <;> decide
    case a3 => unfold dl0; rcases fmod2 (tot ns) with h | h <;> rw [h] <;> rfl
    case b1 => rcases fmod3 (tot ns) with h | h | h <;> rw [h] <;> decide
    case b2 => rcases fmod3 (tot ns) with h | h | h <;> rw [h] <;> decide
    case b3 => unfold dl1; rcases fmod3 (tot ns) with h | h | h <;> rw [h] <;> rfl
  refine Bd.seq (Ex1.assign (d := .list [.list (dS (ru0 (tot ns))), .list (dS (ru1 (tot ns)))]) ?ruls (.inr (by kernel_rfl)) (by kernel_rfl)) ?_
  case ruls =>
    refine Ev.list (.cons ?c1 (.cons ?c2 .nil)) rfl (by simp)
    case c1 =>
      have hk : (1 - ((tot ns).fdiv 2).fmod 2) = 1 ∨ (1 - ((tot ns).fdiv 2).fmod 2) = 0 := by rcases fmod2 ((tot ns).fdiv 2) with h | h <;> rw [h] <;> decide
      have e : dS (ru0 (tot ns)) = (List.replicate (1 - ((tot ns).fdiv 2).fmod 2).toNat [D.str (Str.ofString "Allow: /a")]).flatten := by
        unfold ru0
        rcases hk with h | h <;> rw [h] <;> rfl
      rw [e]
      refine Ev.binop (Ev.list (.cons Ev.strC .nil) rfl (by decide)) (Ev.binop Ev.intC (Ev.binop (Ev.binop (d1 := .int (tot ns)) (by tb_start) Ev.intC (op_fdiv (by decide) (by decide))) Ev.intC (op_mod (by decide))) op_sub) (op_mulL ?_ ?_ ?_)
      · rcases hk with h | h <;> rw [h] <;> decide
      · rcases hk with h | h <;> rw [h] <;> decide
      · rcases hk with h | h <;> rw [h] <;> decide
    case c2 =>
      rw [show dS (ru1 (tot ns)) = [.str (Str.ofString "Disallow: /"), .str (Str.ofString "Allow: /b")].take ((tot ns).fmod 3).toNat by simp [dS, ru1, List.map_take]]
      refine Ev.take (Ev.list (.cons Ev.strC (.cons Ev.strC .nil)) rfl (by decide)) (Ev.binop (d1 := .int (tot ns)) (by tb_start) Ev.intC (op_mod (by decide))) ?_ (by decide)
      rcases fmod3 (tot ns) with h | h | h <;> rw [h] <;> decide
  exact law_rest W R hfr (lawD hn)
end
end Mine
end

noncomputable section
open PySem PySem.W PySem.Calls PyProof.Rows PySem.Spec
namespace Mine
open PySem.SeqAt

section
variable {prog : Program} {w : World} {H : Heap} {A : Around} {E : Value → Shared → Prop} {mg mb : Str → Option Value}

theorem post_true (args : List WData) (rs) : WTm.value rs (.eq .res (.lit (.bool true))) { args := args, res := some (.bool true), after := args } = some (.bool true) := by
  simp [WTm.value, PySem.W.same]
theorem cells_mem {cm : Str → Option Value} {x : Str} {c : Addr} : ∀ {cs : List (Str × Addr)} {cells : List (Addr × Obj)}, CellsAre cm cs cells → cs.lookup x = some c → ∃ o, (c, o) ∈ cells ∧ o.data = .cell (cm x)
  | _, _, .nil, h => nomatch h
  | _, _, .cons (n := n) (c := c') hd r, h => by
    rw [List.lookup_cons] at h
    by_cases q : x = n
    · subst q
      simp at h
      subst h
      exact ⟨_, .head _, hd⟩
    · rw [show (x == n) = false by simpa using q] at h
      obtain ⟨o, ho, e⟩ := cells_mem r h
      exact ⟨o, .tail _ ho, e⟩
theorem ints_rdl {X : AS} {h : Heap} : ∀ {vs : List Value} {ns : List Int}, IntsAre vs ns → RdL X h vs (dI ns)
  | _, _, .nil => .nil
  | _, _, .cons _ t r => .cons (.int _ _) (ints_rdl r)
theorem well_list {P : Params} {h : Heap} {l : Addr} {vs : List Value} {ns : List Int} (w1 : Well P h (.ref l) (ofPy (.list (ns.map .int)))) (hL : h.IsList l vs.toArray) : h.PlainList l vs.toArray := by
  obtain ⟨o, ho, hc, n, hd⟩ := hL
  have key : ∀ {d : WData}, Well P h (.ref l) d → (∃ xs, d = .list xs) → ∃ us : List Value, h.get? l = some { cls := .type "list", data := .seq us.toArray } := fun w hd => by
    obtain ⟨xs, rfl⟩ := hd
    cases w with
    | list e _ => exact ⟨_, e⟩
  obtain ⟨us, e⟩ := key w1 ⟨_, by rw [ofPy]⟩
  rw [ho] at e
  cases e
  simp only at hd
  cases hd
  exact ⟨_, ho⟩

theorem law_start (W : WF (KF w) H mg mb) {L fa l : Addr} {cdv : Value} {h₁ : Heap} {m cm : Str → Option Value} {cells : List (Addr × Obj)} {vs : List Value} {ns : List Int} {s : Shared} (hs : s.heap = h₁) (hL : L = H.objs.size) (F : Fr H L h₁ m) (N : News H L h₁ cells) (C : CellsAre cm (cellsFrom (L + 1) lawScope.names []) cells)
    (hm : m (Str.ofString "script") = some (.ref l)) (hl : H.PlainList l vs.toArray) (hI : IntsAre vs ns) (hn : ns.length ≤ 63) {Q : Flow → Shared → Prop}
    (hQ : ∀ s', (∀ b o, H.get? b = some o → s'.heap.get? b = some o) → s'.gens = s.gens → s'.os = s.os → Q (.ret (.bool true)) s') :
    wpAny (model prog w) (callerA.deeper (lenv L fa cdv)) (execs lawBody (lenv L fa cdv)) Q E s := by
  subst hs
  have hLn : H.get? L = none := get_none_of_le (by rw [hL]; exact Nat.le_refl _)
  obtain ⟨oL, esL, epL, hoL, hdL, restL⟩ := F.ns
  have hcell : ∀ x c, (lenv L fa cdv).cells.lookup x = some c → (H.get? c = none ∧ ∃ o, s.heap.get? c = some o) ∧ ∃ v, s.heap.IsCell c v := fun x c e => by
    obtain ⟨o, ho, hd⟩ := cells_mem C e
    obtain ⟨h1, h2, h3⟩ := N _ ho
    exact ⟨⟨h3, o, h1⟩, _, o, h1, hd⟩
  have hlk : ∀ x d, List.lookup x [(Str.ofString "script", D.list (dI ns))] = some d → x = Str.ofString "script" ∧ d = .list (dI ns) := fun x d e => by
    rw [lookup_cons_eq] at e
    by_cases q : x = Str.ofString "script"
    · rw [if_pos q] at e; cases e; exact ⟨q, rfl⟩
    · rw [if_neg q] at e; cases e
  have hkd : (lenv L fa cdv).kindOf (Str.ofString "script") = some .local := by kernel_rfl
  have FS0 : FS H (fun a => H.get? a = none ∧ ∃ o, s.heap.get? a = some o) (lenv L fa cdv) [(Str.ofString "script", .list (dI ns))] s.heap := by
    refine ⟨F.keep, fun a q => q.1, fun a q => let ⟨o, e⟩ := q.2; ⟨a, o, Nat.le_refl _, e⟩, by kernel_rfl, rfl, rfl, ⟨hLn, oL, hoL⟩, ⟨m, F.ns, fun x d e1 e2 => ?_⟩, fun x d e1 e2 => ?_, hcell, fun x e => ?_, fun x y c e1 e2 => ?_⟩
    · obtain ⟨rfl, rfl⟩ := hlk x d e1
      obtain ⟨n, e⟩ := hl
      exact ⟨_, hm, .list (fun q => by rw [e] at q; cases q.1) ⟨n, F.keep _ _ e⟩ (ints_rdl hI)⟩
    · obtain ⟨rfl, rfl⟩ := hlk x d e1
      exact absurd hkd e2
    · exact cellsFrom_has (.inl (mem_lookup e))
    · exact cellsFrom_inj lawScope.names (L + 1) [] (fun _ _ z => nomatch z) (fun _ _ _ z => nomatch z) e1 e2
  have R : Room (callerA.deeper (lenv L fa cdv)) 40 := by
    refine ⟨rfl, ?_, ?_⟩
    · show 1 + claimMargin + 1 + 40 < 900; decide
    · show 4 + 3 + 5 * 40 + 200 < cLine; decide +kernel
  refine (law_bd W R rfl hn).run _ s FS0 Q E fun v s' kb r => ?_
  obtain rfl := r.inv
  have kk := kbKeep kb
  obtain ⟨h', t, rfl, _⟩ := kb
  refine hQ _ (fun b o e => kk b o (fun q => ?_) (F.keep b o e)) rfl rfl
  rcases q with q | ⟨x, q⟩
  · have q' : b = L := q
    rw [q', hLn] at e; cases e
  · have := (hcell x b q).1.1
    rw [e] at this; cases this
end
end Mine
end

noncomputable section
set_option maxHeartbeats 8000000
open PySem PySem.W PyProof.Rows
namespace Mine
def viewQ : Program := view PySem.Challenge.pw_kq0054_01 [29]
def looseQ : List Str := [Str.ofString "_wall", Str.ofString "Entry", Str.ofString "merge_entries", Str.ofString "bytes_types", Str.ofString "_bytes_from_decode_data", Str.ofString "Error", Str.ofString "_ascii_buffer", Str.ofString "_buffer", Str.ofString "_truth", Str.ofString "_B64", Str.ofString "_b64_value", Str.ofString "a2b_base64", Str.ofString "b2a_base64", Str.ofString "b64encode", Str.ofString "b64decode", Str.ofString "sorted_list_difference", Str.ofString "unorderable_list_difference", Str.ofString "_law_lists", Str.ofString "_law_coded", Str.ofString "_law_record", Str.ofString "_law_said", Str.ofString "_law_applies", Str.ofString "_law_once"]
def rowQ : OpenRow := PySem.Challenge.rw_kq0054_01.row
def hookQ : Hook := kHook topK topAs (fun _ => by kernel_rfl)
def seenQ : Shared → Bool := fun s => xlAt viewQ [] s && recOk (RowW.records (OpenRow.toRowW PySem.Challenge.rw_kq0054_01.row)) s
theorem law_left : LeftO PySem.Challenge.rw_kq0054_01.row.prog viewQ looseQ seenQ (Hook.obs hookQ) (Hook.val hookQ) 2522 := fun w => by kernel_rfl
end Mine
end

open PySem PySem.W PyProof.Rows
local macro_rules | `(tactic| k_qdec) => `(tactic| decide +kernel)
set_option maxHeartbeats 8000000 in
theorem PySem.Challenge.cw_kq0054_01_holds : PySem.Challenge.rw_kq0054_01.Holds := by
  refine holds_law (by kernel_rfl) fun said => ?_
  refine holds_open (r := PySem.Challenge.rw_kq0054_01.row) (q := Mine.viewQ) (loose := Mine.looseQ) (Xt := Mine.seenQ) (XP := XL Mine.viewQ []) (Yf := Hook.obs Mine.hookQ) (Ya := Hook.val Mine.hookQ) (YP := Hook.says Mine.hookQ) (N := 2522) Mine.law_left (Hook.of Mine.hookQ) (Hook.keeps Mine.hookQ) (fun s e => xl_of s (Bool.and_eq_true_iff.mp e).1) XL.keeps (by rfl) (by rfl) (by rfl) (fun s e => recFacts_of (Bool.and_eq_true_iff.mp e).2) (by rfl) said (by decide +kernel) ⟨rfl, rfl, rfl, rfl, rfl, by decide +kernel⟩ ?hw ?hc
  case hw => w_witness2
  case hc =>
    w_strict (
      k_go0
      (all_goals try k_fold)
      refine' Mine.law_start ?W rfl rfl ?F ?N ?C ?hm ?hl ?hI ?hn ?hQ
      case W => exact ⟨by assumption, Glob.g (by assumption), Glob.b (by assumption), Glob.nolimit (by assumption), Glob.builtins (by assumption)⟩
      case F => assumption
      case N => assumption
      case C => assumption
      case hm => kernel_rfl
      case hl => exact Mine.well_list (by assumption) (by assumption)
      case hI => assumption
      case hn => omega
      case hQ => 
        intro s' keep hg hos
        refine ⟨.inl ⟨.bool true, .bool true, [], rfl, fun _ => rfl, .bool true, ?hp, unshared_nil⟩, keep, hos, ?hg2⟩
        case hp => exact postW_of (X := true) (by rfl) (Mine.post_true _ _) rfl
        case hg2 => rw [hg]; assumption)
