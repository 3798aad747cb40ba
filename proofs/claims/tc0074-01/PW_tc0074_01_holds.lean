import PyProof.Rows.All
import Wide.All
import OpenK.AllK
import Wide.FinOn
import PySem.Challenge.RW_tc0074_01
set_option Elab.async false
set_option maxRecDepth 100000
set_option maxHeartbeats 4000000
set_option bootstrap.genMatcherCode false
set_option tactic.hygienic false
set_option linter.unusedVariables false
set_option linter.unusedSimpArgs false
noncomputable section

namespace Mine
theorem e03 {p0 p1 p2 : Prop} {G : Prop} (h : p0 ∧ p1 ∧ p2) (f : p0 → p1 → p2 → G) : G := let ⟨h0, h1, h2⟩ := h; f h0 h1 h2
theorem e04 {p0 p1 p2 p3 : Prop} {G : Prop} (h : p0 ∧ p1 ∧ p2 ∧ p3) (f : p0 → p1 → p2 → p3 → G) : G := let ⟨h0, h1, h2, h3⟩ := h; f h0 h1 h2 h3
theorem e12 {α0 : Type} {p0 p1 : α0 → Prop} {G : Prop} (h : ∃ a0, p0 a0 ∧ p1 a0) (f : ∀ a0, p0 a0 → p1 a0 → G) : G := let ⟨a0, h0, h1⟩ := h; f a0 h0 h1
theorem e13 {α0 : Type} {p0 p1 p2 : α0 → Prop} {G : Prop} (h : ∃ a0, p0 a0 ∧ p1 a0 ∧ p2 a0) (f : ∀ a0, p0 a0 → p1 a0 → p2 a0 → G) : G := let ⟨a0, h0, h1, h2⟩ := h; f a0 h0 h1 h2
theorem e14 {α0 : Type} {p0 p1 p2 p3 : α0 → Prop} {G : Prop} (h : ∃ a0, p0 a0 ∧ p1 a0 ∧ p2 a0 ∧ p3 a0) (f : ∀ a0, p0 a0 → p1 a0 → p2 a0 → p3 a0 → G) : G := let ⟨a0, h0, h1, h2, h3⟩ := h; f a0 h0 h1 h2 h3
theorem e21 {α0 α1 : Type} {p0 : α0 → α1 → Prop} {G : Prop} (h : ∃ a0 a1, p0 a0 a1) (f : ∀ a0 a1, p0 a0 a1 → G) : G := let ⟨a0, a1, h0⟩ := h; f a0 a1 h0
theorem e22 {α0 α1 : Type} {p0 p1 : α0 → α1 → Prop} {G : Prop} (h : ∃ a0 a1, p0 a0 a1 ∧ p1 a0 a1) (f : ∀ a0 a1, p0 a0 a1 → p1 a0 a1 → G) : G := let ⟨a0, a1, h0, h1⟩ := h; f a0 a1 h0 h1
theorem e23 {α0 α1 : Type} {p0 p1 p2 : α0 → α1 → Prop} {G : Prop} (h : ∃ a0 a1, p0 a0 a1 ∧ p1 a0 a1 ∧ p2 a0 a1) (f : ∀ a0 a1, p0 a0 a1 → p1 a0 a1 → p2 a0 a1 → G) : G := let ⟨a0, a1, h0, h1, h2⟩ := h; f a0 a1 h0 h1 h2
theorem e24 {α0 α1 : Type} {p0 p1 p2 p3 : α0 → α1 → Prop} {G : Prop} (h : ∃ a0 a1, p0 a0 a1 ∧ p1 a0 a1 ∧ p2 a0 a1 ∧ p3 a0 a1) (f : ∀ a0 a1, p0 a0 a1 → p1 a0 a1 → p2 a0 a1 → p3 a0 a1 → G) : G := let ⟨a0, a1, h0, h1, h2, h3⟩ := h; f a0 a1 h0 h1 h2 h3
theorem e25 {α0 α1 : Type} {p0 p1 p2 p3 p4 : α0 → α1 → Prop} {G : Prop} (h : ∃ a0 a1, p0 a0 a1 ∧ p1 a0 a1 ∧ p2 a0 a1 ∧ p3 a0 a1 ∧ p4 a0 a1) (f : ∀ a0 a1, p0 a0 a1 → p1 a0 a1 → p2 a0 a1 → p3 a0 a1 → p4 a0 a1 → G) : G := let ⟨a0, a1, h0, h1, h2, h3, h4⟩ := h; f a0 a1 h0 h1 h2 h3 h4
theorem e26 {α0 α1 : Type} {p0 p1 p2 p3 p4 p5 : α0 → α1 → Prop} {G : Prop} (h : ∃ a0 a1, p0 a0 a1 ∧ p1 a0 a1 ∧ p2 a0 a1 ∧ p3 a0 a1 ∧ p4 a0 a1 ∧ p5 a0 a1) (f : ∀ a0 a1, p0 a0 a1 → p1 a0 a1 → p2 a0 a1 → p3 a0 a1 → p4 a0 a1 → p5 a0 a1 → G) : G := let ⟨a0, a1, h0, h1, h2, h3, h4, h5⟩ := h; f a0 a1 h0 h1 h2 h3 h4 h5
theorem e31 {α0 α1 α2 : Type} {p0 : α0 → α1 → α2 → Prop} {G : Prop} (h : ∃ a0 a1 a2, p0 a0 a1 a2) (f : ∀ a0 a1 a2, p0 a0 a1 a2 → G) : G := let ⟨a0, a1, a2, h0⟩ := h; f a0 a1 a2 h0
theorem e32 {α0 α1 α2 : Type} {p0 p1 : α0 → α1 → α2 → Prop} {G : Prop} (h : ∃ a0 a1 a2, p0 a0 a1 a2 ∧ p1 a0 a1 a2) (f : ∀ a0 a1 a2, p0 a0 a1 a2 → p1 a0 a1 a2 → G) : G := let ⟨a0, a1, a2, h0, h1⟩ := h; f a0 a1 a2 h0 h1
theorem e33 {α0 α1 α2 : Type} {p0 p1 p2 : α0 → α1 → α2 → Prop} {G : Prop} (h : ∃ a0 a1 a2, p0 a0 a1 a2 ∧ p1 a0 a1 a2 ∧ p2 a0 a1 a2) (f : ∀ a0 a1 a2, p0 a0 a1 a2 → p1 a0 a1 a2 → p2 a0 a1 a2 → G) : G := let ⟨a0, a1, a2, h0, h1, h2⟩ := h; f a0 a1 a2 h0 h1 h2
theorem e34 {α0 α1 α2 : Type} {p0 p1 p2 p3 : α0 → α1 → α2 → Prop} {G : Prop} (h : ∃ a0 a1 a2, p0 a0 a1 a2 ∧ p1 a0 a1 a2 ∧ p2 a0 a1 a2 ∧ p3 a0 a1 a2) (f : ∀ a0 a1 a2, p0 a0 a1 a2 → p1 a0 a1 a2 → p2 a0 a1 a2 → p3 a0 a1 a2 → G) : G := let ⟨a0, a1, a2, h0, h1, h2, h3⟩ := h; f a0 a1 a2 h0 h1 h2 h3
theorem e35 {α0 α1 α2 : Type} {p0 p1 p2 p3 p4 : α0 → α1 → α2 → Prop} {G : Prop} (h : ∃ a0 a1 a2, p0 a0 a1 a2 ∧ p1 a0 a1 a2 ∧ p2 a0 a1 a2 ∧ p3 a0 a1 a2 ∧ p4 a0 a1 a2) (f : ∀ a0 a1 a2, p0 a0 a1 a2 → p1 a0 a1 a2 → p2 a0 a1 a2 → p3 a0 a1 a2 → p4 a0 a1 a2 → G) : G := let ⟨a0, a1, a2, h0, h1, h2, h3, h4⟩ := h; f a0 a1 a2 h0 h1 h2 h3 h4
theorem e36 {α0 α1 α2 : Type} {p0 p1 p2 p3 p4 p5 : α0 → α1 → α2 → Prop} {G : Prop} (h : ∃ a0 a1 a2, p0 a0 a1 a2 ∧ p1 a0 a1 a2 ∧ p2 a0 a1 a2 ∧ p3 a0 a1 a2 ∧ p4 a0 a1 a2 ∧ p5 a0 a1 a2) (f : ∀ a0 a1 a2, p0 a0 a1 a2 → p1 a0 a1 a2 → p2 a0 a1 a2 → p3 a0 a1 a2 → p4 a0 a1 a2 → p5 a0 a1 a2 → G) : G := let ⟨a0, a1, a2, h0, h1, h2, h3, h4, h5⟩ := h; f a0 a1 a2 h0 h1 h2 h3 h4 h5
theorem e42 {α0 α1 α2 α3 : Type} {p0 p1 : α0 → α1 → α2 → α3 → Prop} {G : Prop} (h : ∃ a0 a1 a2 a3, p0 a0 a1 a2 a3 ∧ p1 a0 a1 a2 a3) (f : ∀ a0 a1 a2 a3, p0 a0 a1 a2 a3 → p1 a0 a1 a2 a3 → G) : G := let ⟨a0, a1, a2, a3, h0, h1⟩ := h; f a0 a1 a2 a3 h0 h1
theorem e43 {α0 α1 α2 α3 : Type} {p0 p1 p2 : α0 → α1 → α2 → α3 → Prop} {G : Prop} (h : ∃ a0 a1 a2 a3, p0 a0 a1 a2 a3 ∧ p1 a0 a1 a2 a3 ∧ p2 a0 a1 a2 a3) (f : ∀ a0 a1 a2 a3, p0 a0 a1 a2 a3 → p1 a0 a1 a2 a3 → p2 a0 a1 a2 a3 → G) : G := let ⟨a0, a1, a2, a3, h0, h1, h2⟩ := h; f a0 a1 a2 a3 h0 h1 h2
theorem e44 {α0 α1 α2 α3 : Type} {p0 p1 p2 p3 : α0 → α1 → α2 → α3 → Prop} {G : Prop} (h : ∃ a0 a1 a2 a3, p0 a0 a1 a2 a3 ∧ p1 a0 a1 a2 a3 ∧ p2 a0 a1 a2 a3 ∧ p3 a0 a1 a2 a3) (f : ∀ a0 a1 a2 a3, p0 a0 a1 a2 a3 → p1 a0 a1 a2 a3 → p2 a0 a1 a2 a3 → p3 a0 a1 a2 a3 → G) : G := let ⟨a0, a1, a2, a3, h0, h1, h2, h3⟩ := h; f a0 a1 a2 a3 h0 h1 h2 h3
theorem e52 {α0 α1 α2 α3 α4 : Type} {p0 p1 : α0 → α1 → α2 → α3 → α4 → Prop} {G : Prop} (h : ∃ a0 a1 a2 a3 a4, p0 a0 a1 a2 a3 a4 ∧ p1 a0 a1 a2 a3 a4) (f : ∀ a0 a1 a2 a3 a4, p0 a0 a1 a2 a3 a4 → p1 a0 a1 a2 a3 a4 → G) : G := let ⟨a0, a1, a2, a3, a4, h0, h1⟩ := h; f a0 a1 a2 a3 a4 h0 h1
theorem e54 {α0 α1 α2 α3 α4 : Type} {p0 p1 p2 p3 : α0 → α1 → α2 → α3 → α4 → Prop} {G : Prop} (h : ∃ a0 a1 a2 a3 a4, p0 a0 a1 a2 a3 a4 ∧ p1 a0 a1 a2 a3 a4 ∧ p2 a0 a1 a2 a3 a4 ∧ p3 a0 a1 a2 a3 a4) (f : ∀ a0 a1 a2 a3 a4, p0 a0 a1 a2 a3 a4 → p1 a0 a1 a2 a3 a4 → p2 a0 a1 a2 a3 a4 → p3 a0 a1 a2 a3 a4 → G) : G := let ⟨a0, a1, a2, a3, a4, h0, h1, h2, h3⟩ := h; f a0 a1 a2 a3 a4 h0 h1 h2 h3
end Mine
end
noncomputable section
open PySem PySem.W PyProof.Rows
namespace Mine
noncomputable section
variable (P : Params)
theorem cps {P : Prop} (h : ∀ G : Prop, (P → G) → G) : P := h P id
abbrev pw : Program := PySem.Challenge.pw_tc0074_01
noncomputable def body : List Stmt := pw.main.body
def st (i : Nat) : Stmt := (body.drop i).headD (.Pass default)
noncomputable def ent (P : Params) (n : Str) (t : Tok) (v : Value) : DictEntry := ⟨PyData.keyHash P n, .str n t, v⟩
def fB (i : Nat) : Obj := match st i with
 | .FunctionDef n a b _ _ _ sc _ _ _ => { cls := .none, data := .func { name := n, qualname := n, params := a, body := .stmts b, scope := sc, globals := builtinsNs, closure := [], defaults := .none, kwdefaults := .none } }
 | _ => { cls := .none }
def fnO (i : Nat) (md code : Value) : Obj := match st i with
 | .FunctionDef n a b _ _ _ sc _ _ _ => { cls := .type "function", data := .func { name := n, qualname := n, params := a, body := .stmts b, scope := sc, globals := mainNs, closure := [], defaults := .none, kwdefaults := .none, pyModule := md, code := code, builtins := builtinsNs } }
 | _ => { cls := .none }
noncomputable def env : Env := { scope := pw.main.scope, locals := mainNs, globals := mainNs, cells := [], code := .ref 13, frame := some 14 }
def cE : Code := .body body env
noncomputable def B : List Frame := [topFrame default]
def dM : List (Int × Str) := match st 19 with
 | .Assign _ (.Dict ks vs _) _ => (ks.zip vs).filterMap fun kv => match kv.1, kv.2 with
  | some (.Constant (.int i) _ _), .Constant (.str s) _ _ => some (i, s)
  | _, _ => none
 | _ => []
noncomputable def gO (step : Nat) : Nat → List (Int × Str) → List DictEntry
 | _, [] => []
 | t, p :: r => ⟨p.1, .int p.1 t, .str p.2 (t + 1)⟩ :: gO step (t + step) r
def dmE (k : Nat) : List DictEntry := match Nat.ble k 38 with
 | true => gO 3 371 (dM.take (17 * k))
 | false => gO 3 371 (dM.take 646) ++ gO 2 2309 (dM.drop 646)
noncomputable def dmN (k : Nat) : Nat := match Nat.ble k 38 with
 | true => 17 * k
 | false => 650
def dmO (k : Nat) : Obj := { cls := .type "dict", data := .dict (dmE k).toArray (dmN k) }
def dsE (j : Nat) : List DictEntry := match Nat.ble j 37 with
 | true => gO 3 (371 + 51 * j) ((dM.drop (17 * j)).take 17)
 | false => gO 2 2309 (dM.drop 646)
noncomputable def dsN (j : Nat) : Nat := match Nat.ble j 37 with
 | true => 17
 | false => 4
def dsO (j : Nat) : Obj := { cls := .type "dict", data := .dict (dsE j).toArray (dsN j) }
noncomputable def fy (P : Params) : Obj := ⟨.type "tuple", none, .seq #[] 0, #[]⟩
noncomputable def Nv (P : Params) : Obj := ⟨.none, none, .fields #[], #[]⟩
noncomputable def fR (P : Params) : Obj := ⟨.type "code", none, .fields #[.str (Str.ofString "<module>") 182, .str (Str.ofString "<module>") 183, .str (Str.ofString "/claim/cut.py") 184, .int 1 0, .int 0 0, .int 0 0, .int 0 0, .int 0 0, .ref 11, .bool false, .int 181 0, .ref 12, .none, .none, .none, .none, .int 185 0, .int 1 0, .str (Str.ofString "/claim/cut.py") 186], #[]⟩
noncomputable def bh (P : Params) : Obj := ⟨.type "frame", none, .plain, #[(some (.ref 13)), (some (.ref 3)), (some (.ref 3)), none, (some (.str (Str.ofString "__main__") 164)), none, (some (.ref 0))]⟩
noncomputable def nd : Obj → BT → BT → BT := .node
def Nx : BT := nd (boot_o_7 P) .nil .nil
def LQ : BT := nd (fy P) .nil .nil
def Nz : BT := nd (boot_o_5 P) (nd (boot_o_9 P) .nil .nil) (nd (fR P) .nil .nil)
def NA : BT := nd (boot_o_2 P) (nd (boot_o_4 P) (nd (boot_o_8 P) .nil .nil) (nd (Nv P) .nil .nil)) (nd (boot_o_6 P) (nd (boot_o_10 P) .nil .nil) (nd (bh P) .nil .nil))
def Ps : BT := nd (boot_o_0 P) (nd (boot_o_1 P) (nd (boot_o_3 P) (Nx P) (LQ P)) (Nz P)) (NA P)
def S0 (w : World) (os : OsState) : SharedT := ⟨Ps w.params, 15, {}, #[], boot_drawn, 187, os⟩
def Ph : Obj := ⟨.type "dict", none, .dict #[ent P (Str.ofString "__name__") 165 (.str (Str.ofString "cpy313.traceback") 187), ent P (Str.ofString "__doc__") 166 (.none), ent P (Str.ofString "__package__") 167 (.none), ent P (Str.ofString "__loader__") 168 (.builtin "__main__.__loader__#opaque"), ent P (Str.ofString "__spec__") 169 (.none), ent P (Str.ofString "__annotations__") 170 (.ref 6), ent P (Str.ofString "__builtins__") 171 (.ref 4), ent P (Str.ofString "__file__") 173 (.str (Str.ofString "/claim/cut.py") 172), ent P (Str.ofString "__cached__") 174 (.none), ent P (Str.ofString "_MAX_STRING_SIZE") 190 (.int 40 189), ent P (Str.ofString "_MOVE_COST") 192 (.int 2 191), ent P (Str.ofString "_CASE_COST") 194 (.int 1 193)] 12, #[]⟩
def Pr : BT := nd (boot_o_0 P) (nd (boot_o_1 P) (nd (Ph P) (Nx P) (LQ P)) (Nz P)) (NA P)
def S1 (w : World) (os : OsState) : SharedT := ⟨Pr w.params, 15, {}, #[], boot_drawn, 195, os⟩
def Pg : Obj := ⟨.type "dict", none, .dict #[ent P (Str.ofString "__name__") 165 (.str (Str.ofString "cpy313.traceback") 187), ent P (Str.ofString "__doc__") 166 (.none), ent P (Str.ofString "__package__") 167 (.none), ent P (Str.ofString "__loader__") 168 (.builtin "__main__.__loader__#opaque"), ent P (Str.ofString "__spec__") 169 (.none), ent P (Str.ofString "__annotations__") 170 (.ref 6), ent P (Str.ofString "__builtins__") 171 (.ref 4), ent P (Str.ofString "__file__") 173 (.str (Str.ofString "/claim/cut.py") 172), ent P (Str.ofString "__cached__") 174 (.none), ent P (Str.ofString "_MAX_STRING_SIZE") 190 (.int 40 189), ent P (Str.ofString "_MOVE_COST") 192 (.int 2 191), ent P (Str.ofString "_CASE_COST") 194 (.int 1 193), ent P (Str.ofString "_substitution_cost") 202 (.ref 21), ent P (Str.ofString "_levenshtein_distance") 222 (.ref 28)] 14, #[]⟩
noncomputable def Nu (P : Params) : Obj := ⟨.none, none, .fields #[.int 5 0, .int 0 0, .ref 20, .int 11 0, .int 0 0, .ref 27], #[]⟩
noncomputable def g6 (P : Params) : Obj := ⟨.type "tuple", none, .seq #[] 0, #[]⟩
noncomputable def g0 (P : Params) : Obj := ⟨.none, none, .fields #[], #[]⟩
noncomputable def gZ (P : Params) : Obj := ⟨.type "tuple", none, .seq #[.str (Str.ofString "ch_a") 198, .str (Str.ofString "ch_b") 199] 0, #[]⟩
noncomputable def gY (P : Params) : Obj := ⟨.type "tuple", none, .seq #[] 0, #[]⟩
def gX (P : Params) : Obj := fB 4
noncomputable def gW (P : Params) : Obj := ⟨.type "code", none, .fields #[.str (Str.ofString "_substitution_cost") 195, .str (Str.ofString "_substitution_cost") 196, .str (Str.ofString "/claim/cut.py") 197, .int 5 0, .int 2 0, .int 0 0, .int 0 0, .int 3 0, .ref 15, .bool true, .int 181 0, .ref 16, .none, .ref 17, .ref 18, .ref 19, .int 200 0, .int 5 0, .str (Str.ofString "/claim/cut.py") 201], #[]⟩
def iA (P : Params) : Obj := fnO 4 (.str (Str.ofString "cpy313.traceback") 187) (.ref 20)
noncomputable def iz (P : Params) : Obj := ⟨.type "tuple", none, .seq #[] 0, #[]⟩
noncomputable def iy (P : Params) : Obj := ⟨.none, none, .fields #[], #[]⟩
noncomputable def ix (P : Params) : Obj := ⟨.type "tuple", none, .seq #[.str (Str.ofString "a") 206, .str (Str.ofString "b") 207, .str (Str.ofString "max_cost") 208, .str (Str.ofString "pre") 209, .str (Str.ofString "post") 210, .str (Str.ofString "row") 211, .str (Str.ofString "result") 212, .str (Str.ofString "bindex") 213, .str (Str.ofString "bchar") 214, .str (Str.ofString "distance") 215, .str (Str.ofString "minimum") 216, .str (Str.ofString "index") 217, .str (Str.ofString "substitute") 218, .str (Str.ofString "insert_delete") 219] 0, #[]⟩
noncomputable def iw (P : Params) : Obj := ⟨.type "tuple", none, .seq #[] 0, #[]⟩
def iu (P : Params) : Obj := fB 5
noncomputable def ir (P : Params) : Obj := ⟨.type "code", none, .fields #[.str (Str.ofString "_levenshtein_distance") 203, .str (Str.ofString "_levenshtein_distance") 204, .str (Str.ofString "/claim/cut.py") 205, .int 11 0, .int 3 0, .int 0 0, .int 0 0, .int 3 0, .ref 22, .bool true, .int 181 0, .ref 23, .none, .ref 24, .ref 25, .ref 26, .int 220 0, .int 11 0, .str (Str.ofString "/claim/cut.py") 221], #[]⟩
def gV (P : Params) : Obj := fnO 5 (.str (Str.ofString "cpy313.traceback") 187) (.ref 27)
def Pq : BT := nd (boot_o_0 P) (nd (boot_o_1 P) (nd (Pg P) (nd (boot_o_7 P) (nd (g6 P) .nil .nil) (nd (iy P) .nil .nil)) (nd (fy P) (nd (gX P) .nil .nil) (nd (ir P) .nil .nil))) (nd (boot_o_5 P) (nd (boot_o_9 P) (nd (gZ P) .nil .nil) (nd (iw P) .nil .nil)) (nd (fR P) (nd (iA P) .nil .nil) .nil))) (nd (boot_o_2 P) (nd (boot_o_4 P) (nd (boot_o_8 P) (nd (g0 P) .nil .nil) (nd (ix P) .nil .nil)) (nd (Nu P) (nd (gW P) .nil .nil) (nd (gV P) .nil .nil))) (nd (boot_o_6 P) (nd (boot_o_10 P) (nd (gY P) .nil .nil) (nd (iu P) .nil .nil)) (nd (bh P) (nd (iz P) .nil .nil) .nil)))
def S2 (w : World) (os : OsState) : SharedT := ⟨Pq w.params, 29, {}, #[], boot_drawn, 223, os⟩
def Pf : Obj := ⟨.type "dict", none, .dict #[ent P (Str.ofString "__name__") 165 (.str (Str.ofString "cpy313.operator") 223), ent P (Str.ofString "__doc__") 166 (.none), ent P (Str.ofString "__package__") 167 (.none), ent P (Str.ofString "__loader__") 168 (.builtin "__main__.__loader__#opaque"), ent P (Str.ofString "__spec__") 169 (.none), ent P (Str.ofString "__annotations__") 170 (.ref 6), ent P (Str.ofString "__builtins__") 171 (.ref 4), ent P (Str.ofString "__file__") 173 (.str (Str.ofString "/claim/cut.py") 172), ent P (Str.ofString "__cached__") 174 (.none), ent P (Str.ofString "_MAX_STRING_SIZE") 190 (.int 40 189), ent P (Str.ofString "_MOVE_COST") 192 (.int 2 191), ent P (Str.ofString "_CASE_COST") 194 (.int 1 193), ent P (Str.ofString "_substitution_cost") 202 (.ref 21), ent P (Str.ofString "_levenshtein_distance") 222 (.ref 28), ent P (Str.ofString "eq") 232 (.ref 35), ent P (Str.ofString "ne") 240 (.ref 42), ent P (Str.ofString "floordiv") 248 (.ref 49)] 17, #[]⟩
noncomputable def Nt (P : Params) : Obj := ⟨.none, none, .fields #[.int 5 0, .int 0 0, .ref 20, .int 11 0, .int 0 0, .ref 27, .int 50 0, .int 0 0, .ref 34, .int 52 0, .int 0 0, .ref 41, .int 54 0, .int 0 0, .ref 48], #[]⟩
noncomputable def iq (P : Params) : Obj := ⟨.type "tuple", none, .seq #[] 0, #[]⟩
noncomputable def bq (P : Params) : Obj := ⟨.none, none, .fields #[], #[]⟩
noncomputable def kS (P : Params) : Obj := ⟨.type "tuple", none, .seq #[.str (Str.ofString "a") 228, .str (Str.ofString "b") 229] 0, #[]⟩
noncomputable def kR (P : Params) : Obj := ⟨.type "tuple", none, .seq #[] 0, #[]⟩
def kQ (P : Params) : Obj := fB 7
noncomputable def kP (P : Params) : Obj := ⟨.type "code", none, .fields #[.str (Str.ofString "eq") 225, .str (Str.ofString "eq") 226, .str (Str.ofString "/claim/cut.py") 227, .int 50 0, .int 2 0, .int 0 0, .int 0 0, .int 3 0, .ref 29, .bool true, .int 181 0, .ref 30, .none, .ref 31, .ref 32, .ref 33, .int 230 0, .int 50 0, .str (Str.ofString "/claim/cut.py") 231], #[]⟩
def kO (P : Params) : Obj := fnO 7 (.str (Str.ofString "cpy313.operator") 223) (.ref 34)
noncomputable def kN (P : Params) : Obj := ⟨.type "tuple", none, .seq #[] 0, #[]⟩
noncomputable def kM (P : Params) : Obj := ⟨.none, none, .fields #[], #[]⟩
noncomputable def kL (P : Params) : Obj := ⟨.type "tuple", none, .seq #[.str (Str.ofString "a") 236, .str (Str.ofString "b") 237] 0, #[]⟩
noncomputable def kK (P : Params) : Obj := ⟨.type "tuple", none, .seq #[] 0, #[]⟩
def kJ (P : Params) : Obj := fB 8
noncomputable def kI (P : Params) : Obj := ⟨.type "code", none, .fields #[.str (Str.ofString "ne") 233, .str (Str.ofString "ne") 234, .str (Str.ofString "/claim/cut.py") 235, .int 52 0, .int 2 0, .int 0 0, .int 0 0, .int 3 0, .ref 36, .bool true, .int 181 0, .ref 37, .none, .ref 38, .ref 39, .ref 40, .int 238 0, .int 52 0, .str (Str.ofString "/claim/cut.py") 239], #[]⟩
def kH (P : Params) : Obj := fnO 8 (.str (Str.ofString "cpy313.operator") 223) (.ref 41)
noncomputable def kG (P : Params) : Obj := ⟨.type "tuple", none, .seq #[] 0, #[]⟩
noncomputable def kF (P : Params) : Obj := ⟨.none, none, .fields #[], #[]⟩
noncomputable def kE (P : Params) : Obj := ⟨.type "tuple", none, .seq #[.str (Str.ofString "a") 244, .str (Str.ofString "b") 245] 0, #[]⟩
noncomputable def bw (P : Params) : Obj := ⟨.type "tuple", none, .seq #[] 0, #[]⟩
def kD (P : Params) : Obj := fB 9
noncomputable def kC (P : Params) : Obj := ⟨.type "code", none, .fields #[.str (Str.ofString "floordiv") 241, .str (Str.ofString "floordiv") 242, .str (Str.ofString "/claim/cut.py") 243, .int 54 0, .int 2 0, .int 0 0, .int 0 0, .int 3 0, .ref 43, .bool true, .int 181 0, .ref 44, .none, .ref 45, .ref 46, .ref 47, .int 246 0, .int 54 0, .str (Str.ofString "/claim/cut.py") 247], #[]⟩
def kA (P : Params) : Obj := fnO 9 (.str (Str.ofString "cpy313.operator") 223) (.ref 48)
def Kt : BT := nd (kD P) .nil .nil
def K0 : BT := nd (kK P) .nil .nil
def KK : BT := nd (kG P) .nil .nil
def Kn : BT := nd (kA P) .nil .nil
def KQ : BT := nd (kI P) .nil .nil
def KC : BT := nd (kE P) .nil .nil
def Kq : BT := nd (kC P) .nil .nil
def KU : BT := nd (kJ P) .nil .nil
def KH : BT := nd (kF P) .nil .nil
def KN : BT := nd (kH P) .nil .nil
def Kw : BT := nd (bw P) .nil .nil
def Pp : BT := nd (boot_o_0 P) (nd (boot_o_1 P) (nd (Pf P) (nd (boot_o_7 P) (nd (g6 P) (nd (kS P) .nil .nil) (Kt P)) (nd (iy P) (K0 P) .nil)) (nd (fy P) (nd (gX P) (nd (kO P) .nil .nil) .nil) (nd (ir P) (KK P) .nil))) (nd (boot_o_5 P) (nd (boot_o_9 P) (nd (gZ P) (nd (kQ P) .nil .nil) (Kn P)) (nd (iw P) (KQ P) .nil)) (nd (fR P) (nd (iA P) (nd (kM P) .nil .nil) .nil) (nd (iq P) (KC P) .nil)))) (nd (boot_o_2 P) (nd (boot_o_4 P) (nd (boot_o_8 P) (nd (g0 P) (nd (kR P) .nil .nil) (Kq P)) (nd (ix P) (KU P) .nil)) (nd (Nt P) (nd (gW P) (nd (kN P) .nil .nil) .nil) (nd (gV P) (KH P) .nil))) (nd (boot_o_6 P) (nd (boot_o_10 P) (nd (gY P) (nd (kP P) .nil .nil) .nil) (nd (iu P) (KN P) .nil)) (nd (bh P) (nd (iz P) (nd (kL P) .nil .nil) .nil) (nd (bq P) (Kw P) .nil))))
def S3 (w : World) (os : OsState) : SharedT := ⟨Pp w.params, 50, {}, #[], boot_drawn, 249, os⟩
def Pe : Obj := ⟨.type "dict", none, .dict #[ent P (Str.ofString "__name__") 165 (.str (Str.ofString "cpy313.operator") 223), ent P (Str.ofString "__doc__") 166 (.none), ent P (Str.ofString "__package__") 167 (.none), ent P (Str.ofString "__loader__") 168 (.builtin "__main__.__loader__#opaque"), ent P (Str.ofString "__spec__") 169 (.none), ent P (Str.ofString "__annotations__") 170 (.ref 6), ent P (Str.ofString "__builtins__") 171 (.ref 4), ent P (Str.ofString "__file__") 173 (.str (Str.ofString "/claim/cut.py") 172), ent P (Str.ofString "__cached__") 174 (.none), ent P (Str.ofString "_MAX_STRING_SIZE") 190 (.int 40 189), ent P (Str.ofString "_MOVE_COST") 192 (.int 2 191), ent P (Str.ofString "_CASE_COST") 194 (.int 1 193), ent P (Str.ofString "_substitution_cost") 202 (.ref 21), ent P (Str.ofString "_levenshtein_distance") 222 (.ref 28), ent P (Str.ofString "eq") 232 (.ref 35), ent P (Str.ofString "ne") 240 (.ref 42), ent P (Str.ofString "floordiv") 248 (.ref 49), ent P (Str.ofString "mul") 256 (.ref 56), ent P (Str.ofString "sub") 264 (.ref 63), ent P (Str.ofString "contains") 272 (.ref 70)] 20, #[]⟩
noncomputable def Nr (P : Params) : Obj := ⟨.none, none, .fields #[.int 5 0, .int 0 0, .ref 20, .int 11 0, .int 0 0, .ref 27, .int 50 0, .int 0 0, .ref 34, .int 52 0, .int 0 0, .ref 41, .int 54 0, .int 0 0, .ref 48, .int 56 0, .int 0 0, .ref 55, .int 58 0, .int 0 0, .ref 62, .int 60 0, .int 0 0, .ref 69], #[]⟩
noncomputable def mA (P : Params) : Obj := ⟨.type "tuple", none, .seq #[] 0, #[]⟩
noncomputable def mz (P : Params) : Obj := ⟨.none, none, .fields #[], #[]⟩
noncomputable def my (P : Params) : Obj := ⟨.type "tuple", none, .seq #[.str (Str.ofString "a") 252, .str (Str.ofString "b") 253] 0, #[]⟩
noncomputable def mw (P : Params) : Obj := ⟨.type "tuple", none, .seq #[] 0, #[]⟩
def mu (P : Params) : Obj := fB 10
noncomputable def mt (P : Params) : Obj := ⟨.type "code", none, .fields #[.str (Str.ofString "mul") 249, .str (Str.ofString "mul") 250, .str (Str.ofString "/claim/cut.py") 251, .int 56 0, .int 2 0, .int 0 0, .int 0 0, .int 3 0, .ref 50, .bool true, .int 181 0, .ref 51, .none, .ref 52, .ref 53, .ref 54, .int 254 0, .int 56 0, .str (Str.ofString "/claim/cut.py") 255], #[]⟩
def mq (P : Params) : Obj := fnO 10 (.str (Str.ofString "cpy313.operator") 223) (.ref 55)
noncomputable def mm (P : Params) : Obj := ⟨.type "tuple", none, .seq #[] 0, #[]⟩
noncomputable def mj (P : Params) : Obj := ⟨.none, none, .fields #[], #[]⟩
noncomputable def mf (P : Params) : Obj := ⟨.type "tuple", none, .seq #[.str (Str.ofString "a") 260, .str (Str.ofString "b") 261] 0, #[]⟩
noncomputable def l7 (P : Params) : Obj := ⟨.type "tuple", none, .seq #[] 0, #[]⟩
def l6 (P : Params) : Obj := fB 11
noncomputable def lZ (P : Params) : Obj := ⟨.type "code", none, .fields #[.str (Str.ofString "sub") 257, .str (Str.ofString "sub") 258, .str (Str.ofString "/claim/cut.py") 259, .int 58 0, .int 2 0, .int 0 0, .int 0 0, .int 3 0, .ref 57, .bool true, .int 181 0, .ref 58, .none, .ref 59, .ref 60, .ref 61, .int 262 0, .int 58 0, .str (Str.ofString "/claim/cut.py") 263], #[]⟩
def tz (P : Params) : Obj := fnO 11 (.str (Str.ofString "cpy313.operator") 223) (.ref 62)
noncomputable def tx (P : Params) : Obj := ⟨.type "tuple", none, .seq #[] 0, #[]⟩
noncomputable def tw (P : Params) : Obj := ⟨.none, none, .fields #[], #[]⟩
noncomputable def tv (P : Params) : Obj := ⟨.type "tuple", none, .seq #[.str (Str.ofString "a") 268, .str (Str.ofString "b") 269] 0, #[]⟩
noncomputable def tu (P : Params) : Obj := ⟨.type "tuple", none, .seq #[] 0, #[]⟩
def to (P : Params) : Obj := fB 12
noncomputable def tm (P : Params) : Obj := ⟨.type "code", none, .fields #[.str (Str.ofString "contains") 265, .str (Str.ofString "contains") 266, .str (Str.ofString "/claim/cut.py") 267, .int 60 0, .int 2 0, .int 0 0, .int 0 0, .int 3 0, .ref 64, .bool true, .int 181 0, .ref 65, .none, .ref 66, .ref 67, .ref 68, .int 270 0, .int 60 0, .str (Str.ofString "/claim/cut.py") 271], #[]⟩
def tj (P : Params) : Obj := fnO 12 (.str (Str.ofString "cpy313.operator") 223) (.ref 69)
def J0 : BT := nd (tz P) .nil .nil
def Lh : BT := nd (kS P) (J0 P) .nil
def JS : BT := nd (tu P) .nil .nil
def K9 : BT := nd (kO P) (JS P) .nil
def JW : BT := nd (tw P) .nil .nil
def Ld : BT := nd (kQ P) (JW P) .nil
def JM : BT := nd (tm P) .nil .nil
def K5 : BT := nd (kM P) (JM P) .nil
def J3 : BT := nd (l6 P) .nil .nil
def JY : BT := nd (tx P) .nil .nil
def Lf : BT := nd (kR P) (JY P) .nil
def JQ : BT := nd (to P) .nil .nil
def K7 : BT := nd (kN P) (JQ P) .nil
def J5 : BT := nd (l7 P) .nil .nil
def JU : BT := nd (tv P) .nil .nil
def Lb : BT := nd (kP P) (JU P) .nil
def JK : BT := nd (tj P) .nil .nil
def K3 : BT := nd (kL P) (JK P) .nil
def J1 : BT := nd (lZ P) .nil .nil
def Po : BT := nd (boot_o_0 P) (nd (boot_o_1 P) (nd (Pe P) (nd (boot_o_7 P) (nd (g6 P) (Lh P) (Kt P)) (nd (iy P) (K0 P) (nd (mt P) .nil .nil))) (nd (fy P) (nd (gX P) (K9 P) (nd (mz P) .nil .nil)) (nd (ir P) (KK P) (nd (mf P) .nil .nil)))) (nd (boot_o_5 P) (nd (boot_o_9 P) (nd (gZ P) (Ld P) (Kn P)) (nd (iw P) (KQ P) (nd (mm P) .nil .nil))) (nd (fR P) (nd (iA P) (K5 P) (nd (mw P) .nil .nil)) (nd (iq P) (KC P) (J3 P))))) (nd (boot_o_2 P) (nd (boot_o_4 P) (nd (boot_o_8 P) (nd (g0 P) (Lf P) (Kq P)) (nd (ix P) (KU P) (nd (mq P) .nil .nil))) (nd (Nr P) (nd (gW P) (K7 P) (nd (my P) .nil .nil)) (nd (gV P) (KH P) (J5 P)))) (nd (boot_o_6 P) (nd (boot_o_10 P) (nd (gY P) (Lb P) (nd (mA P) .nil .nil)) (nd (iu P) (KN P) (nd (mj P) .nil .nil))) (nd (bh P) (nd (iz P) (K3 P) (nd (mu P) .nil .nil)) (nd (bq P) (Kw P) (J1 P)))))
def S4 (w : World) (os : OsState) : SharedT := ⟨Po w.params, 71, {}, #[], boot_drawn, 273, os⟩
def Pd : Obj := ⟨.type "dict", none, .dict #[ent P (Str.ofString "__name__") 165 (.str (Str.ofString "cpy313.stringprep") 302), ent P (Str.ofString "__doc__") 166 (.none), ent P (Str.ofString "__package__") 167 (.none), ent P (Str.ofString "__loader__") 168 (.builtin "__main__.__loader__#opaque"), ent P (Str.ofString "__spec__") 169 (.none), ent P (Str.ofString "__annotations__") 170 (.ref 6), ent P (Str.ofString "__builtins__") 171 (.ref 4), ent P (Str.ofString "__file__") 173 (.str (Str.ofString "/claim/cut.py") 172), ent P (Str.ofString "__cached__") 174 (.none), ent P (Str.ofString "_MAX_STRING_SIZE") 190 (.int 40 189), ent P (Str.ofString "_MOVE_COST") 192 (.int 2 191), ent P (Str.ofString "_CASE_COST") 194 (.int 1 193), ent P (Str.ofString "_substitution_cost") 202 (.ref 21), ent P (Str.ofString "_levenshtein_distance") 222 (.ref 28), ent P (Str.ofString "eq") 232 (.ref 35), ent P (Str.ofString "ne") 240 (.ref 42), ent P (Str.ofString "floordiv") 248 (.ref 49), ent P (Str.ofString "mul") 256 (.ref 56), ent P (Str.ofString "sub") 264 (.ref 63), ent P (Str.ofString "contains") 272 (.ref 70), ent P (Str.ofString "countOf") 282 (.ref 77), ent P (Str.ofString "indexOf") 292 (.ref 84), ent P (Str.ofString "setitem") 301 (.ref 91)] 23, #[]⟩
noncomputable def IY (P : Params) : Obj := ⟨.none, none, .fields #[.int 5 0, .int 0 0, .ref 20, .int 11 0, .int 0 0, .ref 27, .int 50 0, .int 0 0, .ref 34, .int 52 0, .int 0 0, .ref 41, .int 54 0, .int 0 0, .ref 48, .int 56 0, .int 0 0, .ref 55, .int 58 0, .int 0 0, .ref 62, .int 60 0, .int 0 0, .ref 69, .int 62 0, .int 0 0, .ref 76, .int 68 0, .int 0 0, .ref 83, .int 74 0, .int 0 0, .ref 90], #[]⟩
noncomputable def ti (P : Params) : Obj := ⟨.type "tuple", none, .seq #[] 0, #[]⟩
noncomputable def th (P : Params) : Obj := ⟨.none, none, .fields #[], #[]⟩
noncomputable def tg (P : Params) : Obj := ⟨.type "tuple", none, .seq #[.str (Str.ofString "a") 276, .str (Str.ofString "b") 277, .str (Str.ofString "count") 278, .str (Str.ofString "i") 279] 0, #[]⟩
noncomputable def tf (P : Params) : Obj := ⟨.type "tuple", none, .seq #[] 0, #[]⟩
def te (P : Params) : Obj := fB 13
noncomputable def td (P : Params) : Obj := ⟨.type "code", none, .fields #[.str (Str.ofString "countOf") 273, .str (Str.ofString "countOf") 274, .str (Str.ofString "/claim/cut.py") 275, .int 62 0, .int 2 0, .int 0 0, .int 0 0, .int 3 0, .ref 71, .bool true, .int 181 0, .ref 72, .none, .ref 73, .ref 74, .ref 75, .int 280 0, .int 62 0, .str (Str.ofString "/claim/cut.py") 281], #[]⟩
def tc (P : Params) : Obj := fnO 13 (.str (Str.ofString "cpy313.operator") 223) (.ref 76)
noncomputable def sZ (P : Params) : Obj := ⟨.type "tuple", none, .seq #[] 0, #[]⟩
noncomputable def sY (P : Params) : Obj := ⟨.none, none, .fields #[], #[]⟩
noncomputable def sX (P : Params) : Obj := ⟨.type "tuple", none, .seq #[.str (Str.ofString "a") 286, .str (Str.ofString "b") 287, .str (Str.ofString "i") 288, .str (Str.ofString "j") 289] 0, #[]⟩
noncomputable def sV (P : Params) : Obj := ⟨.type "tuple", none, .seq #[] 0, #[]⟩
def sU (P : Params) : Obj := fB 14
noncomputable def sQ (P : Params) : Obj := ⟨.type "code", none, .fields #[.str (Str.ofString "indexOf") 283, .str (Str.ofString "indexOf") 284, .str (Str.ofString "/claim/cut.py") 285, .int 68 0, .int 2 0, .int 0 0, .int 0 0, .int 3 0, .ref 78, .bool true, .int 181 0, .ref 79, .none, .ref 80, .ref 81, .ref 82, .int 290 0, .int 68 0, .str (Str.ofString "/claim/cut.py") 291], #[]⟩
def sO (P : Params) : Obj := fnO 14 (.str (Str.ofString "cpy313.operator") 223) (.ref 83)
noncomputable def wN (P : Params) : Obj := ⟨.type "tuple", none, .seq #[] 0, #[]⟩
noncomputable def wM (P : Params) : Obj := ⟨.none, none, .fields #[], #[]⟩
noncomputable def wL (P : Params) : Obj := ⟨.type "tuple", none, .seq #[.str (Str.ofString "a") 296, .str (Str.ofString "b") 297, .str (Str.ofString "c") 298] 0, #[]⟩
noncomputable def wK (P : Params) : Obj := ⟨.type "tuple", none, .seq #[] 0, #[]⟩
def wJ (P : Params) : Obj := fB 15
noncomputable def wI (P : Params) : Obj := ⟨.type "code", none, .fields #[.str (Str.ofString "setitem") 293, .str (Str.ofString "setitem") 294, .str (Str.ofString "/claim/cut.py") 295, .int 74 0, .int 3 0, .int 0 0, .int 0 0, .int 3 0, .ref 85, .bool true, .int 181 0, .ref 86, .none, .ref 87, .ref 88, .ref 89, .int 299 0, .int 74 0, .str (Str.ofString "/claim/cut.py") 300], #[]⟩
def wH (P : Params) : Obj := fnO 15 (.str (Str.ofString "cpy313.operator") 223) (.ref 90)
def Js : BT := nd (sY P) .nil .nil
def Ks : BT := nd (kD P) (Js P) .nil
def JI : BT := nd (ti P) .nil .nil
def Df : BT := nd (wL P) .nil .nil
def Kc : BT := nd (mt P) (Df P) .nil
def Lv : BT := nd (iy P) (nd (kK P) (JI P) .nil) (Kc P)
def Jj : BT := nd (sQ P) .nil .nil
def Ki : BT := nd (mz P) (Jj P) .nil
def Jz : BT := nd (te P) .nil .nil
def C7 : BT := nd (wH P) .nil .nil
def J8 : BT := nd (mf P) (C7 P) .nil
def Ll : BT := nd (ir P) (nd (kG P) (Jz P) .nil) (J8 P)
def Jn : BT := nd (sV P) .nil .nil
def Km : BT := nd (kA P) (Jn P) .nil
def JD : BT := nd (tg P) .nil .nil
def Dd : BT := nd (wJ P) .nil .nil
def Ka : BT := nd (mm P) (Dd P) .nil
def Lp : BT := nd (iw P) (nd (kI P) (JD P) .nil) (Ka P)
def Dh : BT := nd (wN P) .nil .nil
def Ke : BT := nd (mw P) (Dh P) .nil
def Jv : BT := nd (tc P) .nil .nil
def KB : BT := nd (kE P) (Jv P) .nil
def Jp : BT := nd (sX P) .nil .nil
def Kp : BT := nd (kC P) (Jp P) .nil
def JF : BT := nd (th P) .nil .nil
def De : BT := nd (wK P) .nil .nil
def Kb : BT := nd (mq P) (De P) .nil
def Lr : BT := nd (ix P) (nd (kJ P) (JF P) .nil) (Kb P)
def Jh : BT := nd (sO P) .nil .nil
def Kg : BT := nd (my P) (Jh P) .nil
def Jx : BT := nd (td P) .nil .nil
def KG : BT := nd (kF P) (Jx P) .nil
def Jl : BT := nd (sU P) .nil .nil
def Kk : BT := nd (mA P) (Jl P) .nil
def JB : BT := nd (tf P) .nil .nil
def C8 : BT := nd (wI P) .nil .nil
def J9 : BT := nd (mj P) (C8 P) .nil
def Ln : BT := nd (iu P) (nd (kH P) (JB P) .nil) (J9 P)
def Dg : BT := nd (wM P) .nil .nil
def Kd : BT := nd (mu P) (Dg P) .nil
def cq : BT := nd (sZ P) .nil .nil
def Kv : BT := nd (bw P) (cq P) .nil
def Pn : BT := nd (boot_o_0 P) (nd (boot_o_1 P) (nd (Pd P) (nd (boot_o_7 P) (nd (g6 P) (Lh P) (Ks P)) (Lv P)) (nd (fy P) (nd (gX P) (K9 P) (Ki P)) (Ll P))) (nd (boot_o_5 P) (nd (boot_o_9 P) (nd (gZ P) (Ld P) (Km P)) (Lp P)) (nd (fR P) (nd (iA P) (K5 P) (Ke P)) (nd (iq P) (KB P) (J3 P))))) (nd (boot_o_2 P) (nd (boot_o_4 P) (nd (boot_o_8 P) (nd (g0 P) (Lf P) (Kp P)) (Lr P)) (nd (IY P) (nd (gW P) (K7 P) (Kg P)) (nd (gV P) (KG P) (J5 P)))) (nd (boot_o_6 P) (nd (boot_o_10 P) (nd (gY P) (Lb P) (Kk P)) (Ln P)) (nd (bh P) (nd (iz P) (K3 P) (Kd P)) (nd (bq P) (Kv P) (J1 P)))))
def S5 (w : World) (os : OsState) : SharedT := ⟨Pn w.params, 92, {}, #[], boot_drawn, 304, os⟩
def Pc : Obj := ⟨.type "dict", none, .dict #[ent P (Str.ofString "__name__") 165 (.str (Str.ofString "cpy313.stringprep") 302), ent P (Str.ofString "__doc__") 166 (.none), ent P (Str.ofString "__package__") 167 (.none), ent P (Str.ofString "__loader__") 168 (.builtin "__main__.__loader__#opaque"), ent P (Str.ofString "__spec__") 169 (.none), ent P (Str.ofString "__annotations__") 170 (.ref 6), ent P (Str.ofString "__builtins__") 171 (.ref 4), ent P (Str.ofString "__file__") 173 (.str (Str.ofString "/claim/cut.py") 172), ent P (Str.ofString "__cached__") 174 (.none), ent P (Str.ofString "_MAX_STRING_SIZE") 190 (.int 40 189), ent P (Str.ofString "_MOVE_COST") 192 (.int 2 191), ent P (Str.ofString "_CASE_COST") 194 (.int 1 193), ent P (Str.ofString "_substitution_cost") 202 (.ref 21), ent P (Str.ofString "_levenshtein_distance") 222 (.ref 28), ent P (Str.ofString "eq") 232 (.ref 35), ent P (Str.ofString "ne") 240 (.ref 42), ent P (Str.ofString "floordiv") 248 (.ref 49), ent P (Str.ofString "mul") 256 (.ref 56), ent P (Str.ofString "sub") 264 (.ref 63), ent P (Str.ofString "contains") 272 (.ref 70), ent P (Str.ofString "countOf") 282 (.ref 77), ent P (Str.ofString "indexOf") 292 (.ref 84), ent P (Str.ofString "setitem") 301 (.ref 91), ent P (Str.ofString "b1_set") 363 (.ref 99)] 24, #[]⟩
noncomputable def wG (P : Params) : Obj := ⟨.type "list", none, .seq #[.int 173 304, .int 847 305, .int 6150 306, .int 6155 307, .int 6156 308, .int 6157 309, .int 8203 310, .int 8204 311, .int 8205 312, .int 8288 313, .int 65279 314] 0, #[]⟩
noncomputable def wF (P : Params) : Obj := ⟨.type "range", none, .fields #[.int 65024 315, .int 65040 316, .int 1 317], #[]⟩
noncomputable def wE (P : Params) : Obj := ⟨.type "list", none, .seq #[.int 65024 320, .int 65025 321, .int 65026 322, .int 65027 323, .int 65028 324, .int 65029 325, .int 65030 326, .int 65031 327, .int 65032 328, .int 65033 329, .int 65034 330, .int 65035 331, .int 65036 332, .int 65037 333, .int 65038 334, .int 65039 335] 18, #[]⟩
noncomputable def wD (P : Params) : Obj := ⟨.type "range_iterator", none, .fields #[.int 65040 0, .int 0 0, .int 1 0], #[]⟩
noncomputable def wC (P : Params) : Obj := ⟨.type "tuple", none, .seq #[] 0, #[]⟩
noncomputable def wB (P : Params) : Obj := ⟨.type "StopIteration", none, .fields #[.ref 96, .none, .none, .none, .bool false, .none], #[]⟩
noncomputable def wA (P : Params) : Obj := ⟨.type "list", none, .seq #[.int 173 304, .int 847 305, .int 6150 306, .int 6155 307, .int 6156 308, .int 6157 309, .int 8203 310, .int 8204 311, .int 8205 312, .int 8288 313, .int 65279 314, .int 65024 320, .int 65025 321, .int 65026 322, .int 65027 323, .int 65028 324, .int 65029 325, .int 65030 326, .int 65031 327, .int 65032 328, .int 65033 329, .int 65034 330, .int 65035 331, .int 65036 332, .int 65037 333, .int 65038 334, .int 65039 335] 0, #[]⟩
noncomputable def wz : Obj := ⟨.type "set", none, .set #[(65024, .int 65024 320), (65025, .int 65025 321), (65026, .int 65026 322), (65027, .int 65027 323), (65028, .int 65028 324), (65029, .int 65029 325), (6150, .int 6150 306), (65030, .int 65030 326), (65031, .int 65031 327), (65032, .int 65032 328), (65033, .int 65033 329), (6155, .int 6155 307), (6156, .int 6156 308), (6157, .int 6157 309), (8203, .int 8203 310), (8204, .int 8204 311), (8205, .int 8205 312), (65034, .int 65034 330), (65035, .int 65035 331), (65036, .int 65036 332), (65037, .int 65037 333), (65038, .int 65038 334), (65039, .int 65039 335), (173, .int 173 304), (847, .int 847 305), (8288, .int 8288 313), (65279, .int 65279 314)] 29 ⟨127, #[0, 1, 2, 3, 4, 5, 6, 7, 8, 9, 10, 11, 12, 13, 14, 15, 16, 17, 18, 19, 20, 21, 22, 45, 79, 96, 127], #[], 0, !P.followText "set-order", 2, true⟩, #[]⟩
noncomputable def qc (P : Params) : Obj := ⟨.type "list_iterator", none, .fields #[.none, .int 27 0], #[]⟩
noncomputable def qa (P : Params) : Obj := ⟨.type "tuple", none, .seq #[] 0, #[]⟩
noncomputable def p9 (P : Params) : Obj := ⟨.type "StopIteration", none, .fields #[.ref 101, .none, .none, .none, .bool false, .none], #[]⟩
def C3 : BT := nd (wD P) .nil .nil
def Lg : BT := nd (kS P) (J0 P) (C3 P)
def LJ : BT := nd (g6 P) (Lg P) (Ks P)
def CZ : BT := nd (wz P) .nil .nil
def K8 : BT := nd (kO P) (JS P) (CZ P)
def LD : BT := nd (gX P) (K8 P) (Ki P)
def C1 : BT := nd (wB P) .nil .nil
def Lc : BT := nd (kQ P) (JW P) (C1 P)
def LH : BT := nd (gZ P) (Lc P) (Km P)
def vr : BT := nd (qa P) .nil .nil
def K4 : BT := nd (kM P) (JM P) (vr P)
def Lx : BT := nd (iA P) (K4 P) (Ke P)
def C5 : BT := nd (wF P) .nil .nil
def J2 : BT := nd (l6 P) (C5 P) .nil
def C2 : BT := nd (wC P) .nil .nil
def Le : BT := nd (kR P) (JY P) (C2 P)
def LI : BT := nd (g0 P) (Le P) (Kp P)
def vt : BT := nd (qc P) .nil .nil
def K6 : BT := nd (kN P) (JQ P) (vt P)
def Ly : BT := nd (gW P) (K6 P) (Kg P)
def C6 : BT := nd (wG P) .nil .nil
def J4 : BT := nd (l7 P) (C6 P) .nil
def C0 : BT := nd (wA P) .nil .nil
def La : BT := nd (kP P) (JU P) (C0 P)
def LE : BT := nd (gY P) (La P) (Kk P)
def vq : BT := nd (p9 P) .nil .nil
def K2 : BT := nd (kL P) (JK P) (vq P)
def kU : BT := nd (iz P) (K2 P) (Kd P)
def C4 : BT := nd (wE P) .nil .nil
def fS : BT := nd (lZ P) (C4 P) .nil
def LK : BT := nd (bh P) (kU P) (nd (bq P) (Kv P) (fS P))
def Pm : BT := nd (boot_o_0 P) (nd (boot_o_1 P) (nd (Pc P) (nd (boot_o_7 P) (LJ P) (Lv P)) (nd (fy P) (LD P) (Ll P))) (nd (boot_o_5 P) (nd (boot_o_9 P) (LH P) (Lp P)) (nd (fR P) (Lx P) (nd (iq P) (KB P) (J2 P))))) (nd (boot_o_2 P) (nd (boot_o_4 P) (nd (boot_o_8 P) (LI P) (Lr P)) (nd (IY P) (Ly P) (nd (gV P) (KG P) (J4 P)))) (nd (boot_o_6 P) (nd (boot_o_10 P) (LE P) (Ln P)) (LK P)))
def S6 (w : World) (os : OsState) : SharedT := ⟨Pm w.params, 103, {}, #[], boot_drawn, 364, os⟩
def nq : Obj := ⟨.type "dict", none, .dict #[ent P (Str.ofString "__name__") 165 (.str (Str.ofString "cpy313.stringprep") 302), ent P (Str.ofString "__doc__") 166 (.none), ent P (Str.ofString "__package__") 167 (.none), ent P (Str.ofString "__loader__") 168 (.builtin "__main__.__loader__#opaque"), ent P (Str.ofString "__spec__") 169 (.none), ent P (Str.ofString "__annotations__") 170 (.ref 6), ent P (Str.ofString "__builtins__") 171 (.ref 4), ent P (Str.ofString "__file__") 173 (.str (Str.ofString "/claim/cut.py") 172), ent P (Str.ofString "__cached__") 174 (.none), ent P (Str.ofString "_MAX_STRING_SIZE") 190 (.int 40 189), ent P (Str.ofString "_MOVE_COST") 192 (.int 2 191), ent P (Str.ofString "_CASE_COST") 194 (.int 1 193), ent P (Str.ofString "_substitution_cost") 202 (.ref 21), ent P (Str.ofString "_levenshtein_distance") 222 (.ref 28), ent P (Str.ofString "eq") 232 (.ref 35), ent P (Str.ofString "ne") 240 (.ref 42), ent P (Str.ofString "floordiv") 248 (.ref 49), ent P (Str.ofString "mul") 256 (.ref 56), ent P (Str.ofString "sub") 264 (.ref 63), ent P (Str.ofString "contains") 272 (.ref 70), ent P (Str.ofString "countOf") 282 (.ref 77), ent P (Str.ofString "indexOf") 292 (.ref 84), ent P (Str.ofString "setitem") 301 (.ref 91), ent P (Str.ofString "b1_set") 363 (.ref 99), ent P (Str.ofString "in_table_b1") 370 (.ref 109)] 25, #[]⟩
noncomputable def nt (P : Params) : Obj := ⟨.none, none, .fields #[.int 5 0, .int 0 0, .ref 20, .int 11 0, .int 0 0, .ref 27, .int 50 0, .int 0 0, .ref 34, .int 52 0, .int 0 0, .ref 41, .int 54 0, .int 0 0, .ref 48, .int 56 0, .int 0 0, .ref 55, .int 58 0, .int 0 0, .ref 62, .int 60 0, .int 0 0, .ref 69, .int 62 0, .int 0 0, .ref 76, .int 68 0, .int 0 0, .ref 83, .int 74 0, .int 0 0, .ref 90, .int 78 0, .int 0 0, .ref 108], #[]⟩
noncomputable def p8 (P : Params) : Obj := ⟨.type "tuple", none, .seq #[] 0, #[]⟩
noncomputable def p7 (P : Params) : Obj := ⟨.none, none, .fields #[], #[]⟩
noncomputable def p6 (P : Params) : Obj := ⟨.type "tuple", none, .seq #[.str (Str.ofString "code") 367] 0, #[]⟩
noncomputable def pZ (P : Params) : Obj := ⟨.type "tuple", none, .seq #[] 0, #[]⟩
def pY (P : Params) : Obj := fB 18
noncomputable def pX (P : Params) : Obj := ⟨.type "code", none, .fields #[.str (Str.ofString "in_table_b1") 364, .str (Str.ofString "in_table_b1") 365, .str (Str.ofString "/claim/cut.py") 366, .int 78 0, .int 1 0, .int 0 0, .int 0 0, .int 3 0, .ref 103, .bool true, .int 181 0, .ref 104, .none, .ref 105, .ref 106, .ref 107, .int 368 0, .int 78 0, .str (Str.ofString "/claim/cut.py") 369], #[]⟩
def pW (P : Params) : Obj := fnO 18 (.str (Str.ofString "cpy313.stringprep") 302) (.ref 108)
def vp : BT := nd (p8 P) .nil .nil
def KZ : BT := nd (kK P) (JI P) (vp P)
def Lu : BT := nd (iy P) (KZ P) (Kc P)
def vj : BT := nd (pY P) .nil .nil
def KJ : BT := nd (kG P) (Jz P) (vj P)
def Lk : BT := nd (ir P) (KJ P) (J8 P)
def LP : BT := nd (fy P) (LD P) (Lk P)
def vm : BT := nd (p6 P) .nil .nil
def KP : BT := nd (kI P) (JD P) (vm P)
def Lo : BT := nd (iw P) (KP P) (Ka P)
def vg : BT := nd (pW P) .nil .nil
def Ky : BT := nd (kE P) (Jv P) (vg P)
def Li : BT := nd (iq P) (Ky P) (J2 P)
def LL : BT := nd (fR P) (Lx P) (Li P)
def Ny : BT := nd (boot_o_5 P) (nd (boot_o_9 P) (LH P) (Lo P)) (LL P)
def NB : BT := nd (boot_o_1 P) (nd (nq P) (nd (boot_o_7 P) (LJ P) (Lu P)) (LP P)) (Ny P)
def vn : BT := nd (p7 P) .nil .nil
def KT : BT := nd (kJ P) (JF P) (vn P)
def Lq : BT := nd (ix P) (KT P) (Kb P)
def vh : BT := nd (pX P) .nil .nil
def KE : BT := nd (kF P) (Jx P) (vh P)
def Lj : BT := nd (gV P) (KE P) (J4 P)
def LN : BT := nd (nt P) (Ly P) (Lj P)
def Mz : BT := nd (boot_o_4 P) (nd (boot_o_8 P) (LI P) (Lq P)) (LN P)
def vk : BT := nd (pZ P) .nil .nil
def KM : BT := nd (kH P) (JB P) (vk P)
def Lm : BT := nd (iu P) (KM P) (J9 P)
def tB : BT := nd (boot_o_10 P) (LE P) (Lm P)
def Pl : BT := nd (boot_o_0 P) (NB P) (nd (boot_o_2 P) (Mz P) (nd (boot_o_6 P) (tB P) (LK P)))
def S7 (w : World) (os : OsState) : SharedT := ⟨Pl w.params, 110, {}, #[], boot_drawn, 371, os⟩
def Pb : Obj := ⟨.type "dict", none, .dict #[ent P (Str.ofString "__name__") 165 (.str (Str.ofString "cpy313.stringprep") 302), ent P (Str.ofString "__doc__") 166 (.none), ent P (Str.ofString "__package__") 167 (.none), ent P (Str.ofString "__loader__") 168 (.builtin "__main__.__loader__#opaque"), ent P (Str.ofString "__spec__") 169 (.none), ent P (Str.ofString "__annotations__") 170 (.ref 6), ent P (Str.ofString "__builtins__") 171 (.ref 4), ent P (Str.ofString "__file__") 173 (.str (Str.ofString "/claim/cut.py") 172), ent P (Str.ofString "__cached__") 174 (.none), ent P (Str.ofString "_MAX_STRING_SIZE") 190 (.int 40 189), ent P (Str.ofString "_MOVE_COST") 192 (.int 2 191), ent P (Str.ofString "_CASE_COST") 194 (.int 1 193), ent P (Str.ofString "_substitution_cost") 202 (.ref 21), ent P (Str.ofString "_levenshtein_distance") 222 (.ref 28), ent P (Str.ofString "eq") 232 (.ref 35), ent P (Str.ofString "ne") 240 (.ref 42), ent P (Str.ofString "floordiv") 248 (.ref 49), ent P (Str.ofString "mul") 256 (.ref 56), ent P (Str.ofString "sub") 264 (.ref 63), ent P (Str.ofString "contains") 272 (.ref 70), ent P (Str.ofString "countOf") 282 (.ref 77), ent P (Str.ofString "indexOf") 292 (.ref 84), ent P (Str.ofString "setitem") 301 (.ref 91), ent P (Str.ofString "b1_set") 363 (.ref 99), ent P (Str.ofString "in_table_b1") 370 (.ref 109), ent P (Str.ofString "b3_exceptions") 2321 (.ref 110)] 26, #[]⟩
def pV (P : Params) : Obj := dmO 39
def pU (P : Params) : Obj := dsO 1
def pT (P : Params) : Obj := dsO 2
def pS (P : Params) : Obj := dsO 3
def vc (P : Params) : Obj := dsO 4
def u9 (P : Params) : Obj := dsO 5
def u8 (P : Params) : Obj := dsO 6
def u5 (P : Params) : Obj := dsO 7
def u4 (P : Params) : Obj := dsO 8
def u3 (P : Params) : Obj := dsO 9
def uZ (P : Params) : Obj := dsO 10
def uY (P : Params) : Obj := dsO 11
def uX (P : Params) : Obj := dsO 12
def uW (P : Params) : Obj := dsO 13
def uV (P : Params) : Obj := dsO 14
def uU (P : Params) : Obj := dsO 15
def uT (P : Params) : Obj := dsO 16
def CS (P : Params) : Obj := dsO 17
def CR (P : Params) : Obj := dsO 18
def CQ (P : Params) : Obj := dsO 19
def CN (P : Params) : Obj := dsO 20
def CL (P : Params) : Obj := dsO 21
def CK (P : Params) : Obj := dsO 22
def CJ (P : Params) : Obj := dsO 23
def CI (P : Params) : Obj := dsO 24
def CH (P : Params) : Obj := dsO 25
def CG (P : Params) : Obj := dsO 26
def CF (P : Params) : Obj := dsO 27
def CE (P : Params) : Obj := dsO 28
def CD (P : Params) : Obj := dsO 29
def CC (P : Params) : Obj := dsO 30
def CB (P : Params) : Obj := dsO 31
def CA (P : Params) : Obj := dsO 32
def Cz (P : Params) : Obj := dsO 33
def Cy (P : Params) : Obj := dsO 34
def Cx (P : Params) : Obj := dsO 35
def Cw (P : Params) : Obj := dsO 36
def Cv (P : Params) : Obj := dsO 37
def Cu (P : Params) : Obj := dsO 38
def Fu : BT := nd (CS P) .nil .nil
def JZ : BT := nd (tz P) (Fu P) .nil
def Fb : BT := nd (Cz P) .nil .nil
def Jr : BT := nd (sY P) (Fb P) .nil
def Kr : BT := nd (kD P) (Jr P) (nd (pU P) .nil .nil)
def Fk : BT := nd (CH P) .nil .nil
def JH : BT := nd (ti P) (Fk P) .nil
def FF : BT := nd (u3 P) .nil .nil
def Fo : BT := nd (CL P) .nil .nil
def JR : BT := nd (tu P) (Fo P) .nil
def E7 : BT := nd (Cv P) .nil .nil
def Ji : BT := nd (sQ P) (E7 P) .nil
def Kh : BT := nd (mz P) (Ji P) (nd (u9 P) .nil .nil)
def Fg : BT := nd (CD P) .nil .nil
def Jy : BT := nd (te P) (Fg P) .nil
def KI : BT := nd (kG P) (Jy P) (vj P)
def Fy : BT := nd (uW P) .nil .nil
def Fs : BT := nd (CQ P) .nil .nil
def JV : BT := nd (tw P) (Fs P) .nil
def E9 : BT := nd (Cx P) .nil .nil
def Jm : BT := nd (sV P) (E9 P) .nil
def Kl : BT := nd (kA P) (Jm P) (nd (pS P) .nil .nil)
def Fi : BT := nd (CF P) .nil .nil
def JC : BT := nd (tg P) (Fi P) .nil
def FA : BT := nd (uY P) .nil .nil
def Fm : BT := nd (CJ P) .nil .nil
def JL : BT := nd (tm P) (Fm P) .nil
def FH : BT := nd (u5 P) .nil .nil
def Fd : BT := nd (CB P) .nil .nil
def Ju : BT := nd (tc P) (Fd P) .nil
def Kx : BT := nd (kE P) (Ju P) (vg P)
def Fw : BT := nd (uU P) .nil .nil
def Ft : BT := nd (CR P) .nil .nil
def JX : BT := nd (tx P) (Ft P) .nil
def Fa : BT := nd (Cy P) .nil .nil
def Jo : BT := nd (sX P) (Fa P) .nil
def Ko : BT := nd (kC P) (Jo P) (nd (pT P) .nil .nil)
def Fj : BT := nd (CG P) .nil .nil
def JE : BT := nd (th P) (Fj P) .nil
def FB : BT := nd (uZ P) .nil .nil
def Fn : BT := nd (CK P) .nil .nil
def JO : BT := nd (to P) (Fn P) .nil
def E6 : BT := nd (Cu P) .nil .nil
def Jg : BT := nd (sO P) (E6 P) .nil
def Kf : BT := nd (my P) (Jg P) (nd (u8 P) .nil .nil)
def Fe : BT := nd (CC P) .nil .nil
def Jw : BT := nd (td P) (Fe P) .nil
def KD : BT := nd (kF P) (Jw P) (vh P)
def Fx : BT := nd (uV P) .nil .nil
def Fp : BT := nd (CN P) .nil .nil
def JT : BT := nd (tv P) (Fp P) .nil
def E8 : BT := nd (Cw P) .nil .nil
def Jk : BT := nd (sU P) (E8 P) .nil
def Kj : BT := nd (mA P) (Jk P) (nd (vc P) .nil .nil)
def Fh : BT := nd (CE P) .nil .nil
def JA : BT := nd (tf P) (Fh P) .nil
def KL : BT := nd (kH P) (JA P) (vk P)
def Fz : BT := nd (uX P) .nil .nil
def Fl : BT := nd (CI P) .nil .nil
def JJ : BT := nd (tj P) (Fl P) .nil
def FG : BT := nd (u4 P) .nil .nil
def Fc : BT := nd (CA P) .nil .nil
def Jt : BT := nd (sZ P) (Fc P) .nil
def Ku : BT := nd (bw P) (Jt P) (nd (pV P) .nil .nil)
def Fv : BT := nd (uT P) .nil .nil
def Pj : BT := nd (boot_o_0 P) (nd (boot_o_1 P) (nd (Pb P) (nd (boot_o_7 P) (nd (g6 P) (nd (kS P) (JZ P) (C3 P)) (Kr P)) (nd (iy P) (nd (kK P) (JH P) (vp P)) (nd (mt P) (Df P) (FF P)))) (nd (fy P) (nd (gX P) (nd (kO P) (JR P) (CZ P)) (Kh P)) (nd (ir P) (KI P) (nd (mf P) (C7 P) (Fy P))))) (nd (boot_o_5 P) (nd (boot_o_9 P) (nd (gZ P) (nd (kQ P) (JV P) (C1 P)) (Kl P)) (nd (iw P) (nd (kI P) (JC P) (vm P)) (nd (mm P) (Dd P) (FA P)))) (nd (fR P) (nd (iA P) (nd (kM P) (JL P) (vr P)) (nd (mw P) (Dh P) (FH P))) (nd (iq P) (Kx P) (nd (l6 P) (C5 P) (Fw P)))))) (nd (boot_o_2 P) (nd (boot_o_4 P) (nd (boot_o_8 P) (nd (g0 P) (nd (kR P) (JX P) (C2 P)) (Ko P)) (nd (ix P) (nd (kJ P) (JE P) (vn P)) (nd (mq P) (De P) (FB P)))) (nd (nt P) (nd (gW P) (nd (kN P) (JO P) (vt P)) (Kf P)) (nd (gV P) (KD P) (nd (l7 P) (C6 P) (Fx P))))) (nd (boot_o_6 P) (nd (boot_o_10 P) (nd (gY P) (nd (kP P) (JT P) (C0 P)) (Kj P)) (nd (iu P) (KL P) (nd (mj P) (C8 P) (Fz P)))) (nd (bh P) (nd (iz P) (nd (kL P) (JJ P) (vq P)) (nd (mu P) (Dg P) (FG P))) (nd (bq P) (Ku P) (nd (lZ P) (C4 P) (Fv P))))))
def S8 (w : World) (os : OsState) : SharedT := ⟨Pj w.params, 149, {}, #[], boot_drawn, 2322, os⟩
def Pa : Obj := ⟨.type "dict", none, .dict #[ent P (Str.ofString "__name__") 165 (.str (Str.ofString "cpy313.xml.etree.ElementTree") 2330), ent P (Str.ofString "__doc__") 166 (.none), ent P (Str.ofString "__package__") 167 (.none), ent P (Str.ofString "__loader__") 168 (.builtin "__main__.__loader__#opaque"), ent P (Str.ofString "__spec__") 169 (.none), ent P (Str.ofString "__annotations__") 170 (.ref 6), ent P (Str.ofString "__builtins__") 171 (.ref 4), ent P (Str.ofString "__file__") 173 (.str (Str.ofString "/claim/cut.py") 172), ent P (Str.ofString "__cached__") 174 (.none), ent P (Str.ofString "_MAX_STRING_SIZE") 190 (.int 40 189), ent P (Str.ofString "_MOVE_COST") 192 (.int 2 191), ent P (Str.ofString "_CASE_COST") 194 (.int 1 193), ent P (Str.ofString "_substitution_cost") 202 (.ref 21), ent P (Str.ofString "_levenshtein_distance") 222 (.ref 28), ent P (Str.ofString "eq") 232 (.ref 35), ent P (Str.ofString "ne") 240 (.ref 42), ent P (Str.ofString "floordiv") 248 (.ref 49), ent P (Str.ofString "mul") 256 (.ref 56), ent P (Str.ofString "sub") 264 (.ref 63), ent P (Str.ofString "contains") 272 (.ref 70), ent P (Str.ofString "countOf") 282 (.ref 77), ent P (Str.ofString "indexOf") 292 (.ref 84), ent P (Str.ofString "setitem") 301 (.ref 91), ent P (Str.ofString "b1_set") 363 (.ref 99), ent P (Str.ofString "in_table_b1") 370 (.ref 109), ent P (Str.ofString "b3_exceptions") 2321 (.ref 110), ent P (Str.ofString "map_table_b3") 2329 (.ref 155), ent P (Str.ofString "_raise_serialization_error") 2338 (.ref 162), ent P (Str.ofString "_escape_cdata") 2345 (.ref 169)] 29, #[]⟩
noncomputable def Nq (P : Params) : Obj := ⟨.none, none, .fields #[.int 5 0, .int 0 0, .ref 20, .int 11 0, .int 0 0, .ref 27, .int 50 0, .int 0 0, .ref 34, .int 52 0, .int 0 0, .ref 41, .int 54 0, .int 0 0, .ref 48, .int 56 0, .int 0 0, .ref 55, .int 58 0, .int 0 0, .ref 62, .int 60 0, .int 0 0, .ref 69, .int 62 0, .int 0 0, .ref 76, .int 68 0, .int 0 0, .ref 83, .int 74 0, .int 0 0, .ref 90, .int 78 0, .int 0 0, .ref 108, .int 81 0, .int 0 0, .ref 154, .int 87 0, .int 0 0, .ref 161, .int 89 0, .int 0 0, .ref 168], #[]⟩
noncomputable def Ct (P : Params) : Obj := ⟨.type "tuple", none, .seq #[] 0, #[]⟩
noncomputable def Cs (P : Params) : Obj := ⟨.none, none, .fields #[], #[]⟩
noncomputable def Cr (P : Params) : Obj := ⟨.type "tuple", none, .seq #[.str (Str.ofString "code") 2325, .str (Str.ofString "r") 2326] 0, #[]⟩
noncomputable def Cq (P : Params) : Obj := ⟨.type "tuple", none, .seq #[] 0, #[]⟩
def Cp (P : Params) : Obj := fB 20
noncomputable def Co (P : Params) : Obj := ⟨.type "code", none, .fields #[.str (Str.ofString "map_table_b3") 2322, .str (Str.ofString "map_table_b3") 2323, .str (Str.ofString "/claim/cut.py") 2324, .int 81 0, .int 1 0, .int 0 0, .int 0 0, .int 3 0, .ref 149, .bool true, .int 181 0, .ref 150, .none, .ref 151, .ref 152, .ref 153, .int 2327 0, .int 81 0, .str (Str.ofString "/claim/cut.py") 2328], #[]⟩
def Cn (P : Params) : Obj := fnO 20 (.str (Str.ofString "cpy313.stringprep") 302) (.ref 154)
noncomputable def Cm (P : Params) : Obj := ⟨.type "tuple", none, .seq #[] 0, #[]⟩
noncomputable def Cl (P : Params) : Obj := ⟨.none, none, .fields #[], #[]⟩
noncomputable def Ck (P : Params) : Obj := ⟨.type "tuple", none, .seq #[.str (Str.ofString "text") 2335] 0, #[]⟩
noncomputable def Cj (P : Params) : Obj := ⟨.type "tuple", none, .seq #[] 0, #[]⟩
def Ci (P : Params) : Obj := fB 22
noncomputable def Ch (P : Params) : Obj := ⟨.type "code", none, .fields #[.str (Str.ofString "_raise_serialization_error") 2332, .str (Str.ofString "_raise_serialization_error") 2333, .str (Str.ofString "/claim/cut.py") 2334, .int 87 0, .int 1 0, .int 0 0, .int 0 0, .int 3 0, .ref 156, .bool true, .int 181 0, .ref 157, .none, .ref 158, .ref 159, .ref 160, .int 2336 0, .int 87 0, .str (Str.ofString "/claim/cut.py") 2337], #[]⟩
def Cg (P : Params) : Obj := fnO 22 (.str (Str.ofString "cpy313.xml.etree.ElementTree") 2330) (.ref 161)
noncomputable def Cf (P : Params) : Obj := ⟨.type "tuple", none, .seq #[] 0, #[]⟩
noncomputable def Ce (P : Params) : Obj := ⟨.none, none, .fields #[], #[]⟩
noncomputable def Cd (P : Params) : Obj := ⟨.type "tuple", none, .seq #[.str (Str.ofString "text") 2342] 0, #[]⟩
noncomputable def Cc (P : Params) : Obj := ⟨.type "tuple", none, .seq #[] 0, #[]⟩
def Cb (P : Params) : Obj := fB 23
noncomputable def Ca (P : Params) : Obj := ⟨.type "code", none, .fields #[.str (Str.ofString "_escape_cdata") 2339, .str (Str.ofString "_escape_cdata") 2340, .str (Str.ofString "/claim/cut.py") 2341, .int 89 0, .int 1 0, .int 0 0, .int 0 0, .int 3 0, .ref 163, .bool true, .int 181 0, .ref 164, .none, .ref 165, .ref 166, .ref 167, .int 2343 0, .int 89 0, .str (Str.ofString "/claim/cut.py") 2344], #[]⟩
def B9 (P : Params) : Obj := fnO 23 (.str (Str.ofString "cpy313.xml.etree.ElementTree") 2330) (.ref 168)
def EV : BT := nd (Cj P) .nil .nil
def I4 : BT := nd (wD P) (EV P) .nil
def EK : BT := nd (Cb P) .nil .nil
def FK : BT := nd (p8 P) (EK P) .nil
def KY : BT := nd (kK P) (JH P) (FK P)
def E3 : BT := nd (Cr P) .nil .nil
def Jd : BT := nd (wL P) (E3 P) .nil
def EQ : BT := nd (Cf P) .nil .nil
def I0 : BT := nd (wz P) (EQ P) .nil
def EZ : BT := nd (Cn P) .nil .nil
def I8 : BT := nd (wH P) (EZ P) .nil
def ES : BT := nd (Ch P) .nil .nil
def I2 : BT := nd (wB P) (ES P) .nil
def EI : BT := nd (B9 P) .nil .nil
def FI : BT := nd (p6 P) (EI P) .nil
def KO : BT := nd (kI P) (JC P) (FI P)
def E1 : BT := nd (Cp P) .nil .nil
def Jb : BT := nd (wJ P) (E1 P) .nil
def EN : BT := nd (Cd P) .nil .nil
def FN : BT := nd (qa P) (EN P) .nil
def E5 : BT := nd (Ct P) .nil .nil
def Jf : BT := nd (wN P) (E5 P) .nil
def EX : BT := nd (Cl P) .nil .nil
def I6 : BT := nd (wF P) (EX P) .nil
def ET : BT := nd (Ci P) .nil .nil
def I3 : BT := nd (wC P) (ET P) .nil
def EJ : BT := nd (Ca P) .nil .nil
def FJ : BT := nd (p7 P) (EJ P) .nil
def KR : BT := nd (kJ P) (JE P) (FJ P)
def E2 : BT := nd (Cq P) .nil .nil
def Jc : BT := nd (wK P) (E2 P) .nil
def EP : BT := nd (Ce P) .nil .nil
def FP : BT := nd (qc P) (EP P) .nil
def EY : BT := nd (Cm P) .nil .nil
def I7 : BT := nd (wG P) (EY P) .nil
def ER : BT := nd (Cg P) .nil .nil
def I1 : BT := nd (wA P) (ER P) .nil
def E0 : BT := nd (Co P) .nil .nil
def I9 : BT := nd (wI P) (E0 P) .nil
def EL : BT := nd (Cc P) .nil .nil
def FL : BT := nd (p9 P) (EL P) .nil
def K1 : BT := nd (kL P) (JJ P) (FL P)
def E4 : BT := nd (Cs P) .nil .nil
def Je : BT := nd (wM P) (E4 P) .nil
def EW : BT := nd (Ck P) .nil .nil
def I5 : BT := nd (wE P) (EW P) .nil
def Pi : BT := nd (boot_o_0 P) (nd (boot_o_1 P) (nd (Pa P) (nd (boot_o_7 P) (nd (g6 P) (nd (kS P) (JZ P) (I4 P)) (Kr P)) (nd (iy P) (KY P) (nd (mt P) (Jd P) (FF P)))) (nd (fy P) (nd (gX P) (nd (kO P) (JR P) (I0 P)) (Kh P)) (nd (ir P) (KI P) (nd (mf P) (I8 P) (Fy P))))) (nd (boot_o_5 P) (nd (boot_o_9 P) (nd (gZ P) (nd (kQ P) (JV P) (I2 P)) (Kl P)) (nd (iw P) (KO P) (nd (mm P) (Jb P) (FA P)))) (nd (fR P) (nd (iA P) (nd (kM P) (JL P) (FN P)) (nd (mw P) (Jf P) (FH P))) (nd (iq P) (Kx P) (nd (l6 P) (I6 P) (Fw P)))))) (nd (boot_o_2 P) (nd (boot_o_4 P) (nd (boot_o_8 P) (nd (g0 P) (nd (kR P) (JX P) (I3 P)) (Ko P)) (nd (ix P) (KR P) (nd (mq P) (Jc P) (FB P)))) (nd (Nq P) (nd (gW P) (nd (kN P) (JO P) (FP P)) (Kf P)) (nd (gV P) (KD P) (nd (l7 P) (I7 P) (Fx P))))) (nd (boot_o_6 P) (nd (boot_o_10 P) (nd (gY P) (nd (kP P) (JT P) (I1 P)) (Kj P)) (nd (iu P) (KL P) (nd (mj P) (I9 P) (Fz P)))) (nd (bh P) (nd (iz P) (K1 P) (nd (mu P) (Je P) (FG P))) (nd (bq P) (Ku P) (nd (lZ P) (I5 P) (Fv P))))))
def S9 (w : World) (os : OsState) : SharedT := ⟨Pi w.params, 170, {}, #[], boot_drawn, 2346, os⟩
def Np : Obj := ⟨.type "dict", none, .dict #[ent P (Str.ofString "__name__") 165 (.str (Str.ofString "cpy313.xml.etree.ElementTree") 2330), ent P (Str.ofString "__doc__") 166 (.none), ent P (Str.ofString "__package__") 167 (.none), ent P (Str.ofString "__loader__") 168 (.builtin "__main__.__loader__#opaque"), ent P (Str.ofString "__spec__") 169 (.none), ent P (Str.ofString "__annotations__") 170 (.ref 6), ent P (Str.ofString "__builtins__") 171 (.ref 4), ent P (Str.ofString "__file__") 173 (.str (Str.ofString "/claim/cut.py") 172), ent P (Str.ofString "__cached__") 174 (.none), ent P (Str.ofString "_MAX_STRING_SIZE") 190 (.int 40 189), ent P (Str.ofString "_MOVE_COST") 192 (.int 2 191), ent P (Str.ofString "_CASE_COST") 194 (.int 1 193), ent P (Str.ofString "_substitution_cost") 202 (.ref 21), ent P (Str.ofString "_levenshtein_distance") 222 (.ref 28), ent P (Str.ofString "eq") 232 (.ref 35), ent P (Str.ofString "ne") 240 (.ref 42), ent P (Str.ofString "floordiv") 248 (.ref 49), ent P (Str.ofString "mul") 256 (.ref 56), ent P (Str.ofString "sub") 264 (.ref 63), ent P (Str.ofString "contains") 272 (.ref 70), ent P (Str.ofString "countOf") 282 (.ref 77), ent P (Str.ofString "indexOf") 292 (.ref 84), ent P (Str.ofString "setitem") 301 (.ref 91), ent P (Str.ofString "b1_set") 363 (.ref 99), ent P (Str.ofString "in_table_b1") 370 (.ref 109), ent P (Str.ofString "b3_exceptions") 2321 (.ref 110), ent P (Str.ofString "map_table_b3") 2329 (.ref 155), ent P (Str.ofString "_raise_serialization_error") 2338 (.ref 162), ent P (Str.ofString "_escape_cdata") 2345 (.ref 169), ent P (Str.ofString "_escape_attrib") 2352 (.ref 176), ent P (Str.ofString "_escape_attrib_html") 2359 (.ref 183), ent P (Str.ofString "_escape_cdata_c14n") 2366 (.ref 190), ent P (Str.ofString "_escape_attrib_c14n") 2373 (.ref 197)] 33, #[]⟩
noncomputable def Mw (P : Params) : Obj := ⟨.none, none, .fields #[.int 5 0, .int 0 0, .ref 20, .int 11 0, .int 0 0, .ref 27, .int 50 0, .int 0 0, .ref 34, .int 52 0, .int 0 0, .ref 41, .int 54 0, .int 0 0, .ref 48, .int 56 0, .int 0 0, .ref 55, .int 58 0, .int 0 0, .ref 62, .int 60 0, .int 0 0, .ref 69, .int 62 0, .int 0 0, .ref 76, .int 68 0, .int 0 0, .ref 83, .int 74 0, .int 0 0, .ref 90, .int 78 0, .int 0 0, .ref 108, .int 81 0, .int 0 0, .ref 154, .int 87 0, .int 0 0, .ref 161, .int 89 0, .int 0 0, .ref 168, .int 100 0, .int 0 0, .ref 175, .int 119 0, .int 0 0, .ref 182, .int 130 0, .int 0 0, .ref 189, .int 143 0, .int 0 0, .ref 196], #[]⟩
noncomputable def x8 (P : Params) : Obj := ⟨.type "tuple", none, .seq #[] 0, #[]⟩
noncomputable def x7 (P : Params) : Obj := ⟨.none, none, .fields #[], #[]⟩
noncomputable def x6 (P : Params) : Obj := ⟨.type "tuple", none, .seq #[.str (Str.ofString "text") 2349] 0, #[]⟩
noncomputable def x5 (P : Params) : Obj := ⟨.type "tuple", none, .seq #[] 0, #[]⟩
def x4 (P : Params) : Obj := fB 24
noncomputable def x3 (P : Params) : Obj := ⟨.type "code", none, .fields #[.str (Str.ofString "_escape_attrib") 2346, .str (Str.ofString "_escape_attrib") 2347, .str (Str.ofString "/claim/cut.py") 2348, .int 100 0, .int 1 0, .int 0 0, .int 0 0, .int 3 0, .ref 170, .bool true, .int 181 0, .ref 171, .none, .ref 172, .ref 173, .ref 174, .int 2350 0, .int 100 0, .str (Str.ofString "/claim/cut.py") 2351], #[]⟩
def x2 (P : Params) : Obj := fnO 24 (.str (Str.ofString "cpy313.xml.etree.ElementTree") 2330) (.ref 175)
noncomputable def x0 (P : Params) : Obj := ⟨.type "tuple", none, .seq #[] 0, #[]⟩
noncomputable def xZ (P : Params) : Obj := ⟨.none, none, .fields #[], #[]⟩
noncomputable def xY (P : Params) : Obj := ⟨.type "tuple", none, .seq #[.str (Str.ofString "text") 2356] 0, #[]⟩
noncomputable def xX (P : Params) : Obj := ⟨.type "tuple", none, .seq #[] 0, #[]⟩
def xW (P : Params) : Obj := fB 25
noncomputable def xV (P : Params) : Obj := ⟨.type "code", none, .fields #[.str (Str.ofString "_escape_attrib_html") 2353, .str (Str.ofString "_escape_attrib_html") 2354, .str (Str.ofString "/claim/cut.py") 2355, .int 119 0, .int 1 0, .int 0 0, .int 0 0, .int 3 0, .ref 177, .bool true, .int 181 0, .ref 178, .none, .ref 179, .ref 180, .ref 181, .int 2357 0, .int 119 0, .str (Str.ofString "/claim/cut.py") 2358], #[]⟩
def xU (P : Params) : Obj := fnO 25 (.str (Str.ofString "cpy313.xml.etree.ElementTree") 2330) (.ref 182)
noncomputable def xT (P : Params) : Obj := ⟨.type "tuple", none, .seq #[] 0, #[]⟩
noncomputable def xS (P : Params) : Obj := ⟨.none, none, .fields #[], #[]⟩
noncomputable def xR (P : Params) : Obj := ⟨.type "tuple", none, .seq #[.str (Str.ofString "text") 2363] 0, #[]⟩
noncomputable def xQ (P : Params) : Obj := ⟨.type "tuple", none, .seq #[] 0, #[]⟩
def xP (P : Params) : Obj := fB 26
noncomputable def xO (P : Params) : Obj := ⟨.type "code", none, .fields #[.str (Str.ofString "_escape_cdata_c14n") 2360, .str (Str.ofString "_escape_cdata_c14n") 2361, .str (Str.ofString "/claim/cut.py") 2362, .int 130 0, .int 1 0, .int 0 0, .int 0 0, .int 3 0, .ref 184, .bool true, .int 181 0, .ref 185, .none, .ref 186, .ref 187, .ref 188, .int 2364 0, .int 130 0, .str (Str.ofString "/claim/cut.py") 2365], #[]⟩
def xN (P : Params) : Obj := fnO 26 (.str (Str.ofString "cpy313.xml.etree.ElementTree") 2330) (.ref 189)
noncomputable def xM (P : Params) : Obj := ⟨.type "tuple", none, .seq #[] 0, #[]⟩
noncomputable def xL (P : Params) : Obj := ⟨.none, none, .fields #[], #[]⟩
noncomputable def xK (P : Params) : Obj := ⟨.type "tuple", none, .seq #[.str (Str.ofString "text") 2370] 0, #[]⟩
noncomputable def xJ (P : Params) : Obj := ⟨.type "tuple", none, .seq #[] 0, #[]⟩
def xI (P : Params) : Obj := fB 27
noncomputable def xH (P : Params) : Obj := ⟨.type "code", none, .fields #[.str (Str.ofString "_escape_attrib_c14n") 2367, .str (Str.ofString "_escape_attrib_c14n") 2368, .str (Str.ofString "/claim/cut.py") 2369, .int 143 0, .int 1 0, .int 0 0, .int 0 0, .int 3 0, .ref 191, .bool true, .int 181 0, .ref 192, .none, .ref 193, .ref 194, .ref 195, .int 2371 0, .int 143 0, .str (Str.ofString "/claim/cut.py") 2372], #[]⟩
def xG (P : Params) : Obj := fnO 27 (.str (Str.ofString "cpy313.xml.etree.ElementTree") 2330) (.ref 196)
def DF : BT := nd (tz P) (Fu P) (nd (xM P) .nil .nil)
def El : BT := nd (kS P) (DF P) (I4 P)
def yK : BT := nd (x3 P) .nil .nil
def zo : BT := nd (pU P) (yK P) .nil
def y9 : BT := nd (u3 P) (nd (xU P) .nil .nil) .nil
def DB : BT := nd (tu P) (Fo P) (nd (xI P) .nil .nil)
def Eh : BT := nd (kO P) (DB P) (I0 P)
def zf : BT := nd (u9 P) (nd (xY P) .nil .nil) .nil
def yO : BT := nd (x7 P) .nil .nil
def zt : BT := nd (pY P) (yO P) .nil
def y2 : BT := nd (uW P) (nd (xQ P) .nil .nil) .nil
def DQ : BT := nd (mf P) (I8 P) (y2 P)
def DD : BT := nd (tw P) (Fs P) (nd (xK P) .nil .nil)
def Ej : BT := nd (kQ P) (DD P) (I2 P)
def yH : BT := nd (x0 P) .nil .nil
def zj : BT := nd (pS P) (yH P) .nil
def y4 : BT := nd (uY P) (nd (xS P) .nil .nil) .nil
def DS : BT := nd (mm P) (Jb P) (y4 P)
def Dz : BT := nd (tm P) (Fm P) (nd (xG P) .nil .nil)
def Ef : BT := nd (kM P) (Dz P) (FN P)
def zb : BT := nd (u5 P) (nd (xW P) .nil .nil) .nil
def yM : BT := nd (x5 P) .nil .nil
def zq : BT := nd (pW P) (yM P) .nil
def yZ : BT := nd (uU P) (nd (xO P) .nil .nil) .nil
def DH : BT := nd (l6 P) (I6 P) (yZ P)
def DE : BT := nd (tx P) (Ft P) (nd (xL P) .nil .nil)
def Ek : BT := nd (kR P) (DE P) (I3 P)
def yJ : BT := nd (x2 P) .nil .nil
def zm : BT := nd (pT P) (yJ P) .nil
def y5 : BT := nd (uZ P) (nd (xT P) .nil .nil) .nil
def DA : BT := nd (to P) (Fn P) (nd (xH P) .nil .nil)
def Eg : BT := nd (kN P) (DA P) (FP P)
def zd : BT := nd (u8 P) (nd (xX P) .nil .nil) .nil
def yN : BT := nd (x6 P) .nil .nil
def zr : BT := nd (pX P) (yN P) .nil
def y0 : BT := nd (uV P) (nd (xP P) .nil .nil) .nil
def DI : BT := nd (l7 P) (I7 P) (y0 P)
def DC : BT := nd (tv P) (Fp P) (nd (xJ P) .nil .nil)
def Ei : BT := nd (kP P) (DC P) (I1 P)
def zh : BT := nd (vc P) (nd (xZ P) .nil .nil) .nil
def yP : BT := nd (x8 P) .nil .nil
def zu : BT := nd (pZ P) (yP P) .nil
def y3 : BT := nd (uX P) (nd (xR P) .nil .nil) .nil
def DR : BT := nd (mj P) (I9 P) (y3 P)
def za : BT := nd (u4 P) (nd (xV P) .nil .nil) .nil
def yL : BT := nd (x4 P) .nil .nil
def zp : BT := nd (pV P) (yL P) .nil
def yY : BT := nd (uT P) (nd (xN P) .nil .nil) .nil
def DG : BT := nd (lZ P) (I5 P) (yY P)
def ND : BT := nd (boot_o_0 P) (nd (boot_o_1 P) (nd (Np P) (nd (boot_o_7 P) (nd (g6 P) (El P) (nd (kD P) (Jr P) (zo P))) (nd (iy P) (KY P) (nd (mt P) (Jd P) (y9 P)))) (nd (fy P) (nd (gX P) (Eh P) (nd (mz P) (Ji P) (zf P))) (nd (ir P) (nd (kG P) (Jy P) (zt P)) (DQ P)))) (nd (boot_o_5 P) (nd (boot_o_9 P) (nd (gZ P) (Ej P) (nd (kA P) (Jm P) (zj P))) (nd (iw P) (KO P) (DS P))) (nd (fR P) (nd (iA P) (Ef P) (nd (mw P) (Jf P) (zb P))) (nd (iq P) (nd (kE P) (Ju P) (zq P)) (DH P))))) (nd (boot_o_2 P) (nd (boot_o_4 P) (nd (boot_o_8 P) (nd (g0 P) (Ek P) (nd (kC P) (Jo P) (zm P))) (nd (ix P) (KR P) (nd (mq P) (Jc P) (y5 P)))) (nd (Mw P) (nd (gW P) (Eg P) (nd (my P) (Jg P) (zd P))) (nd (gV P) (nd (kF P) (Jw P) (zr P)) (DI P)))) (nd (boot_o_6 P) (nd (boot_o_10 P) (nd (gY P) (Ei P) (nd (mA P) (Jk P) (zh P))) (nd (iu P) (nd (kH P) (JA P) (zu P)) (DR P))) (nd (bh P) (nd (iz P) (K1 P) (nd (mu P) (Je P) (za P))) (nd (bq P) (nd (bw P) (Jt P) (zp P)) (DG P)))))
def S10 (w : World) (os : OsState) : SharedT := ⟨ND w.params, 198, {}, #[], boot_drawn, 2374, os⟩
def No : Obj := ⟨.type "dict", none, .dict #[ent P (Str.ofString "__name__") 165 (.str (Str.ofString "law_tc0074_01") 2374), ent P (Str.ofString "__doc__") 166 (.none), ent P (Str.ofString "__package__") 167 (.none), ent P (Str.ofString "__loader__") 168 (.builtin "__main__.__loader__#opaque"), ent P (Str.ofString "__spec__") 169 (.none), ent P (Str.ofString "__annotations__") 170 (.ref 6), ent P (Str.ofString "__builtins__") 171 (.ref 4), ent P (Str.ofString "__file__") 173 (.str (Str.ofString "/claim/cut.py") 172), ent P (Str.ofString "__cached__") 174 (.none), ent P (Str.ofString "_MAX_STRING_SIZE") 190 (.int 40 189), ent P (Str.ofString "_MOVE_COST") 192 (.int 2 191), ent P (Str.ofString "_CASE_COST") 194 (.int 1 193), ent P (Str.ofString "_substitution_cost") 202 (.ref 21), ent P (Str.ofString "_levenshtein_distance") 222 (.ref 28), ent P (Str.ofString "eq") 232 (.ref 35), ent P (Str.ofString "ne") 240 (.ref 42), ent P (Str.ofString "floordiv") 248 (.ref 49), ent P (Str.ofString "mul") 256 (.ref 56), ent P (Str.ofString "sub") 264 (.ref 63), ent P (Str.ofString "contains") 272 (.ref 70), ent P (Str.ofString "countOf") 282 (.ref 77), ent P (Str.ofString "indexOf") 292 (.ref 84), ent P (Str.ofString "setitem") 301 (.ref 91), ent P (Str.ofString "b1_set") 363 (.ref 99), ent P (Str.ofString "in_table_b1") 370 (.ref 109), ent P (Str.ofString "b3_exceptions") 2321 (.ref 110), ent P (Str.ofString "map_table_b3") 2329 (.ref 155), ent P (Str.ofString "_raise_serialization_error") 2338 (.ref 162), ent P (Str.ofString "_escape_cdata") 2345 (.ref 169), ent P (Str.ofString "_escape_attrib") 2352 (.ref 176), ent P (Str.ofString "_escape_attrib_html") 2359 (.ref 183), ent P (Str.ofString "_escape_cdata_c14n") 2366 (.ref 190), ent P (Str.ofString "_escape_attrib_c14n") 2373 (.ref 197), ent P (Str.ofString "_law_cells") 2381 (.ref 202), ent P (Str.ofString "_law_reference") 2390 (.ref 209), ent P (Str.ofString "_law_word") 2402 (.ref 216)] 36, #[]⟩
noncomputable def Mv (P : Params) : Obj := ⟨.none, none, .fields #[.int 5 0, .int 0 0, .ref 20, .int 11 0, .int 0 0, .ref 27, .int 50 0, .int 0 0, .ref 34, .int 52 0, .int 0 0, .ref 41, .int 54 0, .int 0 0, .ref 48, .int 56 0, .int 0 0, .ref 55, .int 58 0, .int 0 0, .ref 62, .int 60 0, .int 0 0, .ref 69, .int 62 0, .int 0 0, .ref 76, .int 68 0, .int 0 0, .ref 83, .int 74 0, .int 0 0, .ref 90, .int 78 0, .int 0 0, .ref 108, .int 81 0, .int 0 0, .ref 154, .int 87 0, .int 0 0, .ref 161, .int 89 0, .int 0 0, .ref 168, .int 100 0, .int 0 0, .ref 175, .int 119 0, .int 0 0, .ref 182, .int 130 0, .int 0 0, .ref 189, .int 143 0, .int 0 0, .ref 196, .int 161 0, .int 0 0, .ref 201, .int 164 0, .int 0 0, .ref 208, .int 171 0, .int 0 0, .ref 215], #[]⟩
noncomputable def xF (P : Params) : Obj := ⟨.type "tuple", none, .seq #[] 0, #[]⟩
noncomputable def xE (P : Params) : Obj := ⟨.none, none, .fields #[], #[]⟩
def xD (P : Params) : Obj := fB 29
noncomputable def xC (P : Params) : Obj := ⟨.type "code", none, .fields #[.str (Str.ofString "_law_cells") 2376, .str (Str.ofString "_law_cells") 2377, .str (Str.ofString "/claim/cut.py") 2378, .int 161 0, .int 1 0, .int 0 0, .int 0 0, .int 3 0, .ref 198, .bool true, .int 181 0, .ref 199, .none, .none, .none, .ref 200, .int 2379 0, .int 161 0, .str (Str.ofString "/claim/cut.py") 2380], #[]⟩
def xB (P : Params) : Obj := fnO 29 (.str (Str.ofString "law_tc0074_01") 2374) (.ref 201)
noncomputable def xA (P : Params) : Obj := ⟨.type "tuple", none, .seq #[] 0, #[]⟩
noncomputable def xz (P : Params) : Obj := ⟨.none, none, .fields #[], #[]⟩
noncomputable def xy (P : Params) : Obj := ⟨.type "tuple", none, .seq #[.str (Str.ofString "way") 2385, .str (Str.ofString "sign") 2386, .str (Str.ofString "late") 2387] 0, #[]⟩
noncomputable def xx (P : Params) : Obj := ⟨.type "tuple", none, .seq #[] 0, #[]⟩
def xw (P : Params) : Obj := fB 30
noncomputable def xv (P : Params) : Obj := ⟨.type "code", none, .fields #[.str (Str.ofString "_law_reference") 2382, .str (Str.ofString "_law_reference") 2383, .str (Str.ofString "/claim/cut.py") 2384, .int 164 0, .int 2 0, .int 0 0, .int 0 0, .int 3 0, .ref 203, .bool true, .int 181 0, .ref 204, .none, .ref 205, .ref 206, .ref 207, .int 2388 0, .int 164 0, .str (Str.ofString "/claim/cut.py") 2389], #[]⟩
def xu (P : Params) : Obj := fnO 30 (.str (Str.ofString "law_tc0074_01") 2374) (.ref 208)
noncomputable def xt (P : Params) : Obj := ⟨.type "tuple", none, .seq #[] 0, #[]⟩
noncomputable def xr (P : Params) : Obj := ⟨.none, none, .fields #[], #[]⟩
noncomputable def xq (P : Params) : Obj := ⟨.type "tuple", none, .seq #[.str (Str.ofString "name") 2394, .str (Str.ofString "low") 2395, .str (Str.ofString "dashes") 2396, .str (Str.ofString "dash") 2397, .str (Str.ofString "signs") 2398, .str (Str.ofString "k") 2399] 0, #[]⟩
noncomputable def xp (P : Params) : Obj := ⟨.type "tuple", none, .seq #[] 0, #[]⟩
def xo (P : Params) : Obj := fB 31
noncomputable def xn (P : Params) : Obj := ⟨.type "code", none, .fields #[.str (Str.ofString "_law_word") 2391, .str (Str.ofString "_law_word") 2392, .str (Str.ofString "/claim/cut.py") 2393, .int 171 0, .int 4 0, .int 0 0, .int 0 0, .int 3 0, .ref 210, .bool true, .int 181 0, .ref 211, .none, .ref 212, .ref 213, .ref 214, .int 2400 0, .int 171 0, .str (Str.ofString "/claim/cut.py") 2401], #[]⟩
def xm (P : Params) : Obj := fnO 31 (.str (Str.ofString "law_tc0074_01") 2374) (.ref 215)
def Dp : BT := nd (sY P) (Fb P) (nd (xw P) .nil .nil)
def Dx : BT := nd (ti P) (Fk P) (nd (xE P) .nil .nil)
def DU : BT := nd (mt P) (nd (wL P) (E3 P) (nd (xn P) .nil .nil)) (y9 P)
def D2 : BT := nd (mz P) (nd (sQ P) (E7 P) (nd (xr P) .nil .nil)) (zf P)
def Dt : BT := nd (te P) (Fg P) (nd (xA P) .nil .nil)
def Di : BT := nd (sV P) (E9 P) (nd (xu P) .nil .nil)
def Dv : BT := nd (tg P) (Fi P) (nd (xC P) .nil .nil)
def DY : BT := nd (mw P) (nd (wN P) (E5 P) (nd (xp P) .nil .nil)) (zb P)
def Dr : BT := nd (tc P) (Fd P) (nd (xy P) .nil .nil)
def Dj : BT := nd (sX P) (Fa P) (nd (xv P) .nil .nil)
def Dw : BT := nd (th P) (Fj P) (nd (xD P) .nil .nil)
def DT : BT := nd (mq P) (nd (wK P) (E2 P) (nd (xm P) .nil .nil)) (y5 P)
def D0 : BT := nd (my P) (nd (sO P) (E6 P) (nd (xq P) .nil .nil)) (zd P)
def Ds : BT := nd (td P) (Fe P) (nd (xz P) .nil .nil)
def D4 : BT := nd (mA P) (nd (sU P) (E8 P) (nd (xt P) .nil .nil)) (zh P)
def Du : BT := nd (tf P) (Fh P) (nd (xB P) .nil .nil)
def Dy : BT := nd (tj P) (Fl P) (nd (xF P) .nil .nil)
def DW : BT := nd (mu P) (nd (wM P) (E4 P) (nd (xo P) .nil .nil)) (za P)
def Dq : BT := nd (sZ P) (Fc P) (nd (xx P) .nil .nil)
def NC : BT := nd (boot_o_0 P) (nd (boot_o_1 P) (nd (No P) (nd (boot_o_7 P) (nd (g6 P) (El P) (nd (kD P) (Dp P) (zo P))) (nd (iy P) (nd (kK P) (Dx P) (FK P)) (DU P))) (nd (fy P) (nd (gX P) (Eh P) (D2 P)) (nd (ir P) (nd (kG P) (Dt P) (zt P)) (DQ P)))) (nd (boot_o_5 P) (nd (boot_o_9 P) (nd (gZ P) (Ej P) (nd (kA P) (Di P) (zj P))) (nd (iw P) (nd (kI P) (Dv P) (FI P)) (DS P))) (nd (fR P) (nd (iA P) (Ef P) (DY P)) (nd (iq P) (nd (kE P) (Dr P) (zq P)) (DH P))))) (nd (boot_o_2 P) (nd (boot_o_4 P) (nd (boot_o_8 P) (nd (g0 P) (Ek P) (nd (kC P) (Dj P) (zm P))) (nd (ix P) (nd (kJ P) (Dw P) (FJ P)) (DT P))) (nd (Mv P) (nd (gW P) (Eg P) (D0 P)) (nd (gV P) (nd (kF P) (Ds P) (zr P)) (DI P)))) (nd (boot_o_6 P) (nd (boot_o_10 P) (nd (gY P) (Ei P) (D4 P)) (nd (iu P) (nd (kH P) (Du P) (zu P)) (DR P))) (nd (bh P) (nd (iz P) (nd (kL P) (Dy P) (FL P)) (DW P)) (nd (bq P) (nd (bw P) (Dq P) (zp P)) (DG P)))))
def S11 (w : World) (os : OsState) : SharedT := ⟨NC w.params, 217, {}, #[], boot_drawn, 2403, os⟩
def IX : Obj := ⟨.type "dict", none, .dict #[ent P (Str.ofString "__name__") 165 (.str (Str.ofString "law_tc0074_01") 2374), ent P (Str.ofString "__doc__") 166 (.none), ent P (Str.ofString "__package__") 167 (.none), ent P (Str.ofString "__loader__") 168 (.builtin "__main__.__loader__#opaque"), ent P (Str.ofString "__spec__") 169 (.none), ent P (Str.ofString "__annotations__") 170 (.ref 6), ent P (Str.ofString "__builtins__") 171 (.ref 4), ent P (Str.ofString "__file__") 173 (.str (Str.ofString "/claim/cut.py") 172), ent P (Str.ofString "__cached__") 174 (.none), ent P (Str.ofString "_MAX_STRING_SIZE") 190 (.int 40 189), ent P (Str.ofString "_MOVE_COST") 192 (.int 2 191), ent P (Str.ofString "_CASE_COST") 194 (.int 1 193), ent P (Str.ofString "_substitution_cost") 202 (.ref 21), ent P (Str.ofString "_levenshtein_distance") 222 (.ref 28), ent P (Str.ofString "eq") 232 (.ref 35), ent P (Str.ofString "ne") 240 (.ref 42), ent P (Str.ofString "floordiv") 248 (.ref 49), ent P (Str.ofString "mul") 256 (.ref 56), ent P (Str.ofString "sub") 264 (.ref 63), ent P (Str.ofString "contains") 272 (.ref 70), ent P (Str.ofString "countOf") 282 (.ref 77), ent P (Str.ofString "indexOf") 292 (.ref 84), ent P (Str.ofString "setitem") 301 (.ref 91), ent P (Str.ofString "b1_set") 363 (.ref 99), ent P (Str.ofString "in_table_b1") 370 (.ref 109), ent P (Str.ofString "b3_exceptions") 2321 (.ref 110), ent P (Str.ofString "map_table_b3") 2329 (.ref 155), ent P (Str.ofString "_raise_serialization_error") 2338 (.ref 162), ent P (Str.ofString "_escape_cdata") 2345 (.ref 169), ent P (Str.ofString "_escape_attrib") 2352 (.ref 176), ent P (Str.ofString "_escape_attrib_html") 2359 (.ref 183), ent P (Str.ofString "_escape_cdata_c14n") 2366 (.ref 190), ent P (Str.ofString "_escape_attrib_c14n") 2373 (.ref 197), ent P (Str.ofString "_law_cells") 2381 (.ref 202), ent P (Str.ofString "_law_reference") 2390 (.ref 209), ent P (Str.ofString "_law_word") 2402 (.ref 216), ent P (Str.ofString "_law_typed") 2408 (.ref 221), ent P (Str.ofString "_law_read") 2414 (.ref 226), ent P (Str.ofString "_law_merged") 2420 (.ref 231), ent P (Str.ofString "_law_greatest") 2426 (.ref 236), ent P (Str.ofString "law") 2432 (.ref 241)] 41, #[]⟩
noncomputable def CP (P : Params) : Obj := ⟨.none, none, .fields #[.int 5 0, .int 0 0, .ref 20, .int 11 0, .int 0 0, .ref 27, .int 50 0, .int 0 0, .ref 34, .int 52 0, .int 0 0, .ref 41, .int 54 0, .int 0 0, .ref 48, .int 56 0, .int 0 0, .ref 55, .int 58 0, .int 0 0, .ref 62, .int 60 0, .int 0 0, .ref 69, .int 62 0, .int 0 0, .ref 76, .int 68 0, .int 0 0, .ref 83, .int 74 0, .int 0 0, .ref 90, .int 78 0, .int 0 0, .ref 108, .int 81 0, .int 0 0, .ref 154, .int 87 0, .int 0 0, .ref 161, .int 89 0, .int 0 0, .ref 168, .int 100 0, .int 0 0, .ref 175, .int 119 0, .int 0 0, .ref 182, .int 130 0, .int 0 0, .ref 189, .int 143 0, .int 0 0, .ref 196, .int 161 0, .int 0 0, .ref 201, .int 164 0, .int 0 0, .ref 208, .int 171 0, .int 0 0, .ref 215, .int 179 0, .int 0 0, .ref 220, .int 204 0, .int 0 0, .ref 225, .int 217 0, .int 0 0, .ref 230, .int 233 0, .int 0 0, .ref 235, .int 245 0, .int 0 0, .ref 240], #[]⟩
noncomputable def xl (P : Params) : Obj := ⟨.type "tuple", none, .seq #[] 0, #[]⟩
noncomputable def xk (P : Params) : Obj := ⟨.none, none, .fields #[], #[]⟩
def xj (P : Params) : Obj := fB 32
noncomputable def xi (P : Params) : Obj := ⟨.type "code", none, .fields #[.str (Str.ofString "_law_typed") 2403, .str (Str.ofString "_law_typed") 2404, .str (Str.ofString "/claim/cut.py") 2405, .int 179 0, .int 2 0, .int 0 0, .int 0 0, .int 3 0, .ref 217, .bool true, .int 181 0, .ref 218, .none, .none, .none, .ref 219, .int 2406 0, .int 179 0, .str (Str.ofString "/claim/cut.py") 2407], #[]⟩
def xh (P : Params) : Obj := fnO 32 (.str (Str.ofString "law_tc0074_01") 2374) (.ref 220)
noncomputable def xg (P : Params) : Obj := ⟨.type "tuple", none, .seq #[] 0, #[]⟩
noncomputable def xf (P : Params) : Obj := ⟨.none, none, .fields #[], #[]⟩
def xd (P : Params) : Obj := fB 33
noncomputable def xc (P : Params) : Obj := ⟨.type "code", none, .fields #[.str (Str.ofString "_law_read") 2409, .str (Str.ofString "_law_read") 2410, .str (Str.ofString "/claim/cut.py") 2411, .int 204 0, .int 2 0, .int 0 0, .int 0 0, .int 3 0, .ref 222, .bool true, .int 181 0, .ref 223, .none, .none, .none, .ref 224, .int 2412 0, .int 204 0, .str (Str.ofString "/claim/cut.py") 2413], #[]⟩
def xb (P : Params) : Obj := fnO 33 (.str (Str.ofString "law_tc0074_01") 2374) (.ref 225)
noncomputable def xa (P : Params) : Obj := ⟨.type "tuple", none, .seq #[] 0, #[]⟩
noncomputable def w9 (P : Params) : Obj := ⟨.none, none, .fields #[], #[]⟩
def w3 (P : Params) : Obj := fB 34
noncomputable def w0 (P : Params) : Obj := ⟨.type "code", none, .fields #[.str (Str.ofString "_law_merged") 2415, .str (Str.ofString "_law_merged") 2416, .str (Str.ofString "/claim/cut.py") 2417, .int 217 0, .int 2 0, .int 0 0, .int 0 0, .int 3 0, .ref 227, .bool true, .int 181 0, .ref 228, .none, .none, .none, .ref 229, .int 2418 0, .int 217 0, .str (Str.ofString "/claim/cut.py") 2419], #[]⟩
def wZ (P : Params) : Obj := fnO 34 (.str (Str.ofString "law_tc0074_01") 2374) (.ref 230)
noncomputable def wY (P : Params) : Obj := ⟨.type "tuple", none, .seq #[] 0, #[]⟩
noncomputable def wX (P : Params) : Obj := ⟨.none, none, .fields #[], #[]⟩
def wW (P : Params) : Obj := fB 35
noncomputable def wV (P : Params) : Obj := ⟨.type "code", none, .fields #[.str (Str.ofString "_law_greatest") 2421, .str (Str.ofString "_law_greatest") 2422, .str (Str.ofString "/claim/cut.py") 2423, .int 233 0, .int 1 0, .int 0 0, .int 0 0, .int 3 0, .ref 232, .bool true, .int 181 0, .ref 233, .none, .none, .none, .ref 234, .int 2424 0, .int 233 0, .str (Str.ofString "/claim/cut.py") 2425], #[]⟩
def wU (P : Params) : Obj := fnO 35 (.str (Str.ofString "law_tc0074_01") 2374) (.ref 235)
noncomputable def wT (P : Params) : Obj := ⟨.type "tuple", none, .seq #[] 0, #[]⟩
noncomputable def wR (P : Params) : Obj := ⟨.none, none, .fields #[], #[]⟩
def wQ (P : Params) : Obj := fB 36
noncomputable def wP (P : Params) : Obj := ⟨.type "code", none, .fields #[.str (Str.ofString "law") 2427, .str (Str.ofString "law") 2428, .str (Str.ofString "/claim/cut.py") 2429, .int 245 0, .int 1 0, .int 0 0, .int 0 0, .int 3 0, .ref 237, .bool true, .int 181 0, .ref 238, .none, .none, .none, .ref 239, .int 2430 0, .int 245 0, .str (Str.ofString "/claim/cut.py") 2431], #[]⟩
def wO (P : Params) : Obj := fnO 36 (.str (Str.ofString "law_tc0074_01") 2374) (.ref 240)
def LR : BT := nd (boot_o_0 P) (nd (boot_o_1 P) (nd (IX P) (nd (boot_o_7 P) (nd (g6 P) (nd (kS P) (DF P) (nd (wD P) (EV P) (nd (xf P) .nil .nil))) (nd (kD P) (Dp P) (nd (pU P) (yK P) (nd (wQ P) .nil .nil)))) (nd (iy P) (nd (kK P) (Dx P) (nd (p8 P) (EK P) (nd (wZ P) .nil .nil))) (DU P))) (nd (fy P) (nd (gX P) (nd (kO P) (DB P) (nd (wz P) (EQ P) (nd (xa P) .nil .nil))) (D2 P)) (nd (ir P) (nd (kG P) (Dt P) (nd (pY P) (yO P) (nd (wV P) .nil .nil))) (nd (mf P) (nd (wH P) (EZ P) (nd (xj P) .nil .nil)) (y2 P))))) (nd (boot_o_5 P) (nd (boot_o_9 P) (nd (gZ P) (nd (kQ P) (DD P) (nd (wB P) (ES P) (nd (xc P) .nil .nil))) (nd (kA P) (Di P) (nd (pS P) (yH P) (nd (wO P) .nil .nil)))) (nd (iw P) (nd (kI P) (Dv P) (nd (p6 P) (EI P) (nd (wX P) .nil .nil))) (nd (mm P) (nd (wJ P) (E1 P) (nd (xl P) .nil .nil)) (y4 P)))) (nd (fR P) (nd (iA P) (nd (kM P) (Dz P) (nd (qa P) (EN P) (nd (w3 P) .nil .nil))) (DY P)) (nd (iq P) (nd (kE P) (Dr P) (nd (pW P) (yM P) (nd (wT P) .nil .nil))) (nd (l6 P) (nd (wF P) (EX P) (nd (xh P) .nil .nil)) (yZ P)))))) (nd (boot_o_2 P) (nd (boot_o_4 P) (nd (boot_o_8 P) (nd (g0 P) (nd (kR P) (DE P) (nd (wC P) (ET P) (nd (xd P) .nil .nil))) (nd (kC P) (Dj P) (nd (pT P) (yJ P) (nd (wP P) .nil .nil)))) (nd (ix P) (nd (kJ P) (Dw P) (nd (p7 P) (EJ P) (nd (wY P) .nil .nil))) (DT P))) (nd (CP P) (nd (gW P) (nd (kN P) (DA P) (nd (qc P) (EP P) (nd (w9 P) .nil .nil))) (D0 P)) (nd (gV P) (nd (kF P) (Ds P) (nd (pX P) (yN P) (nd (wU P) .nil .nil))) (nd (l7 P) (nd (wG P) (EY P) (nd (xi P) .nil .nil)) (y0 P))))) (nd (boot_o_6 P) (nd (boot_o_10 P) (nd (gY P) (nd (kP P) (DC P) (nd (wA P) (ER P) (nd (xb P) .nil .nil))) (D4 P)) (nd (iu P) (nd (kH P) (Du P) (nd (pZ P) (yP P) (nd (wW P) .nil .nil))) (nd (mj P) (nd (wI P) (E0 P) (nd (xk P) .nil .nil)) (y3 P)))) (nd (bh P) (nd (iz P) (nd (kL P) (Dy P) (nd (p9 P) (EL P) (nd (w0 P) .nil .nil))) (DW P)) (nd (bq P) (nd (bw P) (Dq P) (nd (pV P) (yL P) (nd (wR P) .nil .nil))) (nd (lZ P) (nd (wE P) (EW P) (nd (xg P) .nil .nil)) (yY P))))))
def S12 (w : World) (os : OsState) : SharedT := ⟨LR w.params, 242, {}, #[], boot_drawn, 2433, os⟩
open PySem.W.Fast in
def gT (N : Nat) (w : World) (s : SharedT) (l : List Stmt) (p : Pos) : Option (Flow × SharedT × Code × Pos) :=
 PySem.W.Fast.tw10110043849684766642 PySem.W.Fast.tw14364793385576792824 pw w 11 (some (.ref 6)) 1 N s ⟨(PySem.W.Fast.tw12563942051412417395 l env).wrap doneF deadEnd id id, cE, p, B⟩
end
noncomputable section
theorem Qs {α : Type} {x : Sem α} (res : α → Flow) {K' : α → Sem Fin} {H' : Value → Sem Fin} {w : World} {n : Nat} {s s' : Shared} {c c' : Code} {p p' : Pos} {f : Flow}
  (h : segRun treeTable pw w 11 (some (.ref 6)) 1 n s ⟨x.wrap (fun a => .pure (.done (res a))) deadEnd id id, c, p, B⟩ = some (f, s', c', p')) :
  ∃ a, res a = f ∧ ∀ N r, topRun treeTable pw w 11 (some (.ref 6)) N s' ⟨K' a, c', p', B⟩ = some r → topRun treeTable pw w 11 (some (.ref 6)) (n + N) s ⟨x.wrap K' H' id id, c, p, B⟩ = some r :=
 seg_top (B := B) (res := res) rfl n s ⟨x.wrap (fun a => .pure (.done (res a))) deadEnd id id, c, p, B⟩ ⟨x.wrap K' H' id id, c, p, B⟩ f s' c' p' ⟨rfl, rfl, .inl ⟨rfl, rfl, x, rfl, rfl⟩⟩ h
noncomputable def ao (d : Addr) (run : List (Sem Value × Sem Value)) : Sem Unit := do
 let sub ← holding [.ref d] (subDict run)
 (holding [.ref d, .ref sub] (mergeMapping d (.ref sub) false)).onRaise fun x => do let _ ← holding [.ref d, x] (runValue (.builtin "proto.let_go" {}))
def aB (d : Addr) : Nat → List (Sem Value × Sem Value) → Sem Unit
 | 0, _ => pure ()
 | n + 1, l => ao d (l.take 17) >>= fun _ => aB d n (l.drop 17)
abbrev mk (p : Sem Value × Sem Value) : Option (Sem Value) × Sem Value := (some p.1, p.2)
section
variable (f : (Option (Sem Value) × Sem Value) → (Option Addr × List (Sem Value × Sem Value)) → Sem (ForInStep (Option Addr × List (Sem Value × Sem Value))))
 (fl : List (Sem Value × Sem Value) → Option Addr → Sem (Option Addr))
 (hf1 : ∀ p m (run : List (Sem Value × Sem Value)), run.length + 1 ≠ 17 → f (mk p) (m, run) = pure (.yield (m, run ++ [p])))
 (hf2 : ∀ p m (run : List (Sem Value × Sem Value)), run.length + 1 = 17 → f (mk p) (m, run) = fl (run ++ [p]) m >>= fun m' => pure (.yield (m', [])))
include hf1
theorem Gz : ∀ (items run : List (Sem Value × Sem Value)) m, run.length + items.length < 17 → forIn (items.map mk) (m, run) f = pure (m, run ++ items)
 | [], run, m, _ => by simp
 | p :: rest, run, m, h => by
  rw [List.map_cons, List.forIn_cons, hf1 p m run (by simp at h; lia), pure_bind]
  have := Gz rest (run ++ [p]) m (by simp at h ⊢; lia)
  simpa using this
include hf2
theorem rp : ∀ (items run : List (Sem Value × Sem Value)) m, run.length < 17 → 17 ≤ run.length + items.length →
  forIn (items.map mk) (m, run) f = fl (run ++ items.take (17 - run.length)) m >>= fun m' => forIn ((items.drop (17 - run.length)).map mk) (m', []) f
 | [], run, m, h, h' => by simp at h'; lia
 | p :: rest, run, m, h, h' => by
  rw [List.map_cons, List.forIn_cons]
  by_cases e : run.length + 1 = 17
  ·rw [hf2 p m run e, show 17 - run.length = 1 by lia]
   simp
  ·rw [hf1 p m run e, pure_bind]
   have z := rp rest (run ++ [p]) m (by simp; lia) (by simp at h' ⊢; lia)
   have e1 : 17 - run.length = (17 - (run ++ [p]).length) + 1 := by simp; lia
   rw [e1]
   simpa using z
variable (h0 : ∀ m, fl [] m = pure m) (h2 : ∀ run d, run ≠ [] → fl run (some d) = ao d run >>= fun _ => pure (some d))
include h0 h2
theorem LT : ∀ (n : Nat) (items : List (Sem Value × Sem Value)) (d : Addr), items.length ≤ 17 * n → 17 * n < items.length + 17 →
  (forIn (items.map mk) (some d, ([] : List (Sem Value × Sem Value))) f >>= fun s => fl s.2 s.1) = aB d n items >>= fun _ => pure (some d)
 | 0, items, d, h, _ => by
  obtain rfl : items = [] := List.eq_nil_of_length_eq_zero (by lia)
  simp [aB, h0]
 | n + 1, items, d, h, h' => by
  by_cases e : 17 ≤ items.length
  ·rw [rp f fl hf1 hf2 items [] (some d) (by simp) (by simpa using e)]
   simp only [List.nil_append, List.length_nil, Nat.sub_zero, bind_assoc]
   rw [h2 _ _ (by intro q; have := congrArg List.length q; rw [List.length_take, List.length_nil] at this; lia)]
   simp only [bind_assoc, pure_bind]
   rw [aB]
   simp only [bind_assoc]
   refine congrArg _ (funext fun _ => ?_)
   exact LT n (items.drop 17) d (by simp; lia) (by simp; lia)
  ·have hn : n = 0 := by lia
   subst hn
   rw [Gz f hf1 items [] (some d) (by simp; lia)]
   simp only [pure_bind, List.nil_append]
   rw [h2 _ _ (by intro q; have := congrArg List.length q; rw [List.length_nil] at this; lia)]
   rw [aB, List.take_of_length_le (by lia)]
   simp [aB]
end
def fl (run : List (Sem Value × Sem Value)) (main : Option Addr) : Sem (Option Addr) :=
 if run.isEmpty then pure main else match main with
  | none => subDict run >>= fun a => pure (some a)
  | some d => ao d run >>= fun _ => pure (some d)
noncomputable def fin : Option Addr → Sem Value
 | some d => pure (.ref d)
 | none => newDict
theorem GE (m : Option Addr) : fl [] m = pure m := rfl
theorem rC (run : List (Sem Value × Sem Value)) (d : Addr) (h : run ≠ []) : fl run (some d) = ao d run >>= fun _ => pure (some d) := by
 unfold fl
 rw [if_neg (by simpa using h)]
theorem rE (run : List (Sem Value × Sem Value)) (h : run ≠ []) : fl run none = subDict run >>= fun a => pure (some a) := by
 unfold fl
 rw [if_neg (by simpa using h)]
theorem ua (f : (Option (Sem Value) × Sem Value) → (Option Addr × List (Sem Value × Sem Value)) → Sem (ForInStep (Option Addr × List (Sem Value × Sem Value))))
  (hf1 : ∀ p m (run : List (Sem Value × Sem Value)), run.length + 1 ≠ 17 → f (mk p) (m, run) = pure (.yield (m, run ++ [p])))
  (hf2 : ∀ p m (run : List (Sem Value × Sem Value)), run.length + 1 = 17 → f (mk p) (m, run) = fl (run ++ [p]) m >>= fun m' => pure (.yield (m', [])))
  (av : List (Sem Value × Sem Value)) (n : Nat) (h : 17 ≤ av.length) (h1 : av.length ≤ 17 * n + 17) (h2 : 17 * n < av.length) :
  (forIn (av.map mk) ((none : Option Addr), ([] : List (Sem Value × Sem Value))) f >>= fun s => fl s.2 s.1 >>= fin) = subDict (av.take 17) >>= fun d => aB d n (av.drop 17) >>= fun _ => pure (.ref d) := by
 rw [rp f fl hf1 hf2 av [] none (by simp) (by simpa using h)]
 simp only [List.nil_append, List.length_nil, Nat.sub_zero, bind_assoc]
 rw [rE _ (by intro q; have := congrArg List.length q; rw [List.length_take, List.length_nil] at this; lia)]
 simp only [bind_assoc, pure_bind]
 refine congrArg _ (funext fun d => ?_)
 have z := LT f fl hf1 hf2 GE rC n (av.drop 17) d (by simp; lia) (by simp; lia)
 have z' := congrArg (fun x => x >>= fin) z
 simp only [bind_assoc, pure_bind] at z'
 exact z'
theorem Pz {α β : Type} (X : Sem α) (g g' : α → Sem β) (R : Sem β) (hX : (X >>= g') = R) (hg : ∀ s, g s = g' s) : (X >>= g) = R := by
 rw [funext hg]; exact hX
theorem rI (av : List (Sem Value × Sem Value)) (n : Nat) (h : 17 ≤ av.length) (h1 : av.length ≤ 17 * n + 17) (h2 : 17 * n < av.length) :
  dictDisplay (av.map mk) = subDict (av.take 17) >>= fun d => aB d n (av.drop 17) >>= fun _ => pure (.ref d) := by
 unfold dictDisplay
 dsimp only
 refine Pz _ _ _ _ (ua _ ?_ ?_ av n h h1 h2) ?_
 ·intro p m run e
  have hb : ((run ++ [p]).length == 17) = false := by simp; lia
  simp only [mk, Prod.eta, hb]
  rfl
 ·intro p m run e
  have hb : ((run ++ [p]).length == 17) = true := by simp; lia
  have hn : (run ++ [p]).isEmpty = false := by simp
  simp only [mk, Prod.eta, hb, if_true, hn, Bool.false_eq_true, if_false]
  cases m with
  | none => rw [rE _ (by simp)]
  | some d => rw [rC _ _ (by simp), ao]; simp only [bind_assoc, pure_bind]
 ·rintro ⟨m, run⟩
  dsimp only
  by_cases e : run = []
  ·subst e
   rw [GE]
   simp only [List.isEmpty_nil, if_true, pure_bind]
   rfl
  ·have hn : run.isEmpty = false := by simpa using e
   simp only [hn, Bool.false_eq_true, if_false]
   cases m with
   | none => rw [rE _ e]; simp only [bind_assoc, pure_bind]; rfl
   | some d => rw [rC _ _ e, ao]; simp only [bind_assoc, pure_bind]; rfl
end
noncomputable section
variable (P : Params)
def FR : BT := nd (boot_o_0 P) (NB P) (nd (boot_o_2 P) (Mz P) (nd (boot_o_6 P) (tB P) (nd (bh P) (kU P) (nd (bq P) (nd (bw P) (cq P) (nd (dmO 1) .nil .nil)) (fS P)))))
def SC1 (w : World) (os : OsState) : SharedT := ⟨FR w.params, 111, {}, #[], boot_drawn, 422, os⟩
def zn (P : Params) : BT := nd (dsO 1) .nil .nil
def D7 : BT := nd (kD P) (Js P) (zn P)
def EU : BT := nd (g6 P) (Lg P) (D7 P)
def Jq : BT := nd (boot_o_7 P) (EU P) (Lu P)
def KW : BT := nd (nq P) (Jq P) (LP P)
def LC : BT := nd (boot_o_1 P) (KW P) (Ny P)
def zC : BT := nd (boot_o_0 P) (LC P) (nd (boot_o_2 P) (Mz P) (nd (boot_o_6 P) (tB P) (nd (bh P) (kU P) (nd (bq P) (nd (bw P) (cq P) (nd (dmO 2) .nil .nil)) (fS P)))))
def SC2 (w : World) (os : OsState) : SharedT := ⟨zC w.params, 112, {}, #[], boot_drawn, 473, os⟩
def zk (P : Params) : BT := nd (dsO 2) .nil .nil
def D6 : BT := nd (kC P) (Jp P) (zk P)
def EH : BT := nd (g0 P) (Le P) (D6 P)
def Ja : BT := nd (boot_o_8 P) (EH P) (Lq P)
def yh : BT := nd (boot_o_4 P) (Ja P) (LN P)
def zB : BT := nd (boot_o_0 P) (LC P) (nd (boot_o_2 P) (yh P) (nd (boot_o_6 P) (tB P) (nd (bh P) (kU P) (nd (bq P) (nd (bw P) (cq P) (nd (dmO 3) .nil .nil)) (fS P)))))
def SC3 (w : World) (os : OsState) : SharedT := ⟨zB w.params, 113, {}, #[], boot_drawn, 524, os⟩
def zi (P : Params) : BT := nd (dsO 3) .nil .nil
def D5 : BT := nd (kA P) (Jn P) (zi P)
def EG : BT := nd (gZ P) (Lc P) (D5 P)
def IZ : BT := nd (boot_o_9 P) (EG P) (Lo P)
def J7 : BT := nd (boot_o_5 P) (IZ P) (LL P)
def LB : BT := nd (boot_o_1 P) (KW P) (J7 P)
def zA : BT := nd (boot_o_0 P) (LB P) (nd (boot_o_2 P) (yh P) (nd (boot_o_6 P) (tB P) (nd (bh P) (kU P) (nd (bq P) (nd (bw P) (cq P) (nd (dmO 4) .nil .nil)) (fS P)))))
def SC4 (w : World) (os : OsState) : SharedT := ⟨zA w.params, 114, {}, #[], boot_drawn, 575, os⟩
def zg (P : Params) : BT := nd (dsO 4) .nil .nil
def D3 : BT := nd (mA P) (Jl P) (zg P)
def EF : BT := nd (gY P) (La P) (D3 P)
def jp : BT := nd (boot_o_10 P) (EF P) (Lm P)
def zz : BT := nd (boot_o_0 P) (LB P) (nd (boot_o_2 P) (yh P) (nd (boot_o_6 P) (jp P) (nd (bh P) (kU P) (nd (bq P) (nd (bw P) (cq P) (nd (dmO 5) .nil .nil)) (fS P)))))
def SC5 (w : World) (os : OsState) : SharedT := ⟨zz w.params, 115, {}, #[], boot_drawn, 626, os⟩
def ze (P : Params) : BT := nd (dsO 5) .nil .nil
def D1 : BT := nd (mz P) (Jj P) (ze P)
def EE : BT := nd (gX P) (K8 P) (D1 P)
def FD : BT := nd (fy P) (EE P) (Lk P)
def KV : BT := nd (nq P) (Jq P) (FD P)
def LA : BT := nd (boot_o_1 P) (KV P) (J7 P)
def zy : BT := nd (boot_o_0 P) (LA P) (nd (boot_o_2 P) (yh P) (nd (boot_o_6 P) (jp P) (nd (bh P) (kU P) (nd (bq P) (nd (bw P) (cq P) (nd (dmO 6) .nil .nil)) (fS P)))))
def SC6 (w : World) (os : OsState) : SharedT := ⟨zy w.params, 116, {}, #[], boot_drawn, 677, os⟩
def zc (P : Params) : BT := nd (dsO 6) .nil .nil
def DZ : BT := nd (my P) (Jh P) (zc P)
def En : BT := nd (gW P) (K6 P) (DZ P)
def Fq : BT := nd (nt P) (En P) (Lj P)
def yg : BT := nd (boot_o_4 P) (Ja P) (Fq P)
def zx : BT := nd (boot_o_0 P) (LA P) (nd (boot_o_2 P) (yg P) (nd (boot_o_6 P) (jp P) (nd (bh P) (kU P) (nd (bq P) (nd (bw P) (cq P) (nd (dmO 7) .nil .nil)) (fS P)))))
def SC7 (w : World) (os : OsState) : SharedT := ⟨zx w.params, 117, {}, #[], boot_drawn, 728, os⟩
def DX : BT := nd (mw P) (Dh P) (nd (dsO 7) .nil .nil)
def Em : BT := nd (iA P) (K4 P) (DX P)
def Ff : BT := nd (fR P) (Em P) (Li P)
def J6 : BT := nd (boot_o_5 P) (IZ P) (Ff P)
def Lz : BT := nd (boot_o_1 P) (KV P) (J6 P)
def zw : BT := nd (boot_o_0 P) (Lz P) (nd (boot_o_2 P) (yg P) (nd (boot_o_6 P) (jp P) (nd (bh P) (kU P) (nd (bq P) (nd (bw P) (cq P) (nd (dmO 8) .nil .nil)) (fS P)))))
def SC8 (w : World) (os : OsState) : SharedT := ⟨zw w.params, 118, {}, #[], boot_drawn, 779, os⟩
def DV : BT := nd (mu P) (Dg P) (nd (dsO 8) .nil .nil)
def ed : BT := nd (iz P) (K2 P) (DV P)
def zv : BT := nd (boot_o_0 P) (Lz P) (nd (boot_o_2 P) (yg P) (nd (boot_o_6 P) (jp P) (nd (bh P) (ed P) (nd (bq P) (nd (bw P) (cq P) (nd (dmO 9) .nil .nil)) (fS P)))))
def SC9 (w : World) (os : OsState) : SharedT := ⟨zv w.params, 119, {}, #[], boot_drawn, 830, os⟩
def yf : BT := nd (mt P) (Df P) (nd (dsO 9) .nil .nil)
def yB : BT := nd (iy P) (KZ P) (yf P)
def Do : BT := nd (boot_o_7 P) (EU P) (yB P)
def Ee : BT := nd (nq P) (Do P) (FD P)
def ED : BT := nd (boot_o_1 P) (Ee P) (J6 P)
def qW : BT := nd (boot_o_0 P) (ED P) (nd (boot_o_2 P) (yg P) (nd (boot_o_6 P) (jp P) (nd (bh P) (ed P) (nd (bq P) (nd (bw P) (cq P) (nd (dmO 10) .nil .nil)) (fS P)))))
def HF (w : World) (os : OsState) : SharedT := ⟨qW w.params, 120, {}, #[], boot_drawn, 881, os⟩
def ye : BT := nd (mq P) (De P) (nd (dsO 10) .nil .nil)
def yz : BT := nd (ix P) (KT P) (ye P)
def Dc : BT := nd (boot_o_8 P) (EH P) (yz P)
def qm : BT := nd (boot_o_4 P) (Dc P) (Fq P)
def qU : BT := nd (boot_o_0 P) (ED P) (nd (boot_o_2 P) (qm P) (nd (boot_o_6 P) (jp P) (nd (bh P) (ed P) (nd (bq P) (nd (bw P) (cq P) (nd (dmO 11) .nil .nil)) (fS P)))))
def HE (w : World) (os : OsState) : SharedT := ⟨qU w.params, 121, {}, #[], boot_drawn, 932, os⟩
def yd : BT := nd (mm P) (Dd P) (nd (dsO 11) .nil .nil)
def yx : BT := nd (iw P) (KP P) (yd P)
def CY : BT := nd (boot_o_9 P) (EG P) (yx P)
def DP : BT := nd (boot_o_5 P) (CY P) (Ff P)
def EC : BT := nd (boot_o_1 P) (Ee P) (DP P)
def qT : BT := nd (boot_o_0 P) (EC P) (nd (boot_o_2 P) (qm P) (nd (boot_o_6 P) (jp P) (nd (bh P) (ed P) (nd (bq P) (nd (bw P) (cq P) (nd (dmO 12) .nil .nil)) (fS P)))))
def HD (w : World) (os : OsState) : SharedT := ⟨qT w.params, 122, {}, #[], boot_drawn, 983, os⟩
def yc : BT := nd (mj P) (C8 P) (nd (dsO 12) .nil .nil)
def yv : BT := nd (iu P) (KM P) (yc P)
def hP : BT := nd (boot_o_10 P) (EF P) (yv P)
def qS : BT := nd (boot_o_0 P) (EC P) (nd (boot_o_2 P) (qm P) (nd (boot_o_6 P) (hP P) (nd (bh P) (ed P) (nd (bq P) (nd (bw P) (cq P) (nd (dmO 13) .nil .nil)) (fS P)))))
def HC (w : World) (os : OsState) : SharedT := ⟨qS w.params, 123, {}, #[], boot_drawn, 1034, os⟩
def yb : BT := nd (mf P) (C7 P) (nd (dsO 13) .nil .nil)
def yt : BT := nd (ir P) (KJ P) (yb P)
def y8 : BT := nd (fy P) (EE P) (yt P)
def Ed : BT := nd (nq P) (Do P) (y8 P)
def EB : BT := nd (boot_o_1 P) (Ed P) (DP P)
def qR : BT := nd (boot_o_0 P) (EB P) (nd (boot_o_2 P) (qm P) (nd (boot_o_6 P) (hP P) (nd (bh P) (ed P) (nd (bq P) (nd (bw P) (cq P) (nd (dmO 14) .nil .nil)) (fS P)))))
def HB (w : World) (os : OsState) : SharedT := ⟨qR w.params, 124, {}, #[], boot_drawn, 1085, os⟩
def ya : BT := nd (l7 P) (C6 P) (nd (dsO 14) .nil .nil)
def yq : BT := nd (gV P) (KE P) (ya P)
def yX : BT := nd (nt P) (En P) (yq P)
def ql : BT := nd (boot_o_4 P) (Dc P) (yX P)
def qQ : BT := nd (boot_o_0 P) (EB P) (nd (boot_o_2 P) (ql P) (nd (boot_o_6 P) (hP P) (nd (bh P) (ed P) (nd (bq P) (nd (bw P) (cq P) (nd (dmO 15) .nil .nil)) (fS P)))))
def HA (w : World) (os : OsState) : SharedT := ⟨qQ w.params, 125, {}, #[], boot_drawn, 1136, os⟩
def x9 : BT := nd (l6 P) (C5 P) (nd (dsO 15) .nil .nil)
def yo : BT := nd (iq P) (Ky P) (x9 P)
def yU : BT := nd (fR P) (Em P) (yo P)
def DO : BT := nd (boot_o_5 P) (CY P) (yU P)
def EA : BT := nd (boot_o_1 P) (Ed P) (DO P)
def qP : BT := nd (boot_o_0 P) (EA P) (nd (boot_o_2 P) (ql P) (nd (boot_o_6 P) (hP P) (nd (bh P) (ed P) (nd (bq P) (nd (bw P) (cq P) (nd (dmO 16) .nil .nil)) (fS P)))))
def Hz (w : World) (os : OsState) : SharedT := ⟨qP w.params, 126, {}, #[], boot_drawn, 1187, os⟩
def bO : BT := nd (lZ P) (C4 P) (nd (dsO 16) .nil .nil)
def qO : BT := nd (boot_o_0 P) (EA P) (nd (boot_o_2 P) (ql P) (nd (boot_o_6 P) (hP P) (nd (bh P) (ed P) (nd (bq P) (nd (bw P) (cq P) (nd (dmO 17) .nil .nil)) (bO P)))))
def Hy (w : World) (os : OsState) : SharedT := ⟨qO w.params, 127, {}, #[], boot_drawn, 1238, os⟩
def yn : BT := nd (kS P) (nd (tz P) (nd (dsO 17) .nil .nil) .nil) (C3 P)
def yR : BT := nd (g6 P) (yn P) (D7 P)
def Dm : BT := nd (boot_o_7 P) (yR P) (yB P)
def Ec : BT := nd (nq P) (Dm P) (y8 P)
def Ez : BT := nd (boot_o_1 P) (Ec P) (DO P)
def qM : BT := nd (boot_o_0 P) (Ez P) (nd (boot_o_2 P) (ql P) (nd (boot_o_6 P) (hP P) (nd (bh P) (ed P) (nd (bq P) (nd (bw P) (cq P) (nd (dmO 18) .nil .nil)) (bO P)))))
def Hx (w : World) (os : OsState) : SharedT := ⟨qM w.params, 128, {}, #[], boot_drawn, 1289, os⟩
def ym : BT := nd (kR P) (nd (tx P) (nd (dsO 18) .nil .nil) .nil) (C2 P)
def yQ : BT := nd (g0 P) (ym P) (D6 P)
def Db : BT := nd (boot_o_8 P) (yQ P) (yz P)
def qk : BT := nd (boot_o_4 P) (Db P) (yX P)
def qL : BT := nd (boot_o_0 P) (Ez P) (nd (boot_o_2 P) (qk P) (nd (boot_o_6 P) (hP P) (nd (bh P) (ed P) (nd (bq P) (nd (bw P) (cq P) (nd (dmO 19) .nil .nil)) (bO P)))))
def Hw (w : World) (os : OsState) : SharedT := ⟨qL w.params, 129, {}, #[], boot_drawn, 1340, os⟩
def yl : BT := nd (kQ P) (nd (tw P) (nd (dsO 19) .nil .nil) .nil) (C1 P)
def yG : BT := nd (gZ P) (yl P) (D5 P)
def CX : BT := nd (boot_o_9 P) (yG P) (yx P)
def DN : BT := nd (boot_o_5 P) (CX P) (yU P)
def Ey : BT := nd (boot_o_1 P) (Ec P) (DN P)
def qK : BT := nd (boot_o_0 P) (Ey P) (nd (boot_o_2 P) (qk P) (nd (boot_o_6 P) (hP P) (nd (bh P) (ed P) (nd (bq P) (nd (bw P) (cq P) (nd (dmO 20) .nil .nil)) (bO P)))))
def Hv (w : World) (os : OsState) : SharedT := ⟨qK w.params, 130, {}, #[], boot_drawn, 1391, os⟩
def yk : BT := nd (kP P) (nd (tv P) (nd (dsO 20) .nil .nil) .nil) (C0 P)
def yF : BT := nd (gY P) (yk P) (D3 P)
def hO : BT := nd (boot_o_10 P) (yF P) (yv P)
def qJ : BT := nd (boot_o_0 P) (Ey P) (nd (boot_o_2 P) (qk P) (nd (boot_o_6 P) (hO P) (nd (bh P) (ed P) (nd (bq P) (nd (bw P) (cq P) (nd (dmO 21) .nil .nil)) (bO P)))))
def Hu (w : World) (os : OsState) : SharedT := ⟨qJ w.params, 131, {}, #[], boot_drawn, 1442, os⟩
def yj : BT := nd (kO P) (nd (tu P) (nd (dsO 21) .nil .nil) .nil) (CZ P)
def yE : BT := nd (gX P) (yj P) (D1 P)
def y7 : BT := nd (fy P) (yE P) (yt P)
def Eb : BT := nd (nq P) (Dm P) (y7 P)
def Ex : BT := nd (boot_o_1 P) (Eb P) (DN P)
def qI : BT := nd (boot_o_0 P) (Ex P) (nd (boot_o_2 P) (qk P) (nd (boot_o_6 P) (hO P) (nd (bh P) (ed P) (nd (bq P) (nd (bw P) (cq P) (nd (dmO 22) .nil .nil)) (bO P)))))
def Ht (w : World) (os : OsState) : SharedT := ⟨qI w.params, 132, {}, #[], boot_drawn, 1493, os⟩
def yi : BT := nd (kN P) (nd (to P) (nd (dsO 22) .nil .nil) .nil) (vt P)
def yD : BT := nd (gW P) (yi P) (DZ P)
def yW : BT := nd (nt P) (yD P) (yq P)
def qj : BT := nd (boot_o_4 P) (Db P) (yW P)
def qH : BT := nd (boot_o_0 P) (Ex P) (nd (boot_o_2 P) (qj P) (nd (boot_o_6 P) (hO P) (nd (bh P) (ed P) (nd (bq P) (nd (bw P) (cq P) (nd (dmO 23) .nil .nil)) (bO P)))))
def Hs (w : World) (os : OsState) : SharedT := ⟨qH w.params, 133, {}, #[], boot_drawn, 1544, os⟩
def yC : BT := nd (iA P) (nd (kM P) (nd (tm P) (nd (dsO 23) .nil .nil) .nil) (vr P)) (DX P)
def yT : BT := nd (fR P) (yC P) (yo P)
def DM : BT := nd (boot_o_5 P) (CX P) (yT P)
def Ew : BT := nd (boot_o_1 P) (Eb P) (DM P)
def qG : BT := nd (boot_o_0 P) (Ew P) (nd (boot_o_2 P) (qj P) (nd (boot_o_6 P) (hO P) (nd (bh P) (ed P) (nd (bq P) (nd (bw P) (cq P) (nd (dmO 24) .nil .nil)) (bO P)))))
def Hr (w : World) (os : OsState) : SharedT := ⟨qG w.params, 134, {}, #[], boot_drawn, 1595, os⟩
def dq : BT := nd (iz P) (nd (kL P) (nd (tj P) (nd (dsO 24) .nil .nil) .nil) (vq P)) (DV P)
def qF : BT := nd (boot_o_0 P) (Ew P) (nd (boot_o_2 P) (qj P) (nd (boot_o_6 P) (hO P) (nd (bh P) (dq P) (nd (bq P) (nd (bw P) (cq P) (nd (dmO 25) .nil .nil)) (bO P)))))
def Hq (w : World) (os : OsState) : SharedT := ⟨qF w.params, 135, {}, #[], boot_drawn, 1646, os⟩
def yA : BT := nd (iy P) (nd (kK P) (nd (ti P) (nd (dsO 25) .nil .nil) .nil) (vp P)) (yf P)
def Dl : BT := nd (boot_o_7 P) (yR P) (yA P)
def Ea : BT := nd (nq P) (Dl P) (y7 P)
def Ev : BT := nd (boot_o_1 P) (Ea P) (DM P)
def qE : BT := nd (boot_o_0 P) (Ev P) (nd (boot_o_2 P) (qj P) (nd (boot_o_6 P) (hO P) (nd (bh P) (dq P) (nd (bq P) (nd (bw P) (cq P) (nd (dmO 26) .nil .nil)) (bO P)))))
def Hp (w : World) (os : OsState) : SharedT := ⟨qE w.params, 136, {}, #[], boot_drawn, 1697, os⟩
def yy : BT := nd (ix P) (nd (kJ P) (nd (th P) (nd (dsO 26) .nil .nil) .nil) (vn P)) (ye P)
def Da : BT := nd (boot_o_8 P) (yQ P) (yy P)
def qi : BT := nd (boot_o_4 P) (Da P) (yW P)
def qD : BT := nd (boot_o_0 P) (Ev P) (nd (boot_o_2 P) (qi P) (nd (boot_o_6 P) (hO P) (nd (bh P) (dq P) (nd (bq P) (nd (bw P) (cq P) (nd (dmO 27) .nil .nil)) (bO P)))))
def Ho (w : World) (os : OsState) : SharedT := ⟨qD w.params, 137, {}, #[], boot_drawn, 1748, os⟩
def yw : BT := nd (iw P) (nd (kI P) (nd (tg P) (nd (dsO 27) .nil .nil) .nil) (vm P)) (yd P)
def CW : BT := nd (boot_o_9 P) (yG P) (yw P)
def DL : BT := nd (boot_o_5 P) (CW P) (yT P)
def Eu : BT := nd (boot_o_1 P) (Ea P) (DL P)
def qA : BT := nd (boot_o_0 P) (Eu P) (nd (boot_o_2 P) (qi P) (nd (boot_o_6 P) (hO P) (nd (bh P) (dq P) (nd (bq P) (nd (bw P) (cq P) (nd (dmO 28) .nil .nil)) (bO P)))))
def Hn (w : World) (os : OsState) : SharedT := ⟨qA w.params, 138, {}, #[], boot_drawn, 1799, os⟩
def yu : BT := nd (iu P) (nd (kH P) (nd (tf P) (nd (dsO 28) .nil .nil) .nil) (vk P)) (yc P)
def hH : BT := nd (boot_o_10 P) (yF P) (yu P)
def qz : BT := nd (boot_o_0 P) (Eu P) (nd (boot_o_2 P) (qi P) (nd (boot_o_6 P) (hH P) (nd (bh P) (dq P) (nd (bq P) (nd (bw P) (cq P) (nd (dmO 29) .nil .nil)) (bO P)))))
def Hm (w : World) (os : OsState) : SharedT := ⟨qz w.params, 139, {}, #[], boot_drawn, 1850, os⟩
def yr : BT := nd (ir P) (nd (kG P) (nd (te P) (nd (dsO 29) .nil .nil) .nil) (vj P)) (yb P)
def y6 : BT := nd (fy P) (yE P) (yr P)
def D9 : BT := nd (nq P) (Dl P) (y6 P)
def Et : BT := nd (boot_o_1 P) (D9 P) (DL P)
def qy : BT := nd (boot_o_0 P) (Et P) (nd (boot_o_2 P) (qi P) (nd (boot_o_6 P) (hH P) (nd (bh P) (dq P) (nd (bq P) (nd (bw P) (cq P) (nd (dmO 30) .nil .nil)) (bO P)))))
def Hl (w : World) (os : OsState) : SharedT := ⟨qy w.params, 140, {}, #[], boot_drawn, 1901, os⟩
def yp : BT := nd (gV P) (nd (kF P) (nd (td P) (nd (dsO 30) .nil .nil) .nil) (vh P)) (ya P)
def yV : BT := nd (nt P) (yD P) (yp P)
def qh : BT := nd (boot_o_4 P) (Da P) (yV P)
def qx : BT := nd (boot_o_0 P) (Et P) (nd (boot_o_2 P) (qh P) (nd (boot_o_6 P) (hH P) (nd (bh P) (dq P) (nd (bq P) (nd (bw P) (cq P) (nd (dmO 31) .nil .nil)) (bO P)))))
def Hk (w : World) (os : OsState) : SharedT := ⟨qx w.params, 141, {}, #[], boot_drawn, 1952, os⟩
def yS : BT := nd (fR P) (yC P) (nd (iq P) (nd (kE P) (nd (tc P) (nd (dsO 31) .nil .nil) .nil) (vg P)) (x9 P))
def DK : BT := nd (boot_o_5 P) (CW P) (yS P)
def Es : BT := nd (boot_o_1 P) (D9 P) (DK P)
def qw : BT := nd (boot_o_0 P) (Es P) (nd (boot_o_2 P) (qh P) (nd (boot_o_6 P) (hH P) (nd (bh P) (dq P) (nd (bq P) (nd (bw P) (cq P) (nd (dmO 32) .nil .nil)) (bO P)))))
def Hj (w : World) (os : OsState) : SharedT := ⟨qw w.params, 142, {}, #[], boot_drawn, 2003, os⟩
def iP : BT := nd (sZ P) (nd (dsO 32) .nil .nil) .nil
def qu : BT := nd (boot_o_0 P) (Es P) (nd (boot_o_2 P) (qh P) (nd (boot_o_6 P) (hH P) (nd (bh P) (dq P) (nd (bq P) (nd (bw P) (iP P) (nd (dmO 33) .nil .nil)) (bO P)))))
def Hi (w : World) (os : OsState) : SharedT := ⟨qu w.params, 143, {}, #[], boot_drawn, 2054, os⟩
def Dk : BT := nd (boot_o_7 P) (nd (g6 P) (yn P) (nd (kD P) (nd (sY P) (nd (dsO 33) .nil .nil) .nil) (zn P))) (yA P)
def D8 : BT := nd (nq P) (Dk P) (y6 P)
def Er : BT := nd (boot_o_1 P) (D8 P) (DK P)
def qt : BT := nd (boot_o_0 P) (Er P) (nd (boot_o_2 P) (qh P) (nd (boot_o_6 P) (hH P) (nd (bh P) (dq P) (nd (bq P) (nd (bw P) (iP P) (nd (dmO 34) .nil .nil)) (bO P)))))
def Hh (w : World) (os : OsState) : SharedT := ⟨qt w.params, 144, {}, #[], boot_drawn, 2105, os⟩
def C9 : BT := nd (boot_o_8 P) (nd (g0 P) (ym P) (nd (kC P) (nd (sX P) (nd (dsO 34) .nil .nil) .nil) (zk P))) (yy P)
def qg : BT := nd (boot_o_4 P) (C9 P) (yV P)
def qs : BT := nd (boot_o_0 P) (Er P) (nd (boot_o_2 P) (qg P) (nd (boot_o_6 P) (hH P) (nd (bh P) (dq P) (nd (bq P) (nd (bw P) (iP P) (nd (dmO 35) .nil .nil)) (bO P)))))
def Hg (w : World) (os : OsState) : SharedT := ⟨qs w.params, 145, {}, #[], boot_drawn, 2156, os⟩
def DJ : BT := nd (boot_o_5 P) (nd (boot_o_9 P) (nd (gZ P) (yl P) (nd (kA P) (nd (sV P) (nd (dsO 35) .nil .nil) .nil) (zi P))) (yw P)) (yS P)
def Ep : BT := nd (boot_o_1 P) (D8 P) (DJ P)
def qr : BT := nd (boot_o_0 P) (Ep P) (nd (boot_o_2 P) (qg P) (nd (boot_o_6 P) (hH P) (nd (bh P) (dq P) (nd (bq P) (nd (bw P) (iP P) (nd (dmO 36) .nil .nil)) (bO P)))))
def Hf (w : World) (os : OsState) : SharedT := ⟨qr w.params, 146, {}, #[], boot_drawn, 2207, os⟩
def qn : BT := nd (boot_o_10 P) (nd (gY P) (yk P) (nd (mA P) (nd (sU P) (nd (dsO 36) .nil .nil) .nil) (zg P))) (yu P)
def qp : BT := nd (boot_o_0 P) (Ep P) (nd (boot_o_2 P) (qg P) (nd (boot_o_6 P) (qn P) (nd (bh P) (dq P) (nd (bq P) (nd (bw P) (iP P) (nd (dmO 37) .nil .nil)) (bO P)))))
def He (w : World) (os : OsState) : SharedT := ⟨qp w.params, 147, {}, #[], boot_drawn, 2258, os⟩
def Eo : BT := nd (boot_o_1 P) (nd (nq P) (Dk P) (nd (fy P) (nd (gX P) (yj P) (nd (mz P) (nd (sQ P) (nd (dsO 37) .nil .nil) .nil) (ze P))) (yr P))) (DJ P)
def qo : BT := nd (boot_o_0 P) (Eo P) (nd (boot_o_2 P) (qg P) (nd (boot_o_6 P) (qn P) (nd (bh P) (dq P) (nd (bq P) (nd (bw P) (iP P) (nd (dmO 38) .nil .nil)) (bO P)))))
def Hd (w : World) (os : OsState) : SharedT := ⟨qo w.params, 148, {}, #[], boot_drawn, 2309, os⟩
def FQ : BT := nd (boot_o_0 P) (Eo P) (nd (boot_o_2 P) (nd (boot_o_4 P) (C9 P) (nd (nt P) (nd (gW P) (yi P) (nd (my P) (nd (sO P) (nd (dsO 38) .nil .nil) .nil) (zc P))) (yp P))) (nd (boot_o_6 P) (qn P) (nd (bh P) (dq P) (nd (bq P) (nd (bw P) (iP P) (nd (dmO 39) .nil .nil)) (bO P)))))
def cY (w : World) (os : OsState) : SharedT := ⟨FQ w.params, 149, {}, #[], boot_drawn, 2321, os⟩
def d19 : List Expr × List (Option Expr) × List Expr × Pos × Pos := match st 19 with
 | .Assign ts (.Dict ks vs dp) sp => (ts, ks, vs, dp, sp)
 | _ => ([], [], [], default, default)
theorem H6 : st 19 = .Assign d19.1 (.Dict d19.2.1 d19.2.2.1 d19.2.2.2.1) d19.2.2.2.2 := by kernel_rfl
def pQ (dp : Pos) : List (Option Expr) → List Expr → List (Sem Value × Sem Value)
 | some k :: ks, v :: vs => (eval k env, (do let x ← eval v env; standAt dp; pure x)) :: pQ dp ks vs
 | _, _ => []
def av : List (Sem Value × Sem Value) := pQ d19.2.2.2.1 d19.2.1 d19.2.2.1
def q19 : Pos := d19.2.2.2.1
def Qv (N : Nat) (w : World) (s : SharedT) (x : Sem Unit) (p : Pos) : Option (Flow × SharedT × Code × Pos) :=
 segRunT treeTable pw w 11 (some (.ref 6)) 1 N s ⟨x.wrap (fun _ => .pure (.done .next)) deadEnd id id, cE, p, B⟩
def Qw (N : Nat) (w : World) (s : SharedT) (x : Sem Addr) (p : Pos) : Option (Flow × SharedT × Code × Pos) :=
 segRunT treeTable pw w 11 (some (.ref 6)) 1 N s ⟨x.wrap (fun a => .pure (.done (.ret (.ref a)))) deadEnd id id, cE, p, B⟩
abbrev wS (w : World) (b : Bool) : World := w.withFollow "special-get-raises" b
end
noncomputable section
abbrev ou (w : World) (N : Nat) (s : Shared) (t : Thread) : Option Shared := topRun treeTable pw w 11 (some (.ref 6)) N s t
def aq (w : World) (n : Nat) {α : Type} (x : Sem α) (s : SharedT) (p : Pos) (a : α) (s' : SharedT) (p' : Pos) : Prop :=
 ∀ (gd : Bool → Bool) (lv : List Value → List Value) (K' : α → Sem Fin) (H' : Value → Sem Fin) N r, ou w N s'.abs ⟨K' a, cE, p', B⟩ = some r → ou w (n + N) s.abs ⟨x.wrap K' H' gd lv, cE, p, B⟩ = some r
variable {w : World} {α β : Type} {n m : Nat}
theorem aq.weak {x : Sem α} {s s₁ : SharedT} {p p₁ : Pos} {a : α} (h : aq w n x s p a s₁ p₁) (le : n ≤ m) : aq w m x s p a s₁ p₁ := fun gd lv K' H' N r q => by
 have := topRun_mono (m - n) _ _ _ _ (h gd lv K' H' N r q)
 rwa [show n + N + (m - n) = m + N by lia] at this
theorem aq.pure {a : α} {s : SharedT} {p : Pos} : aq w 0 (Pure.pure a : Sem α) s p a s p := fun gd lv K' H' N r h => by rw [Nat.zero_add]; exact h
theorem Af (x : Sem α) (f : α → Sem β) (K : β → Sem Fin) (H : Value → Sem Fin) (gd : Bool → Bool) (lv : List Value → List Value) : (x >>= f).wrap K H gd lv = x.wrap (fun a => (f a).wrap K H gd lv) H gd lv := by
 rw [Sem.bind_eq_wrap', Sem.wrap_wrap]
 rfl
theorem aq.bind {x : Sem α} {f : α → Sem β} {s s₁ s₂ : SharedT} {p p₁ p₂ : Pos} {a : α} {b : β} (h : aq w n x s p a s₁ p₁) (h' : aq w m (f a) s₁ p₁ b s₂ p₂) : aq w (n + m) (x >>= f) s p b s₂ p₂ := fun gd lv K' H' N r q => by
 rw [Af, Nat.add_assoc]
 exact h _ _ _ _ _ _ (h' _ _ _ _ _ _ q)
theorem aq.keep {x : Sem α} {s s₁ : SharedT} {p p₁ : Pos} {a : α} {vs : List Value} (h : aq w n x s p a s₁ p₁) : aq w n (x.keep vs) s p a s₁ p₁ := fun gd lv K' H' N r q => by
 rw [Sem.keep_eq_wrap, Sem.wrap_wrap]
 exact h (fun g => gd g) (fun l => lv (vs ++ l)) _ _ _ _ q
theorem aq.holding {x : Sem α} {s s₁ : SharedT} {p p₁ : Pos} {a : α} {vs : List Value} (h : aq w n x s p a s₁ p₁) : aq w n (holding vs x) s p a s₁ p₁ := by
 unfold PySem.holding
 split
 ·exact h
 ·exact h.keep
theorem aq.onRaise {x : Sem α} {s s₁ : SharedT} {p p₁ : Pos} {a : α} {g : Value → Sem Unit} (h : aq w n x s p a s₁ p₁) : aq w n (x.onRaise g) s p a s₁ p₁ := fun gd lv K' H' N r q => by
 rw [Sem.onRaise_eq_wrap, Sem.wrap_wrap]
 exact h _ _ _ _ _ _ q
theorem one {N : Nat} {s s₁ : SharedT} {t t₁ : Thread} {r : Shared} (e : stepT (denote treeTable) pw w s t = some (s₁, t₁)) (ht : through t = false) (ok : stepOk 11 (some (.ref 6)) t = true) (h : ou w N s₁.abs t₁ = some r) : ou w (1 + N) s.abs t = some r := by
 show topRun treeTable pw w 11 (some (.ref 6)) (1 + N) s.abs t = some r
 rw [Nat.add_comm]
 unfold topRun
 rw [ht]
 dsimp only
 rw [ok]
 dsimp only
 rw [stepT_spec e]
 exact h
theorem aq.load {s : SharedT} {p : Pos} {d : Addr} {q : Option Value} {o o' : Obj} (hd : Nat.blt d s.n = true) (hg : s.tree.get d = some o) (ha : alive o = some o') : aq w 1 (loadPart d q) s p o' s p := fun gd lv K' H' N r h =>
 one (t := ⟨.load d q (fun x => K' x), cE, p, B⟩) (by obtain ⟨T, n, life, gens, drawn, toks, os⟩ := s; dsimp only at hd hg; simp only [stepT, hd, hg, ha]) rfl rfl h
theorem aq.update {s : SharedT} {p : Pos} {d : Addr} {q : Option Value} {f : Obj → Obj} {o o' : Obj} (hd : Nat.blt d s.n = true) (h11 : Nat.ble 11 d = true) (hg : s.tree.get d = some o) (ha : alive o = some o') :
  aq w 1 (updatePart d q f) s p () { s with tree := s.tree.set d f } p := fun gd lv K' H' N r h =>
 one (t := ⟨.update d q f (fun x => K' x), cE, p, B⟩) (by obtain ⟨T, n, life, gens, drawn, toks, os⟩ := s; dsimp only at hd hg; simp only [stepT, hd, hg, ha]) rfl (by
  unfold stepOk
  simp only [h11, Bool.true_or]
  rfl) h
theorem aq.run {x : Sem α} {s s' : SharedT} {p p' : Pos} {a : α} (res : α → Flow) (n : Nat) (hres : ∀ a', res a' = res a → a' = a)
  (h : ∀ (gd : Bool → Bool) (lv : List Value → List Value), segRunT treeTable pw w 11 (some (.ref 6)) 1 n s ⟨x.wrap (fun a => .pure (.done (res a))) deadEnd gd lv, cE, p, B⟩ = some (res a, s', cE, p')) : aq w n x s p a s' p' := fun gd lv K' H' N r q => by
 refine e12 (seg_top (B := B) (res := res) (K' := K') (H' := H') rfl n s.abs ⟨x.wrap (fun a => .pure (.done (res a))) deadEnd gd lv, cE, p, B⟩ ⟨x.wrap K' H' gd lv, cE, p, B⟩ (res a) s'.abs cE p' ⟨rfl, rfl, .inl ⟨rfl, rfl, x, rfl, rfl⟩⟩ (segRun_of (h gd lv))) fun a' e k => ?_
 obtain rfl := hres a' e
 exact k N r q
theorem M2 (c : Value) (dd : Option Addr) (es : Array DictEntry) (n : Nat) (sl : Array (Option Value)) : alive ⟨c, dd, .dict es n, sl⟩ = some ⟨c, dd, .dict es n, sl⟩ := rfl
theorem aq.dictEntries {s : SharedT} {p : Pos} {d : Addr} {q : Option Value} {c : Value} {dd : Option Addr} {es : Array DictEntry} {n : Nat} {sl : Array (Option Value)} (hd : Nat.blt d s.n = true) (hg : s.tree.get d = some ⟨c, dd, .dict es n, sl⟩) : aq w 1 (dictEntries d q) s p es s p := by
 unfold PySem.dictEntries
 exact aq.bind (n := 1) (m := 0) (aq.load hd hg rfl) (by exact aq.pure)
theorem aq.dictEpoch {s : SharedT} {p : Pos} {d : Addr} {q : Option Value} {c : Value} {dd : Option Addr} {es : Array DictEntry} {n : Nat} {sl : Array (Option Value)} (hd : Nat.blt d s.n = true) (hg : s.tree.get d = some ⟨c, dd, .dict es n, sl⟩) : aq w 1 (dictEpoch d q) s p n s p := by
 unfold PySem.dictEpoch
 exact aq.bind (n := 1) (m := 0) (aq.load hd hg rfl) (by exact aq.pure)
theorem aq.dictFind {s : SharedT} {p : Pos} {d : Addr} {k : Int} {t : Tok} {h : Int} {c : Value} {dd : Option Addr} {es : Array DictEntry} {n : Nat} {sl : Array (Option Value)} (hd : Nat.blt d s.n = true) (hg : s.tree.get d = some ⟨c, dd, .dict es n, sl⟩)
  (hp : placesWithHash es.size (fun i => es[i]?.map (·.hash)) h = []) : aq w 1 (dictFind d (.int k t) h) s p none s p := by
 unfold PySem.dictFind
 refine aq.holding (aq.bind (m := 0) (aq.dictEntries hd hg) ?_)
 simp only [hp]
 exact aq.pure
theorem aq.dictPut {s : SharedT} {p : Pos} {d : Addr} {k : Int} {t : Tok} {h : Int} {v c : Value} {dd : Option Addr} {es : Array DictEntry} {n : Nat} {sl : Array (Option Value)} (hd : Nat.blt d s.n = true) (h11 : Nat.ble 11 d = true) (hg : s.tree.get d = some ⟨c, dd, .dict es n, sl⟩)
  (hsz : es.size < 1000) (hp : placesWithHash es.size (fun i => es[i]?.map (·.hash)) h = []) : aq w 4 (dictPut d h (.int k t) v) s p () { s with tree := s.tree.set d (Obj.mapDictKeys (·.push ⟨h, .int k t, v⟩)) } p := by
 unfold PySem.dictPut
 refine aq.bind (m := 1 + (1 + (1 + 0))) (aq.dictFind hd hg hp) ?_
 dsimp only
 unfold PySem.updateDictKeys
 refine aq.bind (aq.load hd hg rfl) ?_
 dsimp only
 refine aq.bind (aq.update hd h11 hg rfl) ?_
 unfold PySem.lookBehind
 refine aq.bind (aq.load (o := ⟨c, dd, .dict (es.push ⟨h, .int k t, v⟩) (n + 1), sl⟩) hd (by rw [BT.get_set, if_pos rfl, hg]; rfl) rfl) ?_
 have e : (Data.dict (es.push ⟨h, .int k t, v⟩) (n + 1)).pastItsLine = none := by
  show (if (es.push ⟨h, .int k t, v⟩).size > sizeLine + 1 then some "dict:memory" else none) = none
  rw [if_neg]
  rw [Array.size_push, sizeLine_eq]; lia
 dsimp only
 rw [e]
 exact aq.pure
theorem aq.forRange {p : Pos} (c : Nat) (body : Nat → PUnit → Sem (ForInStep PUnit)) (S : Nat → SharedT) (m : Nat) (hb : ∀ i, i < m → aq w c (body i ⟨⟩) (S i) p (.yield ⟨⟩) (S (i + 1)) p) :
  aq w (m * c) (forIn (List.range m) PUnit.unit body) (S 0) p PUnit.unit (S m) p := by
 have key : ∀ k i, i + k = m → aq w (k * c) (forIn (List.range' i k) PUnit.unit body) (S i) p PUnit.unit (S m) p := by
  intro k
  induction k with
  | zero =>
   intro i e; obtain rfl : i = m := by lia
   rw [Nat.zero_mul]; exact aq.pure
  | succ k ih =>
   intro i e
   rw [List.range'_succ, List.forIn_cons]
   rw [Nat.succ_mul, Nat.add_comm]
   exact aq.bind (hb i (by lia)) (ih (i + 1) (by lia))
 rw [List.range_eq_range']
 exact key m 0 (by lia)
theorem uP {n : Nat} {f : Nat → Option Int} {h : Int} (H : ∀ i, i < n → f i ≠ some h) : placesWithHash n f h = [] := by
 unfold placesWithHash
 rw [List.filter_eq_nil_iff]
 intro i hi
 simpa using H i (List.mem_range.mp hi)
noncomputable def an (d : Addr) (l : List DictEntry) (T : BT) : BT := l.foldl (fun T e => T.set d (Obj.mapDictKeys (·.push e))) T
theorem ng (d : Addr) : ∀ (l : List DictEntry) (T : BT) (c : Value) (dd : Option Addr) (es : Array DictEntry) (n : Nat) (sl : Array (Option Value)), T.get d = some ⟨c, dd, .dict es n, sl⟩ →
  (an d l T).get d = some ⟨c, dd, .dict (es ++ l.toArray) (n + l.length), sl⟩
 | [], T, c, dd, es, n, sl, h => by simpa [an] using h
 | e :: l, T, c, dd, es, n, sl, h => by
  have := ng d l (T.set d (Obj.mapDictKeys (·.push e))) c dd (es.push e) (n + 1) sl (by rw [BT.get_set, if_pos rfl, h]; rfl)
  show (an d l (T.set d (Obj.mapDictKeys (·.push e)))).get d = _
  rw [this]
  have e1 : es.push e ++ l.toArray = es ++ (e :: l).toArray := by apply Array.ext'; simp
  rw [e1, List.length_cons, show n + 1 + l.length = n + (l.length + 1) by lia]
theorem kt (d : Addr) (a : Addr) (h : a ≠ d) : ∀ (l : List DictEntry) (T : BT), (an d l T).get a = T.get a
 | [], T => rfl
 | e :: l, T => by
  show (an d l (T.set d _)).get a = _
  rw [kt d a h l, BT.get_set, if_neg h]
theorem sy (d : Addr) (l : List DictEntry) (e : DictEntry) (T : BT) : an d (l ++ [e]) T = (an d l T).set d (Obj.mapDictKeys (·.push e)) := by
 unfold an
 rw [List.foldl_append]
 rfl
theorem Ay {s : SharedT} {p : Pos} {d a : Addr} {c c' : Value} {dd dd' : Option Addr} {es ss : List DictEntry} {n m : Nat} {sl sl' : Array (Option Value)}
  (hi : aq w 1000 (isInstance (.ref a) (.type "dict")) s p true s p) (hs : aq w 1000 (specialOf (.ref a) "__iter__") s p (some (.builtin "dict.__iter__")) s p)
  (hd : Nat.blt d s.n = true) (ha : Nat.blt a s.n = true) (h11 : Nat.ble 11 d = true) (hg : s.tree.get d = some ⟨c, dd, .dict es.toArray n, sl⟩) (hga : s.tree.get a = some ⟨c', dd', .dict ss.toArray m, sl'⟩)
  (hne : es ≠ []) (hda : a ≠ d) (ha1 : (a == sysModules) = false) (hsz : es.length + ss.length < 1000)
  (hk : ∀ e ∈ ss, ∃ i t, e.key = .int i t) (hn : ((es ++ ss).map (·.hash)).Nodup) :
  aq w 8100 (mergeMapping d (.ref a) false) s p () { s with tree := an d ss s.tree } p := by
 refine aq.weak (n := 1000 + (1000 + (0 + (1 + (1 + (1 + (ss.length * 6 + 0))))))) ?_ (by lia)
 unfold PySem.mergeMapping
 refine aq.bind hi ?_
 simp only [if_true]
 refine aq.bind hs ?_
 have e1 : ((some (Value.builtin "dict.__iter__") : Option Value) == some (.builtin "dict.__iter__")) = true := by decide
 simp only [e1]
 refine aq.bind aq.pure ?_
 dsimp only
 rw [ha1]
 simp only [Bool.false_eq_true, if_false]
 refine aq.bind (aq.dictEntries hd hg) ?_
 have e2 : es.toArray.isEmpty = false := by simpa using hne
 rw [e2]
 simp only [Bool.false_eq_true, if_false]
 refine aq.bind (aq.dictEntries ha hga) ?_
 refine aq.bind (aq.dictEpoch ha hga) ?_
 refine aq.bind (a := PUnit.unit) (s₁ := { s with tree := an d ss s.tree }) (p₁ := p) ?_ aq.pure
 have hl : ss.toArray.size = ss.length := by simp
 rw [hl]
 have e7 : ({ s with tree := an d ss s.tree } : SharedT) = (fun i => { s with tree := an d (ss.take i) s.tree }) ss.length := by
  show _ = ({ s with tree := an d (ss.take ss.length) s.tree } : SharedT)
  rw [List.take_length]
 rw [e7]
 refine aq.forRange (w := w) (p := p) 6 _ (fun i => { s with tree := an d (ss.take i) s.tree }) ss.length (fun i hi => ?_)
 ·refine aq.weak (n := 1 + (4 + (1 + 0))) ?_ (by lia)
  show aq w _ _ { s with tree := an d (ss.take i) s.tree } p _ { s with tree := an d (ss.take (i + 1)) s.tree } p
  have ga : ∀ j, ({ s with tree := an d (ss.take j) s.tree } : SharedT).tree.get a = some ⟨c', dd', .dict ss.toArray m, sl'⟩ := fun j => (kt d a hda _ _).trans hga
  have gd : ∀ j, ({ s with tree := an d (ss.take j) s.tree } : SharedT).tree.get d = some ⟨c, dd, .dict (es.toArray ++ (ss.take j).toArray) (n + (ss.take j).length), sl⟩ := fun j => ng d _ _ _ _ _ _ _ hg
  have hmem : ss[i] ∈ ss := List.getElem_mem hi
  refine e21 (hk _ hmem) fun ik it hkey => ?_
  have hss : ss.toArray[i]? = some ss[i] := by simp [hi]
  refine aq.bind (aq.dictEntries (by exact ha) (ga i)) ?_
  rw [hss]
  dsimp only
  have hp : placesWithHash (es.toArray ++ (ss.take i).toArray).size (fun j => (es.toArray ++ (ss.take i).toArray)[j]?.map (·.hash)) ss[i].hash = [] := by
   refine uP fun j hj q => ?_
   have e3 : (es.toArray ++ (ss.take i).toArray) = (es ++ ss.take i).toArray := by apply Array.ext'; simp
   rw [e3] at q hj
   rw [List.getElem?_toArray] at q
   rw [List.size_toArray] at hj
   rw [List.getElem?_eq_getElem hj, Option.map_some] at q
   have q := Option.some.inj q
   have hsplit : es ++ ss = (es ++ ss.take i) ++ ss[i] :: ss.drop (i + 1) := by
    rw [List.append_assoc]
    congr 1
    rw [← List.drop_eq_getElem_cons hi, List.take_append_drop]
   rw [hsplit, List.map_append, List.map_cons] at hn
   have := (List.nodup_append.mp hn).2.2 _ (List.mem_map.mpr ⟨_, List.getElem_mem hj, rfl⟩) _ (.head _)
   exact this q
  refine aq.bind (a := ()) (p₁ := p) (s₁ := { s with tree := an d (ss.take (i + 1)) s.tree }) (aq.holding ?_) ?_
  ·have e4 : ss.take (i + 1) = ss.take i ++ [ss[i]] := by rw [List.take_add_one, List.getElem?_eq_getElem hi]; rfl
   have e5 : ss[i] = ⟨ss[i].hash, .int ik it, ss[i].val⟩ := by rw [← hkey]
   rw [e4, sy]
   have z := aq.dictPut (w := w) (s := { s with tree := an d (ss.take i) s.tree }) (p := p) (d := d) (k := ik) (t := it) (h := ss[i].hash) (v := ss[i].val) hd h11 (gd i) (by simp; lia) hp
   rw [← hkey] at z
   exact z
  ·refine aq.bind (aq.dictEpoch (by exact ha) (ga (i + 1))) ?_
   have e6 : (m != m) = false := by simp
   rw [e6]
   simp only [Bool.false_eq_true, if_false]
   exact aq.pure
end
noncomputable section
variable {w : World}
theorem fT (step : Nat) : ∀ (l : List (Int × Str)) (t : Nat), (gO step t l).map (·.hash) = l.map (·.1)
 | [], _ => rfl
 | p :: r, t => by rw [gO, List.map_cons, List.map_cons, fT step r]
theorem nX (step : Nat) : ∀ (l : List (Int × Str)) (t : Nat) (e : DictEntry), e ∈ gO step t l → ∃ i t, e.key = .int i t
 | [], _, e, h => nomatch h
 | p :: r, t, e, h => by
  rw [gO] at h
  rcases List.mem_cons.mp h with rfl | h
  ·exact ⟨_, _, rfl⟩
  ·exact nX step r _ e h
theorem nW (step : Nat) (l : List (Int × Str)) (t : Nat) : (gO step t l).length = l.length := by
 have := congrArg List.length (fT step l t)
 simpa using this
noncomputable def wr : List Int → Bool
 | a :: b :: r => decide (a < b) && wr (b :: r)
 | _ => true
theorem sq : ∀ (l : List Int), wr l = true → l.Pairwise (· < ·)
 | [], _ => .nil
 | [a], _ => by simp
 | a :: b :: r, h => by
  unfold wr at h
  obtain ⟨h1, h2⟩ := Bool.and_eq_true_iff.mp h
  have ih := sq (b :: r) h2
  refine List.pairwise_cons.mpr ⟨fun x hx => ?_, ih⟩
  have hab : a < b := of_decide_eq_true h1
  rcases List.mem_cons.mp hx with rfl | hx
  ·exact hab
  ·exact Int.lt_trans hab ((List.pairwise_cons.mp ih).1 x hx)
theorem GT : wr (dM.map (·.1)) = true := by kernel_rfl
theorem rX : dM.length = 650 := by kernel_rfl
theorem GW (n : Nat) : ((dM.take n).map (·.1)).Nodup := by
 have h := sq _ GT
 rw [List.map_take]
 refine List.Pairwise.imp (fun h => ?_) (h.sublist (List.take_sublist n _))
 lia
theorem rH (k : Nat) (h : Nat.ble k 38 = true) : (dmE k).map (·.hash) = (dM.take (17 * k)).map (·.1) := by
 unfold dmE
 rw [h]
 exact fT _ _ _
theorem ug (j : Nat) (h : Nat.ble j 38 = true) : ((dmE j ++ dsE j).map (·.hash)).Nodup := by
 have key : (dmE j ++ dsE j).map (·.hash) = (dM.take (17 * j + 17)).map (·.1) := by
  rw [List.map_append, rH j h]
  unfold dsE
  cases q : Nat.ble j 37 with
  | true =>
   dsimp only
   rw [fT, ← List.map_append, List.take_add]
  | false =>
   dsimp only
   obtain rfl : j = 38 := by
    have h1 := Nat.le_of_ble_eq_true h
    have h2 : ¬ j ≤ 37 := fun z => by rw [Nat.ble_eq_true_of_le z] at q; cases q
    lia
   rw [fT, ← List.map_append, List.take_of_length_le (l := dM) (i := 17 * 38 + 17) (by rw [rX]; lia)]
   exact congrArg _ (List.take_append_drop 646 dM)
 rw [key]
 exact GW _
theorem AR (j : Nat) (h : Nat.ble j 38 = true) : (dmE j).length + (dsE j).length < 1000 := by
 have h1 := congrArg List.length (rH j h)
 simp only [List.length_map, List.length_take, rX] at h1
 have h2 : (dsE j).length ≤ 17 := by
  unfold dsE
  cases q : Nat.ble j 37 with
  | true => dsimp only; rw [nW, List.length_take]; lia
  | false => dsimp only; rw [nW, List.length_drop, rX]; lia
 have h3 := Nat.le_of_ble_eq_true h
 lia
theorem MX (j : Nat) (e : DictEntry) (he : e ∈ dsE j) : ∃ i t, e.key = .int i t := by
 unfold dsE at he
 cases q : Nat.ble j 37 <;> rw [q] at he <;> exact nX _ _ _ _ he
theorem N9 (j : Nat) (h : Nat.ble j 38 = true) (h1 : Nat.ble 1 j = true) : dmE j ≠ [] := by
 intro q
 have h2 := congrArg List.length (rH j h)
 rw [q] at h2
 simp only [List.map_nil, List.length_nil, List.length_map, List.length_take, rX] at h2
 have := Nat.le_of_ble_eq_true h1
 lia
theorem r6 {s s' : SharedT} {p : Pos} {j : Nat} {run : List (Sem Value × Sem Value)} (hj : Nat.ble j 38 = true) (hj1 : Nat.ble 1 j = true) (hsub : aq w 1000 (subDict run) s p (110 + j) s' p)
  (hi : aq w 1000 (isInstance (.ref (110 + j)) (.type "dict")) s' p true s' p) (hs : aq w 1000 (specialOf (.ref (110 + j)) "__iter__") s' p (some (.builtin "dict.__iter__")) s' p)
  (hn : Nat.blt (110 + j) s'.n = true) (hg : s'.tree.get 110 = some (dmO j)) (hga : s'.tree.get (110 + j) = some (dsO j)) :
  aq w 9100 (ao 110 run) s p () { s' with tree := an 110 (dsE j) s'.tree } p := by
 unfold ao
 refine aq.bind (n := 1000) (m := 8100) (aq.holding hsub) ?_
 refine aq.onRaise (aq.holding ?_)
 have h1 := Nat.le_of_ble_eq_true hj1
 have h2 := Nat.le_of_ble_eq_true hn
 refine Ay hi hs (Nat.ble_eq_true_of_le (by lia)) hn rfl hg hga (N9 j hj hj1) (by show (110 + j : Nat) ≠ 110; lia) (beq_eq_false_iff_ne.mpr (by show (110 + j : Nat) ≠ 1; lia)) (AR j hj) (MX j) (ug j hj)
end
noncomputable section
theorem Mi {w : World} {x : Sem Addr} {s s' : SharedT} {p p' : Pos} {a : Addr} (h : ∀ (gd : Bool → Bool) (lv : List Value → List Value), segRunT treeTable pw w 11 (some (.ref 6)) 1 1000 s ⟨x.wrap (fun a => .pure (.done (.ret (.ref a)))) deadEnd gd lv, cE, p, B⟩ = some (.ret (.ref a), s', cE, p')) : aq w 1000 x s p a s' p' :=
 aq.run (fun a => .ret (.ref a)) 1000 (fun a' e => by cases e; rfl) h
theorem Nj {w : World} {x : Sem Bool} {s s' : SharedT} {p p' : Pos} {a : Bool} (h : ∀ (gd : Bool → Bool) (lv : List Value → List Value), segRunT treeTable pw w 11 (some (.ref 6)) 1 1000 s ⟨x.wrap (fun a => .pure (.done (.ret (.bool a)))) deadEnd gd lv, cE, p, B⟩ = some (.ret (.bool a), s', cE, p')) : aq w 1000 x s p a s' p' :=
 aq.run (fun a => .ret (.bool a)) 1000 (fun a' e => by cases e; rfl) h
noncomputable def H9 : Option Value → Flow
 | some v => .ret v
 | none => .brk
theorem O7 {w : World} {x : Sem (Option Value)} {s s' : SharedT} {p p' : Pos} {a : Option Value} (h : ∀ (gd : Bool → Bool) (lv : List Value → List Value), segRunT treeTable pw w 11 (some (.ref 6)) 1 1000 s ⟨x.wrap (fun a => .pure (.done (H9 a))) deadEnd gd lv, cE, p, B⟩ = some (H9 a, s', cE, p')) : aq w 1000 x s p a s' p' :=
 aq.run H9 1000 (fun a' e => by cases a <;> cases a' <;> simp_all [H9]) h
theorem acS {w : World} {s s' : SharedT} {p : Pos} {j : Nat} {run : List (Sem Value × Sem Value)} (hj : Nat.ble j 38 = true := by rfl) (hj1 : Nat.ble 1 j = true := by rfl) (hsub : aq w 1000 (subDict run) s p (110 + j) s' p := by exact Mi (fun _ _ => by kernel_rfl))
  (hi : aq w 1000 (isInstance (.ref (110 + j)) (.type "dict")) s' p true s' p := by exact Nj (fun _ _ => by kernel_rfl)) (hs : aq w 1000 (specialOf (.ref (110 + j)) "__iter__") s' p (some (.builtin "dict.__iter__")) s' p := by exact O7 (fun _ _ => by kernel_rfl))
  (hn : Nat.blt (110 + j) s'.n = true := by rfl) (hg : s'.tree.get 110 = some (dmO j) := by kernel_rfl) (hga : s'.tree.get (110 + j) = some (dsO j) := by kernel_rfl) :
  aq w 9100 (ao 110 run) s p () { s' with tree := an 110 (dsE j) s'.tree } p := r6 hj hj1 hsub hi hs hn hg hga
theorem ch0 (w : World) (os : OsState) : aq w 1000 (subDict (av.take 17)) (S7 w os) q19 110 (SC1 w os) q19 :=
 byRow2 "special-get-raises" (P := fun w => aq w 1000 (subDict (av.take 17)) (S7 w os) q19 110 (SC1 w os) q19) (fun w => Mi (fun _ _ => by kernel_rfl)) (fun w => Mi (fun _ _ => by kernel_rfl)) w
def SD1 (w : World) (os : OsState) : SharedT := ⟨(FR w.params).ins 111 (dsO 1), 112, {}, #[], boot_drawn, 473, os⟩
theorem tr1 (P : Params) : an 110 (dsE 1) ((FR P).ins 111 (dsO 1)) = zC P := by kernel_rfl
theorem ch1 (w : World) (os : OsState) : aq w 9100 (ao 110 ((av.drop 17).take 17)) (SC1 w os) q19 () (SC2 w os) q19 := by
 have z := byRow2 "special-get-raises" (P := fun w => aq w 9100 (ao 110 ((av.drop 17).take 17)) (SC1 w os) q19 () { SD1 w os with tree := an 110 (dsE 1) (SD1 w os).tree } q19)
  (fun w => acS (s' := SD1 _ os))
  (fun w => acS (s' := SD1 _ os)) w
 have e : ({ SD1 w os with tree := an 110 (dsE 1) (SD1 w os).tree } : SharedT) = SC2 w os := congrArg (fun T => (⟨T, 112, {}, #[], boot_drawn, 473, os⟩ : SharedT)) (tr1 w.params)
 rw [← e]; exact z
def SD2 (w : World) (os : OsState) : SharedT := ⟨(zC w.params).ins 112 (dsO 2), 113, {}, #[], boot_drawn, 524, os⟩
theorem tr2 (P : Params) : an 110 (dsE 2) ((zC P).ins 112 (dsO 2)) = zB P := by kernel_rfl
theorem ch2 (w : World) (os : OsState) : aq w 9100 (ao 110 ((av.drop 34).take 17)) (SC2 w os) q19 () (SC3 w os) q19 := by
 have z := byRow2 "special-get-raises" (P := fun w => aq w 9100 (ao 110 ((av.drop 34).take 17)) (SC2 w os) q19 () { SD2 w os with tree := an 110 (dsE 2) (SD2 w os).tree } q19)
  (fun w => acS (s' := SD2 _ os))
  (fun w => acS (s' := SD2 _ os)) w
 have e : ({ SD2 w os with tree := an 110 (dsE 2) (SD2 w os).tree } : SharedT) = SC3 w os := congrArg (fun T => (⟨T, 113, {}, #[], boot_drawn, 524, os⟩ : SharedT)) (tr2 w.params)
 rw [← e]; exact z
def SD3 (w : World) (os : OsState) : SharedT := ⟨(zB w.params).ins 113 (dsO 3), 114, {}, #[], boot_drawn, 575, os⟩
theorem tr3 (P : Params) : an 110 (dsE 3) ((zB P).ins 113 (dsO 3)) = zA P := by kernel_rfl
theorem ch3 (w : World) (os : OsState) : aq w 9100 (ao 110 ((av.drop 51).take 17)) (SC3 w os) q19 () (SC4 w os) q19 := by
 have z := byRow2 "special-get-raises" (P := fun w => aq w 9100 (ao 110 ((av.drop 51).take 17)) (SC3 w os) q19 () { SD3 w os with tree := an 110 (dsE 3) (SD3 w os).tree } q19)
  (fun w => acS (s' := SD3 _ os))
  (fun w => acS (s' := SD3 _ os)) w
 have e : ({ SD3 w os with tree := an 110 (dsE 3) (SD3 w os).tree } : SharedT) = SC4 w os := congrArg (fun T => (⟨T, 114, {}, #[], boot_drawn, 575, os⟩ : SharedT)) (tr3 w.params)
 rw [← e]; exact z
def SD4 (w : World) (os : OsState) : SharedT := ⟨(zA w.params).ins 114 (dsO 4), 115, {}, #[], boot_drawn, 626, os⟩
theorem tr4 (P : Params) : an 110 (dsE 4) ((zA P).ins 114 (dsO 4)) = zz P := by kernel_rfl
theorem ch4 (w : World) (os : OsState) : aq w 9100 (ao 110 ((av.drop 68).take 17)) (SC4 w os) q19 () (SC5 w os) q19 := by
 have z := byRow2 "special-get-raises" (P := fun w => aq w 9100 (ao 110 ((av.drop 68).take 17)) (SC4 w os) q19 () { SD4 w os with tree := an 110 (dsE 4) (SD4 w os).tree } q19)
  (fun w => acS (s' := SD4 _ os))
  (fun w => acS (s' := SD4 _ os)) w
 have e : ({ SD4 w os with tree := an 110 (dsE 4) (SD4 w os).tree } : SharedT) = SC5 w os := congrArg (fun T => (⟨T, 115, {}, #[], boot_drawn, 626, os⟩ : SharedT)) (tr4 w.params)
 rw [← e]; exact z
def SD5 (w : World) (os : OsState) : SharedT := ⟨(zz w.params).ins 115 (dsO 5), 116, {}, #[], boot_drawn, 677, os⟩
theorem tr5 (P : Params) : an 110 (dsE 5) ((zz P).ins 115 (dsO 5)) = zy P := by kernel_rfl
theorem ch5 (w : World) (os : OsState) : aq w 9100 (ao 110 ((av.drop 85).take 17)) (SC5 w os) q19 () (SC6 w os) q19 := by
 have z := byRow2 "special-get-raises" (P := fun w => aq w 9100 (ao 110 ((av.drop 85).take 17)) (SC5 w os) q19 () { SD5 w os with tree := an 110 (dsE 5) (SD5 w os).tree } q19)
  (fun w => acS (s' := SD5 _ os))
  (fun w => acS (s' := SD5 _ os)) w
 have e : ({ SD5 w os with tree := an 110 (dsE 5) (SD5 w os).tree } : SharedT) = SC6 w os := congrArg (fun T => (⟨T, 116, {}, #[], boot_drawn, 677, os⟩ : SharedT)) (tr5 w.params)
 rw [← e]; exact z
def SD6 (w : World) (os : OsState) : SharedT := ⟨(zy w.params).ins 116 (dsO 6), 117, {}, #[], boot_drawn, 728, os⟩
theorem tr6 (P : Params) : an 110 (dsE 6) ((zy P).ins 116 (dsO 6)) = zx P := by kernel_rfl
theorem ch6 (w : World) (os : OsState) : aq w 9100 (ao 110 ((av.drop 102).take 17)) (SC6 w os) q19 () (SC7 w os) q19 := by
 have z := byRow2 "special-get-raises" (P := fun w => aq w 9100 (ao 110 ((av.drop 102).take 17)) (SC6 w os) q19 () { SD6 w os with tree := an 110 (dsE 6) (SD6 w os).tree } q19)
  (fun w => acS (s' := SD6 _ os))
  (fun w => acS (s' := SD6 _ os)) w
 have e : ({ SD6 w os with tree := an 110 (dsE 6) (SD6 w os).tree } : SharedT) = SC7 w os := congrArg (fun T => (⟨T, 117, {}, #[], boot_drawn, 728, os⟩ : SharedT)) (tr6 w.params)
 rw [← e]; exact z
def SD7 (w : World) (os : OsState) : SharedT := ⟨(zx w.params).ins 117 (dsO 7), 118, {}, #[], boot_drawn, 779, os⟩
theorem tr7 (P : Params) : an 110 (dsE 7) ((zx P).ins 117 (dsO 7)) = zw P := by kernel_rfl
theorem ch7 (w : World) (os : OsState) : aq w 9100 (ao 110 ((av.drop 119).take 17)) (SC7 w os) q19 () (SC8 w os) q19 := by
 have z := byRow2 "special-get-raises" (P := fun w => aq w 9100 (ao 110 ((av.drop 119).take 17)) (SC7 w os) q19 () { SD7 w os with tree := an 110 (dsE 7) (SD7 w os).tree } q19)
  (fun w => acS (s' := SD7 _ os))
  (fun w => acS (s' := SD7 _ os)) w
 have e : ({ SD7 w os with tree := an 110 (dsE 7) (SD7 w os).tree } : SharedT) = SC8 w os := congrArg (fun T => (⟨T, 118, {}, #[], boot_drawn, 779, os⟩ : SharedT)) (tr7 w.params)
 rw [← e]; exact z
def SD8 (w : World) (os : OsState) : SharedT := ⟨(zw w.params).ins 118 (dsO 8), 119, {}, #[], boot_drawn, 830, os⟩
theorem tr8 (P : Params) : an 110 (dsE 8) ((zw P).ins 118 (dsO 8)) = zv P := by kernel_rfl
theorem ch8 (w : World) (os : OsState) : aq w 9100 (ao 110 ((av.drop 136).take 17)) (SC8 w os) q19 () (SC9 w os) q19 := by
 have z := byRow2 "special-get-raises" (P := fun w => aq w 9100 (ao 110 ((av.drop 136).take 17)) (SC8 w os) q19 () { SD8 w os with tree := an 110 (dsE 8) (SD8 w os).tree } q19)
  (fun w => acS (s' := SD8 _ os))
  (fun w => acS (s' := SD8 _ os)) w
 have e : ({ SD8 w os with tree := an 110 (dsE 8) (SD8 w os).tree } : SharedT) = SC9 w os := congrArg (fun T => (⟨T, 119, {}, #[], boot_drawn, 830, os⟩ : SharedT)) (tr8 w.params)
 rw [← e]; exact z
def SD9 (w : World) (os : OsState) : SharedT := ⟨(zv w.params).ins 119 (dsO 9), 120, {}, #[], boot_drawn, 881, os⟩
theorem tr9 (P : Params) : an 110 (dsE 9) ((zv P).ins 119 (dsO 9)) = qW P := by kernel_rfl
theorem ch9 (w : World) (os : OsState) : aq w 9100 (ao 110 ((av.drop 153).take 17)) (SC9 w os) q19 () (HF w os) q19 := by
 have z := byRow2 "special-get-raises" (P := fun w => aq w 9100 (ao 110 ((av.drop 153).take 17)) (SC9 w os) q19 () { SD9 w os with tree := an 110 (dsE 9) (SD9 w os).tree } q19)
  (fun w => acS (s' := SD9 _ os))
  (fun w => acS (s' := SD9 _ os)) w
 have e : ({ SD9 w os with tree := an 110 (dsE 9) (SD9 w os).tree } : SharedT) = HF w os := congrArg (fun T => (⟨T, 120, {}, #[], boot_drawn, 881, os⟩ : SharedT)) (tr9 w.params)
 rw [← e]; exact z
def Bu (w : World) (os : OsState) : SharedT := ⟨(qW w.params).ins 120 (dsO 10), 121, {}, #[], boot_drawn, 932, os⟩
theorem OY (P : Params) : an 110 (dsE 10) ((qW P).ins 120 (dsO 10)) = qU P := by kernel_rfl
theorem Qi (w : World) (os : OsState) : aq w 9100 (ao 110 ((av.drop 170).take 17)) (HF w os) q19 () (HE w os) q19 := by
 have z := byRow2 "special-get-raises" (P := fun w => aq w 9100 (ao 110 ((av.drop 170).take 17)) (HF w os) q19 () { Bu w os with tree := an 110 (dsE 10) (Bu w os).tree } q19)
  (fun w => acS (s' := Bu _ os))
  (fun w => acS (s' := Bu _ os)) w
 have e : ({ Bu w os with tree := an 110 (dsE 10) (Bu w os).tree } : SharedT) = HE w os := congrArg (fun T => (⟨T, 121, {}, #[], boot_drawn, 932, os⟩ : SharedT)) (OY w.params)
 rw [← e]; exact z
def Bt (w : World) (os : OsState) : SharedT := ⟨(qU w.params).ins 121 (dsO 11), 122, {}, #[], boot_drawn, 983, os⟩
theorem OX (P : Params) : an 110 (dsE 11) ((qU P).ins 121 (dsO 11)) = qT P := by kernel_rfl
theorem Qh (w : World) (os : OsState) : aq w 9100 (ao 110 ((av.drop 187).take 17)) (HE w os) q19 () (HD w os) q19 := by
 have z := byRow2 "special-get-raises" (P := fun w => aq w 9100 (ao 110 ((av.drop 187).take 17)) (HE w os) q19 () { Bt w os with tree := an 110 (dsE 11) (Bt w os).tree } q19)
  (fun w => acS (s' := Bt _ os))
  (fun w => acS (s' := Bt _ os)) w
 have e : ({ Bt w os with tree := an 110 (dsE 11) (Bt w os).tree } : SharedT) = HD w os := congrArg (fun T => (⟨T, 122, {}, #[], boot_drawn, 983, os⟩ : SharedT)) (OX w.params)
 rw [← e]; exact z
def Bs (w : World) (os : OsState) : SharedT := ⟨(qT w.params).ins 122 (dsO 12), 123, {}, #[], boot_drawn, 1034, os⟩
theorem OW (P : Params) : an 110 (dsE 12) ((qT P).ins 122 (dsO 12)) = qS P := by kernel_rfl
theorem Qg (w : World) (os : OsState) : aq w 9100 (ao 110 ((av.drop 204).take 17)) (HD w os) q19 () (HC w os) q19 := by
 have z := byRow2 "special-get-raises" (P := fun w => aq w 9100 (ao 110 ((av.drop 204).take 17)) (HD w os) q19 () { Bs w os with tree := an 110 (dsE 12) (Bs w os).tree } q19)
  (fun w => acS (s' := Bs _ os))
  (fun w => acS (s' := Bs _ os)) w
 have e : ({ Bs w os with tree := an 110 (dsE 12) (Bs w os).tree } : SharedT) = HC w os := congrArg (fun T => (⟨T, 123, {}, #[], boot_drawn, 1034, os⟩ : SharedT)) (OW w.params)
 rw [← e]; exact z
def Bq (w : World) (os : OsState) : SharedT := ⟨(qS w.params).ins 123 (dsO 13), 124, {}, #[], boot_drawn, 1085, os⟩
theorem OU (P : Params) : an 110 (dsE 13) ((qS P).ins 123 (dsO 13)) = qR P := by kernel_rfl
theorem Qf (w : World) (os : OsState) : aq w 9100 (ao 110 ((av.drop 221).take 17)) (HC w os) q19 () (HB w os) q19 := by
 have z := byRow2 "special-get-raises" (P := fun w => aq w 9100 (ao 110 ((av.drop 221).take 17)) (HC w os) q19 () { Bq w os with tree := an 110 (dsE 13) (Bq w os).tree } q19)
  (fun w => acS (s' := Bq _ os))
  (fun w => acS (s' := Bq _ os)) w
 have e : ({ Bq w os with tree := an 110 (dsE 13) (Bq w os).tree } : SharedT) = HB w os := congrArg (fun T => (⟨T, 124, {}, #[], boot_drawn, 1085, os⟩ : SharedT)) (OU w.params)
 rw [← e]; exact z
def Bp (w : World) (os : OsState) : SharedT := ⟨(qR w.params).ins 124 (dsO 14), 125, {}, #[], boot_drawn, 1136, os⟩
theorem OT (P : Params) : an 110 (dsE 14) ((qR P).ins 124 (dsO 14)) = qQ P := by kernel_rfl
theorem Qe (w : World) (os : OsState) : aq w 9100 (ao 110 ((av.drop 238).take 17)) (HB w os) q19 () (HA w os) q19 := by
 have z := byRow2 "special-get-raises" (P := fun w => aq w 9100 (ao 110 ((av.drop 238).take 17)) (HB w os) q19 () { Bp w os with tree := an 110 (dsE 14) (Bp w os).tree } q19)
  (fun w => acS (s' := Bp _ os))
  (fun w => acS (s' := Bp _ os)) w
 have e : ({ Bp w os with tree := an 110 (dsE 14) (Bp w os).tree } : SharedT) = HA w os := congrArg (fun T => (⟨T, 125, {}, #[], boot_drawn, 1136, os⟩ : SharedT)) (OT w.params)
 rw [← e]; exact z
def Bo (w : World) (os : OsState) : SharedT := ⟨(qQ w.params).ins 125 (dsO 15), 126, {}, #[], boot_drawn, 1187, os⟩
theorem OS (P : Params) : an 110 (dsE 15) ((qQ P).ins 125 (dsO 15)) = qP P := by kernel_rfl
theorem Qd (w : World) (os : OsState) : aq w 9100 (ao 110 ((av.drop 255).take 17)) (HA w os) q19 () (Hz w os) q19 := by
 have z := byRow2 "special-get-raises" (P := fun w => aq w 9100 (ao 110 ((av.drop 255).take 17)) (HA w os) q19 () { Bo w os with tree := an 110 (dsE 15) (Bo w os).tree } q19)
  (fun w => acS (s' := Bo _ os))
  (fun w => acS (s' := Bo _ os)) w
 have e : ({ Bo w os with tree := an 110 (dsE 15) (Bo w os).tree } : SharedT) = Hz w os := congrArg (fun T => (⟨T, 126, {}, #[], boot_drawn, 1187, os⟩ : SharedT)) (OS w.params)
 rw [← e]; exact z
def Bn (w : World) (os : OsState) : SharedT := ⟨(qP w.params).ins 126 (dsO 16), 127, {}, #[], boot_drawn, 1238, os⟩
theorem OR (P : Params) : an 110 (dsE 16) ((qP P).ins 126 (dsO 16)) = qO P := by kernel_rfl
theorem Qc (w : World) (os : OsState) : aq w 9100 (ao 110 ((av.drop 272).take 17)) (Hz w os) q19 () (Hy w os) q19 := by
 have z := byRow2 "special-get-raises" (P := fun w => aq w 9100 (ao 110 ((av.drop 272).take 17)) (Hz w os) q19 () { Bn w os with tree := an 110 (dsE 16) (Bn w os).tree } q19)
  (fun w => acS (s' := Bn _ os))
  (fun w => acS (s' := Bn _ os)) w
 have e : ({ Bn w os with tree := an 110 (dsE 16) (Bn w os).tree } : SharedT) = Hy w os := congrArg (fun T => (⟨T, 127, {}, #[], boot_drawn, 1238, os⟩ : SharedT)) (OR w.params)
 rw [← e]; exact z
def Bm (w : World) (os : OsState) : SharedT := ⟨(qO w.params).ins 127 (dsO 17), 128, {}, #[], boot_drawn, 1289, os⟩
theorem OQ (P : Params) : an 110 (dsE 17) ((qO P).ins 127 (dsO 17)) = qM P := by kernel_rfl
theorem Qb (w : World) (os : OsState) : aq w 9100 (ao 110 ((av.drop 289).take 17)) (Hy w os) q19 () (Hx w os) q19 := by
 have z := byRow2 "special-get-raises" (P := fun w => aq w 9100 (ao 110 ((av.drop 289).take 17)) (Hy w os) q19 () { Bm w os with tree := an 110 (dsE 17) (Bm w os).tree } q19)
  (fun w => acS (s' := Bm _ os))
  (fun w => acS (s' := Bm _ os)) w
 have e : ({ Bm w os with tree := an 110 (dsE 17) (Bm w os).tree } : SharedT) = Hx w os := congrArg (fun T => (⟨T, 128, {}, #[], boot_drawn, 1289, os⟩ : SharedT)) (OQ w.params)
 rw [← e]; exact z
def Bl (w : World) (os : OsState) : SharedT := ⟨(qM w.params).ins 128 (dsO 18), 129, {}, #[], boot_drawn, 1340, os⟩
theorem OP (P : Params) : an 110 (dsE 18) ((qM P).ins 128 (dsO 18)) = qL P := by kernel_rfl
theorem Qa (w : World) (os : OsState) : aq w 9100 (ao 110 ((av.drop 306).take 17)) (Hx w os) q19 () (Hw w os) q19 := by
 have z := byRow2 "special-get-raises" (P := fun w => aq w 9100 (ao 110 ((av.drop 306).take 17)) (Hx w os) q19 () { Bl w os with tree := an 110 (dsE 18) (Bl w os).tree } q19)
  (fun w => acS (s' := Bl _ os))
  (fun w => acS (s' := Bl _ os)) w
 have e : ({ Bl w os with tree := an 110 (dsE 18) (Bl w os).tree } : SharedT) = Hw w os := congrArg (fun T => (⟨T, 129, {}, #[], boot_drawn, 1340, os⟩ : SharedT)) (OP w.params)
 rw [← e]; exact z
def Bk (w : World) (os : OsState) : SharedT := ⟨(qL w.params).ins 129 (dsO 19), 130, {}, #[], boot_drawn, 1391, os⟩
theorem ON (P : Params) : an 110 (dsE 19) ((qL P).ins 129 (dsO 19)) = qK P := by kernel_rfl
theorem P9 (w : World) (os : OsState) : aq w 9100 (ao 110 ((av.drop 323).take 17)) (Hw w os) q19 () (Hv w os) q19 := by
 have z := byRow2 "special-get-raises" (P := fun w => aq w 9100 (ao 110 ((av.drop 323).take 17)) (Hw w os) q19 () { Bk w os with tree := an 110 (dsE 19) (Bk w os).tree } q19)
  (fun w => acS (s' := Bk _ os))
  (fun w => acS (s' := Bk _ os)) w
 have e : ({ Bk w os with tree := an 110 (dsE 19) (Bk w os).tree } : SharedT) = Hv w os := congrArg (fun T => (⟨T, 130, {}, #[], boot_drawn, 1391, os⟩ : SharedT)) (ON w.params)
 rw [← e]; exact z
def Bj (w : World) (os : OsState) : SharedT := ⟨(qK w.params).ins 130 (dsO 20), 131, {}, #[], boot_drawn, 1442, os⟩
theorem OL (P : Params) : an 110 (dsE 20) ((qK P).ins 130 (dsO 20)) = qJ P := by kernel_rfl
theorem P8 (w : World) (os : OsState) : aq w 9100 (ao 110 ((av.drop 340).take 17)) (Hv w os) q19 () (Hu w os) q19 := by
 have z := byRow2 "special-get-raises" (P := fun w => aq w 9100 (ao 110 ((av.drop 340).take 17)) (Hv w os) q19 () { Bj w os with tree := an 110 (dsE 20) (Bj w os).tree } q19)
  (fun w => acS (s' := Bj _ os))
  (fun w => acS (s' := Bj _ os)) w
 have e : ({ Bj w os with tree := an 110 (dsE 20) (Bj w os).tree } : SharedT) = Hu w os := congrArg (fun T => (⟨T, 131, {}, #[], boot_drawn, 1442, os⟩ : SharedT)) (OL w.params)
 rw [← e]; exact z
def Bi (w : World) (os : OsState) : SharedT := ⟨(qJ w.params).ins 131 (dsO 21), 132, {}, #[], boot_drawn, 1493, os⟩
theorem OK (P : Params) : an 110 (dsE 21) ((qJ P).ins 131 (dsO 21)) = qI P := by kernel_rfl
theorem P7 (w : World) (os : OsState) : aq w 9100 (ao 110 ((av.drop 357).take 17)) (Hu w os) q19 () (Ht w os) q19 := by
 have z := byRow2 "special-get-raises" (P := fun w => aq w 9100 (ao 110 ((av.drop 357).take 17)) (Hu w os) q19 () { Bi w os with tree := an 110 (dsE 21) (Bi w os).tree } q19)
  (fun w => acS (s' := Bi _ os))
  (fun w => acS (s' := Bi _ os)) w
 have e : ({ Bi w os with tree := an 110 (dsE 21) (Bi w os).tree } : SharedT) = Ht w os := congrArg (fun T => (⟨T, 132, {}, #[], boot_drawn, 1493, os⟩ : SharedT)) (OK w.params)
 rw [← e]; exact z
def Bh (w : World) (os : OsState) : SharedT := ⟨(qI w.params).ins 132 (dsO 22), 133, {}, #[], boot_drawn, 1544, os⟩
theorem OJ (P : Params) : an 110 (dsE 22) ((qI P).ins 132 (dsO 22)) = qH P := by kernel_rfl
theorem P6 (w : World) (os : OsState) : aq w 9100 (ao 110 ((av.drop 374).take 17)) (Ht w os) q19 () (Hs w os) q19 := by
 have z := byRow2 "special-get-raises" (P := fun w => aq w 9100 (ao 110 ((av.drop 374).take 17)) (Ht w os) q19 () { Bh w os with tree := an 110 (dsE 22) (Bh w os).tree } q19)
  (fun w => acS (s' := Bh _ os))
  (fun w => acS (s' := Bh _ os)) w
 have e : ({ Bh w os with tree := an 110 (dsE 22) (Bh w os).tree } : SharedT) = Hs w os := congrArg (fun T => (⟨T, 133, {}, #[], boot_drawn, 1544, os⟩ : SharedT)) (OJ w.params)
 rw [← e]; exact z
def Bg (w : World) (os : OsState) : SharedT := ⟨(qH w.params).ins 133 (dsO 23), 134, {}, #[], boot_drawn, 1595, os⟩
theorem OI (P : Params) : an 110 (dsE 23) ((qH P).ins 133 (dsO 23)) = qG P := by kernel_rfl
theorem P5 (w : World) (os : OsState) : aq w 9100 (ao 110 ((av.drop 391).take 17)) (Hs w os) q19 () (Hr w os) q19 := by
 have z := byRow2 "special-get-raises" (P := fun w => aq w 9100 (ao 110 ((av.drop 391).take 17)) (Hs w os) q19 () { Bg w os with tree := an 110 (dsE 23) (Bg w os).tree } q19)
  (fun w => acS (s' := Bg _ os))
  (fun w => acS (s' := Bg _ os)) w
 have e : ({ Bg w os with tree := an 110 (dsE 23) (Bg w os).tree } : SharedT) = Hr w os := congrArg (fun T => (⟨T, 134, {}, #[], boot_drawn, 1595, os⟩ : SharedT)) (OI w.params)
 rw [← e]; exact z
def Bf (w : World) (os : OsState) : SharedT := ⟨(qG w.params).ins 134 (dsO 24), 135, {}, #[], boot_drawn, 1646, os⟩
theorem OH (P : Params) : an 110 (dsE 24) ((qG P).ins 134 (dsO 24)) = qF P := by kernel_rfl
theorem P4 (w : World) (os : OsState) : aq w 9100 (ao 110 ((av.drop 408).take 17)) (Hr w os) q19 () (Hq w os) q19 := by
 have z := byRow2 "special-get-raises" (P := fun w => aq w 9100 (ao 110 ((av.drop 408).take 17)) (Hr w os) q19 () { Bf w os with tree := an 110 (dsE 24) (Bf w os).tree } q19)
  (fun w => acS (s' := Bf _ os))
  (fun w => acS (s' := Bf _ os)) w
 have e : ({ Bf w os with tree := an 110 (dsE 24) (Bf w os).tree } : SharedT) = Hq w os := congrArg (fun T => (⟨T, 135, {}, #[], boot_drawn, 1646, os⟩ : SharedT)) (OH w.params)
 rw [← e]; exact z
def Be (w : World) (os : OsState) : SharedT := ⟨(qF w.params).ins 135 (dsO 25), 136, {}, #[], boot_drawn, 1697, os⟩
theorem OG (P : Params) : an 110 (dsE 25) ((qF P).ins 135 (dsO 25)) = qE P := by kernel_rfl
theorem P3 (w : World) (os : OsState) : aq w 9100 (ao 110 ((av.drop 425).take 17)) (Hq w os) q19 () (Hp w os) q19 := by
 have z := byRow2 "special-get-raises" (P := fun w => aq w 9100 (ao 110 ((av.drop 425).take 17)) (Hq w os) q19 () { Be w os with tree := an 110 (dsE 25) (Be w os).tree } q19)
  (fun w => acS (s' := Be _ os))
  (fun w => acS (s' := Be _ os)) w
 have e : ({ Be w os with tree := an 110 (dsE 25) (Be w os).tree } : SharedT) = Hp w os := congrArg (fun T => (⟨T, 136, {}, #[], boot_drawn, 1697, os⟩ : SharedT)) (OG w.params)
 rw [← e]; exact z
def Bc (w : World) (os : OsState) : SharedT := ⟨(qE w.params).ins 136 (dsO 26), 137, {}, #[], boot_drawn, 1748, os⟩
theorem OF (P : Params) : an 110 (dsE 26) ((qE P).ins 136 (dsO 26)) = qD P := by kernel_rfl
theorem P2 (w : World) (os : OsState) : aq w 9100 (ao 110 ((av.drop 442).take 17)) (Hp w os) q19 () (Ho w os) q19 := by
 have z := byRow2 "special-get-raises" (P := fun w => aq w 9100 (ao 110 ((av.drop 442).take 17)) (Hp w os) q19 () { Bc w os with tree := an 110 (dsE 26) (Bc w os).tree } q19)
  (fun w => acS (s' := Bc _ os))
  (fun w => acS (s' := Bc _ os)) w
 have e : ({ Bc w os with tree := an 110 (dsE 26) (Bc w os).tree } : SharedT) = Ho w os := congrArg (fun T => (⟨T, 137, {}, #[], boot_drawn, 1748, os⟩ : SharedT)) (OF w.params)
 rw [← e]; exact z
def Bb (w : World) (os : OsState) : SharedT := ⟨(qD w.params).ins 137 (dsO 27), 138, {}, #[], boot_drawn, 1799, os⟩
theorem OE (P : Params) : an 110 (dsE 27) ((qD P).ins 137 (dsO 27)) = qA P := by kernel_rfl
theorem P1 (w : World) (os : OsState) : aq w 9100 (ao 110 ((av.drop 459).take 17)) (Ho w os) q19 () (Hn w os) q19 := by
 have z := byRow2 "special-get-raises" (P := fun w => aq w 9100 (ao 110 ((av.drop 459).take 17)) (Ho w os) q19 () { Bb w os with tree := an 110 (dsE 27) (Bb w os).tree } q19)
  (fun w => acS (s' := Bb _ os))
  (fun w => acS (s' := Bb _ os)) w
 have e : ({ Bb w os with tree := an 110 (dsE 27) (Bb w os).tree } : SharedT) = Hn w os := congrArg (fun T => (⟨T, 138, {}, #[], boot_drawn, 1799, os⟩ : SharedT)) (OE w.params)
 rw [← e]; exact z
def Ba (w : World) (os : OsState) : SharedT := ⟨(qA w.params).ins 138 (dsO 28), 139, {}, #[], boot_drawn, 1850, os⟩
theorem OD (P : Params) : an 110 (dsE 28) ((qA P).ins 138 (dsO 28)) = qz P := by kernel_rfl
theorem PZ (w : World) (os : OsState) : aq w 9100 (ao 110 ((av.drop 476).take 17)) (Hn w os) q19 () (Hm w os) q19 := by
 have z := byRow2 "special-get-raises" (P := fun w => aq w 9100 (ao 110 ((av.drop 476).take 17)) (Hn w os) q19 () { Ba w os with tree := an 110 (dsE 28) (Ba w os).tree } q19)
  (fun w => acS (s' := Ba _ os))
  (fun w => acS (s' := Ba _ os)) w
 have e : ({ Ba w os with tree := an 110 (dsE 28) (Ba w os).tree } : SharedT) = Hm w os := congrArg (fun T => (⟨T, 139, {}, #[], boot_drawn, 1850, os⟩ : SharedT)) (OD w.params)
 rw [← e]; exact z
def A9 (w : World) (os : OsState) : SharedT := ⟨(qz w.params).ins 139 (dsO 29), 140, {}, #[], boot_drawn, 1901, os⟩
theorem OC (P : Params) : an 110 (dsE 29) ((qz P).ins 139 (dsO 29)) = qy P := by kernel_rfl
theorem PY (w : World) (os : OsState) : aq w 9100 (ao 110 ((av.drop 493).take 17)) (Hm w os) q19 () (Hl w os) q19 := by
 have z := byRow2 "special-get-raises" (P := fun w => aq w 9100 (ao 110 ((av.drop 493).take 17)) (Hm w os) q19 () { A9 w os with tree := an 110 (dsE 29) (A9 w os).tree } q19)
  (fun w => acS (s' := A9 _ os))
  (fun w => acS (s' := A9 _ os)) w
 have e : ({ A9 w os with tree := an 110 (dsE 29) (A9 w os).tree } : SharedT) = Hl w os := congrArg (fun T => (⟨T, 140, {}, #[], boot_drawn, 1901, os⟩ : SharedT)) (OC w.params)
 rw [← e]; exact z
def A8 (w : World) (os : OsState) : SharedT := ⟨(qy w.params).ins 140 (dsO 30), 141, {}, #[], boot_drawn, 1952, os⟩
theorem OB (P : Params) : an 110 (dsE 30) ((qy P).ins 140 (dsO 30)) = qx P := by kernel_rfl
theorem PX (w : World) (os : OsState) : aq w 9100 (ao 110 ((av.drop 510).take 17)) (Hl w os) q19 () (Hk w os) q19 := by
 have z := byRow2 "special-get-raises" (P := fun w => aq w 9100 (ao 110 ((av.drop 510).take 17)) (Hl w os) q19 () { A8 w os with tree := an 110 (dsE 30) (A8 w os).tree } q19)
  (fun w => acS (s' := A8 _ os))
  (fun w => acS (s' := A8 _ os)) w
 have e : ({ A8 w os with tree := an 110 (dsE 30) (A8 w os).tree } : SharedT) = Hk w os := congrArg (fun T => (⟨T, 141, {}, #[], boot_drawn, 1952, os⟩ : SharedT)) (OB w.params)
 rw [← e]; exact z
def A7 (w : World) (os : OsState) : SharedT := ⟨(qx w.params).ins 141 (dsO 31), 142, {}, #[], boot_drawn, 2003, os⟩
theorem OA (P : Params) : an 110 (dsE 31) ((qx P).ins 141 (dsO 31)) = qw P := by kernel_rfl
theorem PW (w : World) (os : OsState) : aq w 9100 (ao 110 ((av.drop 527).take 17)) (Hk w os) q19 () (Hj w os) q19 := by
 have z := byRow2 "special-get-raises" (P := fun w => aq w 9100 (ao 110 ((av.drop 527).take 17)) (Hk w os) q19 () { A7 w os with tree := an 110 (dsE 31) (A7 w os).tree } q19)
  (fun w => acS (s' := A7 _ os))
  (fun w => acS (s' := A7 _ os)) w
 have e : ({ A7 w os with tree := an 110 (dsE 31) (A7 w os).tree } : SharedT) = Hj w os := congrArg (fun T => (⟨T, 142, {}, #[], boot_drawn, 2003, os⟩ : SharedT)) (OA w.params)
 rw [← e]; exact z
def A6 (w : World) (os : OsState) : SharedT := ⟨(qw w.params).ins 142 (dsO 32), 143, {}, #[], boot_drawn, 2054, os⟩
theorem Oz (P : Params) : an 110 (dsE 32) ((qw P).ins 142 (dsO 32)) = qu P := by kernel_rfl
theorem PU (w : World) (os : OsState) : aq w 9100 (ao 110 ((av.drop 544).take 17)) (Hj w os) q19 () (Hi w os) q19 := by
 have z := byRow2 "special-get-raises" (P := fun w => aq w 9100 (ao 110 ((av.drop 544).take 17)) (Hj w os) q19 () { A6 w os with tree := an 110 (dsE 32) (A6 w os).tree } q19)
  (fun w => acS (s' := A6 _ os))
  (fun w => acS (s' := A6 _ os)) w
 have e : ({ A6 w os with tree := an 110 (dsE 32) (A6 w os).tree } : SharedT) = Hi w os := congrArg (fun T => (⟨T, 143, {}, #[], boot_drawn, 2054, os⟩ : SharedT)) (Oz w.params)
 rw [← e]; exact z
def A5 (w : World) (os : OsState) : SharedT := ⟨(qu w.params).ins 143 (dsO 33), 144, {}, #[], boot_drawn, 2105, os⟩
theorem Oy (P : Params) : an 110 (dsE 33) ((qu P).ins 143 (dsO 33)) = qt P := by kernel_rfl
theorem PT (w : World) (os : OsState) : aq w 9100 (ao 110 ((av.drop 561).take 17)) (Hi w os) q19 () (Hh w os) q19 := by
 have z := byRow2 "special-get-raises" (P := fun w => aq w 9100 (ao 110 ((av.drop 561).take 17)) (Hi w os) q19 () { A5 w os with tree := an 110 (dsE 33) (A5 w os).tree } q19)
  (fun w => acS (s' := A5 _ os))
  (fun w => acS (s' := A5 _ os)) w
 have e : ({ A5 w os with tree := an 110 (dsE 33) (A5 w os).tree } : SharedT) = Hh w os := congrArg (fun T => (⟨T, 144, {}, #[], boot_drawn, 2105, os⟩ : SharedT)) (Oy w.params)
 rw [← e]; exact z
def A4 (w : World) (os : OsState) : SharedT := ⟨(qt w.params).ins 144 (dsO 34), 145, {}, #[], boot_drawn, 2156, os⟩
theorem Ox (P : Params) : an 110 (dsE 34) ((qt P).ins 144 (dsO 34)) = qs P := by kernel_rfl
theorem PR (w : World) (os : OsState) : aq w 9100 (ao 110 ((av.drop 578).take 17)) (Hh w os) q19 () (Hg w os) q19 := by
 have z := byRow2 "special-get-raises" (P := fun w => aq w 9100 (ao 110 ((av.drop 578).take 17)) (Hh w os) q19 () { A4 w os with tree := an 110 (dsE 34) (A4 w os).tree } q19)
  (fun w => acS (s' := A4 _ os))
  (fun w => acS (s' := A4 _ os)) w
 have e : ({ A4 w os with tree := an 110 (dsE 34) (A4 w os).tree } : SharedT) = Hg w os := congrArg (fun T => (⟨T, 145, {}, #[], boot_drawn, 2156, os⟩ : SharedT)) (Ox w.params)
 rw [← e]; exact z
def A3 (w : World) (os : OsState) : SharedT := ⟨(qs w.params).ins 145 (dsO 35), 146, {}, #[], boot_drawn, 2207, os⟩
theorem Ow (P : Params) : an 110 (dsE 35) ((qs P).ins 145 (dsO 35)) = qr P := by kernel_rfl
theorem PQ (w : World) (os : OsState) : aq w 9100 (ao 110 ((av.drop 595).take 17)) (Hg w os) q19 () (Hf w os) q19 := by
 have z := byRow2 "special-get-raises" (P := fun w => aq w 9100 (ao 110 ((av.drop 595).take 17)) (Hg w os) q19 () { A3 w os with tree := an 110 (dsE 35) (A3 w os).tree } q19)
  (fun w => acS (s' := A3 _ os))
  (fun w => acS (s' := A3 _ os)) w
 have e : ({ A3 w os with tree := an 110 (dsE 35) (A3 w os).tree } : SharedT) = Hf w os := congrArg (fun T => (⟨T, 146, {}, #[], boot_drawn, 2207, os⟩ : SharedT)) (Ow w.params)
 rw [← e]; exact z
def A2 (w : World) (os : OsState) : SharedT := ⟨(qr w.params).ins 146 (dsO 36), 147, {}, #[], boot_drawn, 2258, os⟩
theorem Ov (P : Params) : an 110 (dsE 36) ((qr P).ins 146 (dsO 36)) = qp P := by kernel_rfl
theorem PO (w : World) (os : OsState) : aq w 9100 (ao 110 ((av.drop 612).take 17)) (Hf w os) q19 () (He w os) q19 := by
 have z := byRow2 "special-get-raises" (P := fun w => aq w 9100 (ao 110 ((av.drop 612).take 17)) (Hf w os) q19 () { A2 w os with tree := an 110 (dsE 36) (A2 w os).tree } q19)
  (fun w => acS (s' := A2 _ os))
  (fun w => acS (s' := A2 _ os)) w
 have e : ({ A2 w os with tree := an 110 (dsE 36) (A2 w os).tree } : SharedT) = He w os := congrArg (fun T => (⟨T, 147, {}, #[], boot_drawn, 2258, os⟩ : SharedT)) (Ov w.params)
 rw [← e]; exact z
def A1 (w : World) (os : OsState) : SharedT := ⟨(qp w.params).ins 147 (dsO 37), 148, {}, #[], boot_drawn, 2309, os⟩
theorem Ou (P : Params) : an 110 (dsE 37) ((qp P).ins 147 (dsO 37)) = qo P := by kernel_rfl
theorem PN (w : World) (os : OsState) : aq w 9100 (ao 110 ((av.drop 629).take 17)) (He w os) q19 () (Hd w os) q19 := by
 have z := byRow2 "special-get-raises" (P := fun w => aq w 9100 (ao 110 ((av.drop 629).take 17)) (He w os) q19 () { A1 w os with tree := an 110 (dsE 37) (A1 w os).tree } q19)
  (fun w => acS (s' := A1 _ os))
  (fun w => acS (s' := A1 _ os)) w
 have e : ({ A1 w os with tree := an 110 (dsE 37) (A1 w os).tree } : SharedT) = Hd w os := congrArg (fun T => (⟨T, 148, {}, #[], boot_drawn, 2309, os⟩ : SharedT)) (Ou w.params)
 rw [← e]; exact z
def A0 (w : World) (os : OsState) : SharedT := ⟨(qo w.params).ins 148 (dsO 38), 149, {}, #[], boot_drawn, 2321, os⟩
theorem Ot (P : Params) : an 110 (dsE 38) ((qo P).ins 148 (dsO 38)) = FQ P := by kernel_rfl
theorem PM (w : World) (os : OsState) : aq w 9100 (ao 110 ((av.drop 646).take 17)) (Hd w os) q19 () (cY w os) q19 := by
 have z := byRow2 "special-get-raises" (P := fun w => aq w 9100 (ao 110 ((av.drop 646).take 17)) (Hd w os) q19 () { A0 w os with tree := an 110 (dsE 38) (A0 w os).tree } q19)
  (fun w => acS (s' := A0 _ os))
  (fun w => acS (s' := A0 _ os)) w
 have e : ({ A0 w os with tree := an 110 (dsE 38) (A0 w os).tree } : SharedT) = cY w os := congrArg (fun T => (⟨T, 149, {}, #[], boot_drawn, 2321, os⟩ : SharedT)) (Ot w.params)
 rw [← e]; exact z
end
noncomputable section
theorem t9 (j : Nat) : (av.drop (17 * j)).drop 17 = av.drop (17 * (j + 1)) := by
 rw [List.drop_drop, Nat.mul_succ]
theorem aH {w : World} {s s₁ s₂ : SharedT} {p : Pos} (j k c : Nat) (h : aq w 9100 (ao 110 ((av.drop (17 * j)).take 17)) s p () s₁ p) (h' : aq w c (aB 110 k (av.drop (17 * (j + 1)))) s₁ p () s₂ p) :
  aq w (9100 + c) (aB 110 (k + 1) (av.drop (17 * j))) s p () s₂ p := by
 rw [aB]
 refine aq.bind h ?_
 rw [t9]
 exact h'
theorem vW (w : World) (os : OsState) : aq w (38 * 9100) (aB 110 38 (av.drop 17)) (SC1 w os) q19 () (cY w os) q19 := by
 have z39 : aq w (0 * 9100) (aB 110 0 (av.drop (17 * 39))) (cY w os) q19 () (cY w os) q19 := by rw [Nat.zero_mul]; exact aq.pure
 have z38 : aq w (1 * 9100) (aB 110 1 (av.drop (17 * 38))) (Hd w os) q19 () (cY w os) q19 := aH 38 0 (0 * 9100) (PM w os) z39
 have z37 : aq w (2 * 9100) (aB 110 2 (av.drop (17 * 37))) (He w os) q19 () (cY w os) q19 := aH 37 1 (1 * 9100) (PN w os) z38
 have z36 : aq w (3 * 9100) (aB 110 3 (av.drop (17 * 36))) (Hf w os) q19 () (cY w os) q19 := aH 36 2 (2 * 9100) (PO w os) z37
 have z35 : aq w (4 * 9100) (aB 110 4 (av.drop (17 * 35))) (Hg w os) q19 () (cY w os) q19 := aH 35 3 (3 * 9100) (PQ w os) z36
 have z34 : aq w (5 * 9100) (aB 110 5 (av.drop (17 * 34))) (Hh w os) q19 () (cY w os) q19 := aH 34 4 (4 * 9100) (PR w os) z35
 have z33 : aq w (6 * 9100) (aB 110 6 (av.drop (17 * 33))) (Hi w os) q19 () (cY w os) q19 := aH 33 5 (5 * 9100) (PT w os) z34
 have z32 : aq w (7 * 9100) (aB 110 7 (av.drop (17 * 32))) (Hj w os) q19 () (cY w os) q19 := aH 32 6 (6 * 9100) (PU w os) z33
 have z31 : aq w (8 * 9100) (aB 110 8 (av.drop (17 * 31))) (Hk w os) q19 () (cY w os) q19 := aH 31 7 (7 * 9100) (PW w os) z32
 have z30 : aq w (9 * 9100) (aB 110 9 (av.drop (17 * 30))) (Hl w os) q19 () (cY w os) q19 := aH 30 8 (8 * 9100) (PX w os) z31
 have z29 : aq w (10 * 9100) (aB 110 10 (av.drop (17 * 29))) (Hm w os) q19 () (cY w os) q19 := aH 29 9 (9 * 9100) (PY w os) z30
 have z28 : aq w (11 * 9100) (aB 110 11 (av.drop (17 * 28))) (Hn w os) q19 () (cY w os) q19 := aH 28 10 (10 * 9100) (PZ w os) z29
 have z27 : aq w (12 * 9100) (aB 110 12 (av.drop (17 * 27))) (Ho w os) q19 () (cY w os) q19 := aH 27 11 (11 * 9100) (P1 w os) z28
 have z26 : aq w (13 * 9100) (aB 110 13 (av.drop (17 * 26))) (Hp w os) q19 () (cY w os) q19 := aH 26 12 (12 * 9100) (P2 w os) z27
 have z25 : aq w (14 * 9100) (aB 110 14 (av.drop (17 * 25))) (Hq w os) q19 () (cY w os) q19 := aH 25 13 (13 * 9100) (P3 w os) z26
 have z24 : aq w (15 * 9100) (aB 110 15 (av.drop (17 * 24))) (Hr w os) q19 () (cY w os) q19 := aH 24 14 (14 * 9100) (P4 w os) z25
 have z23 : aq w (16 * 9100) (aB 110 16 (av.drop (17 * 23))) (Hs w os) q19 () (cY w os) q19 := aH 23 15 (15 * 9100) (P5 w os) z24
 have z22 : aq w (17 * 9100) (aB 110 17 (av.drop (17 * 22))) (Ht w os) q19 () (cY w os) q19 := aH 22 16 (16 * 9100) (P6 w os) z23
 have z21 : aq w (18 * 9100) (aB 110 18 (av.drop (17 * 21))) (Hu w os) q19 () (cY w os) q19 := aH 21 17 (17 * 9100) (P7 w os) z22
 have z20 : aq w (19 * 9100) (aB 110 19 (av.drop (17 * 20))) (Hv w os) q19 () (cY w os) q19 := aH 20 18 (18 * 9100) (P8 w os) z21
 have z19 : aq w (20 * 9100) (aB 110 20 (av.drop (17 * 19))) (Hw w os) q19 () (cY w os) q19 := aH 19 19 (19 * 9100) (P9 w os) z20
 have z18 : aq w (21 * 9100) (aB 110 21 (av.drop (17 * 18))) (Hx w os) q19 () (cY w os) q19 := aH 18 20 (20 * 9100) (Qa w os) z19
 have z17 : aq w (22 * 9100) (aB 110 22 (av.drop (17 * 17))) (Hy w os) q19 () (cY w os) q19 := aH 17 21 (21 * 9100) (Qb w os) z18
 have z16 : aq w (23 * 9100) (aB 110 23 (av.drop (17 * 16))) (Hz w os) q19 () (cY w os) q19 := aH 16 22 (22 * 9100) (Qc w os) z17
 have z15 : aq w (24 * 9100) (aB 110 24 (av.drop (17 * 15))) (HA w os) q19 () (cY w os) q19 := aH 15 23 (23 * 9100) (Qd w os) z16
 have z14 : aq w (25 * 9100) (aB 110 25 (av.drop (17 * 14))) (HB w os) q19 () (cY w os) q19 := aH 14 24 (24 * 9100) (Qe w os) z15
 have z13 : aq w (26 * 9100) (aB 110 26 (av.drop (17 * 13))) (HC w os) q19 () (cY w os) q19 := aH 13 25 (25 * 9100) (Qf w os) z14
 have z12 : aq w (27 * 9100) (aB 110 27 (av.drop (17 * 12))) (HD w os) q19 () (cY w os) q19 := aH 12 26 (26 * 9100) (Qg w os) z13
 have z11 : aq w (28 * 9100) (aB 110 28 (av.drop (17 * 11))) (HE w os) q19 () (cY w os) q19 := aH 11 27 (27 * 9100) (Qh w os) z12
 have z10 : aq w (29 * 9100) (aB 110 29 (av.drop (17 * 10))) (HF w os) q19 () (cY w os) q19 := aH 10 28 (28 * 9100) (Qi w os) z11
 have z9 : aq w (30 * 9100) (aB 110 30 (av.drop (17 * 9))) (SC9 w os) q19 () (cY w os) q19 := aH 9 29 (29 * 9100) (ch9 w os) z10
 have z8 : aq w (31 * 9100) (aB 110 31 (av.drop (17 * 8))) (SC8 w os) q19 () (cY w os) q19 := aH 8 30 (30 * 9100) (ch8 w os) z9
 have z7 : aq w (32 * 9100) (aB 110 32 (av.drop (17 * 7))) (SC7 w os) q19 () (cY w os) q19 := aH 7 31 (31 * 9100) (ch7 w os) z8
 have z6 : aq w (33 * 9100) (aB 110 33 (av.drop (17 * 6))) (SC6 w os) q19 () (cY w os) q19 := aH 6 32 (32 * 9100) (ch6 w os) z7
 have z5 : aq w (34 * 9100) (aB 110 34 (av.drop (17 * 5))) (SC5 w os) q19 () (cY w os) q19 := aH 5 33 (33 * 9100) (ch5 w os) z6
 have z4 : aq w (35 * 9100) (aB 110 35 (av.drop (17 * 4))) (SC4 w os) q19 () (cY w os) q19 := aH 4 34 (34 * 9100) (ch4 w os) z5
 have z3 : aq w (36 * 9100) (aB 110 36 (av.drop (17 * 3))) (SC3 w os) q19 () (cY w os) q19 := aH 3 35 (35 * 9100) (ch3 w os) z4
 have z2 : aq w (37 * 9100) (aB 110 37 (av.drop (17 * 2))) (SC2 w os) q19 () (cY w os) q19 := aH 2 36 (36 * 9100) (ch2 w os) z3
 have z1 : aq w (38 * 9100) (aB 110 38 (av.drop (17 * 1))) (SC1 w os) q19 () (cY w os) q19 := aH 1 37 (37 * 9100) (ch1 w os) z2
 exact z1
theorem lp : av.length = 650 := by kernel_rfl
theorem oH (dp : Pos) : ∀ (ks : List (Option Expr)) (vs : List Expr), ks.all Option.isSome = true → ks.length = vs.length →
  (evalEachOpt ks env).zip ((evalEach vs env).map fun v => (do let x ← v; standAt dp; pure x : Sem Value)) = (pQ dp ks vs).map mk
 | [], [], _, _ => rfl
 | [], _ :: _, _, h => by simp at h
 | _ :: _, [], _, h => by simp at h
 | some k :: ks, v :: vs, ha, hl => by
  have ih := oH dp ks vs (by simpa using ha) (by simpa using hl)
  rw [arm_evalEachOpt_cons, arm_evalEach_cons, List.map_cons, List.zip_cons_cons, ih]
  rfl
 | none :: ks, v :: vs, ha, _ => by simp at ha
theorem Ir : (evalEachOpt d19.2.1 env).zip ((evalEach d19.2.2.1 env).map fun v => (do let x ← v; standAt q19; pure x : Sem Value)) = av.map mk :=
 oH q19 d19.2.1 d19.2.2.1 (by kernel_rfl) (by kernel_rfl)
theorem MR (w : World) (os : OsState) : aq w (1 + (1000 + (38 * 9100 + 0))) (eval (.Dict d19.2.1 d19.2.2.1 q19) env) (S7 w os) d19.2.2.2.2 (.ref 110) (cY w os) q19 := by
 rw [arm_eval_Dict, Ir, rI av 38 (by rw [lp]; lia) (by rw [lp]; lia) (by rw [lp]; lia)]
 refine aq.bind (p₁ := q19) (s₁ := S7 w os) (a := ()) (n := 1) ?_ ?_
 ·exact fun gd lv K' H' N r h => one (s₁ := S7 w os) (t := ⟨.at q19 (fun x => K' x), cE, d19.2.2.2.2, B⟩) (t₁ := ⟨K' (), cE, q19, B⟩) rfl rfl rfl h
 ·exact aq.bind (ch0 w os) (aq.bind (vW w os) aq.pure)
noncomputable def Qx : Option (List Str) → Flow
 | none => .next
 | some _ => .brk
theorem Ni {w : World} {x : Sem Bool} {s s' : SharedT} {p p' : Pos} {a : Bool} (h : ∀ (gd : Bool → Bool) (lv : List Value → List Value), segRunT treeTable pw w 11 (some (.ref 6)) 1 1000 s ⟨x.wrap (fun a => .pure (.done (.ret (.bool a)))) deadEnd gd lv, cE, p, B⟩ = some (.ret (.bool a), s', cE, p')) : aq w 1000 x s p a s' p' := Nj h
theorem O8 {w : World} {x : Sem Flow} {s s' : SharedT} {p p' : Pos} {a : Flow} (h : ∀ (gd : Bool → Bool) (lv : List Value → List Value), segRunT treeTable pw w 11 (some (.ref 6)) 1 1000 s ⟨x.wrap (fun a => .pure (.done a)) deadEnd gd lv, cE, p, B⟩ = some (a, s', cE, p')) : aq w 1000 x s p a s' p' :=
 aq.run (fun a => a) 1000 (fun a' e => e) h
theorem MQ (w : World) (os : OsState) : aq w 350000 (exec (st 19) env) (S7 w os) ⟨78, 0, 79, 30⟩ .next (S8 w os) ⟨80, 0, 80, 13⟩ := by
 rw [H6, arm_exec_Assign]
 refine aq.weak (n := 1 + (1000 + ((1 + (1000 + (38 * 9100 + 0))) + 1000))) ?_ (by lia)
 refine aq.bind (p₁ := d19.2.2.2.2) (s₁ := S7 w os) (a := ()) (n := 1) ?_ ?_
 ·exact fun gd lv K' H' N r h => one (s₁ := S7 w os) (t := ⟨.at d19.2.2.2.2 (fun x => K' x), cE, ⟨78, 0, 79, 30⟩, B⟩) (t₁ := ⟨K' (), cE, d19.2.2.2.2, B⟩) rfl rfl rfl h
 refine aq.bind (a := false) (p₁ := d19.2.2.2.2) (s₁ := S7 w os) (Ni fun gd lv => by kernel_rfl) ?_
 simp only [Bool.false_eq_true, if_false]
 refine aq.bind (MR w os) ?_
 exact O8 fun gd lv => by kernel_rfl
end
noncomputable section
abbrev gP (N : Nat) (w : World) (s : SharedT) (l : List Stmt) (p : Pos) : Option (Flow × SharedT × Code × Pos) :=
 segRunT treeTable pw w 11 (some (.ref 6)) 1 N s (piecesOf l env cE p B)
theorem N6 (N : Nat) (w : World) (s : SharedT) (l : List Stmt) (p : Pos) : gT N w s l p = gP N w s l p := by
 unfold gT gP piecesOf
 rw [← PySem.W.Fast.te10110043849684766642, ← PySem.W.Fast.te14364793385576792824, ← PySem.W.Fast.te12563942051412417395]
theorem h1 (w : World) (os : OsState) : gT 1000 w (S0 w os) ((body.drop 0).take 4) ⟨0, 0, 0, 0⟩ = some (.next, S1 w os, cE, ⟨4, 0, 4, 10⟩) := by kernel_rfl
theorem h2 (w : World) (os : OsState) : gT 1000 w (S1 w os) ((body.drop 4).take 2) ⟨4, 0, 4, 10⟩ = some (.next, S2 w os, cE, ⟨11, 0, 48, 17⟩) := by kernel_rfl
theorem h3 (w : World) (os : OsState) : gT 1000 w (S2 w os) ((body.drop 6).take 4) ⟨11, 0, 48, 17⟩ = some (.next, S3 w os, cE, ⟨54, 0, 55, 17⟩) := by kernel_rfl
theorem h4 (w : World) (os : OsState) : gT 1000 w (S3 w os) ((body.drop 10).take 3) ⟨54, 0, 55, 17⟩ = some (.next, S4 w os, cE, ⟨60, 0, 61, 17⟩) := by kernel_rfl
theorem h5 (w : World) (os : OsState) : gT 1000 w (S4 w os) ((body.drop 13).take 4) ⟨60, 0, 61, 17⟩ = some (.next, S5 w os, cE, ⟨76, 0, 76, 8⟩) := by kernel_rfl
theorem h6 (w : World) (os : OsState) : gT 1000 w (S5 w os) ((body.drop 17).take 1) ⟨76, 0, 76, 8⟩ = some (.next, S6 w os, cE, ⟨77, 0, 77, 6⟩) :=
 byRow2 "set-order" (P := fun w => gT 1000 w (S5 w os) ((body.drop 17).take 1) ⟨76, 0, 76, 8⟩ = some (.next, S6 w os, cE, ⟨77, 0, 77, 6⟩))
  (fun w => byRow2 "special-get-raises" (P := fun w' => (fun w => gT 1000 w (S5 w os) ((body.drop 17).take 1) ⟨76, 0, 76, 8⟩ = some (.next, S6 w os, cE, ⟨77, 0, 77, 6⟩)) (w'.withFollow "set-order" false)) (fun w => by kernel_rfl) (fun w => by kernel_rfl) w)
  (fun w => byRow2 "special-get-raises" (P := fun w' => (fun w => gT 1000 w (S5 w os) ((body.drop 17).take 1) ⟨76, 0, 76, 8⟩ = some (.next, S6 w os, cE, ⟨77, 0, 77, 6⟩)) (w'.withFollow "set-order" true)) (fun w => by kernel_rfl) (fun w => by kernel_rfl) w) w
theorem h7 (w : World) (os : OsState) : gT 1000 w (S6 w os) ((body.drop 18).take 1) ⟨77, 0, 77, 6⟩ = some (.next, S7 w os, cE, ⟨78, 0, 79, 30⟩) := by kernel_rfl
theorem h9 (w : World) (os : OsState) : gT 1000 w (S8 w os) ((body.drop 20).take 4) ⟨80, 0, 80, 13⟩ = some (.next, S9 w os, cE, ⟨89, 0, 99, 40⟩) := by kernel_rfl
theorem h10 (w : World) (os : OsState) : gT 1000 w (S9 w os) ((body.drop 24).take 4) ⟨89, 0, 99, 40⟩ = some (.next, S10 w os, cE, ⟨143, 0, 159, 40⟩) := by kernel_rfl
theorem h11 (w : World) (os : OsState) : gT 1000 w (S10 w os) ((body.drop 28).take 4) ⟨143, 0, 159, 40⟩ = some (.next, S11 w os, cE, ⟨171, 0, 178, 25⟩) := by kernel_rfl
theorem h12 (w : World) (os : OsState) : gT 1000 w (S11 w os) ((body.drop 32).take 5) ⟨171, 0, 178, 25⟩ = some (.next, S12 w os, cE, ⟨245, 0, 302, 51⟩) := by kernel_rfl
end
noncomputable section
theorem ju {N : Nat} {w : World} {s s' : SharedT} {a n : Nat} {p p' : Pos} {r : Shared} (h : gT 1000 w s ((body.drop a).take n) p = some (.next, s', cE, p'))
  (k : ou w N s'.abs (restOf (body.drop (a + n)) env cE p' B) = some r) : ou w (1000 + N) s.abs (restOf (body.drop a) env cE p B) = some r := by
 rw [N6] at h
 have e : body.drop a = (body.drop a).take n ++ body.drop (a + n) := by rw [← List.drop_drop, List.take_append_drop]
 rw [e]
 exact piece_app (segRun_of h) k
theorem Iz {N : Nat} {w : World} {os : OsState} {r : Shared} (k : ou w N (S8 w os).abs (restOf (body.drop 20) env cE ⟨80, 0, 80, 13⟩ B) = some r) :
  ou w (350000 + N) (S7 w os).abs (restOf (body.drop 19) env cE ⟨78, 0, 79, 30⟩ B) = some r := by
 have e : body.drop 19 = st 19 :: body.drop 20 := by kernel_rfl
 rw [e]
 unfold restOf
 rw [execs_cons_wrap]
 exact MQ w os id id _ _ _ _ k
theorem pre (w : World) (os : OsState) : topGo treeTable pw w 11 (some (.ref 6)) 12 ⟨boot_heap w.params, Array.mk [], boot_drawn, boot_toks, os⟩ (topStub pw) = some ((S0 w os).abs, ⟨denote treeTable cE, cE, ⟨0, 0, 0, 0⟩, B⟩) := by kernel_rfl
theorem Of (w : World) (os : OsState) : segRun treeTable pw w 11 (some (.ref 6)) 1 10 (S0 w os).abs (blockOf body env cE ⟨0, 0, 0, 0⟩ [topFrame default]) = some (.next, (S0 w os).abs, cE, ⟨0, 0, 0, 0⟩) := by kernel_rfl
theorem PB (w : World) (os : OsState) : ou w 2 (S12 w os).abs ⟨doneF .next, cE, ⟨245, 0, 302, 51⟩, B⟩ = some (S12 w os).abs := by kernel_rfl
def H1 (P : Params) : Heap := absHeap (LR P) 242 {}
theorem run (w : World) (os : OsState) : topRun treeTable pw w 11 (some (.ref 6)) 400000 ⟨boot_heap w.params, Array.mk [], boot_drawn, boot_toks, os⟩ (topStub pw) = some ⟨H1 w.params, #[], boot_drawn, 2433, os⟩ := by
 have k : ou w 2 (S12 w os).abs (restOf (body.drop 37) env cE ⟨245, 0, 302, 51⟩ B) = some (S12 w os).abs := by
  have e : body.drop 37 = [] := by kernel_rfl
  rw [e]
  exact piece_nil (PB w os)
 replace k := ju (a := 32) (n := 5) (h12 w os) k
 replace k := ju (a := 28) (n := 4) (h11 w os) k
 replace k := ju (a := 24) (n := 4) (h10 w os) k
 replace k := ju (a := 20) (n := 4) (h9 w os) k
 replace k := Iz k
 replace k := ju (a := 18) (n := 1) (h7 w os) k
 replace k := ju (a := 17) (n := 1) (h6 w os) k
 replace k := ju (a := 13) (n := 4) (h5 w os) k
 replace k := ju (a := 10) (n := 3) (h4 w os) k
 replace k := ju (a := 6) (n := 4) (h3 w os) k
 replace k := ju (a := 4) (n := 2) (h2 w os) k
 replace k := ju (a := 0) (n := 4) (h1 w os) k
 replace k := piece_block (Of w os) k
 replace k := go_top (pre w os) k
 have := topRun_mono (400000 - (12 + (10 + (1000 + (1000 + (1000 + (1000 + (1000 + (1000 + (1000 + (350000 + (1000 + (1000 + (1000 + (1000 + 2)))))))))))))) ) _ _ _ _ k
 exact this
theorem size (w : World) : ((boot_heap w.params).isNs mainGlobals && (Array.mk [] : Array GenState).size == 0, (boot_heap w.params).objs.size, (boot_heap w.params).nsMap mainGlobals "__annotations__") = (true, 11, some (.ref 6)) := by kernel_rfl
theorem Nm : ∀ w : World, (fencedOpening treeTable pw w 1000000).map (fun s => (s.heap, s.gens, s.drawn, s.toks)) = some (boot_heap w.params, Array.mk [], boot_drawn, boot_toks) :=
 boot_open (by kernel_rfl) (by kernel_rfl) (fun s => by kernel_rfl)
end
end Mine
end
noncomputable section
open PySem PySem.W PyProof.Rows PySem.W.X
namespace Mine
noncomputable section
def qv : Program := { pw with main := { pw.main with body := [st 36] } }
noncomputable def zE : List Str := [Str.ofString "_MAX_STRING_SIZE", Str.ofString "_MOVE_COST", Str.ofString "_CASE_COST", Str.ofString "_substitution_cost", Str.ofString "_levenshtein_distance", Str.ofString "eq", Str.ofString "ne", Str.ofString "floordiv", Str.ofString "mul", Str.ofString "sub", Str.ofString "contains", Str.ofString "countOf", Str.ofString "indexOf", Str.ofString "setitem", Str.ofString "b1_set", Str.ofString "in_table_b1", Str.ofString "b3_exceptions", Str.ofString "map_table_b3", Str.ofString "_raise_serialization_error", Str.ofString "_escape_cdata", Str.ofString "_escape_attrib", Str.ofString "_escape_attrib_html", Str.ofString "_escape_cdata_c14n", Str.ofString "_escape_attrib_c14n", Str.ofString "_law_cells", Str.ofString "_law_reference", Str.ofString "_law_word", Str.ofString "_law_typed", Str.ofString "_law_read", Str.ofString "_law_merged", Str.ofString "_law_greatest"]
def KF (P : Params) : Frag := [(0, boot_o_0 P), (1, boot_o_1 P), (2, boot_o_2 P), (3, IX P), (4, boot_o_4 P), (5, boot_o_5 P), (6, boot_o_6 P), (7, boot_o_7 P), (8, boot_o_8 P), (9, boot_o_9 P), (10, boot_o_10 P), (11, fy P), (12, CP P), (13, fR P), (14, bh P), (15, g6 P), (16, g0 P), (17, gZ P), (18, gY P), (19, gX P), (20, gW P), (21, iA P), (22, iz P), (23, iy P), (24, ix P), (25, iw P), (26, iu P), (27, ir P), (28, gV P), (29, iq P), (30, bq P), (31, kS P), (32, kR P), (33, kQ P), (34, kP P), (35, kO P), (36, kN P), (37, kM P), (38, kL P), (39, kK P), (40, kJ P), (41, kI P), (42, kH P), (43, kG P), (44, kF P), (45, kE P), (46, bw P), (47, kD P), (48, kC P), (49, kA P), (50, mA P), (51, mz P), (52, my P), (53, mw P), (54, mu P), (55, mt P), (56, mq P), (57, mm P), (58, mj P), (59, mf P), (60, l7 P), (61, l6 P), (62, lZ P), (63, tz P), (64, tx P), (65, tw P), (66, tv P), (67, tu P), (68, to P), (69, tm P), (70, tj P), (71, ti P), (72, th P), (73, tg P), (74, tf P), (75, te P), (76, td P), (77, tc P), (78, sZ P), (79, sY P), (80, sX P), (81, sV P), (82, sU P), (83, sQ P), (84, sO P), (85, wN P), (86, wM P), (87, wL P), (88, wK P), (89, wJ P), (90, wI P), (91, wH P), (92, wG P), (93, wF P), (94, wE P), (95, wD P), (96, wC P), (97, wB P), (98, wA P), (99, wz P), (100, qc P), (101, qa P), (102, p9 P), (103, p8 P), (104, p7 P), (105, p6 P), (106, pZ P), (107, pY P), (108, pX P), (109, pW P), (110, pV P), (111, pU P), (112, pT P), (113, pS P), (114, vc P), (115, u9 P), (116, u8 P), (117, u5 P), (118, u4 P), (119, u3 P), (120, uZ P), (121, uY P), (122, uX P), (123, uW P), (124, uV P), (125, uU P), (126, uT P), (127, CS P), (128, CR P), (129, CQ P), (130, CN P), (131, CL P), (132, CK P), (133, CJ P), (134, CI P), (135, CH P), (136, CG P), (137, CF P), (138, CE P), (139, CD P), (140, CC P), (141, CB P), (142, CA P), (143, Cz P), (144, Cy P), (145, Cx P), (146, Cw P), (147, Cv P), (148, Cu P), (149, Ct P), (150, Cs P), (151, Cr P), (152, Cq P), (153, Cp P), (154, Co P), (155, Cn P), (156, Cm P), (157, Cl P), (158, Ck P), (159, Cj P), (160, Ci P), (161, Ch P), (162, Cg P), (163, Cf P), (164, Ce P), (165, Cd P), (166, Cc P), (167, Cb P), (168, Ca P), (169, B9 P), (170, x8 P), (171, x7 P), (172, x6 P), (173, x5 P), (174, x4 P), (175, x3 P), (176, x2 P), (177, x0 P), (178, xZ P), (179, xY P), (180, xX P), (181, xW P), (182, xV P), (183, xU P), (184, xT P), (185, xS P), (186, xR P), (187, xQ P), (188, xP P), (189, xO P), (190, xN P), (191, xM P), (192, xL P), (193, xK P), (194, xJ P), (195, xI P), (196, xH P), (197, xG P), (198, xF P), (199, xE P), (200, xD P), (201, xC P), (202, xB P), (203, xA P), (204, xz P), (205, xy P), (206, xx P), (207, xw P), (208, xv P), (209, xu P), (210, xt P), (211, xr P), (212, xq P), (213, xp P), (214, xo P), (215, xn P), (216, xm P), (217, xl P), (218, xk P), (219, xj P), (220, xi P), (221, xh P), (222, xg P), (223, xf P), (224, xd P), (225, xc P), (226, xb P), (227, xa P), (228, w9 P), (229, w3 P), (230, w0 P), (231, wZ P), (232, wY P), (233, wX P), (234, wW P), (235, wV P), (236, wU P), (237, wT P), (238, wR P), (239, wQ P), (240, wP P), (241, wO P)]
noncomputable def KA : List Addr := List.range 242
abbrev rw : OpenLaw := PySem.Challenge.rw_tc0074_01
def Xt (s : Shared) : Bool := xlAt qv [] s && recOk (RowW.records rw.row.toRowW) s
abbrev sF (w : World) (os : OsState) : Shared := ⟨H1 w.params, #[], boot_drawn, 2433, os⟩
theorem NH (w : World) (os : OsState) : (staticsOk (importedModules pw.main.body) (boot_heap w.params) (H1 w.params) && namesBound pw (H1 w.params) && gensDone (sF w os) && laidKept (boot_heap w.params) (H1 w.params)) = true := by kernel_rfl
theorem NF (w : World) (os : OsState) : obsZ KA (sF w os) = valZ KF 242 2433 w := by kernel_rfl
theorem NG (w : World) (os : OsState) : openSeen qv zE (importedModules pw.main.body) Xt true (sF w os) = openGood qv zE := by
 rw [PySem.W.Fast.te4187177175401517315]
 kernel_rfl
end
noncomputable section
theorem bD : LeftO pw qv zE Xt (obsZ KA) (valZ KF 242 2433) 1000000 :=
 LeftO.of_pieces (H₀ := boot_heap) (H₁ := H1) (gs₀ := Array.mk []) (gs₁ := #[]) (m₀ := 11) (ann := some (.ref 6)) (M := 400000) Nm size run (by kernel_rfl)
  (fun w => funext fun os => by
   show ((_ && _ && _ && _), _, _) = (true, _, _)
   rw [NH w os, NG w os, NF w os])
def dL : DefRec := match st 36 with
 | .FunctionDef n a b _ _ _ sc _ _ p => ⟨n, a, b, sc, p⟩
 | _ => ⟨Str.ofString "", ⟨[], [], none, [], [], none, []⟩, [], pw.main.scope, default⟩
theorem Py : defOf qv rw.row.name = some (dL, []) := by kernel_rfl
theorem Iy : rw.row.prog.theDef rw.row.name = some (dL.params, dL.body, dL.scope) := by kernel_rfl
theorem hkw : kwWritten? dL.params.kwonlyargs dL.params.kw_defaults = some [] := by kernel_rfl
theorem NZ : (chainsOk qv && opensWell rw.row.prog && (frees rw.row.toRowW && rw.row.within.isEmpty)) = true := by kernel_rfl
theorem hwr : (!rw.row.writes || List.isEmpty rw.row.records) = true := by kernel_rfl
theorem Gp : pw.tablesWhole = true := by decide +kernel
theorem N0 : rw.row.prog.bare := ⟨rfl, rfl, rfl, rfl, rfl, Gp⟩
end
theorem MI (call : WalkX qv zE (XL qv []) (obsZ KA) (valZ KF 242 2433) rw.row.toRowW dL [] fun f vs => PySem.call f vs) (hw : rw.row.toRowW.promised) (Mj : rw.row.wellSaid = true) : rw.row.Holds :=
 holds_openX (Xt := Xt) (N := 1000000) bD (fun s e => xl_of s (Bool.and_eq_true_iff.mp e).1) XL.keeps Py Iy hkw (fun s e => recFacts_of (Bool.and_eq_true_iff.mp e).2) hwr Mj NZ N0 hw call
end Mine
end
noncomputable section
open PySem PySem.W PyProof.Rows PySem.Calls
namespace Mine
theorem nS {α : Type} {a : α} {P : Prop} (h : none = some a) : P := nomatch h
theorem nB {P : Prop} (h : false = true) : P := nomatch h
theorem nT {P : Prop} (h : true = false) : P := nomatch h
inductive MV where
 | none
 | bool (b : Bool)
 | int (i : Int)
 | str (s : List Nat)
 | txt (s : List Nat)
 | ref (i : Nat)
 | typ (n : String)
 | fn (a : Nat)
 | pair (a b : MV)
 | dct (es : List (List Nat × List Nat))
 | rng (a c : Int) (n : Nat)
abbrev ac := List (List MV)
abbrev ap := List (Nat × MV)
abbrev EM := ap → ac → Option (MV × ac)
abbrev CM := ap → ac → Option (Bool × ac)
abbrev LM := ap → ac → Option (List MV × ac)
abbrev SM := ap → ac → Option (Option MV × ap × ac)
abbrev FM := List MV → ac → Option (MV × ac)
noncomputable def ncL : Nat → List Nat → Nat
 | a, [] => a
 | a, c :: l => ncL (a * 1114113 + c + 1) l
def nc (n : Str) : Nat := ncL 0 n.cps.toList
noncomputable def lk : ap → Nat → Option MV
 | [], _ => .none
 | p :: r, x => match Nat.beq p.1 x with
  | true => some p.2
  | false => lk r x
noncomputable def put : ap → Nat → MV → ap
 | [], x, v => [(x, v)]
 | p :: r, x, v => match Nat.beq p.1 x with
  | true => (x, v) :: r
  | false => p :: put r x v
theorem dU (a b : Nat) : Nat.beq a b = decide (a = b) := BT.beq_eq a b
theorem ch (V : ap) (x : Nat) (v : MV) (y : Nat) : lk (put V x v) y = if y = x then some v else lk V y := by
 induction V with
 | nil =>
  show (match Nat.beq x y with | true => some v | false => .none) = _
  rw [dU]
  by_cases h : y = x
  ·subst h; simp
  ·rw [decide_eq_false (fun e => h e.symm), if_neg h]; rfl
 | cons p r ih =>
  unfold put
  rw [dU]
  by_cases h : p.1 = x
  ·rw [decide_eq_true h]
   show (match Nat.beq x y with | true => some v | false => lk r y) = _
   rw [dU]
   by_cases q : y = x
   ·subst q; simp
   ·rw [decide_eq_false (fun e => q e.symm), if_neg q]
    show lk r y = (match Nat.beq p.1 y with | true => some p.2 | false => lk r y)
    rw [dU, decide_eq_false (fun e => q (by rw [← h, e]))]
  ·rw [decide_eq_false h]
   show (match Nat.beq p.1 y with | true => some p.2 | false => lk (put r x v) y) = if y = x then some v else (match Nat.beq p.1 y with | true => some p.2 | false => lk r y)
   rw [dU, ih]
   by_cases q : p.1 = y
   ·have hy : ¬ y = x := fun e => h (q.trans e)
    simp [q, hy]
   ·rw [decide_eq_false q]
def isL (o : Obj) : Prop := o.cls = .type "list" ∧ ∃ xs n, o.data = .seq xs n
def isV (o : Obj) : Prop := (o.cls = .type "tuple" ∧ ∃ xs n, o.data = .seq xs n) ∨ (∃ es ep, o.data = .dict es ep ∧ ∃ e ∈ es, ∃ c t, e.key = .str ⟨#[c]⟩ t ∧ c < 48) ∨ (o.cls = .type "range" ∧ ∃ vs, o.data = .fields vs)
theorem tL {o : Obj} (v : isV o) : ¬ isL o := by
 rintro ⟨c, xs, n, d⟩
 rcases v with ⟨c', _⟩ | ⟨es, ep, d', _⟩ | ⟨c', _⟩
 ·rw [c] at c'; injection c' with e; exact absurd e (by decide)
 ·rw [d] at d'; cases d'
 ·rw [c] at c'; injection c' with e; exact absurd e (by decide)
def Ext (h h' : Heap) : Prop := ∀ b o, h.get? b = some o → ¬ isL o → h'.get? b = some o
def dX (h h' : Heap) : Prop := ∀ b o, h.get? b = some o → isV o → h'.get? b = some o
theorem Ext.v {h h' : Heap} (x : Ext h h') : dX h h' := fun b o e v => x b o e (tL v)
theorem Ext.refl (h : Heap) : Ext h h := fun _ _ e _ => e
theorem Ext.trans {h h' h'' : Heap} (a : Ext h h') (b : Ext h' h'') : Ext h h'' := fun x o e n => b x o (a x o e n) n
theorem dX.refl (h : Heap) : dX h h := fun _ _ e _ => e
theorem dX.trans {h h' h'' : Heap} (a : dX h h') (b : dX h' h'') : dX h h'' := fun x o e n => b x o (a x o e n) n
theorem Ext.of_keeps {h h' : Heap} (k : ∀ b o, h.get? b = some o → h'.get? b = some o) : Ext h h' := fun b o e _ => k b o e
theorem go {o : Obj} {es ep} (h : o.data = .dict es ep) : ¬ isL o := fun ⟨_, xs, n, e⟩ => by rw [h] at e; cases e
theorem lw {o : Obj} {v} (h : o.data = .cell v) : ¬ isL o := fun ⟨_, xs, n, e⟩ => by rw [h] at e; cases e
theorem eY {o : Obj} {v} (h : o.data = .fields v) : ¬ isL o := fun ⟨_, xs, n, e⟩ => by rw [h] at e; cases e
theorem Nw {o : Obj} {n : String} (h : o.cls = .type n) (hn : n ≠ "list") : ¬ isL o := fun ⟨e, _⟩ => by rw [h] at e; exact hn (by injection e)
theorem Aw {o : Obj} {v} (h : o.data = .cell v) : ¬ isV o := by
 rintro (⟨_, xs, n, e⟩ | ⟨es, ep, e, _⟩ | ⟨_, xs, e⟩) <;> rw [h] at e <;> cases e
theorem dQ {o : Obj} {v} {n : String} (h : o.data = .fields v) (hc : o.cls = .type n) (hn : n ≠ "range") : ¬ isV o := by
 rintro (⟨_, xs, n, e⟩ | ⟨es, ep, e, _⟩ | ⟨c, _⟩)
 ·rw [h] at e; cases e
 ·rw [h] at e; cases e
 ·rw [hc] at c; injection c with c; exact hn c
theorem Na {o : Obj} (h : isL o) : ¬ isV o := fun v => tL v h
theorem Ext.ns {h h' : Heap} {a : Addr} {m} (x : Ext h h') (n : h.Ns a m) : h'.Ns a m := let ⟨o, es, ep, e, d, r⟩ := n; ⟨o, es, ep, x _ _ e (go d), d, r⟩
theorem Ext.cell {h h' : Heap} {a : Addr} {v} (x : Ext h h') (n : h.IsCell a v) : h'.IsCell a v := let ⟨o, e, d⟩ := n; ⟨o, x _ _ e (lw d), d⟩
theorem dX.tup {h h' : Heap} {a : Addr} {v} (x : dX h h') (n : IsTup h a v) : IsTup h' a v := let ⟨o, e, c, n, d⟩ := n; ⟨o, x _ _ e (.inl ⟨c, _, _, d⟩), c, n, d⟩
def oi (m : Str → Option Value) : Prop := ∀ c, c < 48 → m ⟨#[c]⟩ = none
theorem mN {h : Heap} {a : Addr} {m} {o : Obj} (n : h.Ns a m) (q : oi m) (e : h.get? a = some o) : ¬ isV o := by
 refine e34 n fun o' es ep e' d _ f => ?_
 rw [e] at e'; cases e'
 rintro (⟨_, xs, n, e⟩ | ⟨es', ep', e, x, hx, c, t, hk, hc⟩ | ⟨_, xs, e⟩)
 ·rw [d] at e; cases e
 ·rw [d] at e; cases e
  have hn := f ⟨#[c]⟩
  rw [q c hc] at hn
  unfold nsFind findBy at hn
  rw [Option.map_eq_none_iff, Array.find?_eq_none] at hn
  have := hn x hx
  rw [hk] at this
  exact this (by simp [Value.isStr])
 ·rw [d] at e; cases e
noncomputable def dl : List (List Nat × List Nat) → List Nat → Option (List Nat)
 | [], _ => none
 | p :: r, x => if p.1 = x then some p.2 else dl r x
abbrev P0 : Program := PySem.Challenge.pw_tc0074_01
def iX (w : World) (n : Nat) (h : Heap) (a : Addr) (es : List (List Nat × List Nat)) : Prop :=
 (a == sysModules) = false ∧ ∃ o ents ep, ∃ f : Str → Option Value, h.get? a = some o ∧ isV o ∧ o.ExactDict ∧ o.data = .dict ents ep ∧ KeysOf (strKind P0 w) ents ∧ (∀ k, findBy (strKind P0 w).is ents k = f k) ∧
  ∀ x : Str, (match dl es x.cps.toList with | some l => ∃ t, 0 < t ∧ t < n ∧ l.length ≤ 1000 ∧ f x = some (.str ⟨l.toArray⟩ t) | .none => f x = none)
theorem iX.mapOf {w : World} {n : Nat} {h : Heap} {a : Addr} {es} (d : iX w n h a es) : ∃ f : Str → Option Value, h.MapOf (strKind P0 w) a f ∧
  ∀ x : Str, (match dl es x.cps.toList with | some l => ∃ t, 0 < t ∧ t < n ∧ l.length ≤ 1000 ∧ f x = some (.str ⟨l.toArray⟩ t) | .none => f x = none) :=
 let ⟨_, o, ents, ep, f, e, _, x, d, k, q, r⟩ := d; ⟨f, ⟨o, ents, ep, e, x, d, k, q⟩, r⟩
noncomputable def a7 (w : World) (n : Nat) (h : Heap) (ρ : List Addr) (v : Value) : MV → Prop
 | .none => v = .none
 | .bool b => v = .bool b
 | .int i => ∃ t, v = .int i t
 | .str l => ∃ t, 0 < t ∧ t < n ∧ l.length ≤ 1000 ∧ v = .str ⟨l.toArray⟩ t
 | .txt l => ∃ t, l.length ≤ 1000 ∧ v = .str ⟨l.toArray⟩ t
 | .ref i => ∃ a, ρ[i]? = some a ∧ v = .ref a
 | .typ n => v = .type n
 | .fn a => v = .ref a
 | .pair x y => ∃ a va vb, v = .ref a ∧ IsTup h a #[va, vb] ∧ a7 w n h ρ va x ∧ a7 w n h ρ vb y
 | .dct es => ∃ a, v = .ref a ∧ iX w n h a es
 | .rng a c n => ∃ ad b t u x, v = .ref ad ∧ IsRange h ad a b c t u x ∧ Builtin.Range.small a b c = true ∧ Builtin.Range.rangeSize a b c = (n : Int)
theorem dX.rng {h h' : Heap} {a : Addr} {x y z : Int} {t u v : Tok} (e : dX h h') (r : IsRange h a x y z t u v) : IsRange h' a x y z t u v := e _ _ r (.inr (.inr ⟨rfl, _, rfl⟩))
theorem iX.mono {w : World} {n n' : Nat} {h h' : Heap} {a : Addr} {es} (le : n ≤ n') (x : dX h h') (d : iX w n h a es) : iX w n' h' a es := by
 refine ⟨d.1, ?_⟩
 obtain ⟨_, o, ents, ep, f, g, v, r1, r2, r3, r4, l⟩ := d
 refine ⟨o, ents, ep, f, x _ _ g v, v, r1, r2, r3, r4, fun y => ?_⟩
 have := l y
 split at this
 ·exact let ⟨t, a, b, c⟩ := this; ⟨t, a, Nat.lt_of_lt_of_le b le, c⟩
 ·exact this
theorem uO {ρ ρ' : List Addr} (p : ρ <+: ρ') {i : Nat} {a : Addr} (e : ρ[i]? = some a) : ρ'[i]? = some a := by
 obtain ⟨t, rfl⟩ := p
 exact (List.getElem?_append_left (List.getElem?_eq_some_iff.mp e).1).trans e
theorem a7.mono {w : World} {n n' : Nat} {h h' : Heap} {ρ ρ' : List Addr} (le : n ≤ n') (x : dX h h') (p : ρ <+: ρ') {mv : MV} : ∀ {v : Value}, a7 w n h ρ v mv → a7 w n' h' ρ' v mv := by
 induction mv with
 | str => exact fun ⟨t, a, b, e⟩ => ⟨t, a, Nat.lt_of_lt_of_le b le, e⟩
 | ref => exact fun ⟨a, e, r⟩ => ⟨a, uO p e, r⟩
 | pair _ _ ih1 ih2 => exact fun ⟨a, va, vb, e, t, r1, r2⟩ => ⟨a, va, vb, e, x.tup t, ih1 r1, ih2 r2⟩
 | dct => exact fun ⟨a, e, d⟩ => ⟨a, e, d.mono le x⟩
 | rng => exact fun ⟨ad, b, t, u, y, e, r, q⟩ => ⟨ad, b, t, u, y, e, x.rng r, q⟩
 | _ => exact fun r => r
inductive bV (w : World) (n : Nat) (h : Heap) (ρ : List Addr) : List Value → List MV → Prop
 | nil : bV w n h ρ [] []
 | cons {v : Value} {mv : MV} {vs : List Value} {mvs : List MV} : a7 w n h ρ v mv → bV w n h ρ vs mvs → bV w n h ρ (v :: vs) (mv :: mvs)
theorem bV.mono {w : World} {n n' : Nat} {h h' : Heap} {ρ ρ' : List Addr} (le : n ≤ n') (x : dX h h') (p : ρ <+: ρ') {vs : List Value} {mvs : List MV} (r : bV w n h ρ vs mvs) : bV w n' h' ρ' vs mvs := by
 induction r with
 | nil => exact .nil
 | cons a _ ih => exact .cons (a.mono le x p) ih
section
variable {w : World} {n : Nat} {h : Heap} {ρ : List Addr}
theorem bV.length {vs : List Value} {mvs : List MV} (r : bV w n h ρ vs mvs) : vs.length = mvs.length := by
 induction r with
 | nil => rfl
 | cons _ _ ih => simp [ih]
theorem bV.get {vs : List Value} {mvs : List MV} (r : bV w n h ρ vs mvs) : ∀ {i : Nat} {mv : MV}, mvs[i]? = some mv → ∃ v, vs[i]? = some v ∧ a7 w n h ρ v mv := by
 induction r with
 | nil => intro i mv e; simp at e
 | cons a _ ih =>
  intro i mv e
  cases i with
  | zero => simp only [List.getElem?_cons_zero, Option.some.injEq] at e; subst e; exact ⟨_, rfl, a⟩
  | succ i => simpa using ih (by simpa using e)
theorem bV.get' {vs : List Value} {mvs : List MV} (r : bV w n h ρ vs mvs) : ∀ {i : Nat} {v : Value}, vs[i]? = some v → ∃ mv, mvs[i]? = some mv ∧ a7 w n h ρ v mv := by
 induction r with
 | nil => intro i mv e; simp at e
 | cons a _ ih =>
  intro i mv e
  cases i with
  | zero => simp only [List.getElem?_cons_zero, Option.some.injEq] at e; subst e; exact ⟨_, rfl, a⟩
  | succ i => simpa using ih (by simpa using e)
theorem bV.append {vs vs' : List Value} {mvs mvs' : List MV} (r : bV w n h ρ vs mvs) (r' : bV w n h ρ vs' mvs') : bV w n h ρ (vs ++ vs') (mvs ++ mvs') := by
 induction r with
 | nil => exact r'
 | cons a _ ih => exact .cons a ih
theorem bV.take {vs : List Value} {mvs : List MV} (r : bV w n h ρ vs mvs) : ∀ k, bV w n h ρ (vs.take k) (mvs.take k) := by
 induction r with
 | nil => intro k; rw [List.take_nil, List.take_nil]; exact .nil
 | cons a _ ih => intro k; cases k with
  | zero => exact .nil
  | succ k => exact .cons a (ih k)
theorem bV.drop {vs : List Value} {mvs : List MV} (r : bV w n h ρ vs mvs) : ∀ k, bV w n h ρ (vs.drop k) (mvs.drop k) := by
 induction r with
 | nil => intro k; rw [List.drop_nil, List.drop_nil]; exact .nil
 | cons a r ih => intro k; cases k with
  | zero => exact .cons a r
  | succ k => exact ih k
theorem bV.set {vs : List Value} {mvs : List MV} (r : bV w n h ρ vs mvs) {v : Value} {mv : MV} (hv : a7 w n h ρ v mv) : ∀ k, bV w n h ρ (vs.set k v) (mvs.set k mv) := by
 induction r with
 | nil => intro k; exact .nil
 | cons a r ih => intro k; cases k with
  | zero => exact .cons hv r
  | succ k => exact .cons a (ih k)
end
structure Sys where
 w : World
 h₁ : Heap
 os : OsState
 mg : Str → Option Value
 mb : Str → Option Value
 nsg : h₁.Ns mainGlobals mg
 nsb : h₁.Ns builtinsNs mb
 hb : ∀ x, x ≠ ("__name__" : Str) → mb x = bootBuiltins x
 lim : h₁.NoLimit
 nb : NoneBooked h₁
 X : (KF w.params).In h₁
structure MSt (C : Sys) (σ : ac) (ρ : List Addr) (s : Shared) : Prop where
 len : ρ.length = σ.length
 nodup : ρ.Nodup
 fresh : ∀ i a, ρ[i]? = some a → i ≠ 0 → C.h₁.get? a = none
 keep : ∀ b o, C.h₁.get? b = some o → s.heap.get? b = some o
 gens : s.gens = #[]
 os : s.os = C.os
 tk0 : 2433 ≤ s.toks
 cells : ∀ (i : Nat) (xs : List MV) (a : Addr), σ[i]? = some xs → ρ[i]? = some a → ∃ vs, s.heap.PlainList a vs.toArray ∧ bV C.w s.toks s.heap ρ vs xs
structure aT (C : Sys) (s : Shared) (ρ : List Addr) (σ' : ac) (s' : Shared) (ρ' : List Addr) : Prop where
 pre : ρ <+: ρ'
 st : MSt C σ' ρ' s'
 ext : Ext s.heap s'.heap
 tk : s.toks ≤ s'.toks
section
variable {C : Sys} {σ σ' σ'' : ac} {ρ ρ' ρ'' : List Addr} {s s' s'' : Shared}
theorem MSt.toks (a : MSt C σ ρ s) : 0 < s.toks := Nat.lt_of_lt_of_le (by decide) a.tk0
theorem MSt.lim (a : MSt C σ ρ s) : s.heap.NoLimit := C.lim.keeps a.keep
theorem MSt.nb (a : MSt C σ ρ s) : NoneBooked s.heap := let ⟨mc, n, e⟩ := C.nb; ⟨mc, n.keeps a.keep, e⟩
theorem aT.trans (a : aT C s ρ σ' s' ρ') (b : aT C s' ρ' σ'' s'' ρ'') : aT C s ρ σ'' s'' ρ'' :=
 ⟨a.pre.trans b.pre, b.st, a.ext.trans b.ext, Nat.le_trans a.tk b.tk⟩
theorem aT.refl (a : MSt C σ ρ s) : aT C s ρ σ s ρ := ⟨List.prefix_refl _, a, Ext.refl _, Nat.le_refl _⟩
theorem MSt.heap (a : MSt C σ ρ s) {h : Heap} {t : Nat} (le : s.toks ≤ t) (k : ∀ b o, s.heap.get? b = some o → h.get? b = some o) : MSt C σ ρ { s with heap := h, toks := t } :=
 ⟨a.len, a.nodup, a.fresh, fun b o e => k b o (a.keep b o e), a.gens, a.os, Nat.le_trans a.tk0 le, fun i xs ad e1 e2 => by
  refine e12 (a.cells i xs ad e1 e2) fun vs ho hr => ?_
  exact ⟨vs, ho.at (k _), hr.mono le (Ext.of_keeps k).v (List.prefix_refl _)⟩⟩
theorem aT.heap (a : MSt C σ ρ s) {h : Heap} {t : Nat} (le : s.toks ≤ t) (k : ∀ b o, s.heap.get? b = some o → h.get? b = some o) : aT C s ρ σ { s with heap := h, toks := t } ρ :=
 ⟨List.prefix_refl _, a.heap le k, Ext.of_keeps k, le⟩
theorem MSt.tok (a : MSt C σ ρ s) {t : Nat} (le : s.toks ≤ t) : MSt C σ ρ { s with toks := t } := a.heap le fun _ _ e => e
theorem aT.tok (a : MSt C σ ρ s) {t : Nat} (le : s.toks ≤ t) : aT C s ρ σ { s with toks := t } ρ := aT.heap a le fun _ _ e => e
theorem a7.step {v : Value} {mv : MV} (r : a7 C.w s.toks s.heap ρ v mv) (st : aT C s ρ σ' s' ρ') : a7 C.w s'.toks s'.heap ρ' v mv := r.mono st.tk st.ext.v st.pre
theorem bV.step {v : List Value} {mv : List MV} (r : bV C.w s.toks s.heap ρ v mv) (st : aT C s ρ σ' s' ρ') : bV C.w s'.toks s'.heap ρ' v mv := r.mono st.tk st.ext.v st.pre
theorem MSt.addr (a : MSt C σ ρ s) {i : Nat} {xs : List MV} (e : σ[i]? = some xs) : ∃ ad vs, ρ[i]? = some ad ∧ s.heap.PlainList ad vs.toArray ∧ bV C.w s.toks s.heap ρ vs xs := by
 have hlt : i < ρ.length := by rw [a.len]; exact (List.getElem?_eq_some_iff.mp e).1
 refine e12 (a.cells i xs ρ[i] e (List.getElem?_eq_getElem hlt)) fun vs l r => ?_
 exact ⟨_, vs, List.getElem?_eq_getElem hlt, l, r⟩
theorem a7.list {v : Value} {i : Nat} {xs : List MV} (r : a7 C.w s.toks s.heap ρ v (.ref i)) (a : MSt C σ ρ s) (e : σ[i]? = some xs) :
  ∃ ad vs, v = .ref ad ∧ ρ[i]? = some ad ∧ s.heap.PlainList ad vs.toArray ∧ bV C.w s.toks s.heap ρ vs xs := by
 refine e12 r fun ad h z2 => ?_; subst z2
 refine e12 (a.cells i xs ad e h) fun vs l r => ?_
 exact ⟨ad, vs, rfl, h, l, r⟩
theorem aT.alloc (a : MSt C σ ρ s) {ad : Addr} {h : Heap} {t : Nat} {vs : List Value} {xs : List MV} (le : s.toks ≤ t) (k : ∀ b o, s.heap.get? b = some o → h.get? b = some o)
  (hn : s.heap.get? ad = none) (hl : h.PlainList ad vs.toArray) (hr : bV C.w t h ρ vs xs) : aT C s ρ (σ ++ [xs]) { s with heap := h, toks := t } (ρ ++ [ad]) := by
 have hnr : ad ∉ ρ := fun m => by
  obtain ⟨i, hi, e⟩ := List.mem_iff_getElem.mp m
  have hi' : i < σ.length := by rw [← a.len]; exact hi
  refine e12 (a.cells i σ[i] ρ[i] (List.getElem?_eq_getElem hi') (List.getElem?_eq_getElem hi)) fun vs z1 _ => ?_; obtain ⟨o, ho⟩ := z1
  rw [e, hn] at ho; exact nS ho
 have pre : ρ <+: ρ ++ [ad] := List.prefix_append _ _
 refine ⟨pre, ⟨by simp [a.len], ?_, ?_, fun b o e => k b o (a.keep b o e), a.gens, a.os, Nat.le_trans a.tk0 le, ?_⟩, Ext.of_keeps k, le⟩
 ·exact List.nodup_append.mpr ⟨a.nodup, by simp, fun x hx y hy e => by simp at hy; subst hy; subst e; exact hnr hx⟩
 ·intro i b e h0
  rcases Nat.lt_trichotomy i ρ.length with q | q | q
  ·exact a.fresh i b (by rwa [List.getElem?_append_left q] at e) h0
  ·subst q; simp at e; subst e
   cases q : C.h₁.get? ad with
   | none => rfl
   | some o => have := a.keep _ _ q; rw [hn] at this; exact nS this
  ·have := (List.getElem?_eq_some_iff.mp e).1; simp at this; lia
 ·intro i ys b e1 e2
  rcases Nat.lt_trichotomy i ρ.length with q | q | q
  ·rw [List.getElem?_append_left q] at e2
   rw [List.getElem?_append_left (by rw [← a.len]; exact q)] at e1
   refine e12 (a.cells i ys b e1 e2) fun vs' ho hr' => ?_
   exact ⟨vs', ho.at (k _), hr'.mono le (Ext.of_keeps k).v pre⟩
  ·subst q; simp at e2; subst e2
   rw [a.len] at e1; simp at e1; subst e1
   exact ⟨vs, hl, hr.mono (Nat.le_refl _) (dX.refl _) pre⟩
  ·have := (List.getElem?_eq_some_iff.mp e2).1; simp at this; lia
theorem aT.upd (a : MSt C σ ρ s) {i : Nat} {ad : Addr} {h : Heap} {t : Nat} {vs : List Value} {xs : List MV} (le : s.toks ≤ t) (k : Heap.SameBut ad s.heap h)
  (h0 : i ≠ 0) (hi : ρ[i]? = some ad) (hl : h.PlainList ad vs.toArray) (hr : bV C.w s.toks s.heap ρ vs xs) : aT C s ρ (σ.set i xs) { s with heap := h, toks := t } ρ := by
 have hlt := (List.getElem?_eq_some_iff.mp hi).1
 have hold : ∀ o, s.heap.get? ad = some o → isL o := fun o e => by
  have hi' : i < σ.length := by rw [← a.len]; exact hlt
  refine e12 (a.cells i σ[i] ad (List.getElem?_eq_getElem hi') hi) fun vs z1 _ => ?_; obtain ⟨n, ho⟩ := z1
  rw [e] at ho; cases ho
  exact ⟨rfl, _, n, rfl⟩
 have ext : Ext s.heap h := fun b o e n => (k.2 b (fun q => n (hold o (q ▸ e)))).trans e
 refine ⟨List.prefix_refl _, ⟨by simp [a.len], a.nodup, a.fresh, fun b o e => ?_, a.gens, a.os, Nat.le_trans a.tk0 le, ?_⟩, ext, le⟩
 ·refine (k.2 b (fun q => ?_)).trans (a.keep b o e)
  have := a.fresh i ad hi h0
  rw [← q, e] at this; cases this
 ·intro j ys b e1 e2
  by_cases q : j = i
  ·subst q
   rw [hi] at e2; cases e2
   rw [List.getElem?_set_self (by rw [← a.len]; exact hlt)] at e1; cases e1
   exact ⟨vs, hl, hr.mono le ext.v (List.prefix_refl _)⟩
  ·rw [List.getElem?_set_ne (fun e => q e.symm)] at e1
   refine e12 (a.cells j ys b e1 e2) fun vs' ho hr' => ?_
   have hne : b ≠ ad := fun e => q (by
    have h1 := (List.getElem?_eq_some_iff.mp e2)
    have h2 := (List.getElem?_eq_some_iff.mp hi)
    obtain ⟨p1, e1⟩ := h1
    obtain ⟨p2, e2⟩ := h2
    exact (List.getElem_inj a.nodup).mp (e1.trans (e.trans e2.symm)))
   exact ⟨vs', ho.at (fun o e => (k.2 b hne).trans e), hr'.mono le ext.v (List.prefix_refl _)⟩
end
def AOk (A : Around) (k : Nat) : Prop := A.handled = none ∧ A.depth + k < recursionLimit ∧ A.units + 10 * k + 20 < cLine
theorem AOk.mono {A : Around} {k j : Nat} (h : AOk A k) (le : j ≤ k) : AOk A j := ⟨h.1, by have := h.2.1; lia, by have := h.2.2; lia⟩
structure aS (env : Env) : Prop where
 kind : env.scope.kind = .function
 glob : env.globals = mainGlobals
 blt : env.builtins = builtinsNs
 cells : ∀ n n' c, env.cells.lookup n = some c → env.cells.lookup n' = some c → n = n'
 inj : ∀ n n', env.kindOf n ≠ none → env.kindOf n' ≠ none → nc n = nc n' → n = n'
def cb (w : World) (env : Env) (t : Nat) (ρ : List Addr) (h : Heap) (m : Str → Option Value) (n : Str) (mv : MV) : Prop := match env.kindOf n with
 | some .local => ∃ v, m n = some v ∧ a7 w t h ρ v mv
 | some .cell => ∃ c v, env.cells.lookup n = some c ∧ h.IsCell c (some v) ∧ a7 w t h ρ v mv
 | some .free => ∃ c v, env.cells.lookup n = some c ∧ h.IsCell c (some v) ∧ a7 w t h ρ v mv
 | _ => True
structure aJ (w : World) (env : Env) (V : ap) (t : Nat) (ρ : List Addr) (h : Heap) : Prop where
 ns : ∃ m, h.Ns env.locals m ∧ oi m ∧ ∀ n mv, lk V (nc n) = some mv → cb w env t ρ h m n mv
 cells : ∀ n c, env.kindOf n = some .cell → env.cells.lookup n = some c → ∃ v, h.IsCell c v
theorem cb.map {w : World} {env : Env} {t t' : Nat} {ρ ρ' : List Addr} {h h' : Heap} {m m' : Str → Option Value} {n : Str} {mv : MV} (hm : m' n = m n) (hc : ∀ c v, env.cells.lookup n = some c → h.IsCell c v → h'.IsCell c v) (hr : ∀ v, a7 w t h ρ v mv → a7 w t' h' ρ' v mv) (v : cb w env t ρ h m n mv) : cb w env t' ρ' h' m' n mv := by
 unfold cb at v ⊢
 split
 ·rename_i e; rw [e] at v; exact let ⟨u, e, r⟩ := v; ⟨u, hm.trans e, hr u r⟩
 ·rename_i e; rw [e] at v; exact let ⟨c, u, e, i, r⟩ := v; ⟨c, u, e, hc c _ e i, hr u r⟩
 ·rename_i e; rw [e] at v; exact let ⟨c, u, e, i, r⟩ := v; ⟨c, u, e, hc c _ e i, hr u r⟩
 ·trivial
theorem cb.loc {w : World} {env : Env} {t : Nat} {ρ : List Addr} {h : Heap} {m : Str → Option Value} {n : Str} {mv : MV} (e : env.kindOf n = some .local) : cb w env t ρ h m n mv = ∃ v, m n = some v ∧ a7 w t h ρ v mv := by
 unfold cb; rw [e]
theorem cb.cell {w : World} {env : Env} {t : Nat} {ρ : List Addr} {h : Heap} {m : Str → Option Value} {n : Str} {mv : MV} (e : env.kindOf n = some .cell) : cb w env t ρ h m n mv = ∃ c v, env.cells.lookup n = some c ∧ h.IsCell c (some v) ∧ a7 w t h ρ v mv := by
 unfold cb; rw [e]
theorem cb.put {w : World} {env : Env} (hE : aS env) {V : ap} {x : Str} {mv : MV} {t : Nat} {ρ : List Addr} {h : Heap} {m : Str → Option Value} (kx : env.kindOf x ≠ none) (hnew : cb w env t ρ h m x mv) (hold : ∀ n mv', n ≠ x → lk V (nc n) = some mv' → cb w env t ρ h m n mv') :
  ∀ n mv', lk (put V (nc x) mv) (nc n) = some mv' → cb w env t ρ h m n mv' := by
 intro n mv' hl
 rw [ch] at hl
 by_cases hnx : n = x
 ·subst hnx
  rw [if_pos rfl] at hl; cases hl
  exact hnew
 ·by_cases hk : env.kindOf n = none
  ·unfold cb; rw [hk]; trivial
  ·rw [if_neg fun q => hnx (hE.inj n x hk kx q)] at hl
   exact hold n mv' hnx hl
theorem cb.mono {w : World} {env : Env} {t t' : Nat} {ρ ρ' : List Addr} {h h' : Heap} {m : Str → Option Value} {n : Str} {mv : MV} (le : t ≤ t') (x : Ext h h') (p : ρ <+: ρ') (v : cb w env t ρ h m n mv) : cb w env t' ρ' h' m n mv :=
 v.map rfl (fun _ _ _ => x.cell) fun _ r => r.mono le x.v p
theorem Ij {h : Heap} {L : Addr} {m m' : Str → Option Value} (a : h.Ns L m) (b : h.Ns L m') : m = m' := by
 refine e34 a fun o es ep e d _ f => ?_
 obtain ⟨o', es', ep', e', d', _, f'⟩ := b
 rw [e] at e'; cases e'; rw [d] at d'; cases d'
 funext n; rw [← f, ← f']
theorem lS {h h' : Heap} {L : Addr} {m : Str → Option Value} (ns : h.Ns L m) (hs : Heap.SameBut L h h') {c : Addr} {v : Option Value} (i : h.IsCell c v) : h'.IsCell c v := by
 refine e12 i fun o ho hd => ?_
 refine ⟨o, (hs.2 c fun q => ?_).trans ho, hd⟩
 refine e33 ns fun o' es ep ho' hd' _ => ?_
 rw [q, ho'] at ho; cases ho; rw [hd] at hd'; cases hd'
theorem aJ.mono {w : World} {env : Env} {V : ap} {t t' : Nat} {ρ ρ' : List Addr} {h h' : Heap} (le : t ≤ t') (x : Ext h h') (p : ρ <+: ρ') (v : aJ w env V t ρ h) : aJ w env V t' ρ' h' := by
 obtain ⟨⟨m, n, q, r⟩, c⟩ := v
 exact ⟨⟨m, x.ns n, q, fun n mv e => (r n mv e).mono le x p⟩, fun n a e e' => let ⟨v, i⟩ := c n a e e'; ⟨v, x.cell i⟩⟩
theorem aJ.step {C : Sys} {env : Env} {V : ap} {ρ ρ' : List Addr} {s s' : Shared} {σ' : ac} (v : aJ C.w env V s.toks ρ s.heap) (st : aT C s ρ σ' s' ρ') : aJ C.w env V s'.toks ρ' s'.heap := v.mono st.tk st.ext st.pre
abbrev pwM (C : Sys) : Model := model PySem.Challenge.pw_tc0074_01 C.w
def PE (C : Sys) (s : Shared) (ρ : List Addr) (Q : Value → Shared → Prop) (mv : MV) (σ' : ac) : Prop := ∀ v s' ρ', aT C s ρ σ' s' ρ' → a7 C.w s'.toks s'.heap ρ' v mv → Q v s'
def PC (C : Sys) (s : Shared) (ρ : List Addr) (Q : Bool → Shared → Prop) (b : Bool) (σ' : ac) : Prop := ∀ s' ρ', aT C s ρ σ' s' ρ' → Q b s'
def PL (C : Sys) (s : Shared) (ρ : List Addr) (Q : List Value → Shared → Prop) (mvs : List MV) (σ' : ac) : Prop := ∀ vs s' ρ', aT C s ρ σ' s' ρ' → bV C.w s'.toks s'.heap ρ' vs mvs → Q vs s'
theorem PE.of {C : Sys} {s : Shared} {ρ : List Addr} {Q : Value → Shared → Prop} {mv mv' : MV} {σ σ' : ac} (h : PE C s ρ Q mv σ) (e : some (mv', σ') = some (mv, σ)) : PE C s ρ Q mv' σ' := by cases e; exact h
theorem PC.of {C : Sys} {s : Shared} {ρ : List Addr} {Q : Bool → Shared → Prop} {mv mv' : Bool} {σ σ' : ac} (h : PC C s ρ Q mv σ) (e : some (mv', σ') = some (mv, σ)) : PC C s ρ Q mv' σ' := by cases e; exact h
theorem PL.of {C : Sys} {s : Shared} {ρ : List Addr} {Q : List Value → Shared → Prop} {mv mv' : List MV} {σ σ' : ac} (h : PL C s ρ Q mv σ) (e : some (mv', σ') = some (mv, σ)) : PL C s ρ Q mv' σ' := by cases e; exact h
def EOk (C : Sys) (k : Nat) (env : Env) (e : Expr) (m : EM) : Prop :=
 ∀ (A : Around) (V : ap) (σ σ' : ac) (mv : MV) (s : Shared) (ρ : List Addr) (Q : Value → Shared → Prop) (E : Value → Shared → Prop), AOk A k → aJ C.w env V s.toks ρ s.heap → MSt C σ ρ s → m V σ = some (mv, σ') →
  PE C s ρ Q mv σ' → wpAny (pwM C) A (eval e env) Q E s
def COk (C : Sys) (k : Nat) (env : Env) (e : Expr) (m : CM) : Prop :=
 ∀ (A : Around) (V : ap) (σ σ' : ac) (b : Bool) (s : Shared) (ρ : List Addr) (Q : Bool → Shared → Prop) (E : Value → Shared → Prop), AOk A k → aJ C.w env V s.toks ρ s.heap → MSt C σ ρ s → m V σ = some (b, σ') →
  PC C s ρ Q b σ' → wpAny (pwM C) A (isTrue e env (eval e env)) Q E s
noncomputable def mK (v : MV) : EM := fun _ σ => some (v, σ)
def mV (x : Nat) : EM := fun V σ => match lk V x with
 | some v => some (v, σ)
 | none => none
noncomputable def m1 (f : MV → ac → Option (MV × ac)) (e : EM) : EM := fun V σ => match e V σ with
 | none => none
 | some (a, σ1) => f a σ1
noncomputable def m2 (f : MV → MV → ac → Option (MV × ac)) (l r : EM) : EM := fun V σ => match l V σ with
 | none => none
 | some (a, σ1) => match r V σ1 with
  | none => none
  | some (b, σ2) => f a b σ2
theorem Io {f : MV → ac → Option (MV × ac)} {e : EM} {V : ap} {σ σ' : ac} {mv : MV} (h : m1 f e V σ = some (mv, σ')) :
  ∃ a σ1, e V σ = some (a, σ1) ∧ f a σ1 = some (mv, σ') := by
 unfold m1 at h
 match q : e V σ with
 | none => rw [q] at h; exact nS h
 | some p => rw [q] at h; exact ⟨p.1, p.2, rfl, h⟩
theorem zD {f : MV → MV → ac → Option (MV × ac)} {l r : EM} {V : ap} {σ σ' : ac} {mv : MV} (h : m2 f l r V σ = some (mv, σ')) :
  ∃ a σ1 b σ2, l V σ = some (a, σ1) ∧ r V σ1 = some (b, σ2) ∧ f a b σ2 = some (mv, σ') := by
 unfold m2 at h
 match q : l V σ with
 | none => rw [q] at h; exact nS h
 | some p =>
  rw [q] at h
  cases q2 : r V p.2 with
  | none => simp only [q2] at h; exact nS h
  | some p2 => simp only [q2] at h; exact ⟨p.1, p.2, p2.1, p2.2, rfl, q2, h⟩
section
variable {C : Sys} {k : Nat} {env : Env}
theorem EOk.const_int {i : Int} {kk : Nat} {pos : Pos} : EOk C k env (.Constant (.int i) kk pos) (mK (.int i)) := by
 intro A V σ σ' mv s ρ Q E hA hV hS hm h
 cases hm
 exact wpAny_Constant_int (h _ _ ρ (.tok hS (Nat.le_succ _)) ⟨_, rfl⟩)
theorem EOk.const_none {kk : Nat} {pos : Pos} : EOk C k env (.Constant .none kk pos) (mK .none) := by
 intro A V σ σ' mv s ρ Q E hA hV hS hm h
 cases hm
 exact wpAny_Constant_none (h _ _ ρ (.refl hS) rfl)
theorem EOk.const_bool {b : Bool} {kk : Nat} {pos : Pos} : EOk C k env (.Constant (.bool b) kk pos) (mK (.bool b)) := by
 intro A V σ σ' mv s ρ Q E hA hV hS hm h
 cases hm
 exact wpAny_Constant_bool (h _ _ ρ (.refl hS) rfl)
theorem EOk.const_str {x : Str} {l : List Nat} {kk : Nat} {pos : Pos} (hx : x.cps.toList = l) (hl : Nat.ble l.length 1000 = true) : EOk C k env (.Constant (.str x) kk pos) (mK (.str l)) := by
 intro A V σ σ' mv s ρ Q E hA hV hS hm h
 have h := h.of hm
 refine wpAny_Constant_str (h _ _ ρ (.tok hS (Nat.le_succ _)) ⟨s.toks, hS.toks, Nat.lt_succ_self _, Nat.le_of_ble_eq_true hl, ?_⟩)
 subst hx; obtain ⟨⟨l⟩⟩ := x; rfl
theorem Im {x : Nat} {V : ap} {σ σ' : ac} {mv : MV} (h : mV x V σ = some (mv, σ')) : lk V x = some mv ∧ σ' = σ := by
 unfold mV at h
 match q : lk V x with
 | none => rw [q] at h; exact nS h
 | some v => rw [q] at h; cases h; exact ⟨rfl, rfl⟩
theorem js (hE : aS env) {x : Str} {V : ap} {s : Shared} {ρ : List Addr} {A : Around} {mv : MV} {Q : Value → Shared → Prop} {E : Value → Shared → Prop} {M : Model}
  (hV : aJ C.w env V s.toks ρ s.heap) (hm : lk V (nc x) = some mv) (hx : env.kindOf x = some .local ∨ env.kindOf x = some .cell ∨ env.kindOf x = some .free)
  (hn : (x == ("__classdict__" : Str)) = false) (h : ∀ v, a7 C.w s.toks s.heap ρ v mv → Q v s) : wpAny M A (loadName env x) Q E s := by
 obtain ⟨⟨m, ns, _, r⟩, _⟩ := hV
 have r := r x mv hm
 unfold cb at r
 rcases hx with e | e | e
 ·rw [e] at r; refine e12 r fun v hv r => ?_; exact wpAny_loadName_local hE.kind e ns hv (h v r)
 ·rw [e] at r; refine e23 r fun c v hc hv r => ?_; exact wpAny_loadName_cell hE.kind e hc hv (h v r)
 ·rw [e] at r; refine e23 r fun c v hc hv r => ?_; exact wpAny_loadName_free hE.kind e hc hv (h v r) hn
theorem EOk.name (hE : aS env) {x : Str} {c : Nat} {pos : Pos} (hc : nc x = c) (hx : env.kindOf x = some .local ∨ env.kindOf x = some .cell ∨ env.kindOf x = some .free)
  (hn : (x == ("__classdict__" : Str)) = false) (hd : (x == ("__debug__" : Str)) = false) : EOk C k env (.Name x pos) (mV c) := by
 intro A V σ σ' mv s ρ Q E hA hV hS hm h
 subst hc
 obtain ⟨hq, rfl⟩ := Im hm
 exact wpAny_Name (js hE hV hq hx hn fun v r => h v s ρ (.refl hS) r) hd
theorem EOk.glob (hE : aS env) {x : Str} {v : Value} {mv : MV} {pos : Pos} (hx : env.kindOf x = some .globalImplicit) (hv : C.mg x = some v) (hr : ∀ n h ρ, a7 C.w n h ρ v mv)
  (hd : (x == ("__debug__" : Str)) = false) : EOk C k env (.Name x pos) (mK mv) := by
 intro A V σ σ' mv' s ρ Q E hA hV hS hm h
 have h := h.of hm
 refine Name_function_global hE.kind hx (loadGlobal_global ?_ hv (h v s ρ (.refl hS) (hr _ _ _))) hd
 rw [hE.glob]; exact C.nsg.keeps hS.keep
theorem EOk.blt (hE : aS env) {x : Str} {v : Value} {mv : MV} {pos : Pos} (hx : env.kindOf x = some .globalImplicit) (hm : C.mg x = none) (hv : bootBuiltins x = some v) (hn : x ≠ ("__name__" : Str)) (hr : ∀ n h ρ, a7 C.w n h ρ v mv)
  (hd : (x == ("__debug__" : Str)) = false) : EOk C k env (.Name x pos) (mK mv) := by
 intro A V σ σ' mv' s ρ Q E hA hV hS hm' h
 have h := h.of hm'
 refine Name_function_global hE.kind hx (loadGlobal_builtin (mg := C.mg) (mb := C.mb) ?_ hm ?_ ((C.hb x hn).trans hv) (h v s ρ (.refl hS) (hr _ _ _))) hd
 ·rw [hE.glob]; exact C.nsg.keeps hS.keep
 ·rw [hE.blt]; exact C.nsb.keeps hS.keep
def Op2 (C : Sys) (t : Value → Value → Sem Value) (f : MV → MV → ac → Option (MV × ac)) : Prop :=
 ∀ (A : Around) (σ σ' : ac) (a b mv : MV) (va vb : Value) (s : Shared) (ρ : List Addr) (Q : Value → Shared → Prop) (E : Value → Shared → Prop), AOk A 0 → MSt C σ ρ s → a7 C.w s.toks s.heap ρ va a → a7 C.w s.toks s.heap ρ vb b →
  f a b σ = some (mv, σ') → PE C s ρ Q mv σ' → wpAny (pwM C) A (t va vb) Q E s
theorem EOk.bin {l r : Expr} {op : Operator} {pos : Pos} {f} {ml mr : EM} (h2 : Op2 C (binaryOp op) f) (hl : EOk C k env l ml) (hr : EOk C k env r mr) : EOk C k env (.BinOp l op r pos) (m2 f ml mr) := by
 intro A V σ σ' mv s ρ Q E hA hV hS hm h
 refine e43 (zD hm) fun a σ1 b σ2 e1 e2 e3 => ?_
 refine wpAny_BinOp (hl A V σ σ1 a s ρ _ _ hA hV hS e1 fun va s1 ρ1 st1 r1 => hr A V σ1 σ2 b s1 ρ1 _ _ hA (hV.step st1) st1.st e2 fun vb s2 ρ2 st2 r2 => ?_)
 exact h2 A σ2 σ' a b mv va vb s2 ρ2 Q E (hA.mono (Nat.zero_le _)) st2.st (r1.step st2) r2 e3 fun v s' ρ' st r => h v s' ρ' (st1.trans (st2.trans st)) r
noncomputable def fit (i : Int) : Bool := Nat.ble i.natAbs 18446744073709551615
theorem t7 {i : Int} (h : fit i = true) : Builtin.Int.intBits i ≤ 64 := by
 have := Nat.le_of_ble_eq_true h
 exact intBits_le_64 (by lia) (by lia)
noncomputable def am (σ : ac) (i : Nat) : Option (List MV) := σ[i]?
def cG : MV → MV → ac → Option (MV × ac)
 | .int a, .int b, σ => some (.int (a + b), σ)
 | .str a, .str b, σ => match Nat.ble (a ++ b).length 1000 with
  | true => some (.str (a ++ b), σ)
  | false => none
 | .ref i, .ref j, σ => match am σ i, am σ j with
  | some xs, some ys => match Nat.ble (xs ++ ys).length 100000 with
   | true => some (.ref σ.length, σ ++ [xs ++ ys])
   | false => none
  | _, _ => none
 | _, _, _ => none
noncomputable def cD : MV → MV → ac → Option (MV × ac)
 | .int a, .int b, σ => some (.int (a - b), σ)
 | _, _, _ => none
def dN : MV → MV → ac → Option (MV × ac)
 | .int a, .int b, σ => match fit a with
  | true => some (.int (a * b), σ)
  | false => none
 | _, _, _ => none
noncomputable def cZ : MV → MV → ac → Option (MV × ac)
 | .int a, .int b, σ => match Nat.ble 1 b.toNat && Nat.ble b.natAbs 1000000000 with
  | true => some (.int (a.fdiv b), σ)
  | false => none
 | _, _, _ => none
noncomputable def bS : MV → MV → ac → Option (MV × ac)
 | .int a, .int b, σ => match Nat.ble 1 b.toNat with
  | true => some (.int (a.fmod b), σ)
  | false => none
 | _, _, _ => none
def gS : MV → MV → ac → Option (MV × ac)
 | .int a, .int b, σ => match fit a, decide (0 ≤ b), Nat.ble b.toNat 1000 with
  | true, true, true => some (.int (a ^ b.toNat), σ)
  | _, _, _ => none
 | _, _, _ => none
noncomputable def lI : MV → MV → ac → Option (MV × ac)
 | .int a, .int b, σ => some (.int (Builtin.bitAnd a b), σ)
 | _, _, _ => none
theorem ew : Op2 C (binaryOp .Sub) cD := by
 intro A σ σ' a b mv va vb s ρ Q E hA hS ra rb hf h
 unfold cD at hf
 split at hf
 rotate_left
 ·exact nS hf
 obtain ⟨t, rfl⟩ := ra; obtain ⟨u, rfl⟩ := rb; have h := h.of hf
 exact P.sub_int (h _ _ ρ (.tok hS (Nat.le_succ _)) ⟨_, rfl⟩)
set_option tactic.hygienic true in
theorem gF : Op2 C (binaryOp .Mult) dN := by
 intro A σ σ' a b mv va vb s ρ Q E hA hS ra rb hf h
 unfold dN at hf
 split at hf
 rotate_left
 ·exact nS hf
 rename_i a b
 obtain ⟨t, rfl⟩ := ra; obtain ⟨u, rfl⟩ := rb
 match q : fit a with
 | false => simp only [q] at hf; exact nS hf
 | true =>
  simp only [q] at hf; have h := h.of hf
  exact P.mul_int (h _ _ ρ (.tok hS (Nat.le_succ _)) ⟨_, rfl⟩) (.of_left (t7 q))
set_option tactic.hygienic true in
theorem fi : Op2 C (binaryOp .FloorDiv) cZ := by
 intro A σ σ' a b mv va vb s ρ Q E hA hS ra rb hf h
 unfold cZ at hf
 split at hf
 rotate_left
 ·exact nS hf
 rename_i a b
 obtain ⟨t, rfl⟩ := ra; obtain ⟨u, rfl⟩ := rb
 match q : Nat.ble 1 b.toNat && Nat.ble b.natAbs 1000000000 with
 | false => simp only [q] at hf; exact nS hf
 | true =>
  simp only [q] at hf; have h := h.of hf
  rw [Bool.and_eq_true] at q
  have q1 := Nat.le_of_ble_eq_true q.1
  have q2 := Nat.le_of_ble_eq_true q.2
  exact floordiv_int (by lia) (h _ _ ρ (.tok hS (Nat.le_succ _)) ⟨_, rfl⟩) (Or.inl (PyProof.noPylong_small (by lia)))
set_option tactic.hygienic true in
theorem dB : Op2 C (binaryOp .Mod) bS := by
 intro A σ σ' a b mv va vb s ρ Q E hA hS ra rb hf h
 unfold bS at hf
 split at hf
 rotate_left
 ·exact nS hf
 rename_i a b
 obtain ⟨t, rfl⟩ := ra; obtain ⟨u, rfl⟩ := rb
 match q : Nat.ble 1 b.toNat with
 | false => simp only [q] at hf; exact nS hf
 | true =>
  simp only [q] at hf; cases hf
  have q1 := Nat.le_of_ble_eq_true q
  exact mod_int' (by lia) (h _ _ ρ (.tok hS (Nat.le_succ _)) ⟨_, rfl⟩)
set_option tactic.hygienic true in
theorem lq : Op2 C (binaryOp .Pow) gS := by
 intro A σ σ' a b mv va vb s ρ Q E hA hS ra rb hf h
 unfold gS at hf
 split at hf
 rotate_left
 ·exact nS hf
 rename_i a b
 obtain ⟨t, rfl⟩ := ra; obtain ⟨u, rfl⟩ := rb
 cases q1 : fit a <;> cases q2 : decide (0 ≤ b) <;> cases q3 : Nat.ble b.toNat 1000 <;> simp only [q1, q2, q3] at hf <;> first | (exact nS hf; done) | skip
 have h := h.of hf
 have p2 := of_decide_eq_true q2
 have p3 := Nat.le_of_ble_eq_true q3
 have p1 := t7 q1
 refine pow_int p2 ?_ (h _ _ ρ (.tok hS (Nat.le_succ _)) ⟨_, rfl⟩)
 have : (Builtin.Int.intBits a : Int) * b ≤ 64 * 1000 := Int.mul_le_mul (by lia) (by lia) p2 (by decide)
 exact Int.le_trans this (by decide)
theorem uR : Op2 C (binaryOp .BitAnd) lI := by
 intro A σ σ' a b mv va vb s ρ Q E hA hS ra rb hf h
 unfold lI at hf
 split at hf
 rotate_left
 ·exact nS hf
 obtain ⟨t, rfl⟩ := ra; obtain ⟨u, rfl⟩ := rb; have h := h.of hf
 exact and_int (h _ _ ρ (.tok hS (Nat.le_succ _)) ⟨_, rfl⟩)
theorem dS (h : Heap) : h.get? h.objs.size = none := by
 match e : h.get? h.objs.size with
 | none => rfl
 | some o => exact absurd (Heap.lt_size e) (Nat.lt_irrefl _)
theorem bk : 1000000 ≤ sizeLine := by rw [sizeLine_eq]; decide
theorem aT.push {σ : ac} {ρ : List Addr} {s : Shared} (a : MSt C σ ρ s) {vs : List Value} {xs : List MV} (hr : bV C.w s.toks s.heap ρ vs xs) :
  aT C s ρ (σ ++ [xs]) { s with heap := s.heap.push { cls := .type "list", data := .seq vs.toArray } } (ρ ++ [s.heap.objs.size]) :=
 aT.alloc (t := s.toks) a (Nat.le_refl _) (fun _ _ e => Heap.get?_push_of_some _ e) (dS _) ⟨_, Heap.get?_push_size _ rfl⟩ (hr.mono (Nat.le_refl _) (Ext.of_keeps fun _ _ e => Heap.get?_push_of_some _ e).v (List.prefix_refl _))
theorem jM {σ : ac} {ρ : List Addr} {s : Shared} (a : MSt C σ ρ s) {w : World} {n : Nat} {h : Heap} {ad : Addr} : a7 w n h (ρ ++ [ad]) (.ref ad) (.ref σ.length) :=
 ⟨ad, by rw [← a.len]; simp, rfl⟩
theorem rL {A : Around} {l b : Addr} {vs ws : List Value} {s : Shared} {Q : Value → Shared → Prop} {E : Value → Shared → Prop} {w : World} {prog : Program} (hl : s.heap.PlainList l vs.toArray) (hb : s.heap.PlainList b ws.toArray) (hsz : vs.length + ws.length ≤ sizeLine)
  (h : Q (.ref s.heap.objs.size) { s with heap := s.heap.push { cls := .type "list", data := .seq (vs ++ ws).toArray } }) : wpAny (model prog w) A (binaryOp .Add (.ref l) (.ref b)) Q E s := by
 have F : Fr s.heap s.heap.objs.size (s.heap.push { cls := .type "frame", data := .dict #[] }) (fun _ => none) := ⟨Heap.Ns.new .., fun _ _ e => Heap.get?_push_of_some _ e, Nat.le_refl _⟩
 obtain ⟨n, ho⟩ := hl
 obtain ⟨n2, ho2⟩ := hb
 have e : vs.toArray ++ ws.toArray = (vs ++ ws).toArray := by simp
 refine concat_meets ⟨_, ho, rfl⟩ ⟨_, ho2, rfl⟩ noFill_list_add seq_list_add PySem.F.slot_list_add PySem.F.entry_list_add (PySem.F.args_list_add_2 _ _) (list_addW l b vs.toArray ws.toArray n n2 none none #[] #[] (by simpa using hsz)) ⟨ho, ho2, ?_⟩
 rw [e]
 exact h
theorem wn (a b : List Nat) : (⟨a.toArray⟩ : Str) ++ ⟨b.toArray⟩ = ⟨(a ++ b).toArray⟩ := by
 show Str.mk (a.toArray ++ b.toArray) = _
 simp
set_option tactic.hygienic true in
theorem ec : Op2 C (binaryOp .Add) cG := by
 intro A σ σ' a b mv va vb s ρ Q E hA hS ra rb hf h
 unfold cG at hf
 split at hf
 ·obtain ⟨t, rfl⟩ := ra; obtain ⟨u, rfl⟩ := rb; have h := h.of hf
  exact P.add_int (h _ _ ρ (.tok hS (Nat.le_succ _)) ⟨_, rfl⟩)
 ·rename_i a b
  refine e14 ra fun t t0 tn al z4 => ?_; subst z4; refine e14 rb fun u u0 un bl z4 => ?_; subst z4
  match q : Nat.ble (a ++ b).length 1000 with
  | false => simp only [q] at hf; exact nS hf
  | true =>
   simp only [q] at hf; have h := h.of hf
   have q := Nat.le_of_ble_eq_true q
   refine P.add_str ?_
   by_cases ha : (⟨a.toArray⟩ : Str).length == 0
   ·rw [if_pos ha]
    have : a = [] := by have := eq_of_beq ha; simp [Str.length] at this; exact this
    subst this
    exact h _ _ ρ (.refl hS) ⟨u, u0, un, bl, rfl⟩
   ·rw [if_neg ha]
    by_cases hb : (⟨b.toArray⟩ : Str).length == 0
    ·rw [if_pos hb]
     have : b = [] := by have := eq_of_beq hb; simp [Str.length] at this; exact this
     subst this
     exact h _ _ ρ (.refl hS) ⟨t, t0, tn, by rw [List.append_nil]; exact al, by rw [List.append_nil]⟩
    ·rw [if_neg hb]
     refine ⟨?_, ?_⟩
     ·rw [wn]; show (a ++ b).toArray.size ≤ sizeLine
      have := bk
      simp only [List.size_toArray]; lia
     ·rw [wn]
      exact h _ _ ρ (.tok hS (Nat.le_succ _)) ⟨s.toks, hS.toks, Nat.lt_succ_self _, q, rfl⟩
 ·rename_i i j
  match q1 : am σ i with
  | none => simp only [q1] at hf; exact nS hf
  | some xs =>
   match q2 : am σ j with
   | none => simp only [q1, q2] at hf; exact nS hf
   | some ys =>
    match q : Nat.ble (xs ++ ys).length 100000 with
    | false => simp only [q1, q2, q] at hf; exact nS hf
    | true =>
     simp only [q1, q2, q] at hf; have h := h.of hf
     refine e24 (ra.list hS q1) fun ad vs z2 _ l1 r1 => ?_; subst z2
     refine e24 (rb.list hS q2) fun bd ws z2 _ l2 r2 => ?_; subst z2
     have q := Nat.le_of_ble_eq_true q
     rw [List.length_append, ← r1.length, ← r2.length] at q
     refine rL l1 l2 (Nat.le_trans q (Nat.le_trans (by decide) bk)) ?_
     exact h _ _ _ (aT.push hS (r1.append r2)) (jM hS)
 ·exact nS hf
end
noncomputable def leq : List Nat → List Nat → Bool
 | [], [] => true
 | a :: l, b :: r => match Nat.beq a b with
  | true => leq l r
  | false => false
 | _, _ => false
theorem eF (a b : List Nat) : leq a b = decide (a = b) := by
 induction a generalizing b with
 | nil => cases b <;> simp [leq]
 | cons x l ih =>
  cases b with
  | nil => simp [leq]
  | cons y r =>
   unfold leq
   rw [dU]
   by_cases h : x = y
   ·subst h; simp [ih]
   ·simp [h]
theorem vZ (a b : List Nat) : (a == b) = decide (a = b) := by rw [Bool.eq_iff_iff]; simp
theorem Qz (a b : List Nat) : (a != b) = !decide (a = b) := by rw [bne, vZ]
theorem Oi (a b : Int) : (a == b) = decide (a = b) := by rw [Bool.eq_iff_iff]; simp
noncomputable def fqN : MV → Option Bool
 | .none => some true
 | _ => none
noncomputable def fqB (a : Bool) : MV → Option Bool
 | .bool b => some (a == b)
 | _ => none
noncomputable def fqI (a : Int) : MV → Option Bool
 | .int b => some (decide (a = b))
 | _ => none
def fqS (a : List Nat) : MV → Option Bool
 | .str b => some (leq a b)
 | _ => none
noncomputable def fqQ (a b : Int) : MV → MV → Option Bool
 | .int c, .int d => some (decide (a = c) && decide (b = d))
 | _, _ => none
def fqP (a b : Int) : MV → Option Bool
 | .pair c d => fqQ a b c d
 | _ => none
def fqR : MV → MV → MV → Option Bool
 | .int a, .int b => fqP a b
 | _, _ => fun _ => none
def fEq (a : MV) : MV → Option Bool := match a with
 | .none => fqN
 | .bool a => fqB a
 | .int a => fqI a
 | .str a => fqS a
 | .txt a => fqS a
 | .pair a b => fqR a b
 | _ => fun _ => none
inductive FE : MV → MV → Bool → Prop
 | n : FE .none .none true
 | b (a b : Bool) : FE (.bool a) (.bool b) (a == b)
 | i (a b : Int) : FE (.int a) (.int b) (decide (a = b))
 | s (a b : List Nat) : FE (.str a) (.str b) (leq a b)
 | t (a b : List Nat) : FE (.txt a) (.str b) (leq a b)
 | p (a b c d : Int) : FE (.pair (.int a) (.int b)) (.pair (.int c) (.int d)) (decide (a = c) && decide (b = d))
theorem tZ {a : List Nat} {b : MV} {r : Bool} (h : fqS a b = some r) : ∃ l, b = .str l ∧ leq a l = r := by
 unfold fqS at h
 split at h
 ·exact ⟨_, rfl, Option.some.inj h⟩
 ·exact nS h
theorem rG {a b : MV} {r : Bool} (h : fEq a b = some r) : FE a b r := by
 unfold fEq at h
 split at h
 ·unfold fqN at h
  split at h
  ·cases h; exact .n
  ·exact nS h
 ·unfold fqB at h
  split at h
  ·cases h; exact .b _ _
  ·exact nS h
 ·unfold fqI at h
  split at h
  ·cases h; exact .i _ _
  ·exact nS h
 ·refine e12 (tZ h) fun l z1 z2 => ?_; subst z1; subst z2; exact .s _ _
 ·refine e12 (tZ h) fun l z1 z2 => ?_; subst z1; subst z2; exact .t _ _
 ·unfold fqR at h
  split at h
  ·unfold fqP at h
   split at h
   ·unfold fqQ at h
    split at h
    ·cases h; exact .p _ _ _ _
    ·exact nS h
   ·exact nS h
  ·exact nS h
 ·exact nS h
def lEq : List MV → List MV → Option Bool
 | [], [] => some true
 | x :: xs, y :: ys => match fEq x y, lEq xs ys with
  | some p, some q => some (p && q)
  | _, _ => none
 | [], _ :: _ => some false
 | _ :: _, [] => some false
def f4 : List MV → MV → Option Bool
 | [], _ => some false
 | y :: ys, x => match fEq y x, f4 ys x with
  | some p, some q => some (p || q)
  | _, _ => none
abbrev B1 : Nat := 98
noncomputable def b1L : List Nat := [173, 847, 6150, 6155, 6156, 6157, 8203, 8204, 8205, 8288, 65279, 65024, 65025, 65026, 65027, 65028, 65029, 65030, 65031, 65032, 65033, 65034, 65035, 65036, 65037, 65038, 65039]
def cEq : MV → MV → ac → Option Bool
 | .ref i, .ref j, σ => match am σ i, am σ j with
  | some xs, some ys => lEq xs ys
  | _, _ => none
 | a, b, _ => fEq a b
def cNe (a b : MV) (σ : ac) : Option Bool := match cEq a b σ with
 | some p => some (!p)
 | none => none
noncomputable def cLt : MV → MV → ac → Option Bool
 | .int a, .int b, _ => some (decide (a < b))
 | _, _, _ => none
noncomputable def cGt : MV → MV → ac → Option Bool
 | .int a, .int b, _ => some (decide (a > b))
 | _, _, _ => none
noncomputable def bI : List Nat → Nat → Bool
 | [], _ => false
 | a :: l, c => match Nat.beq a c with
  | true => true
  | false => bI l c
theorem zN (l : List Nat) (c : Nat) : bI l c = decide (c ∈ l) := by
 induction l with
 | nil => simp [bI]
 | cons a l ih =>
  unfold bI
  rw [dU]
  by_cases h : a = c
  ·subst h; simp
  ·have h' : ¬ c = a := fun e => h e.symm
   simp [h, h', ih]
def inS : MV → List Nat → Option Bool
 | .str [c], l => some (bI l c)
 | _, _ => none
def inD : MV → List (List Nat × List Nat) → Option Bool
 | .str x, es => some (dl es x).isSome
 | _, _ => none
def cIn (a b : MV) (σ : ac) : Option Bool := match b with
 | .str l => inS a l
 | .dct es => inD a es
 | .ref j => match am σ j with
  | some ys => f4 ys a
  | none => none
 | _ => none
def rQ (a b : MV) (σ : ac) : Option Bool := match cIn a b σ with
 | some p => some (!p)
 | none => none
noncomputable def ME : MV → Bool
 | .none => true
 | _ => false
noncomputable def isB : MV → Bool → Option Bool
 | .bool a, b => some (a == b)
 | _, _ => none
noncomputable def isT : MV → String → Option Bool
 | .typ a, b => some (decide (a = b))
 | _, _ => none
def cIs (a b : MV) (σ : ac) : Option Bool := match b with
 | .none => some (ME a)
 | .bool b => isB a b
 | .typ b => isT a b
 | _ => none
def ii (a b : MV) (σ : ac) : Option Bool := match cIs a b σ with
 | some p => some (!p)
 | none => none
section
variable {C : Sys} {k : Nat} {env : Env}
theorem sb {h : Heap} {a : Addr} {x y : Array Value} (t : IsTup h a x) (u : IsTup h a y) : x = y := by
 obtain ⟨o, ho, _, _, hd⟩ := t
 obtain ⟨o', ho', _, _, hd'⟩ := u
 rw [ho] at ho'; cases ho'
 rw [hd] at hd'; cases hd'; rfl
noncomputable def iv : Value → Int
 | .int i _ => i
 | _ => 0
theorem wl {a b c d : Int} {t u t' u' : Tok} (e : #[Value.int a t, .int b u] = #[Value.int c t', .int d u']) : a = c ∧ b = d :=
 ⟨congrArg (fun x : Array Value => iv (x.getD 0 .none)) e, congrArg (fun x : Array Value => iv (x.getD 1 .none)) e⟩
theorem MT {m1 m2 : MV} {b : Bool} {v1 v2 : Value} {n : Nat} {s : Shared} {ρ : List Addr} {A : Around} (h : fEq m1 m2 = some b) (r1 : a7 C.w n s.heap ρ v1 m1) (r2 : a7 C.w n s.heap ρ v2 m2) (hu : A.units < cLine) : SeqAt.EqAt A s v1 v2 b := by
 cases rG h with
 | n => cases r1; cases r2; exact SeqAt.EqAt.same _
 | b => cases r1; cases r2; exact SeqAt.EqAt.bool_bool _ _
 | i a b => obtain ⟨t, rfl⟩ := r1; obtain ⟨u, rfl⟩ := r2; exact SeqAt.EqAt.int_int a t b u
 | s a b =>
  refine e14 r1 fun t _ _ _ z4 => ?_; subst z4; refine e14 r2 fun u _ _ _ z4 => ?_; subst z4
  rw [eF, ← vZ]
  exact (SeqRoads2.EqGives.str ⟨a.toArray⟩ ⟨b.toArray⟩ t u).at A s
 | t a b =>
  obtain ⟨t, _, rfl⟩ := r1; refine e14 r2 fun u _ _ _ z4 => ?_; subst z4
  rw [eF, ← vZ]
  exact (SeqRoads2.EqGives.str ⟨a.toArray⟩ ⟨b.toArray⟩ t u).at A s
 | p a b c d =>
  obtain ⟨p, va, vb, rfl, tp, ⟨t1, rfl⟩, ⟨t2, rfl⟩⟩ := r1
  obtain ⟨q, wa, wb, rfl, tq, ⟨u1, rfl⟩, ⟨u2, rfl⟩⟩ := r2
  by_cases e : p = q
  ·subst e
   obtain ⟨rfl, rfl⟩ := wl (sb tp tq)
   rw [decide_eq_true rfl, decide_eq_true rfl]
   exact SeqAt.EqAt.same (A := A) (s := s) (.ref p)
  ·refine SeqAt.EqAt.of_refs e ?_
   have := SeqAt.RcAt.tuples (A := A) (s := s) (e := fun j => if j = 0 then a == c else b == d) (show s.heap.IsTuple p _ from tp) (show s.heap.IsTuple q _ from tq) hu (fun j h1 h2 => by
    match j, h1, h2 with
    | 0, _, _ => exact SeqAt.EqAt.int_int a t1 c u1
    | 1, _, _ => exact SeqAt.EqAt.int_int b t2 d u2)
   have e2 : (List.range (min (#[Value.int a t1, Value.int b t2] : Array Value).size (#[Value.int c u1, Value.int d u2] : Array Value).size)) = [0, 1] := rfl
   rw [e2] at this
   rw [← Oi, ← Oi]
   simpa using this
def i5 (C : Sys) (op : CmpOp) (f : MV → MV → ac → Option Bool) : Prop :=
 ∀ (A : Around) (σ : ac) (a b : MV) (r : Bool) (va vb : Value) (s : Shared) (ρ : List Addr) (Q : Value → Shared → Prop) (E : Value → Shared → Prop), AOk A 0 → MSt C σ ρ s → a7 C.w s.toks s.heap ρ va a → a7 C.w s.toks s.heap ρ vb b →
  f a b σ = some r → (∀ s', aT C s ρ σ s' ρ → Q (.bool r) s') → wpAny (pwM C) A (compareOp op va vb) Q E s
theorem AOk.units {A : Around} {k : Nat} (h : AOk A k) : A.units + 2 < cLine := by have := h.2.2; lia
theorem AOk.in1 {A : Around} {k : Nat} (h : AOk A k) : A.in1.units < cLine := by
 have := h.units
 show A.units + 1 < cLine
 lia
theorem zG {xs ys : List MV} {r : Bool} (h : lEq xs ys = some r) (n : xs.length ≠ ys.length) : r = false := by
 induction xs generalizing ys r with
 | nil => cases ys with
  | nil => exact absurd rfl n
  | cons y ys => unfold lEq at h; cases h; rfl
 | cons x xs ih => cases ys with
  | nil => unfold lEq at h; cases h; rfl
  | cons y ys =>
   unfold lEq at h
   cases q1 : fEq x y with
   | none => simp only [q1] at h; exact nS h
   | some p => cases q2 : lEq xs ys with
    | none => simp only [q1, q2] at h; exact nS h
    | some q => simp only [q1, q2] at h; cases h; rw [ih q2 (by simpa using n)]; simp
theorem zH {xs ys : List MV} {r : Bool} (h : lEq xs ys = some r) (n : xs.length = ys.length) : ∃ e : Nat → Bool, (∀ (j : Nat) (x y : MV), xs[j]? = some x → ys[j]? = some y → fEq x y = some (e j)) ∧ (List.range xs.length).all e = r := by
 induction xs generalizing ys r with
 | nil => cases ys with
  | nil => unfold lEq at h; cases h; exact ⟨fun _ => true, fun j x y e => by simp at e, rfl⟩
  | cons y ys => simp at n
 | cons x xs ih => cases ys with
  | nil => simp at n
  | cons y ys =>
   unfold lEq at h
   cases q1 : fEq x y with
   | none => simp only [q1] at h; exact nS h
   | some p => cases q2 : lEq xs ys with
    | none => simp only [q1, q2] at h; exact nS h
    | some q =>
     simp only [q1, q2] at h; cases h
     refine e12 (ih q2 (by simpa using n)) fun e h1 h2 => ?_
     refine ⟨fun j => match j with | 0 => p | j + 1 => e j, fun j a b ha hb => ?_, ?_⟩
     ·cases j with
      | zero => simp at ha hb; subst ha; subst hb; exact q1
      | succ j => simp at ha hb; exact h1 j a b ha hb
     ·rw [List.length_cons, List.range_succ_eq_map, List.all_cons, List.all_map, ← h2]
      rfl
theorem rN {A : Around} {σ : ac} {i j : Nat} {xs ys : List MV} {r : Bool} {va vb : Value} {s : Shared} {ρ : List Addr} {Q : Value → Shared → Prop} {E : Value → Shared → Prop} (hA : AOk A 0) (hS : MSt C σ ρ s)
  (ra : a7 C.w s.toks s.heap ρ va (.ref i)) (rb : a7 C.w s.toks s.heap ρ vb (.ref j)) (q1 : am σ i = some xs) (q2 : am σ j = some ys) (hf : lEq xs ys = some r) (h : Q (.bool r) s) : wpAny (pwM C) A (compareOp .Eq va vb) Q E s := by
 refine e24 (ra.list hS q1) fun ad vs z2 _ l1 r1 => ?_; subst z2
 refine e24 (rb.list hS q2) fun bd ws z2 _ l2 r2 => ?_; subst z2
 have hu : A.units < cLine := by have := hA.units; lia
 by_cases n : xs.length = ys.length
 ·refine e12 (zH hf n) fun e h1 h2 => ?_
  have n' : vs.length = ws.length := by rw [r1.length, r2.length, n]
  refine SeqAt.eq_listAt (e := e) l1.isList l2.isList (by simpa using n') hu (fun k p1 p2 => ?_) ?_
  ·have p1' : k < vs.length := by simpa using p1
   have p2' : k < ws.length := by simpa using p2
   refine e12 (r1.get' (List.getElem?_eq_getElem p1')) fun x hx rx => ?_
   refine e12 (r2.get' (List.getElem?_eq_getElem p2')) fun y hy ry => ?_
   simpa using MT (A := A.in1) (h1 k x y hx hy) rx ry hA.in1
  ·have e2 : (vs.toArray).size = xs.length := by simp [r1.length]
   rw [e2, h2]; exact h
 ·have := zG hf n
  subst this
  refine SeqAt.eq_list_lengthsAt l1.isList l2.isList ?_ hu h
  have : vs.length ≠ ws.length := by rw [r1.length, r2.length]; exact n
  simpa using this
theorem Os (p : Bool) : (!p) = (p != true) := by cases p <;> rfl
theorem mC {A : Around} {a b : MV} {r : Bool} {va vb : Value} {s : Shared} {ρ : List Addr} {Q : Value → Shared → Prop} {E : Value → Shared → Prop} (hA : AOk A 0)
  (ra : a7 C.w s.toks s.heap ρ va a) (rb : a7 C.w s.toks s.heap ρ vb b) (hf : fEq a b = some r) (hp : ∀ x y, a ≠ .pair x y) (hn : a ≠ .none) (h : Q (.bool r) s) : wpAny (pwM C) A (compareOp .Eq va vb) Q E s := by
 cases rG hf with
 | n => exact absurd rfl hn
 | b => cases ra; cases rb; exact eq_bool h
 | i => obtain ⟨t, rfl⟩ := ra; obtain ⟨u, rfl⟩ := rb; exact P.eq_int h
 | s =>
  refine e14 ra fun t _ _ _ z4 => ?_; subst z4; refine e14 rb fun u _ _ _ z4 => ?_; subst z4
  rw [eF, ← vZ] at h
  exact P.eq_str h
 | t =>
  obtain ⟨t, _, rfl⟩ := ra; refine e14 rb fun u _ _ _ z4 => ?_; subst z4
  rw [eF, ← vZ] at h
  exact P.eq_str h
 | p => exact absurd rfl (hp _ _)
theorem ud {A : Around} {a b : MV} {r : Bool} {va vb : Value} {s : Shared} {ρ : List Addr} {Q : Value → Shared → Prop} {E : Value → Shared → Prop} (hA : AOk A 0)
  (ra : a7 C.w s.toks s.heap ρ va a) (rb : a7 C.w s.toks s.heap ρ vb b) (hf : fEq a b = some r) (hp : ∀ x y, a ≠ .pair x y) (hn : a ≠ .none) (h : Q (.bool (!r)) s) : wpAny (pwM C) A (compareOp .NotEq va vb) Q E s := by
 cases rG hf with
 | n => exact absurd rfl hn
 | b => cases ra; cases rb; exact ne_bool h
 | i => obtain ⟨t, rfl⟩ := ra; obtain ⟨u, rfl⟩ := rb; exact P.ne_int h
 | s =>
  refine e14 ra fun t _ _ _ z4 => ?_; subst z4; refine e14 rb fun u _ _ _ z4 => ?_; subst z4
  rw [eF, ← vZ] at h
  exact P.ne_str h
 | t =>
  obtain ⟨t, _, rfl⟩ := ra; refine e14 rb fun u _ _ _ z4 => ?_; subst z4
  rw [eF, ← vZ] at h
  exact P.ne_str h
 | p => exact absurd rfl (hp _ _)
theorem rM {A : Around} {σ : ac} {i j : Nat} {xs ys : List MV} {r : Bool} {va vb : Value} {s : Shared} {ρ : List Addr} {Q : Value → Shared → Prop} {E : Value → Shared → Prop} (hA : AOk A 0) (hS : MSt C σ ρ s)
  (ra : a7 C.w s.toks s.heap ρ va (.ref i)) (rb : a7 C.w s.toks s.heap ρ vb (.ref j)) (q1 : am σ i = some xs) (q2 : am σ j = some ys) (hf : lEq xs ys = some r) (h : Q (.bool (!r)) s) : wpAny (pwM C) A (compareOp .NotEq va vb) Q E s := by
 refine e24 (ra.list hS q1) fun ad vs z2 _ l1 r1 => ?_; subst z2
 refine e24 (rb.list hS q2) fun bd ws z2 _ l2 r2 => ?_; subst z2
 have hu : A.units < cLine := by have := hA.units; lia
 by_cases n : xs.length = ys.length
 ·refine e12 (zH hf n) fun e h1 h2 => ?_
  have n' : vs.length = ws.length := by rw [r1.length, r2.length, n]
  refine SeqAt.RcNeAt.lists (e := e) l1.isList l2.isList (by simpa using n') hu (fun k p1 p2 => ?_) _ _ _ _ ?_
  ·have p1' : k < vs.length := by simpa using p1
   have p2' : k < ws.length := by simpa using p2
   refine e12 (r1.get' (List.getElem?_eq_getElem p1')) fun x hx rx => ?_
   refine e12 (r2.get' (List.getElem?_eq_getElem p2')) fun y hy ry => ?_
   simpa using MT (A := A.in1) (h1 k x y hx hy) rx ry hA.in1
  ·have e2 : (vs.toArray).size = xs.length := by simp [r1.length]
   rw [e2, h2]; exact h
 ·have := zG hf n
  subst this
  refine SeqAt.RcNeAt.lists_lengths l1.isList l2.isList ?_ hu _ _ _ _ h
  have : vs.length ≠ ws.length := by rw [r1.length, r2.length]; exact n
  simpa using this
theorem Nb {σ : ac} {i : Nat} {xs : List MV} (h : am σ i = some xs) : σ[i]? = some xs := h
set_option tactic.hygienic true in
theorem px {a b : MV} {σ : ac} {r : Bool} (h : cEq a b σ = some r) : (∃ i j xs ys, a = .ref i ∧ b = .ref j ∧ am σ i = some xs ∧ am σ j = some ys ∧ lEq xs ys = some r) ∨ fEq a b = some r := by
 refine cps fun _ Kz => ?_
 unfold cEq at h
 split at h
 ·rename_i i j
  cases q1 : am σ i with
  | none => simp only [q1] at h; exact nS h
  | some xs => cases q2 : am σ j with
   | none => simp only [q1, q2] at h; exact nS h
   | some ys => simp only [q1, q2] at h; exact Kz <| .inl ⟨i, j, xs, ys, rfl, rfl, q1, q2, h⟩
 ·exact Kz <| .inr h
noncomputable def okL : MV → Bool
 | .none => false
 | .pair _ _ => false
 | _ => true
def gEq (a b : MV) (σ : ac) : Option Bool := match okL a with
 | true => cEq a b σ
 | false => none
def gNe (a b : MV) (σ : ac) : Option Bool := match gEq a b σ with
 | some p => some (!p)
 | none => none
theorem tX {a b : MV} {σ : ac} {r : Bool} (h : gEq a b σ = some r) : okL a = true ∧ cEq a b σ = some r := by
 unfold gEq at h
 cases q : okL a with
 | false => simp only [q] at h; exact nS h
 | true => simp only [q] at h; exact ⟨rfl, h⟩
theorem kz {a : MV} (h : okL a = true) : (∀ x y, a ≠ .pair x y) ∧ a ≠ .none := ⟨fun x y e => (by subst e; cases h), fun e => (by subst e; cases h)⟩
theorem cx : i5 C .Eq gEq := by
 intro A σ a b r va vb s ρ Q E hA hS ra rb hf h
 obtain ⟨hk, hf⟩ := tX hf
 rcases px hf with ⟨i, j, xs, ys, rfl, rfl, q1, q2, hf⟩ | hf
 ·exact rN hA hS ra rb q1 q2 hf (h s (.refl hS))
 ·exact mC hA ra rb hf (kz hk).1 (kz hk).2 (h s (.refl hS))
theorem fu : i5 C .NotEq gNe := by
 intro A σ a b r va vb s ρ Q E hA hS ra rb hf h
 unfold gNe at hf
 cases q : gEq a b σ with
 | none => simp only [q] at hf; exact nS hf
 | some p =>
  simp only [q] at hf; cases hf
  obtain ⟨hk, hf⟩ := tX q
  rcases px hf with ⟨i, j, xs, ys, rfl, rfl, q1, q2, hf⟩ | hf
  ·exact rM hA hS ra rb q1 q2 hf (h s (.refl hS))
  ·exact ud hA ra rb hf (kz hk).1 (kz hk).2 (h s (.refl hS))
theorem vV : i5 C .Lt cLt := by
 intro A σ a b r va vb s ρ Q E hA hS ra rb hf h
 unfold cLt at hf
 split at hf
 rotate_left
 ·exact nS hf
 obtain ⟨t, rfl⟩ := ra; obtain ⟨u, rfl⟩ := rb; cases hf
 exact P.lt_int (h s (.refl hS))
theorem n0 : i5 C .Gt cGt := by
 intro A σ a b r va vb s ρ Q E hA hS ra rb hf h
 unfold cGt at hf
 split at hf
 rotate_left
 ·exact nS hf
 obtain ⟨t, rfl⟩ := ra; obtain ⟨u, rfl⟩ := rb; cases hf
 exact P.gt_int (h s (.refl hS))
theorem Ak {a b : List Nat} {t u : Tok} (h : Value.str ⟨a.toArray⟩ t = Value.str ⟨b.toArray⟩ u) : a = b := by
 injection h with h _
 injection h with h
 simpa using h
def VE (h : Heap) (v : Value) (b : Bool) : MV → Prop
 | .none => b = true
 | .bool q => ∃ p, v = .bool p ∧ b = (p == q)
 | .int q => ∃ p t, v = .int p t ∧ b = decide (p = q)
 | .str l => ∃ s t, v = .str ⟨s.toArray⟩ t ∧ b = leq s l
 | .pair c d => ∃ a p q t1 t2 c' d', c = .int c' ∧ d = .int d' ∧ v = .ref a ∧ IsTup h a #[.int p t1, .int q t2] ∧ b = (decide (p = c') && decide (q = d'))
 | _ => False
theorem GG {m x : MV} {b : Bool} {v : Value} {w : World} {n : Nat} {h : Heap} {ρ : List Addr} (h1 : fEq m x = some b) (r : a7 w n h ρ v m) : VE h v b x := by
 cases rG h1 with
 | n => rfl
 | b => exact ⟨_, r, rfl⟩
 | i => exact let ⟨t, r⟩ := r; ⟨_, t, r, rfl⟩
 | s => exact let ⟨t, _, _, _, r⟩ := r; ⟨_, t, r, rfl⟩
 | t => exact let ⟨t, _, r⟩ := r; ⟨_, t, r, rfl⟩
 | p => obtain ⟨p, va, vb, e, tp, ⟨t1, rfl⟩, ⟨t2, rfl⟩⟩ := r; exact ⟨p, _, _, t1, t2, _, _, rfl, rfl, e, tp, rfl⟩
theorem IH {h : Heap} {v : Value} {b b' : Bool} {x : MV} (h1 : VE h v b x) (h2 : VE h v b' x) : b = b' := by
 cases x with
 | none => exact Eq.trans h1 (Eq.symm h2)
 | bool => obtain ⟨p, rfl, rfl⟩ := h1; obtain ⟨q, e, rfl⟩ := h2; cases e; rfl
 | int => obtain ⟨p, t, rfl, rfl⟩ := h1; obtain ⟨q, u, e, rfl⟩ := h2; cases e; rfl
 | str => obtain ⟨p, t, rfl, rfl⟩ := h1; obtain ⟨q, u, e, rfl⟩ := h2; rw [Ak e]
 | pair =>
  obtain ⟨a, p, q, t1, t2, c, d, rfl, rfl, rfl, t, rfl⟩ := h1
  obtain ⟨a', p', q', u1, u2, c', d', e1, e2, e, u, rfl⟩ := h2
  cases e; cases e1; cases e2
  obtain ⟨rfl, rfl⟩ := wl (sb t u)
  rfl
 | _ => exact (h1 : False).elim
theorem GF {m m' x : MV} {b b' : Bool} {v : Value} {w : World} {n : Nat} {h : Heap} {ρ : List Addr} (h1 : fEq m x = some b) (h2 : fEq m' x = some b') (r1 : a7 w n h ρ v m) (r2 : a7 w n h ρ v m') : b = b' := IH (GG h1 r1) (GG h2 r2)
theorem Ha {ys : List MV} {x : MV} {r : Bool} (h : f4 ys x = some r) : ∃ bs : List Bool, bs.length = ys.length ∧ (∀ (j : Nat) y, ys[j]? = some y → ∃ b, bs[j]? = some b ∧ fEq y x = some b) ∧ bs.any id = r := by
 induction ys generalizing r with
 | nil => cases h; exact ⟨[], rfl, fun j y e => by simp at e, rfl⟩
 | cons y ys ih =>
  unfold f4 at h
  cases q1 : fEq y x with
  | none => simp only [q1] at h; exact nS h
  | some p => cases q2 : f4 ys x with
   | none => simp only [q1, q2] at h; exact nS h
   | some q =>
    simp only [q1, q2] at h; cases h
    refine e13 (ih q2) fun bs h1 h2 h3 => ?_
    refine ⟨p :: bs, by simp [h1], fun j a ha => ?_, by rw [← h3]; rfl⟩
    cases j with
    | zero => simp at ha; subst ha; exact ⟨p, rfl, q1⟩
    | succ j => simp at ha; simpa using h2 j a ha
theorem GZ {α : Type} {e : α → Bool} : ∀ {vs : List α} {bs : List Bool}, vs.length = bs.length → (∀ (j : Nat) v b, vs[j]? = some v → bs[j]? = some b → e v = b) → vs.any e = bs.any id
 | [], [], _, _ => rfl
 | [], _ :: _, n, _ => by simp at n
 | _ :: _, [], n, _ => by simp at n
 | v :: vs, b :: bs, n, h => by
  rw [List.any_cons, List.any_cons, h 0 v b rfl rfl, GZ (vs := vs) (bs := bs) (by simpa using n) fun j v b h1 h2 => h (j + 1) v b (by simpa using h1) (by simpa using h2)]
  rfl
theorem o0 {A : Around} {x : MV} {ys : List MV} {r : Bool} {vx : Value} {s : Shared} {ρ : List Addr} {vs : List Value} (hA : AOk A 0) (r1 : bV C.w s.toks s.heap ρ vs ys) (rx : a7 C.w s.toks s.heap ρ vx x) (hf : f4 ys x = some r) :
  ∃ e : Value → Bool, (∀ y, y ∈ vs.toArray → SeqAt.EqAt A.in1 s y vx (e y)) ∧ vs.toArray.any e = r := by
 classical
 obtain ⟨bs, h1, h2, h3⟩ := Ha hf
 have key : ∀ v ∈ vs, ∃ b, ∀ (j : Nat) y, vs[j]? = some v → ys[j]? = some y → fEq y x = some b := fun v hv => by
  obtain ⟨j, hj, e⟩ := List.mem_iff_getElem.mp hv
  refine e12 (r1.get' (List.getElem?_eq_getElem hj)) fun y hy ry => ?_
  refine e12 (h2 j y hy) fun b _ hb => ?_
  refine ⟨b, fun i z hi hz => ?_⟩
  refine e12 (h2 i z hz) fun c _ hc => ?_
  refine e12 (r1.get' hi) fun z' hz' rz => ?_
  rw [hz] at hz'; cases hz'
  rw [e] at ry
  rw [hc, GF hb hc ry rz]
 refine ⟨fun v => if h : v ∈ vs then (key v h).choose else false, fun y hy => ?_, ?_⟩
 ·have hy' : y ∈ vs := by simpa using hy
  dsimp only
  rw [dif_pos hy']
  obtain ⟨j, hj, e⟩ := List.mem_iff_getElem.mp hy'
  refine e12 (r1.get' (List.getElem?_eq_getElem hj)) fun z hz rz => ?_
  have hj' : vs[j]? = some y := by rw [List.getElem?_eq_getElem hj, e]
  rw [e] at rz
  exact MT ((key y hy').choose_spec j z hj' hz) rz rx hA.in1
 ·rw [← h3]
  have : vs.any (fun v => if h : v ∈ vs then (key v h).choose else false) = bs.any id := by
   refine GZ (by rw [r1.length, h1]) fun j v b hv hb => ?_
   have hm : v ∈ vs := List.mem_of_getElem? hv
   rw [dif_pos hm]
   refine e12 (r1.get' hv) fun y hy ry => ?_
   refine e12 (h2 j y hy) fun c hc hf => ?_
   rw [hb] at hc; cases hc
   have := (key v hm).choose_spec j y hv hy
   rw [hf] at this
   exact (Option.some.inj this).symm
  rw [← this]
  simp
theorem tQ {a b : MV} {σ : ac} {r : Bool} (h : cIn a b σ = some r) : (∃ c l, a = .str [c] ∧ b = .str l ∧ r = bI l c) ∨ (∃ x es, a = .str x ∧ b = .dct es ∧ r = (dl es x).isSome) ∨ (∃ j ys, b = .ref j ∧ am σ j = some ys ∧ f4 ys a = some r) := by
 unfold cIn at h
 split at h
 ·unfold inS at h
  split at h
  ·cases h; exact .inl ⟨_, _, rfl, rfl, rfl⟩
  ·exact nS h
 ·unfold inD at h
  split at h
  ·cases h; exact .inr (.inl ⟨_, _, rfl, rfl, rfl⟩)
  ·exact nS h
 ·split at h
  ·rename_i q; exact .inr (.inr ⟨_, _, rfl, q, h⟩)
  ·exact nS h
 ·exact nS h
theorem nZ {w : World} {n : Nat} {h : Heap} {a : Addr} {es} (d : iX w n h a es) (x : List Nat) : ∃ f : Str → Option Value, h.MapOf (strKind P0 w) a f ∧ (f ⟨x.toArray⟩).isSome = (dl es x).isSome := by
 refine e12 d.mapOf fun f hm r => ?_
 refine ⟨f, hm, ?_⟩
 have := r ⟨x.toArray⟩
 simp only at this
 cases q : dl es x with
 | none => rw [q] at this; rw [this]; rfl
 | some l => rw [q] at this; refine e14 this fun t _ _ _ e => ?_; rw [e]; rfl
theorem bM : i5 C .In cIn := by
 intro A σ a b r va vb s ρ Q E hA hS ra rb hf h
 rcases tQ hf with ⟨c, l, rfl, rfl, rfl⟩ | ⟨x, es, rfl, rfl, rfl⟩ | ⟨j, ys, rfl, q, hf⟩
 ·refine e14 ra fun t _ _ _ z4 => ?_; subst z4; refine e14 rb fun u _ _ _ z4 => ?_; subst z4
  refine P.in_str ?_
  rw [show (⟨[c].toArray⟩ : Str) = ⟨#[c]⟩ from rfl, StrLaws.found_one]
  have h := h s (.refl hS)
  rw [zN] at h
  simpa using h
 ·refine e14 ra fun t _ _ _ z4 => ?_; subst z4; obtain ⟨ad, rfl, d⟩ := rb
  refine e12 (nZ d x) fun f hm e => ?_
  refine wpAny_in_of (strKind_is P0 C.w ⟨x.toArray⟩ t) d.1 hm ?_
  rw [e]
  exact h _ (.tok hS (Nat.le_succ _))
 ·refine e24 (rb.list hS q) fun ad vs z2 _ l1 r1 => ?_; subst z2
  refine e12 (o0 hA r1 ra hf) fun e h1 h2 => ?_
  exact SeqAt.in_listAt e l1.isList h1 (by rw [h2]; exact h s (.refl hS))
theorem zV : i5 C .NotIn rQ := by
 intro A σ a b r va vb s ρ Q E hA hS ra rb hf h
 unfold rQ at hf
 cases q : cIn a b σ with
 | none => simp only [q] at hf; exact nS hf
 | some p =>
  simp only [q] at hf; cases hf
  rcases tQ q with ⟨c, l, rfl, rfl, rfl⟩ | ⟨x, es, rfl, rfl, rfl⟩ | ⟨j, ys, rfl, q, hf⟩
  ·refine e14 ra fun t _ _ _ z4 => ?_; subst z4; refine e14 rb fun u _ _ _ z4 => ?_; subst z4
   refine P.notIn_str ?_
   rw [show (⟨[c].toArray⟩ : Str) = ⟨#[c]⟩ from rfl, StrLaws.found_one]
   have h := h s (.refl hS)
   rw [zN] at h
   simpa using h
  ·refine e14 ra fun t _ _ _ z4 => ?_; subst z4; obtain ⟨ad, rfl, d⟩ := rb
   refine e12 (nZ d x) fun f hm e => ?_
   refine wpAny_notIn_of (strKind_is P0 C.w ⟨x.toArray⟩ t) d.1 hm ?_
   rw [e]
   exact h _ (.tok hS (Nat.le_succ _))
  ·refine e24 (rb.list hS q) fun ad vs z2 _ l1 r1 => ?_; subst z2
   refine e12 (o0 hA r1 ra hf) fun e h1 h2 => ?_
   exact SeqAt.notIn_listAt e l1.isList h1 (by rw [h2]; exact h s (.refl hS))
theorem Gl {a b : MV} {r : Bool} {va vb : Value} {σ : ac} {w : World} {n : Nat} {h : Heap} {ρ : List Addr} (hf : cIs a b σ = some r) (ra : a7 w n h ρ va a) (rb : a7 w n h ρ vb b) : plainIs va vb = true ∧ (va == vb) = r := by
 unfold cIs at hf
 split at hf
 ·cases hf; cases rb
  cases a with
  | none => cases ra; exact ⟨rfl, beq_self_eq_true _⟩
  | bool x => cases ra; exact ⟨rfl, beq_eq_false_iff_ne.mpr nofun⟩
  | int x => obtain ⟨t, rfl⟩ := ra; exact ⟨rfl, beq_eq_false_iff_ne.mpr nofun⟩
  | str x => refine e14 ra fun t _ _ _ z4 => ?_; subst z4; exact ⟨rfl, beq_eq_false_iff_ne.mpr nofun⟩
  | txt x => refine e12 ra fun t _ z2 => ?_; subst z2; exact ⟨rfl, beq_eq_false_iff_ne.mpr nofun⟩
  | ref x => refine e12 ra fun t _ z2 => ?_; subst z2; exact ⟨rfl, beq_eq_false_iff_ne.mpr nofun⟩
  | typ x => cases ra; exact ⟨rfl, beq_eq_false_iff_ne.mpr nofun⟩
  | fn x => cases ra; exact ⟨rfl, beq_eq_false_iff_ne.mpr nofun⟩
  | pair x y => refine e32 ra fun t _ _ z3 _ => ?_; subst z3; exact ⟨rfl, beq_eq_false_iff_ne.mpr nofun⟩
  | dct x => refine e12 ra fun t z1 _ => ?_; subst z1; exact ⟨rfl, beq_eq_false_iff_ne.mpr nofun⟩
  | rng x y z => refine e52 ra fun t _ _ _ _ z5 _ => ?_; subst z5; exact ⟨rfl, beq_eq_false_iff_ne.mpr nofun⟩
 ·unfold isB at hf
  split at hf
  ·cases hf; cases ra; cases rb
   refine ⟨rfl, ?_⟩
   rw [Bool.eq_iff_iff, beq_iff_eq, beq_iff_eq]
   simp
  ·exact nS hf
 ·unfold isT at hf
  split at hf
  ·cases hf; cases ra; cases rb
   refine ⟨rfl, ?_⟩
   rw [Bool.eq_iff_iff, beq_iff_eq]
   simp
  ·exact nS hf
 ·exact nS hf
theorem GM : i5 C .Is cIs := by
 intro A σ a b r va vb s ρ Q E hA hS ra rb hf h
 obtain ⟨hp, e⟩ := Gl hf ra rb
 exact wpAny_is_plain hp (by rw [e]; exact h s (.refl hS))
theorem gk : i5 C .IsNot ii := by
 intro A σ a b r va vb s ρ Q E hA hS ra rb hf h
 unfold ii at hf
 cases q : cIs a b σ with
 | none => simp only [q] at hf; exact nS hf
 | some p =>
  simp only [q] at hf; cases hf
  obtain ⟨hp, e⟩ := Gl q ra rb
  exact wpAny_isNot_plain hp (by rw [e]; exact h s (.refl hS))
end
noncomputable def eE (f : MV → MV → ac → Option Bool) (l r : EM) : EM := fun V σ => match l V σ with
 | none => none
 | some (a, σ1) => match r V σ1 with
  | none => none
  | some (b, σ2) => match f a b σ2 with
   | none => none
   | some p => some (.bool p, σ2)
noncomputable def aE (f : MV → MV → ac → Option Bool) (l r : EM) : CM := fun V σ => match l V σ with
 | none => none
 | some (a, σ1) => match r V σ1 with
  | none => none
  | some (b, σ2) => match f a b σ2 with
   | none => none
   | some p => some (p, σ2)
def tM : MV → ac → Option Bool
 | .bool b, _ => some b
 | .int i, _ => some (decide (i ≠ 0))
 | .str l, _ => some (Nat.ble 1 l.length)
 | .ref i, σ => match am σ i with
  | some xs => match Nat.ble xs.length 1000000 with
   | true => some (Nat.ble 1 xs.length)
   | false => none
  | none => none
 | .none, _ => some false
 | _, _ => none
def dT (e : EM) : CM := fun V σ => match e V σ with
 | none => none
 | some (a, σ1) => match tM a σ1 with
  | none => none
  | some p => some (p, σ1)
noncomputable def ig (c : CM) : CM := fun V σ => match c V σ with
 | none => none
 | some (b, σ1) => some (!b, σ1)
noncomputable def cj (a b : CM) : CM := fun V σ => match a V σ with
 | none => none
 | some (true, σ1) => b V σ1
 | some (false, σ1) => some (false, σ1)
noncomputable def cOr (a b : CM) : CM := fun V σ => match a V σ with
 | none => none
 | some (true, σ1) => some (true, σ1)
 | some (false, σ1) => b V σ1
noncomputable def mIf (c : CM) (a b : EM) : EM := fun V σ => match c V σ with
 | none => none
 | some (true, σ1) => a V σ1
 | some (false, σ1) => b V σ1
def vA (a b : EM) : EM := fun V σ => match a V σ with
 | none => none
 | some (x, σ1) => match tM x σ1 with
  | none => none
  | some true => b V σ1
  | some false => some (x, σ1)
def mOr (a b : EM) : EM := fun V σ => match a V σ with
 | none => none
 | some (x, σ1) => match tM x σ1 with
  | none => none
  | some true => some (x, σ1)
  | some false => b V σ1
noncomputable def ke : MV → ac → Option (MV × ac)
 | .int a, σ => some (.int (-a), σ)
 | _, _ => none
section
variable {C : Sys} {k : Nat} {env : Env}
theorem EOk.cmp {l r : Expr} {op : CmpOp} {pos : Pos} {f} {ml mr : EM} (h2 : i5 C op f) (hl : EOk C k env l ml) (hr : EOk C k env r mr) (hb : behindInMarks op r = false) : EOk C k env (.Compare l [op] [r] pos) (eE f ml mr) := by
 intro A V σ σ' mv s ρ Q E hA hV hS hm h
 unfold eE at hm
 match q1 : ml V σ with
 | none => simp only [q1] at hm; exact nS hm
 | some p1 => match q2 : mr V p1.2 with
  | none => simp only [q1, q2] at hm; exact nS hm
  | some p2 => match q3 : f p1.1 p2.1 p2.2 with
   | none => simp only [q1, q2, q3] at hm; exact nS hm
   | some p =>
    simp only [q1, q2, q3] at hm; have h := h.of hm
    refine wpAny_Compare1 (hl A V σ p1.2 p1.1 s ρ _ _ hA hV hS q1 fun va s1 ρ1 st1 r1 => hr A V p1.2 p2.2 p2.1 s1 ρ1 _ _ hA (hV.step st1) st1.st q2 fun vb s2 ρ2 st2 r2 => ?_) hb
    exact h2 A p2.2 p1.1 p2.1 p va vb s2 ρ2 Q E (hA.mono (Nat.zero_le _)) st2.st (r1.step st2) r2 q3 fun s3 st3 => h _ s3 ρ2 (st1.trans (st2.trans st3)) rfl
theorem COk.cmp {l r : Expr} {op : CmpOp} {pos : Pos} {f} {ml mr : EM} (h2 : i5 C op f) (hl : EOk C k env l ml) (hr : EOk C k env r mr) (hb : behindInMarks op r = false) : COk C k env (.Compare l [op] [r] pos) (aE f ml mr) := by
 intro A V σ σ' b s ρ Q E hA hV hS hm h
 unfold aE at hm
 match q1 : ml V σ with
 | none => simp only [q1] at hm; exact nS hm
 | some p1 => match q2 : mr V p1.2 with
  | none => simp only [q1, q2] at hm; exact nS hm
  | some p2 => match q3 : f p1.1 p2.1 p2.2 with
   | none => simp only [q1, q2, q3] at hm; exact nS hm
   | some p =>
    simp only [q1, q2, q3] at hm; have h := h.of hm
    refine wpAny_isTrue_Compare1 (hl A V σ p1.2 p1.1 s ρ _ _ hA hV hS q1 fun va s1 ρ1 st1 r1 => hr A V p1.2 p2.2 p2.1 s1 ρ1 _ _ hA (hV.step st1) st1.st q2 fun vb s2 ρ2 st2 r2 => ?_) hb
    exact h2 A p2.2 p1.1 p2.1 _ va vb s2 ρ2 _ E (hA.mono (Nat.zero_le _)) st2.st (r1.step st2) r2 q3 fun s3 st3 => wpAny_truthy_bool (h s3 ρ2 (st1.trans (st2.trans st3)))
set_option tactic.hygienic true in
theorem BD {A : Around} {σ : ac} {a : MV} {b : Bool} {v : Value} {s : Shared} {ρ : List Addr} {Q : Bool → Shared → Prop} {E : Value → Shared → Prop} (hS : MSt C σ ρ s) (r : a7 C.w s.toks s.heap ρ v a) (hm : tM a σ = some b)
  (h : ∀ s', aT C s ρ σ s' ρ → Q b s') : wpAny (pwM C) A (truthy v) Q E s := by
 unfold tM at hm
 split at hm
 ·cases hm; cases r; exact wpAny_truthy_bool (h s (.refl hS))
 ·rename_i i
  cases hm; obtain ⟨t, rfl⟩ := r
  refine P.truthy_int ?_
  have e : (i != 0) = decide (i ≠ 0) := by rw [Bool.eq_iff_iff]; simp
  rw [e]; exact h s (.refl hS)
 ·rename_i l
  cases hm; refine e14 r fun t _ _ le z4 => ?_; subst z4
  have e : ((⟨l.toArray⟩ : Str).length : Int) = (l.length : Int) := by simp [Str.length]
  refine P.truthy_str (by rw [e]; lia) ?_
  have e2 : (((⟨l.toArray⟩ : Str).length : Int) != 0) = Nat.ble 1 l.length := by
   rw [e]
   cases l with
   | nil => rfl
   | cons a l => rw [List.length_cons, Bool.eq_iff_iff, Nat.ble_eq]; simp; lia
  rw [e2]
  exact h _ (.tok hS (Nat.le_trans (Nat.le_succ _) (Nat.le_succ _)))
 ·rename_i i
  cases q : am σ i with
  | none => simp only [q] at hm; exact nS hm
  | some xs => cases q2 : Nat.ble xs.length 1000000 with
   | false => simp only [q, q2] at hm; exact nS hm
   | true =>
    simp only [q, q2] at hm; cases hm
    refine e24 (r.list hS q) fun ad vs z2 _ l1 r1 => ?_; subst z2
    have le := Nat.le_of_ble_eq_true q2
    rw [← r1.length] at le
    refine wpAny_truthy_list l1.isList (by simp; lia) ?_
    have e : (!vs.toArray.isEmpty) = Nat.ble 1 xs.length := by
     rw [← r1.length]
     cases vs with
     | nil => rfl
     | cons a l => rw [List.length_cons, Bool.eq_iff_iff, Nat.ble_eq]; simp
    rw [e]
    exact h _ (.tok hS (Nat.le_trans (Nat.le_succ _) (Nat.le_succ _)))
 ·cases hm; cases r; exact fun Γ p hΓ => h s (.refl hS)
 ·exact nS hm
theorem COk.val {e : Expr} {m : EM} (he : EOk C k env e m) (hi : ∀ whole, isTrue e env whole = (do let v ← whole; standAt e.pos; holding [v] (truthy v))) : COk C k env e (dT m) := by
 intro A V σ σ' b s ρ Q E hA hV hS hm h
 unfold dT at hm
 match q1 : m V σ with
 | none => simp only [q1] at hm; exact nS hm
 | some p1 => match q2 : tM p1.1 p1.2 with
  | none => simp only [q1, q2] at hm; exact nS hm
  | some p =>
   simp only [q1, q2] at hm; have h := h.of hm
   exact wpAny_isTrue_value (he A V σ p1.2 p1.1 s ρ _ _ hA hV hS q1 fun v s1 ρ1 st1 r1 => BD st1.st r1 q2 fun s2 st2 => h s2 ρ1 (st1.trans st2)) (hi _)
theorem COk.not {e : Expr} {pos : Pos} {c : CM} (hc : COk C k env e c) : COk C k env (.UnaryOp .Not e pos) (ig c) := by
 intro A V σ σ' b s ρ Q E hA hV hS hm h
 unfold ig at hm
 match q1 : c V σ with
 | none => simp only [q1] at hm; exact nS hm
 | some p1 =>
  simp only [q1] at hm; have h := h.of hm
  exact wpAny_isTrue_Not (hc A V σ p1.2 p1.1 s ρ _ _ hA hV hS q1 fun s1 ρ1 st1 => h s1 ρ1 st1)
def i6 (C : Sys) (k : Nat) (env : Env) (op : BoolOp) (es : List Expr) (m : CM) : Prop :=
 ∀ (A : Around) (V : ap) (σ σ' : ac) (b : Bool) (s : Shared) (ρ : List Addr) (Q : Bool → Shared → Prop) (E : Value → Shared → Prop), AOk A k → aJ C.w env V s.toks ρ s.heap → MSt C σ ρ s → m V σ = some (b, σ') →
  PC C s ρ Q b σ' → wpAny (pwM C) A (allTrue op es env) Q E s
noncomputable def cK (b : Bool) : CM := fun _ σ => some (b, σ)
theorem i6.and_nil : i6 C k env .And [] (cK true) := by
 intro A V σ σ' b s ρ Q E hA hV hS hm h
 have h := h.of hm; exact wpAny_allTrue_And_nil (h s ρ (.refl hS))
theorem i6.or_nil : i6 C k env .Or [] (cK false) := by
 intro A V σ σ' b s ρ Q E hA hV hS hm h
 have h := h.of hm; exact wpAny_allTrue_Or_nil (h s ρ (.refl hS))
theorem i6.and_cons {e : Expr} {es : List Expr} {c cs : CM} (hc : COk C k env e c) (hs : i6 C k env .And es cs) : i6 C k env .And (e :: es) (cj c cs) := by
 intro A V σ σ' b s ρ Q E hA hV hS hm h
 unfold cj at hm
 match q1 : c V σ with
 | none => simp only [q1] at hm; exact nS hm
 | some p1 =>
  obtain ⟨p, σ1⟩ := p1
  refine wpAny_allTrue_And_cons (hc A V σ σ1 p s ρ _ _ hA hV hS q1 fun s1 ρ1 st1 => ?_)
  cases p with
  | false => simp only [q1] at hm; have h := h.of hm; exact h s1 ρ1 st1
  | true => simp only [q1] at hm; exact hs A V σ1 σ' b s1 ρ1 Q E hA (hV.step st1) st1.st hm fun s2 ρ2 st2 => h s2 ρ2 (st1.trans st2)
theorem i6.or_cons {e : Expr} {es : List Expr} {c cs : CM} (hc : COk C k env e c) (hs : i6 C k env .Or es cs) : i6 C k env .Or (e :: es) (cOr c cs) := by
 intro A V σ σ' b s ρ Q E hA hV hS hm h
 unfold cOr at hm
 match q1 : c V σ with
 | none => simp only [q1] at hm; exact nS hm
 | some p1 =>
  obtain ⟨p, σ1⟩ := p1
  refine wpAny_allTrue_Or_cons (hc A V σ σ1 p s ρ _ _ hA hV hS q1 fun s1 ρ1 st1 => ?_)
  cases p with
  | true => simp only [q1] at hm; have h := h.of hm; exact h s1 ρ1 st1
  | false => simp only [q1] at hm; exact hs A V σ1 σ' b s1 ρ1 Q E hA (hV.step st1) st1.st hm fun s2 ρ2 st2 => h s2 ρ2 (st1.trans st2)
theorem COk.bool {op : BoolOp} {es : List Expr} {pos : Pos} {c : CM} (hc : i6 C k env op es c) : COk C k env (.BoolOp op es pos) c := by
 intro A V σ σ' b s ρ Q E hA hV hS hm h
 exact wpAny_isTrue_BoolOp (hc A V σ σ' b s ρ Q E hA hV hS hm h)
theorem EOk.ifexp {t a b : Expr} {pos : Pos} {c : CM} {ma mb : EM} (hc : COk C k env t c) (ha : EOk C k env a ma) (hb : EOk C k env b mb) : EOk C k env (.IfExp t a b pos) (mIf c ma mb) := by
 intro A V σ σ' mv s ρ Q E hA hV hS hm h
 unfold mIf at hm
 match q1 : c V σ with
 | none => simp only [q1] at hm; exact nS hm
 | some p1 =>
  obtain ⟨p, σ1⟩ := p1
  refine wpAny_IfExp (hc A V σ σ1 p s ρ _ _ hA hV hS q1 fun s1 ρ1 st1 => ?_)
  cases p with
  | true => simp only [q1] at hm; exact ha A V σ1 σ' mv s1 ρ1 Q E hA (hV.step st1) st1.st hm fun v s2 ρ2 st2 r => h v s2 ρ2 (st1.trans st2) r
  | false => simp only [q1] at hm; exact hb A V σ1 σ' mv s1 ρ1 Q E hA (hV.step st1) st1.st hm fun v s2 ρ2 st2 r => h v s2 ρ2 (st1.trans st2) r
theorem EOk.and2 {a b : Expr} {pos : Pos} {ma mb : EM} (ha : EOk C k env a ma) (hb : EOk C k env b mb) : EOk C k env (.BoolOp .And [a, b] pos) (vA ma mb) := by
 intro A V σ σ' mv s ρ Q E hA hV hS hm h
 unfold vA at hm
 match q1 : ma V σ with
 | none => simp only [q1] at hm; exact nS hm
 | some p1 => match q2 : tM p1.1 p1.2 with
  | none => simp only [q1, q2] at hm; exact nS hm
  | some p =>
   refine wpAny_And2 (ha A V σ p1.2 p1.1 s ρ _ _ hA hV hS q1 fun v s1 ρ1 st1 r1 => BD st1.st r1 q2 fun s2 st2 => ?_)
   cases p with
   | false => simp only [q1, q2] at hm; have h := h.of hm; exact h v s2 ρ1 (st1.trans st2) (r1.step st2)
   | true => simp only [q1, q2] at hm; exact hb A V p1.2 σ' mv s2 ρ1 Q E hA ((hV.step st1).step st2) st2.st hm fun v s3 ρ3 st3 r => h v s3 ρ3 (st1.trans (st2.trans st3)) r
theorem EOk.or2 {a b : Expr} {pos : Pos} {ma mb : EM} (ha : EOk C k env a ma) (hb : EOk C k env b mb) : EOk C k env (.BoolOp .Or [a, b] pos) (mOr ma mb) := by
 intro A V σ σ' mv s ρ Q E hA hV hS hm h
 unfold mOr at hm
 match q1 : ma V σ with
 | none => simp only [q1] at hm; exact nS hm
 | some p1 => match q2 : tM p1.1 p1.2 with
  | none => simp only [q1, q2] at hm; exact nS hm
  | some p =>
   refine wpAny_Or2 (ha A V σ p1.2 p1.1 s ρ _ _ hA hV hS q1 fun v s1 ρ1 st1 r1 => BD st1.st r1 q2 fun s2 st2 => ?_)
   cases p with
   | true => simp only [q1, q2] at hm; cases hm; exact h v s2 ρ1 (st1.trans st2) (r1.step st2)
   | false => simp only [q1, q2] at hm; exact hb A V p1.2 σ' mv s2 ρ1 Q E hA ((hV.step st1).step st2) st2.st hm fun v s3 ρ3 st3 r => h v s3 ρ3 (st1.trans (st2.trans st3)) r
theorem EOk.neg {x : Expr} {pos : Pos} {m : EM} (hx : EOk C k env x m) : EOk C k env (.UnaryOp .USub x pos) (m1 ke m) := by
 intro A V σ σ' mv s ρ Q E hA hV hS hm h
 refine e22 (Io hm) fun a σ1 e1 e2 => ?_
 refine wpAny_UnaryOp (hx A V σ σ1 a s ρ _ _ hA hV hS e1 fun v s1 ρ1 st1 r1 => ?_)
 cases a <;> first | (exact nS e2; done) | skip
 obtain ⟨t, rfl⟩ := r1; cases e2
 exact P.neg_int (h _ _ ρ1 (st1.trans (.tok st1.st (Nat.le_succ _))) ⟨_, rfl⟩)
end
def LOk (C : Sys) (k : Nat) (env : Env) (es : List Expr) (m : LM) : Prop :=
 (∀ x ∈ starEach es env, x.1 = false) ∧
 ∀ (A : Around) (V : ap) (σ σ' : ac) (mvs : List MV) (s : Shared) (ρ : List Addr) (Q : List Value → Shared → Prop) (E : Value → Shared → Prop), AOk A k → aJ C.w env V s.toks ρ s.heap → MSt C σ ρ s → m V σ = some (mvs, σ') →
  PL C s ρ Q mvs σ' → wpAny (pwM C) A (spliced (starEach es env)) Q E s
noncomputable def ah : LM := fun _ σ => some ([], σ)
noncomputable def aa (e : EM) (r : LM) : LM := fun V σ => match e V σ with
 | none => none
 | some (a, σ1) => match r V σ1 with
  | none => none
  | some (as, σ2) => some (a :: as, σ2)
def ei (C : Sys) (k : Nat) (f : Value) (g : FM) : Prop :=
 ∀ (A : Around) (σ σ' : ac) (args : List MV) (mv : MV) (vals : List Value) (s : Shared) (ρ : List Addr) (Q : Value → Shared → Prop) (E : Value → Shared → Prop), AOk A k → MSt C σ ρ s → bV C.w s.toks s.heap ρ vals args → g args σ = some (mv, σ') →
  PE C s ρ Q mv σ' → wpAny (pwM C) A (call f vals) Q E s
noncomputable def ag (g : FM) (a : LM) : EM := fun V σ => match a V σ with
 | none => none
 | some (as, σ1) => g as σ1
theorem dW (pos : Pos) : ∀ {l : List (Bool × Sem Value)}, (∀ x ∈ l, x.1 = false) → backTo pos l = l := by
 intro l
 induction l with
 | nil =>
  intro _
  exact rfl
 | cons hd0 l ih =>
  obtain ⟨b, t⟩ := hd0
  intro h
  have hb : b = false := h (b, t) List.mem_cons_self
  subst hb
  show (false, t) :: backTo pos l = _
  rw [ih fun x hx => h x (List.mem_cons_of_mem _ hx)]
theorem jO : ∀ {l : List (Bool × Sem Value)}, (∀ x ∈ l, x.1 = false) → l.any (·.1) = false := by
 intro l
 induction l with
 | nil =>
  intro _
  exact rfl
 | cons hd0 l ih =>
  obtain ⟨b, t⟩ := hd0
  intro h
  have hb : b = false := h (b, t) List.mem_cons_self
  subst hb
  show (false || l.any (·.1)) = false
  rw [ih fun x hx => h x (List.mem_cons_of_mem _ hx)]; rfl
section
variable {C : Sys} {k : Nat} {env : Env}
theorem LOk.nil : LOk C k env [] ah := ⟨fun x hx => (nomatch hx), fun A V σ σ' mvs s ρ Q E hA hV hS hm h => by have h := h.of hm; exact spliced_nil (h [] s ρ (.refl hS) .nil)⟩
theorem LOk.cons {e : Expr} {es : List Expr} {m : EM} {ms : LM} (he : EOk C k env e m) (hes : LOk C k env es ms) (hst : starEach (e :: es) env = (false, eval e env) :: starEach es env) : LOk C k env (e :: es) (aa m ms) := by
 refine ⟨fun x hx => ?_, fun A V σ σ' mvs s ρ Q E hA hV hS hm h => ?_⟩
 ·rw [hst] at hx
  rcases List.mem_cons.mp hx with rfl | hx
  ·rfl
  ·exact hes.1 x hx
 ·rw [hst]
  unfold aa at hm
  match q1 : m V σ with
  | none => simp only [q1] at hm; exact nS hm
  | some p1 => match q2 : ms V p1.2 with
   | none => simp only [q1, q2] at hm; exact nS hm
   | some p2 =>
    simp only [q1, q2] at hm; have h := h.of hm
    exact spliced_cons (he A V σ p1.2 p1.1 s ρ _ _ hA hV hS q1 fun v s1 ρ1 st1 r1 => hes.2 A V p1.2 p2.2 p2.1 s1 ρ1 _ _ hA (hV.step st1) st1.st q2 fun vs s2 ρ2 st2 r2 => h _ s2 ρ2 (st1.trans st2) (.cons (r1.step st2) r2))
theorem iQ {g : FM} {a : LM} {V : ap} {σ σ' : ac} {mv : MV} (h : ag g a V σ = some (mv, σ')) : ∃ as σ1, a V σ = some (as, σ1) ∧ g as σ1 = some (mv, σ') := by
 unfold ag at h
 match q : a V σ with
 | none => rw [q] at h; exact nS h
 | some p => rw [q] at h; exact ⟨p.1, p.2, rfl, h⟩
theorem dA {M : Model} {A : Around} {E : Value → Shared → Prop} {s : Shared} {f : Value} {l : List (Bool × Sem Value)} {Q : Args → Shared → Prop} (hp : ∀ x ∈ l, x.1 = false)
  (h : wpAny M A (spliced l) (fun vs s' => Q ⟨vs, []⟩ s') E s) : wpAny M A (evalArgs f true l []) Q E s := by
 cases l with
 | nil =>
  unfold evalArgs
  show wpAny M A (spliced [] >>= _) Q E s
  refine wpAny_bind (wpAny_mono h (fun vs s' h' => ?_) fun _ _ x => x)
  refine wpAny_holding ?_
  exact wpAny_bind (wpAny_pure (wpAny_bind (wpAny_pure (wpAny_pure h'))))
 | cons x r =>
  obtain ⟨b, t⟩ := x
  have hb : b = false := hp (b, t) List.mem_cons_self
  subst hb
  exact evalArgs_plain h
theorem gR {M : Model} {A : Around} {E : Value → Shared → Prop} {s : Shared} {x : Str} {p pos : Pos} {args : List Expr} {Q : Value → Shared → Prop} (hp : ∀ x ∈ starEach args env, x.1 = false)
  (h : wpAny M A (eval (.Name x p) env) (fun f s₁ => wpAny M A (callWith pos f [] (starEach args env) []) Q E s₁) E s) : wpAny M A (eval (.Call (.Name x p) args [] pos) env) Q E s :=
 Call_Name (dW pos hp) h
theorem EOk.callB (hE : aS env) {x : Str} {id : String} {p pos : Pos} {es : List Expr} {ms : LM} {g : FM} (hx : env.kindOf x = some .globalImplicit) (hm : C.mg x = none) (hv : bootBuiltins x = some (.builtin id)) (hn : x ≠ ("__name__" : Str))
  (hd : (x == ("__debug__" : Str)) = false) (hf : ei C k (.builtin id) g) (hes : LOk C k env es ms) : EOk C k env (.Call (.Name x p) es [] pos) (ag g ms) := by
 intro A V σ σ' mv s ρ Q E hA hV hS hm' h
 refine e22 (iQ hm') fun as σ1 e1 e2 => ?_
 refine gR hes.1 (Name_function_global hE.kind hx (loadGlobal_builtin (mg := C.mg) (mb := C.mb) ?_ hm ?_ ((C.hb x hn).trans hv) ?_) hd)
 ·rw [hE.glob]; exact C.nsg.keeps hS.keep
 ·rw [hE.blt]; exact C.nsb.keeps hS.keep
 ·refine callWith_builtin (jO hes.1) (dA hes.1 (hes.2 A V σ σ1 as s ρ _ _ hA hV hS e1 fun vs s1 ρ1 st1 r1 => ?_))
  exact hf A σ1 σ' as mv vs s1 ρ1 Q E hA st1.st r1 e2 fun v s2 ρ2 st2 r2 => h v s2 ρ2 (st1.trans st2) r2
theorem EOk.callT (hE : aS env) {x : Str} {T : String} {p pos : Pos} {es : List Expr} {ms : LM} {g : FM} (hx : env.kindOf x = some .globalImplicit) (hm : C.mg x = none) (hv : bootBuiltins x = some (.type T)) (hn : x ≠ ("__name__" : Str))
  (hd : (x == ("__debug__" : Str)) = false) (hf : ei C k (.type T) g) (hes : LOk C k env es ms) : EOk C k env (.Call (.Name x p) es [] pos) (ag g ms) := by
 intro A V σ σ' mv s ρ Q E hA hV hS hm' h
 refine e22 (iQ hm') fun as σ1 e1 e2 => ?_
 refine gR hes.1 (Name_function_global hE.kind hx (loadGlobal_builtin (mg := C.mg) (mb := C.mb) ?_ hm ?_ ((C.hb x hn).trans hv) ?_) hd)
 ·rw [hE.glob]; exact C.nsg.keeps hS.keep
 ·rw [hE.blt]; exact C.nsb.keeps hS.keep
 ·refine PyProof.Rows.callWith_type (jO hes.1) (dA hes.1 (hes.2 A V σ σ1 as s ρ _ _ hA hV hS e1 fun vs s1 ρ1 st1 r1 => ?_))
  exact hf A σ1 σ' as mv vs s1 ρ1 Q E hA st1.st r1 e2 fun v s2 ρ2 st2 r2 => h v s2 ρ2 (st1.trans st2) r2
theorem EOk.callF (hE : aS env) {x : Str} {a : Addr} {o : Obj} {fd : FuncData} {p pos : Pos} {es : List Expr} {ms : LM} {g : FM} (hx : env.kindOf x = some .globalImplicit) (hm : C.mg x = some (.ref a)) (ho : C.h₁.get? a = some o) (hd' : o.data = .func fd)
  (hd : (x == ("__debug__" : Str)) = false) (hf : ei C k (.ref a) g) (hes : LOk C k env es ms) : EOk C k env (.Call (.Name x p) es [] pos) (ag g ms) := by
 intro A V σ σ' mv s ρ Q E hA hV hS hm' h
 refine e22 (iQ hm') fun as σ1 e1 e2 => ?_
 refine gR hes.1 (Name_function_global hE.kind hx (loadGlobal_global ?_ hm ?_) hd)
 ·rw [hE.glob]; exact C.nsg.keeps hS.keep
 ·refine callWith_function (o := o) (fd := fd) (dA hes.1 (hes.2 A V σ σ1 as s ρ _ _ hA hV hS e1 fun vs s1 ρ1 st1 r1 => ?_))
  exact ⟨⟨st1.st.keep _ _ ho, hd'⟩, hf A σ1 σ' as mv vs s1 ρ1 Q E hA st1.st r1 e2 fun v s2 ρ2 st2 r2 => h v s2 ρ2 (st1.trans st2) r2⟩
def ie (x : Nat) (T : Nat → Option FM) (a : LM) : EM := fun V σ => match lk V x with
 | some (.fn f) => match T f with
  | some g => ag g a V σ
  | none => none
 | _ => none
theorem EOk.callV (hE : aS env) {x : Str} {c : Nat} {p pos : Pos} {es : List Expr} {ms : LM} {T : Nat → Option FM} (hc : nc x = c) (hx : env.kindOf x = some .local ∨ env.kindOf x = some .cell ∨ env.kindOf x = some .free)
  (hn : (x == ("__classdict__" : Str)) = false) (hd : (x == ("__debug__" : Str)) = false) (hT : ∀ f g, T f = some g → (∃ o fd, C.h₁.get? f = some o ∧ o.data = .func fd) ∧ ei C k (.ref f) g) (hes : LOk C k env es ms) :
  EOk C k env (.Call (.Name x p) es [] pos) (ie c T ms) := by
 intro A V σ σ' mv s ρ Q E hA hV hS hm' h
 subst hc
 refine cps fun _ Kz => ?_
 unfold ie at hm'
 split at hm'
 ·rename_i f q
  cases q2 : T f with
  | none => simp only [q2] at hm'; exact nS hm'
  | some g =>
   simp only [q2] at hm'
   obtain ⟨⟨o, fd, ho, hd'⟩, hf⟩ := hT f g q2
   refine e22 (iQ hm') fun as σ1 e1 e2 => ?_
   refine Kz <| gR hes.1 (wpAny_Name (js hE hV q hx hn fun v r => ?_) hd)
   cases r
   refine callWith_function (o := o) (fd := fd) (dA hes.1 (hes.2 A V σ σ1 as s ρ _ _ hA hV hS e1 fun vs s1 ρ1 st1 r1 => ?_))
   exact ⟨⟨st1.st.keep _ _ ho, hd'⟩, hf A σ1 σ' as mv vs s1 ρ1 Q E hA st1.st r1 e2 fun v s2 ρ2 st2 r2 => h v s2 ρ2 (st1.trans st2) r2⟩
 ·exact nS hm'
def bZ : FM
 | [.str l], σ => some (.int l.length, σ)
 | [.ref i], σ => match am σ i with
  | some xs => match Nat.ble xs.length 1000000 with
   | true => some (.int xs.length, σ)
   | false => none
  | none => none
 | _, _ => none
noncomputable def jQ : FM
 | [.str [c]], σ => some (.int c, σ)
 | _, _ => none
noncomputable def jR : FM
 | [.int i], σ => match decide (0 ≤ i), Nat.ble i.toNat 1114111 with
  | true, true => some (.str [i.toNat], σ)
  | _, _ => none
 | _, _ => none
noncomputable def kc : List MV → Option Int
 | [.int a] => some a
 | .int a :: r => match kc r with
  | some b => some (if a ≤ b then a else b)
  | none => none
 | _ => none
noncomputable def kW : List MV → Option Int
 | [.int a] => some a
 | .int a :: r => match kW r with
  | some b => some (if b ≤ a then a else b)
  | none => none
 | _ => none
def k7 : FM
 | [.int a, .int b], σ => some (.int (if b < a then b else a), σ)
 | [.ref i], σ => match am σ i with
  | some xs => match kc xs with
   | some a => some (.int a, σ)
   | none => none
  | none => none
 | _, _ => none
def AW : FM
 | [.ref i], σ => match am σ i with
  | some xs => match kW xs with
   | some a => some (.int a, σ)
   | none => none
  | none => none
 | _, _ => none
noncomputable def BG : FM
 | [.bool b], σ => some (.int (if b then 1 else 0), σ)
 | _, _ => none
noncomputable def dI : FM
 | [.bool _], σ => some (.typ "bool", σ)
 | [.int _], σ => some (.typ "int", σ)
 | _, _ => none
theorem bV.one {w : World} {n : Nat} {h : Heap} {ρ : List Addr} {vs : List Value} {a : MV} (r : bV w n h ρ vs [a]) : ∃ v, vs = [v] ∧ a7 w n h ρ v a := by
 cases r with
 | cons r1 r2 => cases r2; exact ⟨_, rfl, r1⟩
theorem bV.two {w : World} {n : Nat} {h : Heap} {ρ : List Addr} {vs : List Value} {a b : MV} (r : bV w n h ρ vs [a, b]) : ∃ v u, vs = [v, u] ∧ a7 w n h ρ v a ∧ a7 w n h ρ u b := by
 cases r with
 | cons r1 r2 => refine e12 r2.one fun u z1 r3 => ?_; subst z1; exact ⟨_, _, rfl, r1, r3⟩
set_option tactic.hygienic true in
theorem dH : ei C k (.builtin "len") bZ := by
 intro A σ σ' args mv vals s ρ Q E hA hS hr hg h
 unfold bZ at hg
 split at hg
 ·rename_i l
  obtain ⟨v, rfl, t, _, _, le, rfl⟩ := hr.one
  have h := h.of hg
  have e : ((⟨l.toArray⟩ : Str).length : Int) = (l.length : Int) := by simp [Str.length]
  refine P.len_str (by rw [e]; have := bk; lia) ?_
  rw [e]
  exact h _ _ ρ (.tok hS (Nat.le_trans (Nat.le_succ _) (Nat.le_succ _))) ⟨_, rfl⟩
 ·rename_i i
  match q : am σ i with
  | none => simp only [q] at hg; exact nS hg
  | some xs => match q2 : Nat.ble xs.length 1000000 with
   | false => simp only [q, q2] at hg; exact nS hg
   | true =>
    simp only [q, q2] at hg; have h := h.of hg
    refine e12 hr.one fun v z1 r => ?_; subst z1
    refine e24 (r.list hS q) fun ad vs z2 _ l1 r1 => ?_; subst z2
    have le := Nat.le_of_ble_eq_true q2
    rw [← r1.length] at le
    refine Calls.call_len_list l1.isList (by simp; lia) ?_
    have e : vs.toArray.size = xs.length := by simp [r1.length]
    rw [e]
    exact h _ _ ρ (.tok hS (Nat.le_trans (Nat.le_succ _) (Nat.le_succ _))) ⟨_, rfl⟩
 ·exact nS hg
set_option tactic.hygienic true in
theorem lO : ei C k (.builtin "ord") jQ := by
 intro A σ σ' args mv vals s ρ Q E hA hS hr hg h
 unfold jQ at hg
 split at hg
 ·rename_i c
  obtain ⟨v, rfl, t, _, _, le, rfl⟩ := hr.one
  have h := h.of hg
  exact P.ord_of_char (h _ _ ρ (.tok hS (Nat.le_succ _)) ⟨_, rfl⟩)
 ·exact nS hg
set_option tactic.hygienic true in
theorem lP : ei C k (.builtin "chr") jR := by
 intro A σ σ' args mv vals s ρ Q E hA hS hr hg h
 unfold jR at hg
 split at hg
 ·rename_i i
  obtain ⟨v, rfl, t, rfl⟩ := hr.one
  cases q1 : decide (0 ≤ i) <;> cases q2 : Nat.ble i.toNat 1114111 <;> simp only [q1, q2] at hg <;> first | (exact nS hg; done) | skip
  have h := h.of hg
  have p1 := of_decide_eq_true q1
  have p2 := Nat.le_of_ble_eq_true q2
  refine P.chr_of_int ?_ (h _ _ ρ (.tok hS (Nat.le_succ _)) ⟨s.toks, hS.toks, Nat.lt_succ_self _, by simp, rfl⟩)
  have a1 : decide (i < 0) = false := decide_eq_false (by lia)
  have a2 : decide (i > 0x10FFFF) = false := decide_eq_false (by lia)
  rw [a1, a2]; rfl
 ·exact nS hg
theorem FU {a : MV} {m : Int} (h : kc [a] = some m) : a = .int m := by
 cases a <;> first | (cases h; rfl) | (cases h)
set_option tactic.hygienic true in
theorem Ax {a b : MV} {xs : List MV} {m : Int} (h : kc (a :: b :: xs) = some m) : ∃ i c, a = .int i ∧ kc (b :: xs) = some c ∧ m = if i ≤ c then i else c := by
 cases a <;> first | (exact nS h; done) | skip
 rename_i i
 unfold kc at h
 match q : kc (b :: xs) with
 | none => simp only [q] at h; exact nS h
 | some c => simp only [q] at h; cases h; exact ⟨i, c, rfl, rfl, rfl⟩
theorem FX {a : MV} {m : Int} (h : kW [a] = some m) : a = .int m := by
 cases a <;> first | (cases h; rfl) | (cases h)
set_option tactic.hygienic true in
theorem Az {a b : MV} {xs : List MV} {m : Int} (h : kW (a :: b :: xs) = some m) : ∃ i c, a = .int i ∧ kW (b :: xs) = some c ∧ m = if c ≤ i then i else c := by
 cases a <;> first | (exact nS h; done) | skip
 rename_i i
 unfold kW at h
 match q : kW (b :: xs) with
 | none => simp only [q] at h; exact nS h
 | some c => simp only [q] at h; cases h; exact ⟨i, c, rfl, rfl, rfl⟩
theorem zK {w : World} {n : Nat} {h : Heap} {ρ : List Addr} : ∀ {xs : List MV} {vs : List Value} {m : Int}, bV w n h ρ vs xs → kc xs = some m → ∃ ns, IntsAre vs ns ∧ m ∈ ns ∧ ∀ a ∈ ns, m ≤ a
 | [], vs, m, r, e => by exact nS e
 | [a], vs, m, r, e => by
  have := FU e
  subst this
  cases r with
  | cons r1 r2 =>
   cases r2
   obtain ⟨t, e1⟩ := r1
   subst e1
   exact ⟨[m], .cons m t .nil, by simp, by simp⟩
 | a :: b :: xs, vs, m, r, e => by
  refine e23 (Ax e) fun i c z2 q z4 => ?_; subst z2; subst z4
  cases r with
  | cons r1 r2 =>
   obtain ⟨t, e1⟩ := r1
   subst e1
   refine e13 (zK r2 q) fun ns h1 h2 h3 => ?_
   refine ⟨i :: ns, .cons i t h1, ?_, fun a ha => ?_⟩
   ·by_cases le : i ≤ c
    ·rw [if_pos le]; simp
    ·rw [if_neg le]; exact List.mem_cons_of_mem _ h2
   ·rcases List.mem_cons.mp ha with rfl | ha
    ·by_cases le : a ≤ c
     ·rw [if_pos le]; exact Int.le_refl _
     ·rw [if_neg le]; lia
    ·have := h3 a ha
     by_cases le : i ≤ c
     ·rw [if_pos le]; lia
     ·rw [if_neg le]; lia
theorem tP {w : World} {n : Nat} {h : Heap} {ρ : List Addr} : ∀ {xs : List MV} {vs : List Value} {m : Int}, bV w n h ρ vs xs → kW xs = some m → ∃ ns, IntsAre vs ns ∧ m ∈ ns ∧ ∀ a ∈ ns, a ≤ m
 | [], vs, m, r, e => by exact nS e
 | [a], vs, m, r, e => by
  have := FX e
  subst this
  cases r with
  | cons r1 r2 =>
   cases r2
   obtain ⟨t, e1⟩ := r1
   subst e1
   exact ⟨[m], .cons m t .nil, by simp, by simp⟩
 | a :: b :: xs, vs, m, r, e => by
  refine e23 (Az e) fun i c z2 q z4 => ?_; subst z2; subst z4
  cases r with
  | cons r1 r2 =>
   obtain ⟨t, e1⟩ := r1
   subst e1
   refine e13 (tP r2 q) fun ns h1 h2 h3 => ?_
   refine ⟨i :: ns, .cons i t h1, ?_, fun a ha => ?_⟩
   ·by_cases le : c ≤ i
    ·rw [if_pos le]; simp
    ·rw [if_neg le]; exact List.mem_cons_of_mem _ h2
   ·rcases List.mem_cons.mp ha with rfl | ha
    ·by_cases le : c ≤ a
     ·rw [if_pos le]; exact Int.le_refl _
     ·rw [if_neg le]; lia
    ·have := h3 a ha
     by_cases le : c ≤ i
     ·rw [if_pos le]; lia
     ·rw [if_neg le]; lia
set_option tactic.hygienic true in
theorem vK : ei C k (.builtin "min") k7 := by
 intro A σ σ' args mv vals s ρ Q E hA hS hr hg h
 unfold k7 at hg
 split at hg
 ·rename_i a b
  obtain ⟨v, u, rfl, ⟨t1, rfl⟩, ⟨t2, rfl⟩⟩ := hr.two
  have h := h.of hg
  refine wpAny_with_toks (Nat.le_refl s.toks) (min_two_ints hA.1 fun h' tk hk le => ?_)
  refine h _ _ ρ (.heap hS le hk) ?_
  by_cases q : b < a
  ·rw [if_pos q, if_pos q]; exact ⟨_, rfl⟩
  ·rw [if_neg q, if_neg q]; exact ⟨_, rfl⟩
 ·rename_i i
  match q : am σ i with
  | none => simp only [q] at hg; exact nS hg
  | some xs => match q2 : kc xs with
   | none => simp only [q, q2] at hg; exact nS hg
   | some m =>
    simp only [q, q2] at hg; have h := h.of hg
    refine e12 hr.one fun v z1 r => ?_; subst z1
    refine e24 (r.list hS q) fun ad vs z2 _ l1 r1 => ?_; subst z2
    refine e13 (zK r1 q2) fun ns hi h2 h3 => ?_
    obtain ⟨ys, e⟩ := hi.allInts.items
    have hns : ns = ys.toList.map (·.1) := by rw [← hi.numsOf, ← nums_intItems, ← e]
    have hsz : 0 < ys.size := by
     have : 0 < ns.length := List.length_pos_of_mem h2
     rw [hns, List.length_map, Array.length_toList] at this; exact this
    have l2 := l1.isList
    rw [e] at l2
    refine wpAny_with_toks (Nat.le_refl s.toks) (min_intList hA.1 l2 hsz fun v h' tk hv hk le => ?_)
    obtain ⟨t, rfl⟩ := intItems_at hv
    obtain ⟨b1, b2⟩ := argBest_lt (numAt ys) (ys.size - 1)
    have hM : numAt ys (argBest (fun i j => decide (numAt ys i < numAt ys j)) (ys.size - 1)) = m := by
     refine Int.le_antisymm ?_ (h3 _ ?_)
     ·rw [hns] at h2
      refine e12 (mem_getD h2) fun j hj z2 => ?_; subst z2
      rw [List.length_map, Array.length_toList] at hj
      rw [← numAt_eq]; exact b2 j (by lia)
     ·rw [hns, numAt_eq]; exact getD_mem (by rw [List.length_map, Array.length_toList]; lia)
    exact h _ _ ρ (.heap hS le hk) ⟨t, by rw [hM]⟩
 ·exact nS hg
set_option tactic.hygienic true in
theorem MM : ei C k (.builtin "max") AW := by
 intro A σ σ' args mv vals s ρ Q E hA hS hr hg h
 unfold AW at hg
 split at hg
 ·rename_i i
  match q : am σ i with
  | none => simp only [q] at hg; exact nS hg
  | some xs => match q2 : kW xs with
   | none => simp only [q, q2] at hg; exact nS hg
   | some m =>
    simp only [q, q2] at hg; have h := h.of hg
    refine e12 hr.one fun v z1 r => ?_; subst z1
    refine e24 (r.list hS q) fun ad vs z2 _ l1 r1 => ?_; subst z2
    refine e13 (tP r1 q2) fun ns hi h2 h3 => ?_
    obtain ⟨ys, e⟩ := hi.allInts.items
    have hns : ns = ys.toList.map (·.1) := by rw [← hi.numsOf, ← nums_intItems, ← e]
    have hsz : 0 < ys.size := by
     have : 0 < ns.length := List.length_pos_of_mem h2
     rw [hns, List.length_map, Array.length_toList] at this; exact this
    have l2 := l1.isList
    rw [e] at l2
    refine wpAny_with_toks (Nat.le_refl s.toks) (max_intList hA.1 l2 hsz fun v h' tk hv hk le => ?_)
    obtain ⟨t, rfl⟩ := intItems_at hv
    obtain ⟨b1, b2⟩ := argBest_gt (numAt ys) (ys.size - 1)
    have hM : numAt ys (argBest (fun i j => decide (numAt ys i > numAt ys j)) (ys.size - 1)) = m := by
     refine Int.le_antisymm (h3 _ ?_) ?_
     ·rw [hns, numAt_eq]; exact getD_mem (by rw [List.length_map, Array.length_toList]; lia)
     ·rw [hns] at h2
      refine e12 (mem_getD h2) fun j hj z2 => ?_; subst z2
      rw [List.length_map, Array.length_toList] at hj
      rw [← numAt_eq]; exact b2 j (by lia)
    exact h _ _ ρ (.heap hS le hk) ⟨t, by rw [hM]⟩
 ·exact nS hg
theorem MN : ei C k (.type "int") BG := by
 intro A σ σ' args mv vals s ρ Q E hA hS hr hg h
 unfold BG at hg
 split at hg
 ·refine e12 hr.one fun v z1 r => ?_; subst z1
  cases r; cases hg
  exact call_int_bool (h _ _ ρ (.tok hS (Nat.le_succ _)) ⟨_, rfl⟩)
 ·exact nS hg
theorem gj : ei C k (.type "type") dI := by
 intro A σ σ' args mv vals s ρ Q E hA hS hr hg h
 unfold dI at hg
 split at hg
 ·refine e12 hr.one fun v z1 r => ?_; subst z1
  cases r; cases hg
  exact call_type_of (Tx := "bool") rfl (by decide) (h _ _ ρ (.refl hS) rfl)
 ·obtain ⟨v, rfl, t, rfl⟩ := hr.one
  have h := h.of hg
  exact call_type_of (Tx := "int") rfl (by decide) (h _ _ ρ (.refl hS) rfl)
 ·exact nS hg
end
noncomputable def ltb : List Nat → List Nat → Bool
 | [], [] => false
 | [], _ :: _ => true
 | _ :: _, [] => false
 | a :: r, b :: t => match Nat.blt a b with
  | true => true
  | false => match Nat.beq a b with
   | true => ltb r t
   | false => false
theorem vB (a b : List Nat) : ltb a b = decide (a < b) := by
 induction a generalizing b with
 | nil => cases b <;> simp [ltb]
 | cons x r ih =>
  cases b with
  | nil => simp [ltb]
  | cons y t =>
   unfold ltb
   rw [StrLaws.lt_cons_cons, dU, ih]
   have e : Nat.blt x y = decide (x < y) := by rw [Bool.eq_iff_iff, Nat.blt_eq]; simp
   rw [e]
   by_cases h : x < y
   ·simp [h]
   ·by_cases q : x = y
    ·subst q; simp
    ·simp [h, q]
def vE (x : List Nat) : List (List Nat) → List (List Nat)
 | [] => [x]
 | y :: r => match ltb y x with
  | true => y :: vE x r
  | false => x :: y :: r
def eW : List (List Nat) → List (List Nat)
 | [] => []
 | x :: r => vE x (eW r)
abbrev leS (a b : List Nat) : Prop := ltb b a = false
theorem vC {a b : List Nat} : leS a b ↔ a ≤ b := by
 unfold leS
 rw [vB]
 simp
theorem lG (x : List Nat) : ∀ l, (vE x l).Perm (x :: l)
 | [] => .refl _
 | y :: r => by
  unfold vE
  match h : ltb y x with
  | true => exact ((lG x r).cons y).trans (.swap ..)
  | false => exact .refl _
theorem j7 : ∀ l, (eW l).Perm l
 | [] => .refl _
 | x :: r => (lG x (eW r)).trans ((j7 r).cons x)
theorem mB (x : List Nat) : ∀ l : List (List Nat), l.Pairwise leS → (vE x l).Pairwise leS
 | [], _ => by simp [vE]
 | y :: r, h => by
  obtain ⟨h1, h2⟩ := List.pairwise_cons.mp h
  unfold vE
  match q : ltb y x with
  | true =>
   refine List.pairwise_cons.mpr ⟨fun z hz => ?_, mB x r h2⟩
   rcases List.mem_cons.mp ((lG x r).mem_iff.mp hz) with rfl | hz
   ·rw [vC]
    rw [vB] at q
    exact List.le_of_lt (of_decide_eq_true q)
   ·exact h1 z hz
  | false =>
   refine List.pairwise_cons.mpr ⟨fun z hz => ?_, h⟩
   rcases List.mem_cons.mp hz with rfl | hz
   ·exact q
   ·have a : leS x y := q
    have b := h1 z hz
    rw [vC] at a b ⊢
    exact List.le_trans a b
theorem iI : ∀ l, (eW l).Pairwise leS
 | [] => .nil
 | x :: r => mB x _ (iI r)
theorem oM {a b : List (List Nat)} (h : a.Perm b) (hs : a.Pairwise leS) : a = eW b := by
 refine List.Perm.eq_of_pairwise (le := leS) (fun x y _ _ h1 h2 => ?_) hs (iI b) (h.trans (j7 b).symm)
 rw [vC] at h1 h2
 exact List.le_antisymm h1 h2
theorem sf {a b : List (List Nat)} (h : a.Perm b) : eW a = eW b := oM ((j7 a).trans h) (iI a)
theorem li : ∀ (l : List Str) (p : Str), risingS p l = true → (p :: l).Pairwise fun a b => Spec.ltCps b.cps.toList a.cps.toList = false := by
 intro l
 induction l with
 | nil =>
  intro p _
  simp
 | cons x r ih =>
  intro p h
  have h' : (!Spec.ltCps x.cps.toList p.cps.toList && risingS x r) = true := h
  rw [Bool.and_eq_true] at h'
  have ih := ih x h'.2
  have h1 : Spec.ltCps x.cps.toList p.cps.toList = false := by simpa using h'.1
  refine List.pairwise_cons.mpr ⟨fun y hy => ?_, ih⟩
  rcases List.mem_cons.mp hy with rfl | hy
  ·exact h1
  ·have h2 := (List.pairwise_cons.mp ih).1 y hy
   rw [ltCps_eq] at h1 h2 ⊢
   have a : p.cps.toList ≤ x.cps.toList := by simpa using h1
   have b : x.cps.toList ≤ y.cps.toList := by simpa using h2
   simpa using List.le_trans a b
noncomputable def strsOf? : List MV → Option (List (List Nat))
 | [] => some []
 | .str l :: r => match strsOf? r with
  | some ls => some (l :: ls)
  | none => none
 | _ => none
noncomputable def sL (l : List (List Nat)) : List MV := l.map .str
set_option tactic.hygienic true in
theorem se : ∀ {xs : List MV} {ls : List (List Nat)}, strsOf? xs = some ls → xs = sL ls := by
 intro xs
 induction xs with
 | nil =>
  intro ls h
  cases h; rfl
 | cons x xs ih =>
  intro ls h
  cases x <;> first | (exact nS h; done) | skip
  rename_i l
  unfold strsOf? at h
  match q : strsOf? xs with
  | none => simp only [q] at h; exact nS h
  | some r => simp only [q] at h; cases h; rw [ih q]; rfl
def fO : FM
 | [.ref i], σ => match am σ i with
  | some xs => match strsOf? xs, Nat.ble xs.length 63 with
   | some ls, true => some (.ref σ.length, σ ++ [sL (eW ls)])
   | _, _ => none
  | none => none
 | _, _ => none
section
variable {C : Sys} {k : Nat} {env : Env}
theorem AA {w : World} {n : Nat} {h : Heap} {ρ : List Addr} : ∀ {ls : List (List Nat)} {vs : List Value}, bV w n h ρ vs (sL ls) → StrsAre vs (ls.map fun l => (⟨l.toArray⟩ : Str)) ∧ ∀ v ∈ vs, ∃ (l : List Nat) (t : Nat), 0 < t ∧ t < n ∧ l.length ≤ 1000 ∧ v = .str ⟨l.toArray⟩ t := by
 intro ls
 induction ls with
 | nil =>
  intro vs r
  cases r; exact ⟨.nil, fun v hv => (nomatch hv)⟩
 | cons l ls ih =>
  intro vs r
  cases r with
  | cons r1 r2 =>
   refine e14 r1 fun t a b c e => ?_
   subst e
   obtain ⟨h1, h2⟩ := ih r2
   refine ⟨.cons _ _ h1, fun v hv => ?_⟩
   rcases List.mem_cons.mp hv with rfl | hv
   ·exact ⟨l, t, a, b, c, rfl⟩
   ·exact h2 v hv
theorem kX {w : World} {n : Nat} {h : Heap} {ρ : List Addr} : ∀ {vs : List Value} {ss : List Str}, StrsAre vs ss → (∀ v ∈ vs, ∃ (l : List Nat) (t : Nat), 0 < t ∧ t < n ∧ l.length ≤ 1000 ∧ v = .str ⟨l.toArray⟩ t) → bV w n h ρ vs (sL (ss.map fun x : Str => x.cps.toList))
 | _, _, .nil, _ => .nil
 | _, _, .cons y t hs, hv => by
  refine .cons ?_ (kX hs fun v m => hv v (List.mem_cons_of_mem _ m))
  refine e24 (hv _ List.mem_cons_self) fun l u a b c e => ?_
  injection e with e1 e2
  subst e1; subst e2
  exact ⟨_, a, b, c, rfl⟩
theorem ph : ei C k (.builtin "sorted") fO := by
 intro A σ σ' args mv vals s ρ Q E hA hS hr hg h
 refine cps fun _ Kz => ?_
 unfold fO at hg
 split at hg
 ·rename_i i
  match q : am σ i with
  | none => simp only [q] at hg; exact nS hg
  | some xs =>
   simp only [q] at hg
   match q2 : strsOf? xs with
   | none => simp only [q2] at hg; exact nS hg
   | some ls => match q3 : Nat.ble xs.length 63 with
    | false => simp only [q2, q3] at hg; exact nS hg
    | true =>
     simp only [q2, q3] at hg; have h := h.of hg
     have := se q2
     subst this
     refine e12 hr.one fun v z1 r => ?_; subst z1
     refine e24 (r.list hS q) fun ad vs z2 _ l1 r1 => ?_; subst z2
     obtain ⟨hSt, htok⟩ := AA r1
     have h64 : vs.length < 64 := by have := Nat.le_of_ble_eq_true q3; rw [← r1.length] at this; lia
     refine Kz <| sortedK strKind_oneLt l1.isList hSt.keysOf (fun v₁ v₂ rest e => keyKind_strs (by rw [← e]; exact hSt)) h64 fun st' hp hs => ?_
     refine e13 (sorted_out_str hSt hp hs) fun ss' h1 h2 h3 => ?_
     obtain ⟨e, he⟩ := sortedAll_at s.heap vs ((arrOf st').map (·.2))
     have hl : (arrOf st').toList.Perm (vs.zip vs) := by rw [← pairsOf_toList]; exact Array.perm_iff_toList_perm.mp hp
     have hmem : ∀ v ∈ ((arrOf st').map (·.2)).toList, v ∈ vs := fun v hv => by
      rw [Array.toList_map] at hv
      refine e12 (List.mem_map.mp hv) fun p hp' z2 => ?_; subst z2
      have := mem_zip_self (hl.mem_iff.mp hp')
      rw [← this.1]; exact this.2
     have key : (ss'.map fun x : Str => x.cps.toList) = eW ls := by
      refine oM ?_ ?_
      ·have := h2.map fun x : Str => x.cps.toList
       rwa [List.map_map, show ((fun x : Str => x.cps.toList) ∘ fun l : List Nat => (⟨l.toArray⟩ : Str)) = id from rfl, List.map_id] at this
      ·have hp2 : ss'.Pairwise fun a b => Spec.ltCps b.cps.toList a.cps.toList = false := by
        cases ss' with
        | nil => exact .nil
        | cons x r => exact li r x h3
       refine List.Pairwise.map _ (fun a b hab => ?_) hp2
       show ltb _ _ = false
       rw [vB, ← ltCps_eq]; exact hab
     have hr2 := kX (w := C.w) (n := s.toks) (h := s.heap) (ρ := ρ) h1 fun v hv => htok v (hmem v hv)
     rw [key] at hr2
     have kp : ∀ b o, s.heap.get? b = some o → (sortedAll s.heap vs ((arrOf st').map (·.2))).get? b = some o := fun b o => sortedAll_old
     have hn : s.heap.get? (s.heap.objs.size + 1) = none := by
      match e : s.heap.get? (s.heap.objs.size + 1) with
      | none => rfl
      | some o => exact absurd (Heap.lt_size e) (Nat.not_lt.mpr (Nat.le_succ _))
     refine h _ _ _ (aT.alloc (t := s.toks) (vs := ((arrOf st').map (·.2)).toList) hS (Nat.le_refl _) kp hn ⟨e, he⟩ (hr2.mono (Nat.le_refl _) (Ext.of_keeps kp).v (List.prefix_refl _))) (jM hS)
 ·exact nS hg
end
noncomputable def at? (n : Nat) (i : Int) : Option Nat := match i with
 | .ofNat j => match Nat.blt j n with
  | true => some j
  | false => none
 | .negSucc j => match Nat.blt j n with
  | true => some (n - (j + 1))
  | false => none
def az : MV → MV → ac → Option (MV × ac)
 | .str l, .int i, σ => match at? l.length i with
  | some j => match l[j]? with
   | some c => some (.str [c], σ)
   | none => none
  | none => none
 | .ref a, .int i, σ => match am σ a with
  | some xs => match at? xs.length i, Nat.ble xs.length 1000000 with
   | some j, true => match xs[j]? with
    | some x => some (x, σ)
    | none => none
   | _, _ => none
  | none => none
 | .dct es, .str x, σ => match dl es x with
  | some l => some (.str l, σ)
  | none => none
 | _, _, _ => none
set_option tactic.hygienic true in
theorem od {n : Nat} {i : Int} {j : Nat} (h : at? n i = some j) : j < n ∧ ((0 ≤ i ∧ i.toNat = j ∧ i < n) ∨ (i < 0 ∧ -(n : Int) ≤ i ∧ (i + n).toNat = j)) := by
 unfold at? at h
 split at h
 ·rename_i k
  cases q : Nat.blt k n with
  | false => simp only [q] at h; exact nS h
  | true =>
   simp only [q] at h; cases h
   rw [Nat.blt_eq] at q
   refine ⟨q, .inl ⟨Int.natCast_nonneg _, rfl, ?_⟩⟩
   exact Int.ofNat_lt.mpr q
 ·rename_i k
  cases q : Nat.blt k n with
  | false => simp only [q] at h; exact nS h
  | true =>
   simp only [q] at h; cases h
   rw [Nat.blt_eq] at q
   refine ⟨by lia, .inr ⟨Int.negSucc_lt_zero _, by lia, by lia⟩⟩
section
variable {C : Sys} {k : Nat} {env : Env}
theorem sk {n : Nat} {i : Int} {j : Nat} (h : at? n i = some j) : seqIndex? i n = some j := by
 obtain ⟨hlt, (⟨a, b, c⟩ | ⟨a, b, c⟩)⟩ := od h
 ·rw [seqIndex_of a c, b]
 ·obtain ⟨m, rfl⟩ : ∃ m : Nat, i = Int.negSucc m := by
   cases i with
   | ofNat n => exact absurd a (Int.not_lt.mpr (Int.natCast_nonneg n))
   | negSucc n => exact ⟨n, rfl⟩
  have := seqIndex_neg a b
  rw [this, c]
set_option tactic.hygienic true in
theorem EOk.item {v i : Expr} {pos : Pos} {mv mi : EM} (hv : EOk C k env v mv) (hi : EOk C k env i mi) (hs : ∀ o x, subscripted i false o x = operate [o, x] (getItem o x)) : EOk C k env (.Subscript v i pos) (m2 az mv mi) := by
 intro A V σ σ' r s ρ Q E hA hV hS hm h
 refine e43 (zD hm) fun a σ1 b σ2 e1 e2 e3 => ?_
 refine Subscript_ (hv A V σ σ1 a s ρ _ _ hA hV hS e1 fun va s1 ρ1 st1 r1 => hi A V σ1 σ2 b s1 ρ1 _ _ hA (hV.step st1) st1.st e2 fun vb s2 ρ2 st2 r2 => ?_)
 replace r1 := r1.step st2
 have st := st1.trans st2
 unfold az at e3
 split at e3
 ·rename_i l i
  refine e14 r1 fun t t0 t1 le z4 => ?_; subst z4
  obtain ⟨u, rfl⟩ := r2
  cases q1 : at? l.length i with
  | none => simp only [q1] at e3; exact nS e3
  | some j => cases q2 : l[j]? with
   | none => simp only [q1, q2] at e3; exact nS e3
   | some c =>
    simp only [q1, q2] at e3; cases e3
    obtain ⟨hlt, hc⟩ := od q1
    have hidx := sk q1
    refine tail_any (typeIs_str s2 ⟨l.toArray⟩ t) PySem.F.slot_str_getitem.lookup (P.getItem_str (c := c) ?_ ?_ (h _ _ ρ2 (st.trans (.tok st2.st (Nat.le_succ _))) ⟨s2.toks, st2.st.toks, Nat.lt_succ_self _, by simp, rfl⟩)) (hs _ _)
    ·have a1 : decide (i < -(2 ^ 63 : Int)) = false := decide_eq_false (by rcases hc with ⟨_, _, _⟩ | ⟨_, _, _⟩ <;> lia)
     have a2 : decide (i ≥ 2 ^ 63) = false := decide_eq_false (by rcases hc with ⟨_, _, _⟩ | ⟨_, _, _⟩ <;> lia)
     rw [a1, a2]; rfl
    ·have e : (⟨l.toArray⟩ : Str).length = l.length := by simp [Str.length]
     rw [e, hidx]
     simpa using q2
 ·rename_i ai i
  match q : am σ2 ai with
  | none => simp only [q] at e3; exact nS e3
  | some xs =>
   simp only [q] at e3
   cases q1 : at? xs.length i with
   | none => simp only [q1] at e3; exact nS e3
   | some j => cases q3 : Nat.ble xs.length 1000000 with
    | false => simp only [q1, q3] at e3; exact nS e3
    | true =>
     simp only [q1, q3] at e3
     cases q2 : xs[j]? with
     | none => simp only [q2] at e3; exact nS e3
     | some x =>
      simp only [q2] at e3; cases e3
      refine e24 (r1.list st2.st q) fun ad vs z2 _ l1 rl => ?_; subst z2
      obtain ⟨u, rfl⟩ := r2
      obtain ⟨hlt, hc⟩ := od q1
      have le := Nat.le_of_ble_eq_true q3
      refine e12 (rl.get q2) fun v hv' rv => ?_
      refine tail_any l1.isList.typeIs slot_list_getitem.lookup ?_ (hs _ _)
      rcases hc with ⟨a, b, c⟩ | ⟨a, b, c⟩
      ·exact wpAny_getItem_list l1.isList a (by lia) (by rw [b]; simpa using hv') (h v s2 ρ2 st rv)
      ·refine wpAny_getItem_list_neg l1.isList a (by simp [rl.length]; lia) (by lia) ?_ (h v s2 ρ2 st rv)
       have e : vs.toArray.size = xs.length := by simp [rl.length]
       rw [e, c]; simpa using hv'
 ·rename_i es x
  cases q : dl es x with
  | none => simp only [q] at e3; exact nS e3
  | some l =>
   simp only [q] at e3; cases e3
   refine e12 r1 fun ad z1 d => ?_; subst z1
   refine e14 r2 fun t t0 t1 le z4 => ?_; subst z4
   refine e12 d.mapOf fun f hm hf => ?_
   have hx := hf ⟨x.toArray⟩
   simp only [q] at hx
   refine e14 hx fun t' a b c e => ?_
   exact tail_any hm.typeIs slot_dict_getitem.lookup (wpAny_getItem_of (strKind_is P0 C.w ⟨x.toArray⟩ t) hm e (h _ _ ρ2 (st.trans (.tok st2.st (Nat.le_succ _))) ⟨t', a, Nat.lt_of_lt_of_le b (Nat.le_succ _), c, rfl⟩)) (hs _ _)
 ·exact nS e3
end
abbrev OM := ap → ac → Option (Option Int × ac)
noncomputable def fV (n : Nat) (i : Option Int) (d : Nat) : Nat := match i with
 | none => d
 | some (.ofNat j) => match Nat.ble j n with
  | true => j
  | false => n
 | some (.negSucc j) => n - (j + 1)
def cut {α : Type} (lo hi : Option Int) (l : List α) : List α := (l.drop (fV l.length lo 0)).take (fV l.length hi l.length - fV l.length lo 0)
noncomputable def be : OM := fun _ σ => some (none, σ)
noncomputable def bc (e : EM) : OM := fun V σ => match e V σ with
 | some (.int i, σ1) => some (some i, σ1)
 | some (.none, σ1) => some (none, σ1)
 | _ => none
def bW (v : EM) (lo hi : OM) : EM := fun V σ => match v V σ with
 | none => none
 | some (a, σ1) => match lo V σ1 with
  | none => none
  | some (l, σ2) => match hi V σ2 with
   | none => none
   | some (u, σ3) => match a with
    | .str s => some (.str (cut l u s), σ3)
    | .ref i => match am σ3 i with
     | some xs => match Nat.ble xs.length 1000000 with
      | true => some (.ref σ3.length, σ3 ++ [cut l u xs])
      | false => none
     | none => none
    | _ => none
def OOk (C : Sys) (k : Nat) (env : Env) (e : Option Expr) (m : OM) : Prop :=
 ∀ (A : Around) (V : ap) (σ σ' : ac) (o : Option Int) (s : Shared) (ρ : List Addr) (Q : Value → Shared → Prop) (E : Value → Shared → Prop), AOk A k → aJ C.w env V s.toks ρ s.heap → MSt C σ ρ s → m V σ = some (o, σ') →
  (∀ v s' ρ', aT C s ρ σ' s' ρ' → (∃ p : Option (Int × Tok), v = partValue p ∧ p.map (·.1) = o) → Q v s') → wpAny (pwM C) A (evalPart e env) Q E s
theorem mR (n : Nat) (i : Option Int) (d : Nat) : (match i with
  | none => (d : Int)
  | some i => max 0 (min (if i < 0 then i + n else i) n)) = ((fV n i d : Nat) : Int) := by
 cases i with
 | none => rfl
 | some i =>
  cases i with
  | ofNat j =>
   have h : ¬ (Int.ofNat j < 0) := Int.not_lt.mpr (Int.natCast_nonneg j)
   simp only [h, if_false, fV]
   match q : Nat.ble j n with
   | true => have := Nat.le_of_ble_eq_true q; simp only [Int.ofNat_eq_natCast]; lia
   | false =>
    have : ¬ j ≤ n := fun h => by rw [Nat.ble_eq_true_of_le h] at q; exact nT q
    simp only [Int.ofNat_eq_natCast]; lia
  | negSucc j =>
   have h : Int.negSucc j < 0 := Int.negSucc_lt_zero j
   simp only [h, if_true, fV]
   lia
theorem AU (lo hi : Option Int) (n : Nat) : sliceBounds lo hi none n = (((fV n lo 0 : Nat) : Int), ((fV n hi n : Nat) : Int), 1) := by
 unfold sliceBounds
 simp only [Option.getD_none, show (1 : Int) > 0 by decide, if_true]
 rw [← mR n lo 0, ← mR n hi n]
 rfl
theorem ov (vs : List Value) (lo hi : Option Int) : slicePick vs.toArray lo hi none = (cut lo hi vs).toArray := by
 unfold slicePick
 have e : vs.toArray.size = vs.length := by simp
 rw [e, AU]
 simp only [sliceRange_one, pick_run]
 simp [cut]
theorem lW (lo hi : Option Int) (n : Nat) : Builtin.Str.strSliceIndices lo hi 1 n = (List.range (fV n hi n - fV n lo 0)).map (fV n lo 0 + ·) := by
 unfold Builtin.Str.strSliceIndices
 simp only [show (1 : Int) > 0 by decide, if_true]
 rw [← sliceRange_one, ← mR n lo 0, ← mR n hi n]
 rfl
theorem bV.cut {w : World} {n : Nat} {h : Heap} {ρ : List Addr} {vs : List Value} {xs : List MV} (r : bV w n h ρ vs xs) (lo hi : Option Int) : bV w n h ρ (Mine.cut lo hi vs) (Mine.cut lo hi xs) := by
 unfold Mine.cut
 rw [r.length]
 exact (r.drop _).take _
theorem IC {α : Type} (lo hi : Option Int) (l : List α) : (cut lo hi l).length ≤ l.length := by
 unfold cut
 rw [List.length_take, List.length_drop]
 lia
section
variable {C : Sys} {k : Nat} {env : Env}
theorem OOk.none : OOk C k env none be := by
 intro A V σ σ' o s ρ Q E hA hV hS hm h
 cases hm
 rw [evalPart_none]
 exact wpAny_pure (h _ s ρ (.refl hS) ⟨Option.none, rfl, rfl⟩)
set_option tactic.hygienic true in
theorem OOk.some {e : Expr} {m : EM} (he : EOk C k env e m) : OOk C k env (some e) (bc m) := by
 intro A V σ σ' o s ρ Q E hA hV hS hm h
 rw [evalPart_some]
 unfold bc at hm
 split at hm
 ·rename_i i σ1 q
  cases hm
  exact he A V σ _ _ s ρ _ _ hA hV hS q fun v s1 ρ1 st r => h v s1 ρ1 st (by obtain ⟨t, rfl⟩ := r; exact ⟨Option.some (_, t), rfl, rfl⟩)
 ·rename_i σ1 q
  cases hm
  exact he A V σ _ _ s ρ _ _ hA hV hS q fun v s1 ρ1 st r => h v s1 ρ1 st (by cases r; exact ⟨Option.none, rfl, rfl⟩)
 ·exact nS hm
theorem oY (p : Option (Int × Tok)) : IsPart (partValue p) (p.map (·.1)) := by
 cases p with
 | none => exact .none
 | some p => exact .int _ _
theorem aT.grow {σ : ac} {ρ : List Addr} {s : Shared} (a : MSt C σ ρ s) (o : Obj) : aT C s ρ σ { s with heap := s.heap.push o } ρ :=
 aT.heap (t := s.toks) a (Nat.le_refl _) fun _ _ e => Heap.get?_push_of_some _ e
theorem EOk.cut {v : Expr} {lo hi : Option Expr} {p pos : Pos} {mv : EM} {ml mh : OM} (hv : EOk C k env v mv) (hl : OOk C k env lo ml) (hh : OOk C k env hi mh) : EOk C k env (.Subscript v (.Slice lo hi none p) pos) (bW mv ml mh) := by
 intro A V σ σ' r s ρ Q E hA hV hS hm h
 refine cps fun _ Kz => ?_
 unfold bW at hm
 match q1 : mv V σ with
 | none => simp only [q1] at hm; exact nS hm
 | some p1 => match q2 : ml V p1.2 with
  | none => simp only [q1, q2] at hm; exact nS hm
  | some p2 => match q3 : mh V p2.2 with
   | none => simp only [q1, q2, q3] at hm; exact nS hm
   | some p3 =>
    obtain ⟨a, σ1⟩ := p1
    obtain ⟨l, σ2⟩ := p2
    obtain ⟨u, σ3⟩ := p3
    simp only [q1, q2, q3] at hm
    refine Kz <| Subscript_ (hv A V σ σ1 a s ρ _ _ hA hV hS q1 fun va s1 ρ1 st1 r1 => wpAny_Slice (hl A V σ1 σ2 l s1 ρ1 _ _ hA (hV.step st1) st1.st q2 fun vl s2 ρ2 st2 r2 =>
     hh A V σ2 σ3 u s2 ρ2 _ _ hA ((hV.step st1).step st2) st2.st q3 fun vu s3 ρ3 st3 r3 => ?_))
    rw [evalPart_none]
    refine wpAny_pure ?_
    replace r1 := (r1.step st2).step st3
    have st := st1.trans (st2.trans st3)
    refine e12 r2 fun pl z1 el => ?_; subst z1
    refine e12 r3 fun pu z1 eu => ?_; subst z1
    have gr := aT.grow st3.st { cls := .type "slice", data := .fields #[partValue pl, partValue pu, .none] }
    cases a with
    | str x =>
     simp only at hm; have h := h.of hm
     refine e14 r1 fun t t0 t1 le z4 => ?_; subst z4
     refine tail_any (ops := [.ref s3.heap.objs.size, .str ⟨x.toArray⟩ t]) (typeIs_str _ ⟨x.toArray⟩ t) PySem.F.slot_str_getitem.lookup (wpAny_getItem_str_slice (l := pl) (u := pu) (st := Option.none) ⟨_, Heap.get?_push_size _ rfl, rfl, rfl⟩ rfl ?_) rfl
     have hx : (⟨x.toArray⟩ : Str).length = x.length := by simp [Str.length]
     have hpick : (slicePicked ⟨x.toArray⟩ pl pu Option.none).filterMap ((⟨x.toArray⟩ : Str).cps[·]?) = Mine.cut l u x := by
      unfold slicePicked
      rw [el, eu, hx]
      show (Builtin.Str.strSliceIndices l u 1 x.length).filterMap (x.toArray[·]?) = _
      rw [lW, pick_run]
      rfl
     have hlen : (slicePicked ⟨x.toArray⟩ pl pu Option.none).length = fV x.length u x.length - fV x.length l 0 := by
      unfold slicePicked
      rw [el, eu, hx]
      show (Builtin.Str.strSliceIndices l u 1 x.length).length = _
      rw [lW]
      simp
     unfold sliceMade
     have ble : ∀ i d, d ≤ x.length → fV x.length i d ≤ x.length := fun i d hd => by
      unfold fV
      split
      ·exact hd
      ·rename_i j
       match q : Nat.ble j x.length with
       | true => exact Nat.le_of_ble_eq_true q
       | false => exact Nat.le_refl _
      ·exact Nat.sub_le _ _
     split
     ·rename_i hc
      rw [Bool.and_eq_true] at hc
      have h2 := eq_of_beq hc.2
      rw [hlen, hx] at h2
      have b1 := ble u x.length (Nat.le_refl _)
      have e : Mine.cut l u x = x := by
       unfold Mine.cut
       have e0 : fV x.length l 0 = 0 := by
        by_cases hz : x.length = 0
        ·have := ble l 0 (Nat.zero_le _); lia
        ·lia
       have e1 : fV x.length u x.length = x.length := by lia
       rw [e0, e1]; simp
      rw [e] at h
      exact h _ _ ρ3 (st.trans gr) ⟨t, t0, t1, le, rfl⟩
     ·rw [hpick]
      have lc := IC l u x
      refine ⟨?_, h _ _ ρ3 (st.trans (gr.trans (.tok gr.st (Nat.le_succ _)))) ⟨s3.toks, st3.st.toks, Nat.lt_succ_self _, Nat.le_trans lc le, rfl⟩⟩
      show (Mine.cut l u x).toArray.size ≤ sizeLine
      have := bk
      simp only [List.size_toArray]; lia
    | ref i =>
     simp only at hm
     match q : am σ3 i with
     | none => simp only [q] at hm; exact nS hm
     | some xs => match q4 : Nat.ble xs.length 1000000 with
      | false => simp only [q, q4] at hm; exact nS hm
      | true =>
       simp only [q, q4] at hm; have h := h.of hm
       refine e24 (r1.list st3.st q) fun ad vs z2 hi l1 rl => ?_; subst z2
       have le := Nat.le_of_ble_eq_true q4
       refine tail_any (ops := [.ref s3.heap.objs.size, .ref ad]) (Heap.IsList.typeIs (s := { s3 with heap := s3.heap.push { cls := .type "slice", data := .fields #[partValue pl, partValue pu, .none] } }) (l1.isList.push _)) list_getitem_lookup
        (wpAny_getItem_list_slice (l1.isList.push _) (Heap.IsSliceOf.new ..) (oY pl) (oY pu) .none (by simp) ?_ (by simp [rl.length]; have := bk; lia)) rfl
       rw [el, eu, ov]
       have rl2 := (rl.step gr).cut l u
       exact h _ _ _ (st.trans (gr.trans (aT.push gr.st rl2))) (jM gr.st)
    | _ => simp only at hm; exact nS hm
noncomputable def ba (l : LM) : EM := fun V σ => match l V σ with
 | none => none
 | some (xs, σ1) => match Nat.ble xs.length 100 with
  | true => some (.ref σ1.length, σ1 ++ [xs])
  | false => none
noncomputable def b9 (l : LM) : EM := fun V σ => match l V σ with
 | some ([a, b], σ1) => some (.pair a b, σ1)
 | _ => none
theorem EOk.list {es : List Expr} {pos : Pos} {m : LM} (h2 : LOk C k env es m) : EOk C k env (.List es pos) (ba m) := by
 intro A V σ σ' r s ρ Q E hA hV hS hm h
 refine cps fun _ Kz => ?_
 unfold ba at hm
 match q1 : m V σ with
 | none => simp only [q1] at hm; exact nS hm
 | some p1 => match q2 : Nat.ble p1.1.length 100 with
  | false => simp only [q1, q2] at hm; exact nS hm
  | true =>
   simp only [q1, q2] at hm; have h := h.of hm
   refine Kz <| wpAny_List ?_
   rw [dW pos h2.1]
   refine h2.2 A V σ p1.2 p1.1 s ρ _ _ hA hV hS q1 fun vs s1 ρ1 st1 r1 => ⟨?_, ?_⟩
   ·have := Nat.le_of_ble_eq_true q2
    have := bk
    rw [r1.length]; lia
   ·exact h _ _ _ (st1.trans (aT.push st1.st r1)) (jM st1.st)
set_option tactic.hygienic true in
theorem EOk.pair {es : List Expr} {kk : Nat} {pos : Pos} {m : LM} (h2 : LOk C k env es m) : EOk C k env (.Tuple es kk pos) (b9 m) := by
 intro A V σ σ' r s ρ Q E hA hV hS hm h
 unfold b9 at hm
 split at hm
 ·rename_i a b σ1 q1
  have h := h.of hm
  refine wpAny_Tuple ?_
  rw [dW pos h2.1]
  refine h2.2 A V σ _ _ s ρ _ _ hA hV hS q1 fun vs s1 ρ1 st1 r1 => ?_
  refine e23 r1.two fun v u z2 ra rb => ?_; subst z2
  have gr := aT.grow st1.st { cls := .type "tuple", data := .seq #[v, u] }
  refine ⟨by have := bk; simp; lia, h _ _ ρ1 (st1.trans gr) ⟨_, v, u, rfl, ⟨_, Heap.get?_push_size _ rfl, rfl, _, rfl⟩, ra.step gr, rb.step gr⟩⟩
 ·exact nS hm
end
def bf : FM
 | [.ref i, x], σ => match i, am σ i with
  | 0, _ => none
  | _, some xs => match Nat.ble xs.length 1000000 with
   | true => some (.none, σ.set i (xs ++ [x]))
   | false => none
  | _, none => none
 | _, _ => none
def gi : FM
 | [.ref i, .int j, x], σ => match i, am σ i with
  | 0, _ => none
  | _, some xs => match Nat.ble xs.length 1000000, decide (0 ≤ j), Nat.ble j.toNat xs.length with
   | true, true, true => some (.none, σ.set i (xs.take j.toNat ++ x :: xs.drop j.toNat))
   | _, _, _ => none
  | _, none => none
 | _, _ => none
def ek : FM
 | [.ref i, .ref j], σ => match i, am σ i, am σ j with
  | 0, _, _ => none
  | _, some xs, some ys => match Nat.ble (xs ++ ys).length 1000000 with
   | true => some (.none, σ.set i (xs ++ ys))
   | false => none
  | _, _, _ => none
 | _, _ => none
noncomputable def cz (o : EM) (g : FM) (a : LM) : EM := fun V σ => match o V σ with
 | none => none
 | some (x, σ1) => match a V σ1 with
  | none => none
  | some (as, σ2) => g (x :: as) σ2
section
variable {C : Sys} {k : Nat} {env : Env}
theorem nA {o : EM} {g : FM} {a : LM} {V : ap} {σ σ' : ac} {mv : MV} (h : cz o g a V σ = some (mv, σ')) : ∃ x σ1 as σ2, o V σ = some (x, σ1) ∧ a V σ1 = some (as, σ2) ∧ g (x :: as) σ2 = some (mv, σ') := by
 unfold cz at h
 match q : o V σ with
 | none => simp only [q] at h; exact nS h
 | some p => match q2 : a V p.2 with
  | none => simp only [q, q2] at h; exact nS h
  | some p2 => simp only [q, q2] at h; exact ⟨p.1, p.2, p2.1, p2.2, rfl, q2, h⟩
noncomputable def Qr : MV → Bool
 | .ref _ => true
 | _ => false
noncomputable def isStr : MV → Bool
 | .str _ => true
 | _ => false
theorem EOk.methL {o : Expr} {name : Str} {id : String} {apos pos : Pos} {es : List Expr} {mo : EM} {ms : LM} {g : FM} (slot : Slot "list" name id) (hty : typeOf (.builtin id) = pure (.type "method_descriptor"))
  (ho : EOk C k env o mo) (hg : ∀ x as σ mv σ', g (x :: as) σ = some (mv, σ') → ∃ i xs, x = .ref i ∧ am σ i = some xs) (hgrow : ∀ V σ i σ1 as σ2, mo V σ = some (.ref i, σ1) → ms V σ1 = some (as, σ2) → (am σ2 i).isSome → (am σ1 i).isSome) (hes : LOk C k env es ms) (hf : ei C k (.builtin id) g)
  (hbase : attributeBase o name env (eval o env) = eval o env)
  (hfew : ((backTo pos (starEach es env)).all (fun x => !x.1) && (backToKw pos (keywordEach [] env)).all (fun x => x.1.isSome) && decide (es.length + ([] : List Keyword).length + (if ([] : List Keyword).isEmpty then 0 else 1) < 30)) = true)
  (hline : (apos.endLine == pos.line) = true) : EOk C k env (.Call (.Attribute o name apos) es [] pos) (cz mo g ms) := by
 intro A V σ σ' mv s ρ Q E hA hV hS hm h
 refine cps fun _ Kz => ?_
 refine e43 (nA hm) fun x σ1 as σ2 e1 e2 e3 => ?_
 refine e22 (hg x as σ2 mv σ' e3) fun i xs z2 hx => ?_; subst z2
 refine Kz <| wpAny_Call_method_lateS hbase hfew hline (ho A V σ σ1 _ s ρ _ _ hA hV hS e1 fun v s1 ρ1 st1 r1 => ?_)
 obtain ⟨ys, hy⟩ := Option.isSome_iff_exists.mp (hgrow V σ i σ1 as σ2 e1 e2 (by rw [hx]; rfl))
 refine e24 (r1.list st1.st hy) fun ad vs z2 hi l1 rl => ?_; subst z2
 refine ⟨"list", id, PySem.F.plainAttrs_list, slot, hty, l1.isList.typeIs, fun a e => ?_, ?_⟩
 ·cases e; obtain ⟨n, hn⟩ := l1; exact ⟨_, hn, rfl⟩
 ·rw [dW pos hes.1]
  refine callWith_builtin (jO hes.1) (dA hes.1 (hes.2 A V σ1 σ2 as s1 ρ1 _ _ hA (hV.step st1) st1.st e2 fun ws s2 ρ2 st2 r2 => ?_))
  exact hf A σ2 σ' _ mv _ s2 ρ2 Q E hA st2.st (.cons (r1.step st2) r2) e3 fun v s3 ρ3 st3 r3 => h v s3 ρ3 (st1.trans (st2.trans st3)) r3
theorem EOk.methS {o : Expr} {name : Str} {id : String} {apos pos : Pos} {es : List Expr} {mo : EM} {ms : LM} {g : FM} (slot : Slot "str" name id) (hty : typeOf (.builtin id) = pure (.type "method_descriptor"))
  (ho : EOk C k env o mo) (hg : ∀ x as σ mv σ', g (x :: as) σ = some (mv, σ') → ∃ l, x = .str l) (hes : LOk C k env es ms) (hf : ei C k (.builtin id) g)
  (hbase : attributeBase o name env (eval o env) = eval o env)
  (hfew : ((backTo pos (starEach es env)).all (fun x => !x.1) && (backToKw pos (keywordEach [] env)).all (fun x => x.1.isSome) && decide (es.length + ([] : List Keyword).length + (if ([] : List Keyword).isEmpty then 0 else 1) < 30)) = true)
  (hline : (apos.endLine == pos.line) = true) : EOk C k env (.Call (.Attribute o name apos) es [] pos) (cz mo g ms) := by
 intro A V σ σ' mv s ρ Q E hA hV hS hm h
 refine cps fun _ Kz => ?_
 refine e43 (nA hm) fun x σ1 as σ2 e1 e2 e3 => ?_
 obtain ⟨l, rfl⟩ := hg x as σ2 mv σ' e3
 refine Kz <| wpAny_Call_method_lateS hbase hfew hline (ho A V σ σ1 _ s ρ _ _ hA hV hS e1 fun v s1 ρ1 st1 r1 => ?_)
 have r1' := r1
 refine e14 r1' fun t t0 t1 le z4 => ?_; subst z4
 refine ⟨"str", id, PySem.F.plainAttrs_str, slot, hty, typeIs_str _ _ _, (fun a e => by cases e), ?_⟩
 rw [dW pos hes.1]
 refine callWith_builtin (jO hes.1) (dA hes.1 (hes.2 A V σ1 σ2 as s1 ρ1 _ _ hA (hV.step st1) st1.st e2 fun ws s2 ρ2 st2 r2 => ?_))
 exact hf A σ2 σ' _ mv _ s2 ρ2 Q E hA st2.st (.cons (r1.step st2) r2) e3 fun v s3 ρ3 st3 r3 => h v s3 ρ3 (st1.trans (st2.trans st3)) r3
theorem iK {h : Heap} {l : Addr} {items : Array Value} (x : h.PlainList l items) (f : Array Value → Array Value) : (h.update l (Obj.mapSeq f)).PlainList l (f items) := let ⟨n, e⟩ := x; ⟨_, IsL.update e f⟩
set_option tactic.hygienic true in
theorem cN : ei C k (.builtin "list.append") bf := by
 intro A σ σ' args mv vals s ρ Q E hA hS hr hg h
 refine cps fun _ Kz => ?_
 unfold bf at hg
 split at hg
 ·rename_i i x
  cases i with
  | zero => simp only at hg; exact nS hg
  | succ i =>
   match q : am σ (i + 1) with
   | none => simp only [q] at hg; exact nS hg
   | some xs => match q2 : Nat.ble xs.length 1000000 with
    | false => simp only [q, q2] at hg; exact nS hg
    | true =>
     simp only [q, q2] at hg; have h := h.of hg
     refine e23 hr.two fun v u z2 ra rb => ?_; subst z2
     refine e24 (ra.list hS q) fun ad vs z2 hi l1 rl => ?_; subst z2
     have le := Nat.le_of_ble_eq_true q2
     have := bk
     refine Kz <| wpAny_list_append_plain l1 (fun h' l2 hs => ?_) (by simp [rl.length]; lia)
     have l3 : h'.PlainList ad (vs ++ [u]).toArray := by simpa using l2
     exact h _ _ ρ (aT.upd (t := s.toks) hS (Nat.le_refl _) hs (Nat.succ_ne_zero i) hi l3 (rl.append (.cons rb .nil))) rfl
 ·exact nS hg
set_option tactic.hygienic true in
theorem AI : ei C k (.builtin "list.insert") gi := by
 intro A σ σ' args mv vals s ρ Q E hA hS hr hg h
 refine cps fun _ Kz => ?_
 unfold gi at hg
 split at hg
 ·rename_i i j x
  cases i with
  | zero => simp only at hg; exact nS hg
  | succ i =>
   match q : am σ (i + 1) with
   | none => simp only [q] at hg; exact nS hg
   | some xs =>
    simp only [q] at hg
    cases q2 : Nat.ble xs.length 1000000 <;> cases q3 : decide (0 ≤ j) <;> cases q4 : Nat.ble j.toNat xs.length <;> simp only [q2, q3, q4] at hg <;> first | (exact nS hg; done) | skip
    have h := h.of hg
    cases hr with
    | cons ra hr2 =>
     refine e23 hr2.two fun v u z2 z3 rb => ?_; subst z2; obtain ⟨t, rfl⟩ := z3
     refine e24 (ra.list hS q) fun ad vs z2 hi l1 rl => ?_; subst z2
     have le := Nat.le_of_ble_eq_true q2
     have j0 := of_decide_eq_true q3
     have j1 := Nat.le_of_ble_eq_true q4
     have := bk
     obtain ⟨n, hn⟩ := l1
     have hfit : ¬(!Builtin.List.listFitsIndex j) = true := by
      unfold Builtin.List.listFitsIndex
      have a1 : decide (-(2 ^ 63 : Int) ≤ j) = true := decide_eq_true (by lia)
      have a2 : decide (j < (2 ^ 63 : Int)) = true := decide_eq_true (by lia)
      simp only [a1, a2]
      simp
     refine Kz <| call_meets PySem.F.slot_list_insert ⟨_, hn, rfl⟩ PySem.F.entry_list_insert (PySem.F.args_list_insert_3 _ _ _) (AutoSeq1.list_insert_list_int_val_1 ad vs.toArray n j t u hfit (by simp [rl.length]; lia)) ⟨hn, ?_⟩
     have l2 := iK ⟨n, hn⟩ (fun xs => have k := if j < 0 then (j + (xs.size : Int)).toNat else min j.toNat xs.size; (xs.extract 0 k).push u ++ xs.extract k)
     have e : (fun xs : Array Value => have k := if j < 0 then (j + (xs.size : Int)).toNat else min j.toNat xs.size; (xs.extract 0 k).push u ++ xs.extract k) vs.toArray = (vs.take j.toNat ++ u :: vs.drop j.toNat).toArray := by
      have hneg : ¬ j < 0 := by lia
      have hmin : min j.toNat vs.toArray.size = j.toNat := by simp [rl.length]; lia
      simp only [hneg, if_false, hmin]
      apply Array.toList_inj.mp
      simp
      rw [List.take_of_length_le (by simp)]
     have l3 : (s.heap.update ad (Obj.mapSeq fun xs => have k := if j < 0 then (j + (xs.size : Int)).toNat else min j.toNat xs.size; (xs.extract 0 k).push u ++ xs.extract k)).PlainList ad (vs.take j.toNat ++ u :: vs.drop j.toNat).toArray := by
      rw [← e]; exact l2
     refine h _ _ ρ (aT.upd (t := s.toks) hS (Nat.le_refl _) (Heap.SameBut.update ..) (Nat.succ_ne_zero i) hi l3 ?_) rfl
     exact (rl.take _).append (.cons rb (rl.drop _))
 ·exact nS hg
set_option tactic.hygienic true in
theorem pi : ei C k (.builtin "list.extend") ek := by
 intro A σ σ' args mv vals s ρ Q E hA hS hr hg h
 refine cps fun _ Kz => ?_
 unfold ek at hg
 split at hg
 ·rename_i i j
  cases i with
  | zero => simp only at hg; exact nS hg
  | succ i =>
   match q : am σ (i + 1) with
   | none => simp only [q] at hg; exact nS hg
   | some xs => match q2 : am σ j with
    | none => simp only [q, q2] at hg; exact nS hg
    | some ys => match q3 : Nat.ble (xs ++ ys).length 1000000 with
     | false => simp only [q, q2, q3] at hg; exact nS hg
     | true =>
      simp only [q, q2, q3] at hg; have h := h.of hg
      refine e23 hr.two fun v u z2 ra rb => ?_; subst z2
      refine e24 (ra.list hS q) fun ad vs z2 hi z4 rl => ?_; subst z2; obtain ⟨n, hn⟩ := z4
      refine e24 (rb.list hS q2) fun bd ws z2 hj z4 rl2 => ?_; subst z2; obtain ⟨n2, hn2⟩ := z4
      have le := Nat.le_of_ble_eq_true q3
      rw [List.length_append, ← rl.length, ← rl2.length] at le
      have := bk
      have hlong : ¬(!vs.toArray.isEmpty && Builtin.List.listTooLong (vs.toArray.size + ws.toArray.size)) = true := by
       have : Builtin.List.listTooLong (vs.toArray.size + ws.toArray.size) = false := by
        unfold Builtin.List.listTooLong
        refine decide_eq_false ?_
        simp
        lia
       rw [this]; simp
      refine Kz <| call_meets PySem.F.slot_list_extend ⟨_, hn, rfl⟩ PySem.F.entry_list_extend (PySem.F.args_list_extend_2 _ _) (AutoSeq1.list_extend_list_list_0 ad vs.toArray n bd ws.toArray n2 hlong (by simp; lia) (by simp; lia)) ⟨hn, hn2, ?_⟩
      have l2 := iK ⟨n, hn⟩ (fun x => x ++ ws.toArray)
      rw [show vs.toArray ++ ws.toArray = (vs ++ ws).toArray from by simp] at l2
      exact h _ _ ρ (aT.upd (t := s.toks) hS (Nat.le_refl _) (Heap.SameBut.update ..) (Nat.succ_ne_zero i) hi l2 (rl.append rl2)) rfl
 ·exact nS hg
noncomputable def jn : List MV → Option (List Nat)
 | [] => some []
 | .str l :: r => match jn r with
  | some t => some (l ++ t)
  | none => none
 | .txt l :: r => match jn r with
  | some t => some (l ++ t)
  | none => none
 | _ => none
def cO : FM
 | [.str [], .ref i], σ => match am σ i with
  | some [.txt _] => none
  | some xs => match jn xs with
   | some l => match Nat.ble l.length 1000, Nat.ble xs.length 1000 with
    | true, true => some (.str l, σ)
    | _, _ => none
   | none => none
  | none => none
 | _, _ => none
noncomputable def gv : FM
 | [.str l], σ => match l.all (fun c => Nat.blt c 128) with
  | true => some (.str (l.map lo1), σ)
  | false => none
 | _, _ => none
theorem nO : ei C k (.builtin "str.lower") gv := by
 intro A σ σ' args mv vals s ρ Q E hA hS hr hg h
 refine cps fun _ Kz => ?_
 unfold gv at hg
 split at hg
 ·rename_i l
  match q : l.all (fun c => Nat.blt c 128) with
  | false => simp only [q] at hg; exact nS hg
  | true =>
   simp only [q] at hg; have h := h.of hg
   obtain ⟨v, rfl, t, t0, t1, le, rfl⟩ := hr.one
   have hA' : ∀ c ∈ (⟨l.toArray⟩ : Str).cps.toList, c < 128 := fun c hc => by
    have := List.all_eq_true.mp q c (by simpa using hc)
    rwa [Nat.blt_eq] at this
   have e := lower_ascii hA'
   have e2 : (placed (⟨l.toArray⟩ : Str) fun i _ => Unicode.lowerAt (⟨l.toArray⟩ : Str).cps i) = (l.map lo1).toArray := by
    have : (⟨placed (⟨l.toArray⟩ : Str) fun i _ => Unicode.lowerAt (⟨l.toArray⟩ : Str).cps i⟩ : Str) = ⟨l.toArray.map lo1⟩ := e
    injection this with this
    rw [this]; simp
   have g := gives_str_lower ⟨l.toArray⟩ t (by rw [e2]; unfold PySem.Builtin.Str.tooLong; have := bk; simp; lia)
   rw [e2] at g
   refine Kz <| call_gives PySem.F.slot_str_lower (typeIs_str _ _ _) PySem.F.entry_str_lower (PySem.F.args_str_lower_1 _) g ⟨?_, h _ _ ρ (.tok hS (Nat.le_succ _)) ⟨s.toks, hS.toks, Nat.lt_succ_self _, by simp; exact le, rfl⟩⟩
   show (l.map lo1).toArray.size ≤ sizeLine
   have := bk
   simp; lia
 ·exact nS hg
set_option tactic.hygienic true in
theorem AD {w : World} {n : Nat} {h : Heap} {ρ : List Addr} : ∀ {xs : List MV} {vs : List Value} {l : List Nat}, bV w n h ρ vs xs → jn xs = some l → ∃ ps : List (Str × Tok), vs = strValues ps ∧ (ps.map (·.1)).flatMap (fun x : Str => x.cps.toList) = l := by
 intro xs
 induction xs with
 | nil =>
  intro vs l r e
  cases r; cases e; exact ⟨[], rfl, rfl⟩
 | cons x xs ih =>
  intro vs l r e
  cases r with
  | cons r1 r2 =>
   cases x <;> first | (exact nS e; done) | skip
   ·rename_i a
    unfold jn at e
    cases q : jn xs with
    | none => simp only [q] at e; exact nS e
    | some b =>
     simp only [q] at e; cases e
     refine e14 r1 fun t _ _ _ e1 => ?_
     subst e1
     refine e12 (ih r2 q) fun ps h1 h2 => ?_
     exact ⟨(⟨a.toArray⟩, t) :: ps, by rw [h1]; rfl, by rw [List.map_cons, List.flatMap_cons, h2]⟩
   ·rename_i a
    unfold jn at e
    cases q : jn xs with
    | none => simp only [q] at e; exact nS e
    | some b =>
     simp only [q] at e; cases e
     refine e12 r1 fun t _ e1 => ?_
     subst e1
     refine e12 (ih r2 q) fun ps h1 h2 => ?_
     exact ⟨(⟨a.toArray⟩, t) :: ps, by rw [h1]; rfl, by rw [List.map_cons, List.flatMap_cons, h2]⟩
theorem oX : ∀ ys : List Str, (Str.join ⟨#[]⟩ ys).cps.toList = ys.flatMap fun x => x.cps.toList
 | [] => rfl
 | [y] => by simp [Str.join]
 | y :: z :: r => by
  show (y ++ ⟨#[]⟩ ++ Str.join ⟨#[]⟩ (z :: r)).cps.toList = _
  rw [Str.cps_append, Str.cps_append, Array.toList_append, Array.toList_append, oX (z :: r)]
  simp
theorem mM {a b : Str} (h : a.cps.toList = b.cps.toList) : a = b := by
 obtain ⟨⟨a⟩⟩ := a; obtain ⟨⟨b⟩⟩ := b
 simp at h; subst h; rfl
set_option tactic.hygienic true in
theorem iS : ei C k (.builtin "str.join") cO := by
 intro A σ σ' args mv vals s ρ Q E hA hS hr hg h
 refine cps fun _ Kz => ?_
 unfold cO at hg
 split at hg
 ·rename_i i
  split at hg
  ·cases hg
  ·rename_i xs hne q
   cases q2 : jn xs with
   | none => simp only [q2] at hg; cases hg
   | some l =>
    simp only [q2] at hg
    cases q3 : Nat.ble l.length 1000 <;> cases q4 : Nat.ble xs.length 1000 <;> simp only [q3, q4] at hg <;> first | (cases hg; done) | skip
    cases hg
    refine e23 hr.two fun v u z2 ra rb => ?_; subst z2
    refine e14 ra fun t t0 t1 le z4 => ?_; subst z4
    refine e24 (rb.list hS q) fun ad vs z2 hi l1 rl => ?_; subst z2
    refine e12 (AD rl q2) fun ps z1 hp => ?_; subst z1
    have le1 := Nat.le_of_ble_eq_true q3
    have le2 := Nat.le_of_ble_eq_true q4
    have e0 : (⟨([] : List Nat).toArray⟩ : Str) = ⟨#[]⟩ := rfl
    refine Kz ?_
    rw [e0]
    have hg : PySem.Builtin.Str.glued ⟨#[]⟩ (ps.map (·.1)) = (⟨l.toArray⟩ : Str) := mM (by rw [StrLaws.glued_eq_join, oX, hp])
    have hsum : ∀ (ys : List Str) (n : Nat), (ys.toArray.foldl (fun a p => a + p.length + (⟨#[]⟩ : Str).length) n) = n + (ys.flatMap fun x => x.cps.toList).length := by
     intro ys
     induction ys with
     | nil => intro n; simp
     | cons y ys ih =>
      intro n
      have := ih (n + y.length + (⟨#[]⟩ : Str).length)
      simp only [List.foldl_toArray', List.foldl_cons] at this ⊢
      rw [this, List.flatMap_cons, List.length_append]
      have e1 : y.cps.toList.length = y.length := by simp [Str.length]
      have e2 : (⟨#[]⟩ : Str).length = 0 := rfl
      rw [e1, e2]; lia
    have hlong : PySem.Builtin.Str.tooLong ((ps.map (·.1)).toArray.foldl (· + ·.length + (⟨#[]⟩ : Str).length) 0) = false := by
     rw [hsum, hp]
     unfold PySem.Builtin.Str.tooLong
     have := bk
     exact decide_eq_false (by lia)
    refine call_meets PySem.F.slot_str_join (typeIs_str _ _ _) PySem.F.entry_str_join (PySem.F.args_str_join_2 _ _) (meets_str_join_list ⟨#[]⟩ t ad ps hlong) ⟨l1.isList, ?_⟩
    have hstr : ∀ ys : List (Str × Tok), ys = ps → (Made.str (PySem.Builtin.Str.glued ⟨#[]⟩ (ys.map (·.1)))).post (wants Q E |> fun R v s' => R (.ok (.ret v)) s') s := fun ys hy => by
     subst hy
     rw [hg]
     refine ⟨?_, h _ _ ρ (.tok hS (Nat.le_succ _)) ⟨s.toks, hS.toks, Nat.lt_succ_self _, le1, rfl⟩⟩
     show l.toArray.size ≤ sizeLine
     have := bk
     simp; lia
    unfold joinMade
    split
    ·rename_i p
     cases rl with
     | cons r1 r2 =>
      rename_i mv' mvs'
      cases r2
      cases mv' <;> first | (cases q2; done) | skip
      ·rename_i a
       refine e14 r1 fun u u0 u1 ul e => ?_
       have el : l = a := by unfold jn at q2; simp only [jn] at q2; simpa using (Option.some.inj q2).symm
       subst el
       have e' : Value.str p.fst p.snd = Value.str ⟨l.toArray⟩ u := e
       rw [e']
       exact h _ _ ρ (.refl hS) ⟨u, u0, u1, ul, rfl⟩
      ·exact (hne _ rfl).elim
    ·exact hstr _ rfl
  ·cases hg
 ·cases hg
end
noncomputable def fx (c : Nat) (z : List Nat) : List Nat → List Nat
 | [] => []
 | a :: l => match Nat.beq a c with
  | true => z ++ fx c z l
  | false => a :: fx c z l
def c8 (o : EM) (c : Nat) (z : List Nat) : EM := fun V σ => match o V σ with
 | some (.str l, σ1) => match Nat.ble (fx c z l).length 1000 with
  | true => some (.str (fx c z l), σ1)
  | false => none
 | _ => none
theorem kl (c : Nat) (z : List Nat) : ∀ a b, fx c z (a ++ b) = fx c z a ++ fx c z b
 | [], b => rfl
 | x :: a, b => by
  show (match Nat.beq x c with | true => z ++ fx c z (a ++ b) | false => x :: fx c z (a ++ b)) = (match Nat.beq x c with | true => z ++ fx c z a | false => x :: fx c z a) ++ fx c z b
  cases Nat.beq x c with
  | true => rw [kl c z a b]; exact (List.append_assoc ..).symm
  | false => rw [kl c z a b]; rfl
theorem lg (c : Nat) (z : List Nat) : ∀ a, c ∉ a → fx c z a = a
 | [], _ => rfl
 | x :: a, h => by
  have h1 : ¬ x = c := fun e => h (e ▸ List.mem_cons_self)
  show (match Nat.beq x c with | true => z ++ fx c z a | false => x :: fx c z a) = _
  rw [dU, decide_eq_false h1]
  show x :: fx c z a = _
  rw [lg c z a fun m => h (List.mem_cons_of_mem _ m)]
theorem oK (c : Nat) (z : List Nat) : ∀ parts : List Str, (∀ p ∈ parts, c ∉ p.cps.toList) → fx c z (Str.join ⟨#[c]⟩ parts).cps.toList = (Str.join ⟨z.toArray⟩ parts).cps.toList
 | [], _ => rfl
 | [p], h => lg c z _ (h p (List.mem_singleton.mpr rfl))
 | p :: q :: r, h => by
  have ih := oK c z (q :: r) fun a ha => h a (List.mem_cons_of_mem _ ha)
  show fx c z (p ++ ⟨#[c]⟩ ++ Str.join ⟨#[c]⟩ (q :: r)).cps.toList = (p ++ ⟨z.toArray⟩ ++ Str.join ⟨z.toArray⟩ (q :: r)).cps.toList
  simp only [Str.cps_append, Array.toList_append]
  rw [kl, kl, ih, lg c z _ (h p List.mem_cons_self)]
  have : fx c z (#[c] : Array Nat).toList = z := by
   show (match Nat.beq c c with | true => z ++ [] | false => c :: []) = z
   rw [dU, decide_eq_true rfl]
   simp
  rw [this]
theorem pK (x : Str) (c : Nat) (z : List Nat) : (Txt.replace x ⟨#[c]⟩ ⟨z.toArray⟩).cps.toList = fx c z x.cps.toList := by
 rw [StrLaws.replace_one, ← oK c z _ (StrLaws.split_free x c), StrLaws.join_split]
section
variable {C : Sys} {k : Nat} {env : Env}
set_option tactic.hygienic true in
theorem EOk.repl {o : Expr} {y z : Str} {c : Nat} {zl : List Nat} {k1 k2 : Nat} {p1 p2 apos pos : Pos} {mo : EM} (ho : EOk C k env o mo) (hy : y = ⟨#[c]⟩) (hz : z.cps.toList = zl) (hne : (y == z) = false) (hzl : Nat.ble zl.length 100 = true)
  (hbase : attributeBase o "replace" env (eval o env) = eval o env) (hline : (apos.endLine == pos.line) = true) :
  EOk C k env (.Call (.Attribute o "replace" apos) [.Constant (.str y) k1 p1, .Constant (.str z) k2 p2] [] pos) (c8 mo c zl) := by
 intro A V σ σ' mv s ρ Q E hA hV hS hm h
 subst hy
 unfold c8 at hm
 split at hm
 ·rename_i l σ1 q
  match q2 : Nat.ble (fx c zl l).length 1000 with
  | false => simp only [q2] at hm; exact nS hm
  | true =>
   simp only [q2] at hm; have h := h.of hm
   refine wpAny_Call_method_lateS hbase rfl hline (ho A V σ _ _ s ρ _ _ hA hV hS q fun v s1 ρ1 st1 r1 => ?_)
   refine e14 r1 fun t t0 t1 le z4 => ?_; subst z4
   refine ⟨"str", "str.replace", PySem.F.plainAttrs_str, PySem.F.slot_str_replace, PySem.F.type_str_replace, typeIs_str _ _ _, (fun a e => by cases e), ?_⟩
   show wpAny (pwM C) A (callWith pos (.builtin "str.replace") [.str ⟨l.toArray⟩ t] [(false, eval (.Constant (.str ⟨#[c]⟩) k1 p1) env), (false, eval (.Constant (.str z) k2 p2) env)] []) Q E s1
   refine callWith_builtin rfl (evalArgs_plain (spliced_cons (wpAny_Constant_str (spliced_cons (wpAny_Constant_str (spliced_nil ?_))))))
   have le1 := Nat.le_of_ble_eq_true q2
   have lez := Nat.le_of_ble_eq_true hzl
   have zlen : z.length = zl.length := by rw [← hz]; simp [Str.length]
   have xlen : (⟨l.toArray⟩ : Str).length = l.length := by simp [Str.length]
   have ez : (⟨zl.toArray⟩ : Str) = z := by rw [← hz]
   have key : Txt.replace ⟨l.toArray⟩ ⟨#[c]⟩ z = ⟨(fx c zl l).toArray⟩ := mM (by rw [← ez, pK])
   have hpos := st1.st.toks
   have hb : (⟨l.toArray⟩ : Str).length + ((⟨l.toArray⟩ : Str).length + 1) * z.length ≤ 16777216 := by
    rw [xlen, zlen]
    have : (l.length + 1) * zl.length ≤ 1001 * 100 := Nat.mul_le_mul (by lia) lez
    lia
   have hl : PySem.Builtin.Str.tooLong ((⟨l.toArray⟩ : Str).length + (PySem.Builtin.Str.occurrences ⟨l.toArray⟩ ⟨#[c]⟩ 0 (⟨l.toArray⟩ : Str).length ((⟨l.toArray⟩ : Str).length + 1)).length * z.length) = false := by
    have h1 := StrLaws.occ_length_le ⟨l.toArray⟩ ⟨#[c]⟩ 0 (⟨l.toArray⟩ : Str).length ((⟨l.toArray⟩ : Str).length + 1)
    have h2 := Nat.mul_le_mul_right z.length h1
    unfold PySem.Builtin.Str.tooLong
    rw [sizeLine_eq]
    exact decide_eq_false (by lia)
   refine call_gives PySem.F.slot_str_replace (typeIs_str _ _ _) PySem.F.entry_str_replace (PySem.F.args_str_replace_3 _ _ _) (gives_str_replace ⟨l.toArray⟩ ⟨#[c]⟩ z t s1.toks (s1.toks + 1) fun _ => ⟨?_, ?_, hne, hl⟩) ?_
   ·have a1 : (s1.toks == 0) = false := beq_eq_false_iff_ne.mpr (Nat.ne_of_gt hpos)
    have a2 : (s1.toks + 1 == 0) = false := beq_eq_false_iff_ne.mpr (Nat.succ_ne_zero _)
    rw [a1, a2]; rfl
   ·exact beq_eq_false_iff_ne.mpr (Nat.ne_of_lt (Nat.lt_succ_self _))
   ·unfold Txt.replace at key
    split
    ·rename_i hc
     rw [if_pos hc] at key
     rw [key]
     exact h _ _ ρ1 (st1.trans (.tok st1.st (Nat.le_trans (Nat.le_succ _) (Nat.le_succ _)))) ⟨t, t0, Nat.lt_succ_of_lt (Nat.lt_succ_of_lt t1), le1, rfl⟩
    ·rename_i hc
     rw [if_neg hc] at key
     rw [key]
     refine ⟨?_, h _ _ ρ1 (st1.trans (.tok st1.st (Nat.le_trans (Nat.le_succ _) (Nat.le_trans (Nat.le_succ _) (Nat.le_succ _))))) ⟨s1.toks + 1 + 1, Nat.succ_pos _, Nat.lt_succ_self _, le1, rfl⟩⟩
     show (fx c zl l).toArray.size ≤ sizeLine
     have := bk
     simp only [List.size_toArray]; lia
 ·exact nS hm
noncomputable def aZ : FM
 | [.int n], σ => match Nat.ble n.natAbs 1000000 with
  | true => some (.rng 0 1 n.toNat, σ)
  | false => none
 | [.int a, .int b], σ => match Nat.ble a.natAbs 1000000, Nat.ble b.natAbs 1000000 with
  | true, true => some (.rng a 1 (b - a).toNat, σ)
  | _, _ => none
 | [.int a, .int b, .int c], σ => match Nat.ble 1 c.toNat, Nat.ble c.natAbs 1000000, Builtin.Range.small a b c with
  | true, true, true => some (.rng a c (Builtin.Range.rangeSize a b c).toNat, σ)
  | _, _, _ => none
 | _, _ => none
noncomputable def bu (a c : Int) : Nat → List MV
 | 0 => []
 | n + 1 => .int a :: bu (a + c) c n
def jS : FM
 | [.rng a c n], σ => match Nat.ble n 1000000 with
  | true => some (.ref σ.length, σ ++ [bu a c n])
  | false => none
 | [.str l], σ => some (.ref σ.length, σ ++ [l.map fun c => .txt [c]])
 | _, _ => none
theorem fQ (a c : Int) (n : Nat) : (bu a c n).length = n := by
 induction n generalizing a with
 | zero => rfl
 | succ n ih => rw [bu, List.length_cons, ih]
theorem jc (a c : Int) (n : Nat) : ∀ i, i < n → (bu a c n)[i]? = some (.int (a + i * c)) := by
 induction n generalizing a with
 | zero => intro i h; lia
 | succ n ih =>
  intro i h
  cases i with
  | zero => simp [bu]
  | succ i =>
   rw [bu, List.getElem?_cons_succ, ih (a + c) i (by lia)]
   congr 2
   push_cast
   rw [Int.add_mul, Int.one_mul]
   lia
theorem jq {w : World} {n : Nat} {h : Heap} {ρ : List Addr} : ∀ {xs : List MV} {vs : List Value}, vs.length = xs.length → (∀ (i : Nat) v x, vs[i]? = some v → xs[i]? = some x → a7 w n h ρ v x) → bV w n h ρ vs xs
 | [], [], _, _ => .nil
 | [], _ :: _, e, _ => by simp at e
 | _ :: _, [], e, _ => by simp at e
 | x :: xs, v :: vs, e, hh => .cons (hh 0 v x rfl rfl) (jq (by simpa using e) fun i v x h1 h2 => hh (i + 1) v x (by simpa using h1) (by simpa using h2))
set_option tactic.hygienic true in
theorem cr : ei C k (.type "range") aZ := by
 intro A σ σ' args mv vals s ρ Q E hA hS hr hg h
 unfold aZ at hg
 split at hg
 ·rename_i n
  match q : Nat.ble n.natAbs 1000000 with
  | false => simp only [q] at hg; exact nS hg
  | true =>
   simp only [q] at hg; have h := h.of hg
   have le := Nat.le_of_ble_eq_true q
   obtain ⟨v, rfl, t, rfl⟩ := hr.one
   refine call_range_1 (h _ _ ρ (aT.heap hS (Nat.le_trans (Nat.le_succ _) (Nat.le_succ _)) fun _ _ e => Heap.get?_push_of_some _ e) ⟨_, n, _, _, _, rfl, IsRange.new .., small_one (by lia) (by lia) (by lia) (by lia), ?_⟩)
   rw [rangeSize_one]; split <;> lia
 ·rename_i a b
  cases q : Nat.ble a.natAbs 1000000 <;> cases q2 : Nat.ble b.natAbs 1000000 <;> simp only [q, q2] at hg <;> first | (exact nS hg; done) | skip
  have h := h.of hg
  have le := Nat.le_of_ble_eq_true q
  have le2 := Nat.le_of_ble_eq_true q2
  obtain ⟨v, u, rfl, ⟨t, rfl⟩, ⟨t2, rfl⟩⟩ := hr.two
  refine call_range_2 (h _ _ ρ (aT.heap hS (Nat.le_succ _) fun _ _ e => Heap.get?_push_of_some _ e) ⟨_, b, _, _, _, rfl, IsRange.new .., small_one (by lia) (by lia) (by lia) (by lia), ?_⟩)
  rw [rangeSize_one]; split <;> lia
 ·rename_i a b c
  cases q : Nat.ble 1 c.toNat <;> cases q2 : Nat.ble c.natAbs 1000000 <;> cases q3 : Builtin.Range.small a b c <;> simp only [q, q2, q3] at hg <;> first | (exact nS hg; done) | skip
  have h := h.of hg
  have le := Nat.le_of_ble_eq_true q
  have le2 := Nat.le_of_ble_eq_true q2
  cases hr with
  | cons ra hr2 =>
   obtain ⟨t, rfl⟩ := ra
   obtain ⟨v, u, rfl, ⟨t1, rfl⟩, ⟨t2, rfl⟩⟩ := hr2.two
   refine call_range_3 (by lia) (h _ _ ρ (aT.heap hS (Nat.le_refl _) fun _ _ e => Heap.get?_push_of_some _ e) ⟨_, b, _, _, _, rfl, IsRange.new .., q3, ?_⟩) (Or.inl (PyProof.noPylong_small (by lia)))
   have hc : c > 0 := by lia
   have : 0 ≤ Builtin.Range.rangeSize a b c := by
    unfold Builtin.Range.rangeSize
    rw [if_pos hc]
    split
    ·have : 0 ≤ (b - a - 1) / c := Int.ediv_nonneg (by lia) (by lia)
     lia
    ·exact Int.le_refl _
   lia
 ·exact nS hg
set_option tactic.hygienic true in
theorem rA : ei C k (.type "list") jS := by
 intro A σ σ' args mv vals s ρ Q E hA hS hr hg h
 unfold jS at hg
 split at hg
 ·rename_i a c n
  cases q : Nat.ble n 1000000 with
  | false => simp only [q] at hg; exact nS hg
  | true =>
   simp only [q] at hg; cases hg
   have le := Nat.le_of_ble_eq_true q
   obtain ⟨v, rfl, ad, b, t, u, x, rfl, hr2, hsm, hn⟩ := hr.one
   refine wpAny_with_toks (Nat.le_refl s.toks) (call_list_range hA.1 hr2 hsm hn (Nat.le_trans le (by decide)) fun h' tk acc c' hk hl hit htk => ?_)
   refine h _ _ _ (aT.alloc (vs := acc.toList) hS htk hk (dS _) ⟨c', by simpa using hl⟩ ?_) (jM hS)
   refine jq (by rw [fQ]; simpa using hit.1) fun i v x h1 h2 => ?_
   have hi : i < n := by rw [← fQ a c n]; exact (List.getElem?_eq_some_iff.mp h2).1
   rw [jc a c n i hi] at h2
   cases h2
   exact hit.2 i v (by simpa using h1)
 ·rename_i l
  cases hg
  obtain ⟨v, rfl, t, t0, t1, le, rfl⟩ := hr.one
  have := bk
  refine wpAny_with_toks (Nat.le_refl s.toks) (call_list_str hA.1 ⟨l.toArray⟩ t (fun h' tk acc c' hk hl hit htk => ?_) (by simp; lia))
  refine h _ _ _ (aT.alloc (vs := acc.toList) hS htk hk (dS _) ⟨c', by simpa using hl⟩ ?_) (jM hS)
  refine jq (by have := hit.1; simpa using this) fun i v x h1 h2 => ?_
  refine e22 (hit.2 i v (by simpa using h1)) fun c u hc z3 => ?_; subst z3
  rw [List.getElem?_map] at h2
  have hc' : l[i]? = some c := by simpa using hc
  rw [hc'] at h2
  cases h2
  exact ⟨u, by simp, rfl⟩
 ·exact nS hg
end
inductive BB : List (Option Expr) → List Expr → List (Str × Str) → Prop
 | nil : BB [] [] []
 | cons {x y : Str} {k1 k2 : Nat} {p1 p2 : Pos} {ks : List (Option Expr)} {vs : List Expr} {D : List (Str × Str)} : BB ks vs D → BB (some (.Constant (.str x) k1 p1) :: ks) (.Constant (.str y) k2 p2 :: vs) ((x, y) :: D)
noncomputable def nP (D : List (Str × Str)) : List (List Nat × List Nat) := D.map fun p => (p.1.cps.toList, p.2.cps.toList)
inductive jG (n : Nat) : List (Value × Value) → List (Str × Str) → Prop
 | nil : jG n [] []
 | cons {x y : Str} {t u : Tok} {vs : List (Value × Value)} {D : List (Str × Str)} : 0 < u → u < n → jG n vs D → jG n ((.str x t, .str y u) :: vs) ((x, y) :: D)
theorem jG.mono {n n' : Nat} (le : n ≤ n') {vs D} (d : jG n vs D) : jG n' vs D := by
 induction d with
 | nil => exact .nil
 | cons a b _ ih => exact .cons a (Nat.lt_of_lt_of_le b le) ih
theorem jG.keys {n : Nat} {vs D} (d : jG n vs D) : allStrKeys vs = true ∧ (strPairs vs).map (·.1) = D.map (·.1) := by
 induction d with
 | nil => exact ⟨rfl, rfl⟩
 | cons _ _ _ ih => exact ⟨ih.1, by show _ :: (strPairs _).map _ = _ :: _; rw [ih.2]⟩
theorem jG.look {n : Nat} {vs D} (d : jG n vs D) (hl : D.all (fun p => Nat.ble p.2.cps.size 1000) = true) (x : Str) : match dl (nP D) x.cps.toList with
  | some l => ∃ t, 0 < t ∧ t < n ∧ l.length ≤ 1000 ∧ valueAt (strPairs vs) x = some (.str ⟨l.toArray⟩ t)
  | none => valueAt (strPairs vs) x = none := by
 induction d with
 | nil => rfl
 | @cons a b t u vs D h1 h2 d ih =>
  rw [List.all_cons, Bool.and_eq_true] at hl
  have ih := ih hl.2
  have e : strPairs ((Value.str a t, Value.str b u) :: vs) = (a, .str b u) :: strPairs vs := rfl
  rw [e]
  show match (if a.cps.toList = x.cps.toList then some b.cps.toList else dl (nP D) x.cps.toList) with
   | some l => ∃ t, 0 < t ∧ t < n ∧ l.length ≤ 1000 ∧ valueAt ((a, .str b u) :: strPairs vs) x = some (.str ⟨l.toArray⟩ t)
   | none => valueAt ((a, .str b u) :: strPairs vs) x = none
  by_cases q : a = x
  ·subst q
   rw [if_pos rfl]
   refine ⟨u, h1, h2, ?_, ?_⟩
   ·have := Nat.le_of_ble_eq_true hl.1
    simpa using this
   ·simp [valueAt]
  ·have q' : ¬ a.cps.toList = x.cps.toList := fun e => q (mM e)
   rw [if_neg q']
   have e2 : valueAt ((a, Value.str b u) :: strPairs vs) x = valueAt (strPairs vs) x := by
    simp [valueAt, q]
   rw [e2]
   exact ih
section
variable {C : Sys} {k : Nat} {env : Env}
theorem GI {A : Around} {E : Value → Shared → Prop} {M : Model} {prog : Program} {w : World} {pos : Pos} {ks : List (Option Expr)} {vs : List Expr} {D : List (Str × Str)} (d : BB ks vs D) : ∀ (s : Shared) (Q : List (Value × Value) → Shared → Prop), 0 < s.toks →
  (∀ vals t, s.toks ≤ t → jG t vals D → Q vals { s with toks := t }) → wpAny (model prog w) A (evalPairs (pairTrees ks vs env pos)) Q E s := by
 induction d with
 | nil => intro s Q h0 h; exact pairTrees_nil_walk (h [] s.toks (Nat.le_refl _) .nil)
 | cons d ih =>
  intro s Q h0 h
  refine pairTrees_cons_walk (wpAny_Constant_str (wpAny_Constant_str (ih _ _ (Nat.succ_pos _) fun vals t le dv => ?_)))
  have le' : s.toks + 1 + 1 ≤ t := le
  exact h _ t (by lia) (.cons (Nat.succ_pos _) le' dv)
noncomputable def BL (D : List (Str × Str)) : Bool := D.any fun p => match p.1.cps.toList with
 | [c] => Nat.blt c 48
 | _ => false
noncomputable def AL : List Str → Bool
 | [] => true
 | x :: r => r.all (fun y => !(x == y)) && AL r
theorem nY : ∀ {l : List Str}, AL l = true → l.Nodup := by
 intro l
 induction l with
 | nil =>
  intro _
  exact List.nodup_nil
 | cons x r ih =>
  intro h
  unfold AL at h
  rw [Bool.and_eq_true] at h
  refine List.nodup_cons.mpr ⟨fun m => ?_, ih h.2⟩
  have := List.all_eq_true.mp h.1 x m
  simp at this
set_option tactic.hygienic true in
theorem EOk.dict {ks : List (Option Expr)} {vs : List Expr} {D : List (Str × Str)} {es : List (List Nat × List Nat)} {pos : Pos} (d : BB ks vs D) (hes : nP D = es) (hs : BL D = true) (hd : AL (D.map (·.1)) = true) (hl : D.all (fun p => Nat.ble p.2.cps.size 1000) = true)
  (hall : ks.all (·.isSome) = true) (hlen : ks.length = vs.length) (h0 : ks ≠ []) (h15 : ks.length ≤ 15) : EOk C k env (.Dict ks vs pos) (mK (.dct es)) := by
 intro A V σ σ' mv s ρ Q E hA hV hS hm h
 cases hm
 subst hes
 refine wpAny_Dict_walk (prog := P0) (knd := strKind P0 C.w) hall hlen h0 h15 (GI (M := pwM C) d _ _ hS.toks fun vals t le dv => ?_)
 have hn : s.heap.get? s.heap.objs.size = none := dS _
 have hnew : (s.heap.push { cls := .type "dict", data := .dict #[] }).DictOf (strKind P0 C.w) s.heap.objs.size [] := ⟨_, _, _, Heap.get?_push_size _ rfl, ⟨rfl, rfl, rfl⟩, rfl, fun e he => by simp at he, .nil, List.nodup_nil⟩
 obtain ⟨hk1, hk2⟩ := dv.keys
 refine display_done_str (h₁ := s.heap.push { cls := .type "dict", data := .dict #[] }) (P := fun h' => Q (.ref s.heap.objs.size) { s with heap := h', toks := t + vals.length }) hk1 (by rw [hk2]; exact nY hd) hnew fun h' hdo hsb => ?_
 have hk : ∀ b o, s.heap.get? b = some o → h'.get? b = some o := fun b o e => (hsb.2 b (Nat.ne_of_lt (Heap.lt_size e))).trans (Heap.get?_push_of_some _ e)
 have lt : s.toks ≤ t + vals.length := Nat.le_trans le (Nat.le_add_right _ _)
 refine h _ _ ρ (aT.heap hS lt hk) ⟨_, rfl, ?_, ?_⟩
 ·have : (s.heap.objs.size == sysModules) = false := by
   refine beq_eq_false_iff_ne.mpr fun e => ?_
   have hx : (KF C.w.params).lookup sysModules = some (KF C.w.params).head!.2 ∨ ∃ o, (KF C.w.params).lookup sysModules = some o := .inr ⟨_, rfl⟩
   obtain ⟨o, ho⟩ : ∃ o, (KF C.w.params).lookup sysModules = some o := ⟨_, rfl⟩
   have := hS.keep _ _ (C.X _ _ ho)
   rw [← e, hn] at this; exact nS this
  exact this
 ·refine e35 hdo.mapOf fun o ents ep e ex dd kk q => ?_
  refine ⟨o, ents, ep, valueAt (strPairs vals), e, ?_, ex, dd, kk, q, fun x => ?_⟩
  ·refine e12 (List.any_eq_true.mp hs) fun p hp hc => ?_
   split at hc
   ·rename_i c hcps
    rw [Nat.blt_eq] at hc
    have hx : p.1 = ⟨#[c]⟩ := mM hcps
    have hv := dv.look hl p.1
    have hdl : ∃ l, dl (nP D) p.1.cps.toList = some l := by
     clear hv hd hk2 hk1 d dv hs hl h
     induction D with
     | nil => cases hp
     | cons a D ih =>
      show ∃ l, (if a.1.cps.toList = p.1.cps.toList then some a.2.cps.toList else dl (nP D) p.1.cps.toList) = some l
      by_cases qq : a.1.cps.toList = p.1.cps.toList
      ·rw [if_pos qq]; exact ⟨_, rfl⟩
      ·rw [if_neg qq]
       rcases List.mem_cons.mp hp with rfl | hp
       ·exact absurd rfl qq
       ·exact ih hp
    obtain ⟨l, hl'⟩ := hdl
    rw [hl'] at hv
    refine e14 hv fun t' _ _ _ hv => ?_
    have := q p.1
    rw [hv] at this
    unfold findBy at this
    rw [Option.map_eq_some_iff] at this
    refine e12 this fun en hen _ => ?_
    have hmem := Array.mem_of_find?_eq_some hen
    have his := Array.find?_some hen
    obtain ⟨t2, hk2'⟩ := Value.isStrOf_shape his
    exact .inr (.inl ⟨ents, ep, dd, en, hmem, c, t2, by rw [hk2', hx], hc⟩)
   ·exact nB hc
  ·have := dv.look hl x
   match hq : dl (nP D) x.cps.toList with
   | none => rw [hq] at this; exact this
   | some l =>
    rw [hq] at this
    refine e14 this fun t' a b c e => ?_
    exact ⟨t', a, Nat.lt_of_lt_of_le b (Nat.le_add_right _ _), c, e⟩
end
inductive Src where
 | lst (i : Nat)
 | asc (x : List Nat) (t : Tok)
 | wid (x : List Nat) (t : Tok)
 | rg (a c : Int) (n : Nat)
noncomputable def dO (ρ : List Addr) (I : Addr) (j : Nat) (h : Heap) : Src → Prop
 | .lst i => ∃ ax, ρ[i]? = some ax ∧ h.IsListIter I ax j
 | .asc x t => h.IsStrIter I "str_ascii_iterator" ⟨x.toArray⟩ t j
 | .wid x t => h.IsStrIter I "str_iterator" ⟨x.toArray⟩ t j
 | .rg a c n => IsRangeIter h I (a + (j : Nat) * c) ((n : Int) - (j : Nat)) c
def fw (σ : ac) (items : List MV) : Src → Prop
 | .lst i => am σ i = some items
 | .asc x _ => items = x.map fun c => .str [c]
 | .wid x _ => items = x.map fun c => .str [c]
 | .rg a c n => items = bu a c n
noncomputable def isS : Src → Bool
 | .lst _ => false
 | _ => true
def d1 (I : Addr) (h h' : Heap) : Prop := ∀ b o, b ≠ I → h.get? b = some o → h'.get? b = some o
theorem dO.obj {ρ : List Addr} {I : Addr} {j : Nat} {h : Heap} {src : Src} (a : dO ρ I j h src) : ∃ o, h.get? I = some o ∧ ¬ isL o ∧ ¬ isV o := by
 cases src with
 | lst i => obtain ⟨ax, _, o, ho, hc, hd⟩ := a; exact ⟨o, ho, eY hd, dQ hd hc (by decide)⟩
 | asc x t => refine e13 a fun o ho hc hd => ?_; exact ⟨o, ho, eY hd, dQ hd hc (by decide)⟩
 | wid x t => refine e13 a fun o ho hc hd => ?_; exact ⟨o, ho, eY hd, dQ hd hc (by decide)⟩
 | rg a' c n => exact ⟨_, a, eY rfl, dQ rfl rfl (by decide)⟩
theorem dO.keep {ρ ρ' : List Addr} {I : Addr} {j : Nat} {h h' : Heap} {src : Src} (a : dO ρ I j h src) (p : ρ <+: ρ') (k : ∀ o, h.get? I = some o → ¬ isL o → h'.get? I = some o) : dO ρ' I j h' src := by
 refine e13 a.obj fun o' ho' nl _ => ?_
 cases src with
 | lst i =>
  obtain ⟨ax, hax, o, ho, r⟩ := a
  refine ⟨ax, ?_, o, k o ho (by rw [ho] at ho'; cases ho'; exact nl), r⟩
  obtain ⟨t, rfl⟩ := p
  rw [List.getElem?_append_left]; exact hax; exact (List.getElem?_eq_some_iff.mp hax).1
 | asc x t => refine e12 a fun o ho r => ?_; exact ⟨o, k o ho (by rw [ho] at ho'; cases ho'; exact nl), r⟩
 | wid x t => refine e12 a fun o ho r => ?_; exact ⟨o, k o ho (by rw [ho] at ho'; cases ho'; exact nl), r⟩
 | rg a' c n => exact k _ a (by have a' : h.get? I = some _ := a; rw [a'] at ho'; cases ho'; exact nl)
section
variable {C : Sys} {k : Nat} {env : Env} {σ : ac} {ρ : List Addr} {s : Shared}
theorem dX.of_keep1 {I : Addr} {h h' : Heap} (ho : ∃ o, h.get? I = some o ∧ ¬ isV o) (k : d1 I h h') : dX h h' := fun b o e v => k b o (fun q => by
 refine e12 ho fun o' ho' nv => ?_
 rw [← q, e] at ho'; cases ho'; exact nv v) e
theorem MSt.keep1 (a : MSt C σ ρ s) {I : Addr} (hI : C.h₁.get? I = none) (ho : ∃ o, s.heap.get? I = some o ∧ ¬ isL o ∧ ¬ isV o) {h : Heap} {t : Nat} (k : d1 I s.heap h) (le : s.toks ≤ t) : MSt C σ ρ { s with heap := h, toks := t } := by
 refine e13 ho fun o ho nl nv => ?_
 have ev : dX s.heap h := dX.of_keep1 ⟨o, ho, nv⟩ k
 refine ⟨a.len, a.nodup, a.fresh, fun b o' e => k b o' (fun q => by rw [q, hI] at e; exact nS e) (a.keep b o' e), a.gens, a.os, Nat.le_trans a.tk0 le, fun i xs ad e1 e2 => ?_⟩
 refine e12 (a.cells i xs ad e1 e2) fun vs hp hr => ?_
 refine ⟨vs, hp.at fun o' e => k ad o' (fun q => ?_) e, hr.mono le ev (List.prefix_refl _)⟩
 obtain ⟨n, hn⟩ := hp
 rw [q, ho] at hn; cases hn
 exact nl ⟨rfl, _, _, rfl⟩
theorem zJ {A : Around} {E : Value → Shared → Prop} {Q : Option Value → Shared → Prop} {src : Src} {I : Addr} {j : Nat} {items : List MV} {mv : MV} (a : MSt C σ ρ s) (hI : C.h₁.get? I = none) (it : dO ρ I j s.heap src) (hi : fw σ items src) (hj : items[j]? = some mv)
  (h : ∀ v h' tk, s.toks ≤ tk → d1 I s.heap h' → dO ρ I (j + 1) h' src → a7 C.w tk h' ρ v mv → (isS src = true → ∀ x u, v = .str x u → s.toks ≤ u) → Q (some v) { s with heap := h', toks := tk }) : wpAny (pwM C) A (pyNext (.ref I)) Q E s := by
 refine e13 it.obj fun o ho nl nv => ?_
 cases src with
 | lst i =>
  refine e12 it fun ax hax hit => ?_
  refine e23 (a.addr hi) fun ad vs h1 l1 rl => ?_
  rw [hax] at h1; cases h1
  refine e12 (rl.get hj) fun v hv rv => ?_
  have hne : ax ≠ I := fun q => by
   obtain ⟨n, hn⟩ := l1
   rw [q, ho] at hn; cases hn
   exact nl ⟨rfl, _, _, rfl⟩
  refine wpAny_pyNext_list_item hit l1.isList (x := v) (by simpa using hv) fun h' hit' hs' => ?_
  have k1 : d1 I s.heap h' := fun b o hb e => (hs'.2 b hb).trans e
  exact h v h' s.toks (Nat.le_refl _) k1 ⟨ax, hax, hit'⟩ (rv.mono (Nat.le_refl _) (dX.of_keep1 ⟨o, ho, nv⟩ k1) (List.prefix_refl _)) (by intro e; exact nB e)
 | asc x t =>
  have hi : items = x.map fun c => .str [c] := hi
  subst hi
  rw [List.getElem?_map, Option.map_eq_some_iff] at hj
  refine e12 hj fun c hc z2 => ?_; subst z2
  refine wpAny_pyNext_ascii_item it (c := c) (by simpa using hc) fun h' hit' hs' => ?_
  exact h _ h' _ (Nat.le_succ _) (fun b o hb e => (hs'.2 b hb).trans e) hit' ⟨s.toks, a.toks, Nat.lt_succ_self _, by simp, rfl⟩ fun _ x u e => by injection e with _ e; rw [← e]; exact Nat.le_refl _
 | wid x t =>
  have hi : items = x.map fun c => .str [c] := hi
  subst hi
  rw [List.getElem?_map, Option.map_eq_some_iff] at hj
  refine e12 hj fun c hc z2 => ?_; subst z2
  refine wpAny_pyNext_wide_item it (c := c) (by simpa using hc) fun h' hit' hs' => ?_
  exact h _ h' _ (Nat.le_succ _) (fun b o hb e => (hs'.2 b hb).trans e) hit' ⟨s.toks, a.toks, Nat.lt_succ_self _, by simp, rfl⟩ fun _ x u e => by injection e with _ e; rw [← e]; exact Nat.le_refl _
 | rg a' c n =>
  have hi : items = bu a' c n := hi
  subst hi
  have hlt : j < n := by rw [← fQ a' c n]; exact (List.getElem?_eq_some_iff.mp hj).1
  rw [jc a' c n j hlt] at hj
  cases hj
  refine wpAny_pyNext_range_item it (by lia) fun h' hit' hs' => ?_
  refine h _ h' _ (Nat.le_succ _) (fun b o hb e => (hs'.2 b hb).trans e) ?_ ⟨_, rfl⟩ fun _ x u e => by cases e
  have e1 : a' + ((j + 1 : Nat) : Int) * c = a' + (j : Int) * c + c := by push_cast; rw [Int.add_mul, Int.one_mul, Int.add_assoc]
  have e2 : (n : Int) - ((j + 1 : Nat) : Int) = (n : Int) - (j : Int) - 1 := by push_cast; lia
  show IsRangeIter h' I _ _ c
  rw [e1, e2]; exact hit'
theorem Gk {A : Around} {E : Value → Shared → Prop} {Q : Option Value → Shared → Prop} {src : Src} {I : Addr} {items : List MV} (hA : A.handled = none) (a : MSt C σ ρ s) (it : dO ρ I items.length s.heap src) (hi : fw σ items src)
  (h : ∀ h', d1 I s.heap h' → Q none { s with heap := h' }) : wpAny (pwM C) A (pyNext (.ref I)) Q E s := by
 cases src with
 | lst i =>
  refine e12 it fun ax hax hit => ?_
  refine e23 (a.addr hi) fun ad vs h1 l1 rl => ?_
  rw [hax] at h1; cases h1
  exact wpAny_pyNext_list_end hA hit l1.isList (by simp [rl.length]) fun h' hs' => h h' fun b o hb e => hs' b o hb e
 | asc x t =>
  have hi : items = x.map fun c => .str [c] := hi
  subst hi
  have it' : s.heap.IsStrIter I "str_ascii_iterator" ⟨x.toArray⟩ t x.length := by simpa [dO] using it
  exact wpAny_pyNext_ascii_end hA it' (by simp) fun h' hs' => h h' fun b o hb e => hs' b o hb e
 | wid x t =>
  have hi : items = x.map fun c => .str [c] := hi
  subst hi
  have it' : s.heap.IsStrIter I "str_iterator" ⟨x.toArray⟩ t x.length := by simpa [dO] using it
  exact wpAny_pyNext_wide_end hA it' (by simp) fun h' hs' => h h' fun b o hb e => hs' b o hb e
 | rg a' c n =>
  have hi : items = bu a' c n := hi
  subst hi
  rw [fQ] at it
  exact wpAny_pyNext_range_end hA it (by lia) fun h' hs' => h h' fun b o hb e => hs' b o hb e
def cW : MV → ac → Option (List MV)
 | .ref i, σ => am σ i
 | .str l, _ => some (l.map fun c => .str [c])
 | .rng a c n, _ => some (bu a c n)
 | _, _ => none
noncomputable def NY : MV → Bool
 | .ref _ => true
 | _ => false
def ck (v : MV) (items : List MV) (σ : ac) : Bool := match v with
 | .ref i => @decide (am σ i = some items) (Classical.propDecidable _)
 | _ => true
theorem lh {σ : ac} {i : Nat} {its : List MV} (h : am σ i = some its) : ck (.ref i) its σ = true := @decide_eq_true _ (Classical.propDecidable _) h
def pE (v : MV) (src : Src) : Prop := match v, src with
 | .ref i, .lst j => i = j
 | .ref _, _ => False
 | _, .lst _ => False
 | _, _ => True
theorem fP {v : MV} {src : Src} {items : List MV} {σ σ' : ac} (h : pE v src) (a : fw σ items src) (q : ck v items σ' = true) : fw σ' items src := by
 cases v <;> cases src <;> first | exact h.elim | exact a | skip
 have h : _ = _ := h
 subst h
 exact @of_decide_eq_true (am σ' _ = some items) (Classical.propDecidable _) q
set_option tactic.hygienic true in
theorem kY {A : Around} {E : Value → Shared → Prop} {Q : Value → Shared → Prop} {v : Value} {mv : MV} {items : List MV} (a : MSt C σ ρ s) (r : a7 C.w s.toks s.heap ρ v mv) (hi : cW mv σ = some items)
  (h : ∀ src o, pE mv src → dO ρ s.heap.objs.size 0 (s.heap.push o) src → fw σ items src → (NY mv = false → isS src = true) → Q (.ref s.heap.objs.size) { s with heap := s.heap.push o }) : wpAny (pwM C) A (pyIter v) Q E s := by
 cases mv <;> first | (exact nS hi; done) | skip
 ·rename_i l
  cases hi
  refine e14 r fun t _ _ _ z4 => ?_; subst z4
  cases ha : (⟨l.toArray⟩ : Str).cps.all (· < 128)
  ·exact wpAny_pyIter_wide ha (h (.wid l t) _ trivial ⟨_, Heap.get?_push_size _ rfl, rfl, rfl⟩ rfl fun _ => rfl)
  ·exact wpAny_pyIter_ascii ha (h (.asc l t) _ trivial ⟨_, Heap.get?_push_size _ rfl, rfl, rfl⟩ rfl fun _ => rfl)
 ·rename_i i
  refine e24 (r.list a hi) fun ad vs z2 h1 l1 rl => ?_; subst z2
  exact wpAny_pyIter_list l1.isList (h (.lst i) _ rfl ⟨ad, h1, _, Heap.get?_push_size _ rfl, rfl, rfl⟩ hi fun e => by exact nT e)
 ·rename_i a' c n
  cases hi
  refine e54 r fun ad b t u x z5 hr hsm hn => ?_; subst z5
  refine wpAny_pyIter_range hr hsm (h (.rg a' c n) _ trivial ?_ rfl fun _ => rfl)
  rw [hn]
  show IsRangeIter _ _ (a' + ((0 : Nat) : Int) * c) ((n : Int) - ((0 : Nat) : Int)) c
  have e1 : a' + ((0 : Nat) : Int) * c = a' := by simp
  have e2 : (n : Int) - ((0 : Nat) : Int) = n := by simp
  rw [e1, e2]
  exact Heap.get?_push_size _ rfl
structure fc (C : Sys) (env : Env) : Prop where
 loc : C.h₁.get? env.locals = none
 cel : ∀ n c, env.kindOf n = some .cell → env.cells.lookup n = some c → C.h₁.get? c = none
def mG (env : Env) (h h' : Heap) : Prop := ∀ b o, b ≠ env.locals → (∀ n, env.kindOf n = some .cell → env.cells.lookup n ≠ some b) → h.get? b = some o → ¬ isL o → h'.get? b = some o
theorem mG.trans {env : Env} {h h' h'' : Heap} (a : mG env h h') (b : mG env h' h'') : mG env h h'' := fun x o e1 e2 e3 e4 => b x o e1 e2 (a x o e1 e2 e3 e4) e4
theorem mG.of_ext {env : Env} {h h' : Heap} (a : Ext h h') : mG env h h' := fun x o _ _ e n => a x o e n
structure ct (C : Sys) (env : Env) (s : Shared) (ρ : List Addr) (σ' : ac) (s' : Shared) (ρ' : List Addr) : Prop where
 pre : ρ <+: ρ'
 st : MSt C σ' ρ' s'
 keep : mG env s.heap s'.heap
 exv : dX s.heap s'.heap
 tk : s.toks ≤ s'.toks
theorem aT.ss {σ' : ac} {s' : Shared} {ρ' : List Addr} (a : aT C s ρ σ' s' ρ') : ct C env s ρ σ' s' ρ' := ⟨a.pre, a.st, mG.of_ext a.ext, a.ext.v, a.tk⟩
theorem ct.trans {σ' σ'' : ac} {s' s'' : Shared} {ρ' ρ'' : List Addr} (a : ct C env s ρ σ' s' ρ') (b : ct C env s' ρ' σ'' s'' ρ'') : ct C env s ρ σ'' s'' ρ'' :=
 ⟨a.pre.trans b.pre, b.st, a.keep.trans b.keep, a.exv.trans b.exv, Nat.le_trans a.tk b.tk⟩
theorem ct.refl (a : MSt C σ ρ s) : ct C env s ρ σ s ρ := (aT.refl a).ss
theorem a7.sstep {v : Value} {mv : MV} {σ' : ac} {s' : Shared} {ρ' : List Addr} (r : a7 C.w s.toks s.heap ρ v mv) (st : ct C env s ρ σ' s' ρ') : a7 C.w s'.toks s'.heap ρ' v mv := r.mono st.tk st.exv st.pre
theorem Iv {h : Heap} {a : Addr} {xs : Array Value} (p : h.PlainList a xs) : ∃ o, h.get? a = some o ∧ isL o := let ⟨n, e⟩ := p; ⟨_, e, rfl, _, _, rfl⟩
theorem MSt.turn (a : MSt C σ ρ s) {I : Addr} (hI : C.h₁.get? I = none) (ho : ∃ o, s.heap.get? I = some o ∧ ¬ isL o ∧ ¬ isV o) {h : Heap} {t : Nat} (k : Heap.SameBut I s.heap h) (le : s.toks ≤ t) : MSt C σ ρ { s with heap := h, toks := t } ∧ dX s.heap h :=
 ⟨a.keep1 hI ho (fun b o hb e => (k.2 b hb).trans e) le, dX.of_keep1 (let ⟨o, e, _, v⟩ := ho; ⟨o, e, v⟩) fun b o hb e => (k.2 b hb).trans e⟩
theorem jI (hE : aS env) (hL : C.h₁.get? env.locals = none) {A : Around} {E : Value → Shared → Prop} {Q : Unit → Shared → Prop} {x : Str} {V : ap} {v : Value} {mv : MV} (e : env.kindOf x = some .local) (hns : ∀ c, c < 48 → x ≠ ⟨#[c]⟩)
  (hV : aJ C.w env V s.toks ρ s.heap) (a : MSt C σ ρ s) (r : a7 C.w s.toks s.heap ρ v mv)
  (h : ∀ h', MSt C σ ρ { s with heap := h', toks := s.toks + 1 } → dX s.heap h' → (∀ b o, b ≠ env.locals → s.heap.get? b = some o → h'.get? b = some o) → (∀ t t', t ≤ t' → aJ C.w env V t ρ s.heap → a7 C.w t s.heap ρ v mv → aJ C.w env (put V (nc x) mv) t' ρ h') →
   (∃ m, h'.Ns env.locals m ∧ m x = some v ∧ ∀ t, aJ C.w env V t ρ s.heap → ∀ n mv', n ≠ x → lk (put V (nc x) mv) (nc n) = some mv' → cb C.w env t ρ h' m n mv') → Q () { s with heap := h', toks := s.toks + 1 }) : wpAny (pwM C) A (storeName env x v) Q E s := by
 obtain ⟨⟨m, ns, q, _⟩, _⟩ := hV
 refine wpAny_storeName_local e ns (fun h' hn hs => ?_) (by rw [hE.kind]; rfl)
 have ho : ∃ o, s.heap.get? env.locals = some o ∧ ¬ isL o ∧ ¬ isV o :=
  let ⟨o, es, ep, ho, hd, _⟩ := ns
  ⟨o, ho, go hd, mN ns q ho⟩
 obtain ⟨hst, hv⟩ := a.turn (t := s.toks + 1) hL ho hs (Nat.le_succ _)
 have kx : env.kindOf x ≠ none := by rw [e]; exact Option.some_ne_none _
 have old : ∀ t t', t ≤ t' → aJ C.w env V t ρ s.heap → ∀ n mv', n ≠ x → lk V (nc n) = some mv' → cb C.w env t' ρ h' (fun y => if y = x then some v else m y) n mv' := fun t t' le ⟨⟨m0, ns0, _, hr⟩, _⟩ n mv' hnx hl => by
  cases Ij ns ns0
  exact (hr n mv' hl).map (if_neg hnx) (fun _ _ _ => lS ns hs) fun _ r => r.mono le hv (List.prefix_refl _)
 refine h h' hst hv (fun b o hb e => (hs.2 b hb).trans e) (fun t t' le hVt rt => ⟨⟨_, hn, fun c hc => (if_neg fun q => hns c hc q.symm).trans (q c hc), cb.put hE kx ?_ (old t t' le hVt)⟩, fun n c e1 e2 => let ⟨v, i⟩ := hVt.cells n c e1 e2; ⟨v, lS ns hs i⟩⟩) ⟨_, hn, if_pos rfl, fun t hVt n mv' hnx hl => ?_⟩
 ·rw [cb.loc e]; exact ⟨v, if_pos rfl, rt.mono le hv (List.prefix_refl _)⟩
 ·by_cases hk : env.kindOf n = none
  ·unfold cb; rw [hk]; trivial
  ·rw [ch, if_neg fun q => hnx (hE.inj n x hk kx q)] at hl
   exact old t t (Nat.le_refl _) hVt n mv' hnx hl
theorem dr (hE : aS env) (hF : fc C env) {A : Around} {E : Value → Shared → Prop} {Q : Unit → Shared → Prop} {x : Str} {V : ap} {v : Value} {mv : MV} (hx : env.kindOf x = some .local ∨ (env.kindOf x = some .cell ∧ ∃ c, env.cells.lookup x = some c)) (hns : ∀ c, c < 48 → x ≠ ⟨#[c]⟩)
  (hV : aJ C.w env V s.toks ρ s.heap) (a : MSt C σ ρ s) (r : a7 C.w s.toks s.heap ρ v mv)
  (h : ∀ s', ct C env s ρ σ s' ρ → aJ C.w env (put V (nc x) mv) s'.toks ρ s'.heap → Q () s') : wpAny (pwM C) A (storeName env x v) Q E s := by
 rcases hx with e | ⟨e, c, hcl⟩
 ·exact jI hE hF.loc e hns hV a r fun h' hst hv kp hp _ => h _ ⟨List.prefix_refl _, hst, fun b o hb _ e _ => kp b o hb e, hv, Nat.le_succ _⟩ (hp _ _ (Nat.le_succ _) hV r)
 ·obtain ⟨⟨m, ns, q, hr⟩, hc⟩ := hV
  obtain ⟨v₀, hc0⟩ := hc x c e hcl
  refine wpAny_storeName_cell hE.kind e hcl hc0 fun h' hcv hs => ?_
  have ho : ∃ o, s.heap.get? c = some o ∧ ¬ isL o ∧ ¬ isV o := let ⟨o, ho, hd⟩ := hc0; ⟨o, ho, lw hd, Aw hd⟩
  obtain ⟨hst, hv⟩ := a.turn (t := s.toks) (hF.cel x c e hcl) ho hs (Nat.le_refl _)
  have hst' : ct C env s ρ σ { s with heap := h' } ρ := ⟨List.prefix_refl _, hst, fun b o _ hb e1 _ => (hs.2 b fun q => hb x e (by rw [hcl, q])).trans e1, hv, Nat.le_refl _⟩
  have nsk : h'.Ns env.locals m := by
   refine ns.sameBut hs fun q => ?_
   refine e33 (id ns) fun o es ep ho' hd' _ => ?_
   refine e12 hc0 fun o2 ho2 hd2 => ?_
   rw [q, ho2] at ho'; cases ho'; rw [hd2] at hd'; cases hd'
  have cellk : ∀ b v, b ≠ c → s.heap.IsCell b v → h'.IsCell b v := fun b v hb ⟨o, ho, hd⟩ => ⟨o, (hs.2 b hb).trans ho, hd⟩
  refine h _ hst' ⟨⟨m, nsk, q, cb.put hE (by rw [e]; exact Option.some_ne_none _) ?_ fun n mv' hnx hl => ?_⟩, fun n b e1 e2 => ?_⟩
  ·rw [cb.cell e]; exact ⟨c, v, hcl, hcv, r.sstep hst'⟩
  ·exact (hr n mv' hl).map rfl (fun b u h1 => cellk b u fun q => hnx (hE.cells n x c (by rw [h1, q]) hcl)) fun _ r => r.sstep hst'
  ·by_cases hb : b = c
   ·subst hb; exact ⟨_, hcv⟩
   ·exact let ⟨u, hu⟩ := hc n b e1 e2; ⟨u, cellk b u hb hu⟩
end
def we (w : World) (n : Nat) (h : Heap) (ρ : List Addr) (f : Flow) : Option MV → Prop
 | none => f = .next
 | some mv => ∃ v, f = .ret v ∧ a7 w n h ρ v mv
def PS (C : Sys) (env : Env) (s : Shared) (ρ : List Addr) (Q : Flow → Shared → Prop) (r : Option MV) (V' : ap) (σ' : ac) : Prop := ∀ f s' ρ', ct C env s ρ σ' s' ρ' → aJ C.w env V' s'.toks ρ' s'.heap → we C.w s'.toks s'.heap ρ' f r → Q f s'
theorem PS.of {C : Sys} {env : Env} {s : Shared} {ρ : List Addr} {Q : Flow → Shared → Prop} {r r' : Option MV} {V V' : ap} {σ σ' : ac} (h : PS C env s ρ Q r V σ) (e : some (r', V', σ') = some (r, V, σ)) : PS C env s ρ Q r' V' σ' := by cases e; exact h
def SOk (C : Sys) (k : Nat) (env : Env) (st : Stmt) (m : SM) : Prop :=
 ∀ (A : Around) (V V' : ap) (σ σ' : ac) (r : Option MV) (s : Shared) (ρ : List Addr) (Q : Flow → Shared → Prop) (E : Value → Shared → Prop), AOk A k → aJ C.w env V s.toks ρ s.heap → MSt C σ ρ s → m V σ = some (r, V', σ') →
  PS C env s ρ Q r V' σ' → wpAny (pwM C) A (exec st env) Q E s
def BOk (C : Sys) (k : Nat) (env : Env) (b : List Stmt) (m : SM) : Prop :=
 ∀ (A : Around) (V V' : ap) (σ σ' : ac) (r : Option MV) (s : Shared) (ρ : List Addr) (Q : Flow → Shared → Prop) (E : Value → Shared → Prop), AOk A k → aJ C.w env V s.toks ρ s.heap → MSt C σ ρ s → m V σ = some (r, V', σ') →
  PS C env s ρ Q r V' σ' → wpAny (pwM C) A (execs b env) Q E s
noncomputable def ak : SM := fun V σ => some (none, V, σ)
noncomputable def ab (a b : SM) : SM := fun V σ => match a V σ with
 | none => none
 | some (some r, V1, σ1) => some (some r, V1, σ1)
 | some (none, V1, σ1) => b V1 σ1
def aL (x : Nat) (e : EM) : SM := fun V σ => match e V σ with
 | none => none
 | some (v, σ1) => some (none, put V x v, σ1)
def m6 (x y : Nat) (e : EM) : SM := fun V σ => match e V σ with
 | none => none
 | some (v, σ1) => some (none, put (put V x v) y v, σ1)
def jU (x y : Nat) (e : EM) : SM := fun V σ => match e V σ with
 | some (.pair a b, σ1) => some (none, put (put V x a) y b, σ1)
 | _ => none
def m8 (x : Nat) (f : MV → MV → ac → Option (MV × ac)) (e : EM) : SM := fun V σ => match lk V x with
 | none => none
 | some a => match e V σ with
  | none => none
  | some (b, σ1) => match f a b σ1 with
   | none => none
   | some (c, σ2) => some (none, put V x c, σ2)
noncomputable def sIf (c : CM) (a b : SM) : SM := fun V σ => match c V σ with
 | none => none
 | some (true, σ1) => a V σ1
 | some (false, σ1) => b V σ1
noncomputable def bj (e : EM) : SM := fun V σ => match e V σ with
 | none => none
 | some (v, σ1) => some (some v, V, σ1)
noncomputable def dt (e : EM) : SM := fun V σ => match e V σ with
 | some (.none, σ1) => some (none, V, σ1)
 | _ => none
def km (o i v : EM) : SM := fun V σ => match v V σ with
 | none => none
 | some (x, σ1) => match o V σ1 with
  | some (.ref a, σ2) => match i V σ2 with
   | some (.int j, σ3) => match a, am σ3 a with
    | 0, _ => none
    | _, some xs => match decide (0 ≤ j), Nat.blt j.toNat xs.length, Nat.ble xs.length 1000000 with
     | true, true, true => some (none, V, σ3.set a (xs.set j.toNat x))
     | _, _, _ => none
    | _, none => none
   | _ => none
  | _ => none
section
variable {C : Sys} {k : Nat} {env : Env}
theorem BOk.nil : BOk C k env [] ak := by
 intro A V V' σ σ' r s ρ Q E hA hV hS hm h
 have h := h.of hm
 exact wpAny_execs_nil (h _ s ρ (.refl hS) hV rfl)
theorem BOk.cons {st : Stmt} {b : List Stmt} {m ms : SM} (h1 : SOk C k env st m) (h2 : BOk C k env b ms) : BOk C k env (st :: b) (ab m ms) := by
 intro A V V' σ σ' r s ρ Q E hA hV hS hm h
 unfold ab at hm
 match q : m V σ with
 | none => simp only [q] at hm; exact nS hm
 | some p =>
  obtain ⟨r1, V1, σ1⟩ := p
  refine wpAny_execs_cons (h1 A V V1 σ σ1 r1 s ρ _ _ hA hV hS q fun f s1 ρ1 st1 hV1 hf => ?_)
  cases r1 with
  | some x =>
   simp only [q] at hm; have h := h.of hm
   have hf' := hf
   refine e12 hf' fun v z1 _ => ?_; subst z1
   exact h _ s1 ρ1 st1 hV1 hf
  | none =>
   simp only [q] at hm
   have hf' : f = .next := hf
   subst hf'
   exact h2 A V1 V' σ1 σ' r s1 ρ1 Q E hA hV1 st1.st hm fun f s2 ρ2 st2 hV2 hf2 => h f s2 ρ2 (st1.trans st2) hV2 hf2
theorem aJ.sstep_of_mstep {V : ap} {σ : ac} {s s' : Shared} {ρ ρ' : List Addr} (hV : aJ C.w env V s.toks ρ s.heap) (st : aT C s ρ σ s' ρ') : aJ C.w env V s'.toks ρ' s'.heap := hV.step st
structure jD (env : Env) (x : Str) (c : Nat) : Prop where
 code : nc x = c
 kind : env.kindOf x = some .local ∨ (env.kindOf x = some .cell ∧ ∃ a, env.cells.lookup x = some a)
 sign : ∀ c, c < 48 → x ≠ ⟨#[c]⟩
theorem SOk.set (hE : aS env) (hF : fc C env) {x : Str} {c : Nat} {p pos : Pos} {e : Expr} {m : EM} (hx : jD env x c) (he : EOk C k env e m) (hs : swapsWith e (some (.Name x p)) pos.line env = pure false) : SOk C k env (.Assign [.Name x p] e pos) (aL c m) := by
 intro A V V' σ σ' r s ρ Q E hA hV hS hm h
 obtain ⟨rfl, hk, hsg⟩ := hx
 unfold aL at hm
 match q : m V σ with
 | none => simp only [q] at hm; exact nS hm
 | some p1 =>
  simp only [q] at hm; have h := h.of hm
  exact wpAny_Assign_Name (he A V σ p1.2 p1.1 s ρ _ _ hA hV hS q fun v s1 ρ1 st1 r1 => dr hE hF hk hsg (hV.step st1) st1.st r1 fun s2 st2 hV2 => h _ s2 ρ1 (st1.ss.trans st2) hV2 rfl) hs
theorem SOk.set2 (hE : aS env) (hF : fc C env) {x y : Str} {c d : Nat} {p p' pos : Pos} {e : Expr} {m : EM} (hx : jD env x c) (hy : jD env y d) (he : EOk C k env e m)
  (hs : swappedStores [.Name x p, .Name y p'] e env = pure none) : SOk C k env (.Assign [.Name x p, .Name y p'] e pos) (m6 c d m) := by
 intro A V V' σ σ' r s ρ Q E hA hV hS hm h
 obtain ⟨rfl, hk, hsg⟩ := hx
 obtain ⟨rfl, hk2, hsg2⟩ := hy
 unfold m6 at hm
 match q : m V σ with
 | none => simp only [q] at hm; exact nS hm
 | some p1 =>
  simp only [q] at hm; have h := h.of hm
  rw [PyProof.Rows.exec_Assign]
  refine wpAny_bind (wpAny_standAt ?_)
  refine wpAny_bind (m := swapsWithSole _ _ _ _) (wpAny_pure ?_)
  rw [if_neg (by decide)]
  refine wpAny_bind (he A V σ p1.2 p1.1 s ρ _ _ hA hV hS q fun v s1 ρ1 st1 r1 => ?_)
  rw [hs]
  refine wpAny_bind (wpAny_pure ?_)
  show wpAny (pwM C) A (do assignAll v [assign (.Name x p) env, assign (.Name y p') env]; pure .next) Q E s1
  refine wpAny_bind ?_
  show wpAny (pwM C) A (do holding [v] (assign (.Name x p) env v); (do assign (.Name y p') env v)) _ E s1
  refine wpAny_bind (wpAny_holding (wpAny_assign_Name (dr hE hF hk hsg (hV.step st1) st1.st r1 fun s2 st2 hV2 => ?_)))
  refine wpAny_assign_Name (dr hE hF hk2 hsg2 hV2 st2.st (r1.sstep st2) fun s3 st3 hV3 => wpAny_pure ?_)
  exact h _ s3 ρ1 (st1.ss.trans (st2.trans st3)) hV3 rfl
theorem NT {s s' : Shared} {h' : Heap} (e : Heap.ExtBut s.heap.objs.size s.heap h') : ∀ b o, s.heap.get? b = some o → h'.get? b = some o := fun b o x => e b o (Nat.ne_of_lt (Heap.lt_size x)) x
theorem Qt (hE : aS env) (hF : fc C env) {x y : Str} {c d : Nat} (hx : jD env x c) (hy : jD env y d) {A : Around} {V : ap} {σ : ac} {s : Shared} {ρ : List Addr} {a b : MV} {va vb : Value} {Q : Unit → Shared → Prop} {E : Value → Shared → Prop}
  (hV : aJ C.w env V s.toks ρ s.heap) (hS : MSt C σ ρ s) (ra : a7 C.w s.toks s.heap ρ va a) (rb : a7 C.w s.toks s.heap ρ vb b) {f g : Value → Sem Unit} (hf : f = fun v => do standAt default; bindName env x v) : True := trivial
set_option tactic.hygienic true in
theorem SOk.pair (hE : aS env) (hF : fc C env) {x y : Str} {c d : Nat} {p p' tp pos : Pos} {kk : Nat} {e : Expr} {m : EM} (hx : jD env x c) (hy : jD env y d) (he : EOk C k env e m)
  (hs : swapsWithSole [.Tuple [.Name x p, .Name y p'] kk tp] e pos.line env = pure false) (hw : swappedStores [.Tuple [.Name x p, .Name y p'] kk tp] e env = pure none) : SOk C k env (.Assign [.Tuple [.Name x p, .Name y p'] kk tp] e pos) (jU c d m) := by
 intro A V V' σ σ' r s ρ Q E hA hV hS hm h
 obtain ⟨rfl, hk, hsg⟩ := hx
 obtain ⟨rfl, hk2, hsg2⟩ := hy
 unfold jU at hm
 split at hm
 ·rename_i a b σ1 q
  cases hm
  refine Assign_Tuple (he A V σ _ _ s ρ _ _ hA hV hS q fun v s1 ρ1 st1 r1 => ?_) hs hw
  refine e34 r1 fun ad va vb z3 ht ra rb => ?_; subst z3
  refine wpAny_assign_Tuple hA.1 ht rfl rfl fun h' hx => ?_
  have gr : aT C s1 ρ1 σ' { s1 with heap := h' } ρ1 := aT.heap (t := s1.toks) st1.st (Nat.le_refl _) (fun b o e => hx b o (Nat.ne_of_lt (Heap.lt_size e)) e)
  show wpAny (pwM C) A (do holding [vb] (assign (.Name x p) env va); do holding [] (assign (.Name y p') env vb); pure ()) _ _ _
  refine wpAny_bind (wpAny_holding (wpAny_assign_Name (dr hE hF hk hsg ((hV.step st1).step gr) gr.st (ra.step gr) fun s2 st2 hV2 => ?_)))
  refine wpAny_bind (wpAny_holding (wpAny_assign_Name (dr hE hF hk2 hsg2 hV2 st2.st ((rb.step gr).sstep st2) fun s3 st3 hV3 => wpAny_pure ?_)))
  exact h _ s3 ρ1 (st1.ss.trans (gr.ss.trans (st2.trans st3))) hV3 rfl
 ·exact nS hm
def m5 (x y : Nat) (e : EM) : SM := fun V σ => match e V σ with
 | some (.pair a b, σ1) => some (none, put (put V y b) x a, σ1)
 | _ => none
set_option tactic.hygienic true in
theorem SOk.swap (hE : aS env) (hF : fc C env) {x y : Str} {c d : Nat} {p p' tp pos : Pos} {kk : Nat} {e : Expr} {m : EM} (hx : jD env x c) (hy : jD env y d) (he : EOk C k env e m)
  (hs : swapsWithSole [.Tuple [.Name x p, .Name y p'] kk tp] e pos.line env = pure false) (hw : swappedStores [.Tuple [.Name x p, .Name y p'] kk tp] e env = pure (some [x, y])) : SOk C k env (.Assign [.Tuple [.Name x p, .Name y p'] kk tp] e pos) (m5 c d m) := by
 intro A V V' σ σ' r s ρ Q E hA hV hS hm h
 obtain ⟨rfl, hk, hsg⟩ := hx
 obtain ⟨rfl, hk2, hsg2⟩ := hy
 unfold m5 at hm
 split at hm
 ·rename_i a b σ1 q
  cases hm
  refine Assign_Tuple_swapped (names := [x, y]) (he A V σ _ _ s ρ _ _ hA hV hS q fun v s1 ρ1 st1 r1 => ?_) hs hw
  refine e34 r1 fun ad va vb z3 ht ra rb => ?_; subst z3
  have ht' : s1.heap.IsTuple ad #[va, vb] := ht
  have key := wpAny_unpackItems_tuple (prog := P0) (w := C.w) (E := E) (Q := fun items s₂ => wpAny (pwM C) A (assignInOrder ([x, y].reverse.map fun n => bindName env n) items.reverse) (fun _ => Q .next) E s₂) hA.1 ht' (fun h' hx => ?_)
  ·exact key
  have gr : aT C s1 ρ1 σ' { s1 with heap := h' } ρ1 := aT.heap (t := s1.toks) st1.st (Nat.le_refl _) (fun b o e => hx b o (Nat.ne_of_lt (Heap.lt_size e)) e)
  show wpAny (pwM C) A (do holding [va] (bindName env y vb); do holding [] (bindName env x va); pure ()) _ _ _
  refine wpAny_bind (wpAny_holding (wpAny_bindName (dr hE hF hk2 hsg2 ((hV.step st1).step gr) gr.st (rb.step gr) fun s2 st2 hV2 => ?_)))
  refine wpAny_bind (wpAny_holding (wpAny_bindName (dr hE hF hk hsg hV2 st2.st ((ra.step gr).sstep st2) fun s3 st3 hV3 => wpAny_pure ?_)))
  exact h _ s3 ρ1 (st1.ss.trans (gr.ss.trans (st2.trans st3))) hV3 rfl
 ·exact nS hm
noncomputable def o3 : MV → MV → ac → Option (MV × ac)
 | .int a, .int b, σ => some (.int (a + b), σ)
 | _, _, _ => none
theorem ww : Op2 C (inplaceOp .Add) o3 := by
 intro A σ σ' a b mv va vb s ρ Q E hA hS ra rb hf h
 unfold o3 at hf
 split at hf
 rotate_left
 ·exact nS hf
 obtain ⟨t, rfl⟩ := ra; obtain ⟨u, rfl⟩ := rb; cases hf
 exact P.iadd_int (h _ _ ρ (.tok hS (Nat.le_succ _)) ⟨_, rfl⟩)
theorem Ia : Op2 C (inplaceOp .Sub) cD := by
 intro A σ σ' a b mv va vb s ρ Q E hA hS ra rb hf h
 unfold cD at hf
 split at hf
 rotate_left
 ·exact nS hf
 obtain ⟨t, rfl⟩ := ra; obtain ⟨u, rfl⟩ := rb; have h := h.of hf
 exact P.isub_int (h _ _ ρ (.tok hS (Nat.le_succ _)) ⟨_, rfl⟩)
theorem SOk.aug (hE : aS env) (hF : fc C env) {x : Str} {c : Nat} {p pos : Pos} {op : Operator} {e : Expr} {m : EM} {f} (hx : jD env x c) (hn : (x == ("__classdict__" : Str)) = false) (h2 : Op2 C (inplaceOp op) f) (he : EOk C k env e m) :
  SOk C k env (.AugAssign (.Name x p) op e pos) (m8 c f m) := by
 intro A V V' σ σ' r s ρ Q E hA hV hS hm h
 obtain ⟨rfl, hk, hsg⟩ := hx
 unfold m8 at hm
 match q0 : lk V (nc x) with
 | none => simp only [q0] at hm; exact nS hm
 | some a => match q : m V σ with
  | none => simp only [q0, q] at hm; exact nS hm
  | some p1 => match q2 : f a p1.1 p1.2 with
   | none => simp only [q0, q, q2] at hm; exact nS hm
   | some p2 =>
    simp only [q0, q, q2] at hm; have h := h.of hm
    refine wpAny_AugAssign_Name (js hE hV q0 (by rcases hk with e | ⟨e, _⟩; exact .inl e; exact .inr (.inl e)) hn fun v rv => ?_)
    refine he A V σ p1.2 p1.1 s ρ _ _ hA hV hS q fun u s1 ρ1 st1 r1 => ?_
    refine h2 A p1.2 p2.2 a p1.1 p2.1 v u s1 ρ1 _ _ (hA.mono (Nat.zero_le _)) st1.st (rv.step st1) r1 q2 fun w s2 ρ2 st2 r2 => ?_
    exact dr hE hF hk hsg ((hV.step st1).step st2) st2.st r2 fun s3 st3 hV3 => h _ s3 ρ2 (st1.ss.trans (st2.ss.trans st3)) hV3 rfl
theorem SOk.if {t : Expr} {a b : List Stmt} {pos : Pos} {c : CM} {ma mb : SM} (hc : COk C k env t c) (ha : BOk C k env a ma) (hb : BOk C k env b mb) : SOk C k env (.If t a b pos) (sIf c ma mb) := by
 intro A V V' σ σ' r s ρ Q E hA hV hS hm h
 unfold sIf at hm
 match q : c V σ with
 | none => simp only [q] at hm; exact nS hm
 | some p =>
  obtain ⟨p, σ1⟩ := p
  refine wpAny_If (hc A V σ σ1 p s ρ _ _ hA hV hS q fun s1 ρ1 st1 => ?_)
  cases p with
  | true => simp only [q] at hm; exact ha A V V' σ1 σ' r s1 ρ1 Q E hA (hV.step st1) st1.st hm fun f s2 ρ2 st2 hV2 hf => h f s2 ρ2 (st1.ss.trans st2) hV2 hf
  | false => simp only [q] at hm; exact hb A V V' σ1 σ' r s1 ρ1 Q E hA (hV.step st1) st1.st hm fun f s2 ρ2 st2 hV2 hf => h f s2 ρ2 (st1.ss.trans st2) hV2 hf
theorem SOk.ret {e : Expr} {pos : Pos} {m : EM} (he : EOk C k env e m) : SOk C k env (.Return (some e) pos) (bj m) := by
 intro A V V' σ σ' r s ρ Q E hA hV hS hm h
 unfold bj at hm
 match q : m V σ with
 | none => simp only [q] at hm; exact nS hm
 | some p1 =>
  simp only [q] at hm; have h := h.of hm
  exact wpAny_Return_some (he A V σ p1.2 p1.1 s ρ _ _ hA hV hS q fun v s1 ρ1 st1 r1 => h _ s1 ρ1 st1.ss (hV.step st1) ⟨v, rfl, r1⟩)
set_option tactic.hygienic true in
theorem SOk.expr {e : Expr} {pos : Pos} {m : EM} (he : EOk C k env e m) (hi : interactive env = false) (hs : swapsWith e none pos.line env = pure false) : SOk C k env (.Expr e pos) (dt m) := by
 intro A V V' σ σ' r s ρ Q E hA hV hS hm h
 unfold dt at hm
 split at hm
 ·rename_i σ1 q
  have h := h.of hm
  exact wpAny_Expr (he A V σ _ _ s ρ _ _ hA hV hS q fun v s1 ρ1 st1 r1 => by cases r1; exact h _ s1 ρ1 st1.ss (hV.step st1) rfl) hi hs
 ·exact nS hm
theorem SOk.try {b : List Stmt} {h₀ : ExceptHandler} {hs : List ExceptHandler} {pos : Pos} {m : SM} (hb : BOk C k env b m) : SOk C k env (.Try b (h₀ :: hs) [] [] pos) m := by
 intro A V V' σ σ' r s ρ Q E hA hV hS hm h
 refine wpAny_Try_except (hb A V V' σ σ' r s ρ _ _ hA hV hS hm fun f s1 ρ1 st1 hV1 hf => ?_)
 have := h f s1 ρ1 st1 hV1 hf
 cases r with
 | none => have hf : f = .next := hf; subst hf; exact wpAny_execs_nil this
 | some x => refine e12 hf fun v z1 _ => ?_; subst z1; exact this
theorem ow {A : Around} {s : Shared} {E : Value → Shared → Prop} {prog : Program} {w : World} {l : Addr} {items : Array Value} {j : Int} {t : Tok} {v : Value} {Q : Unit → Shared → Prop} (hl : s.heap.PlainList l items) (h0 : 0 ≤ j) (hfit : j < 2 ^ 63) (hn : j < items.size)
  (hQ : ∀ h', h'.PlainList l (items.setIfInBounds j.toNat v) → Heap.SameBut l s.heap h' → Q () { s with heap := h' }) : wpAny (model prog w) A (setItem (.ref l) (.int j t) v) Q E s := by
 obtain ⟨ne, ho⟩ := id hl
 have hT := hl.isList.typeIs (s := s)
 unfold setItem
 try with_reducible refine wpAny_holding ?_
 first | refine wpAny_bind (wpAny_pure ?_) | skip
 refine wpAny_bind (wpAny_sequenceKey hT (by decide) ?_)
 refine wpAny_bind (wpAny_callSpecial?_slot (name := Str.ofString "__setitem__") hT slot_list_setitem (wpAny_call_entry slot_list_setitem hT entry_list_setitem ?_ (args_list_setitem _ _ _)))
 show wpAny _ _ (Builtin.List.listSubscript? (.int j t) >>= _) _ _ s
 refine wpAny_bind (wpAny_listSubscript_int (fitsIndex_of h0 hfit) ?_)
 clear hfit
 obtain ⟨i, rfl⟩ := Int.eq_ofNat_of_zero_le h0
 have hi : i < items.size := by lia
 have hx : items[i]? = some items[i] := Array.getElem?_eq_getElem hi
 show wpAny _ _ ((seqItemAt l i >>= fun r => pure (r.map (i, ·))) >>= _) _ _ s
 refine wpAny_bind (wpAny_bind (wpAny_seqItemAt ho rfl (wpAny_pure ?_)))
 rw [hx]
 show wpAny _ _ (setSeqItemAt l i v >>= _) _ _ s
 refine wpAny_bind (wpAny_setSeqItemAt ho rfl ?_)
 have fin := hQ _ (iK hl (·.setIfInBounds i v)) (Heap.SameBut.update ..)
 first
  | exact wpAny_bind (wpAny_pure (wpAny_pure ⟨.none, rfl, wpAny_pure fin⟩))
  | exact wpAny_pure ⟨.none, rfl, wpAny_pure fin⟩
set_option tactic.hygienic true in
theorem uF {o i v : EM} {V V' : ap} {σ σ' : ac} {r : Option MV} (h : km o i v V σ = some (r, V', σ')) : ∃ x σ1 a σ2 j σ3 xs, v V σ = some (x, σ1) ∧ o V σ1 = some (.ref (a + 1), σ2) ∧ i V σ2 = some (.int j, σ3) ∧ am σ3 (a + 1) = some xs ∧
  0 ≤ j ∧ j.toNat < xs.length ∧ xs.length ≤ 1000000 ∧ r = none ∧ V' = V ∧ σ' = σ3.set (a + 1) (xs.set j.toNat x) := by
 unfold km at h
 cases q1 : v V σ with
 | none => simp only [q1] at h; exact nS h
 | some p1 =>
  simp only [q1] at h
  split at h
  ·rename_i a σ2 q2
   split at h
   ·rename_i j σ3 q3
    cases a with
    | zero => simp only at h; exact nS h
    | succ a => cases q4 : am σ3 (a + 1) with
     | none => simp only [q4] at h; exact nS h
     | some xs =>
      simp only [q4] at h
      cases q5 : decide (0 ≤ j) <;> cases q6 : Nat.blt j.toNat xs.length <;> cases q7 : Nat.ble xs.length 1000000 <;> simp only [q5, q6, q7] at h <;> first | (exact nS h; done) | skip
      cases h
      rw [Nat.blt_eq] at q6
      exact ⟨p1.1, p1.2, a, σ2, j, σ3, xs, rfl, q2, q3, q4, of_decide_eq_true q5, q6, Nat.le_of_ble_eq_true q7, rfl, rfl, rfl⟩
   ·exact nS h
  ·exact nS h
theorem SOk.item {o i v : Expr} {ip pos : Pos} {mo mi mv : EM} (hv : EOk C k env v mv) (ho : EOk C k env o mo) (hi : EOk C k env i mi) (hs : swapsWithSole [.Subscript o i ip] v pos.line env = pure false) (hw : swappedStores [.Subscript o i ip] v env = pure none) :
  SOk C k env (.Assign [.Subscript o i ip] v pos) (km mo mi mv) := by
 intro A V V' σ σ' r s ρ Q E hA hV hS hm h
 obtain ⟨x, σ1, a, σ2, j, σ3, xs, q1, q2, q3, q4, j0, j1, le, rfl, rfl, rfl⟩ := uF hm
 rw [PyProof.Rows.exec_Assign]
 refine wpAny_bind (wpAny_standAt ?_)
 rw [hs]
 refine wpAny_bind (wpAny_pure ?_)
 rw [if_neg (by decide)]
 refine wpAny_bind (hv A V' σ σ1 x s ρ _ _ hA hV hS q1 fun vx s1 ρ1 st1 r1 => ?_)
 rw [hw]
 refine wpAny_bind (wpAny_pure ?_)
 show wpAny (pwM C) A (do assignAll vx [assign (.Subscript o i ip) env]; pure .next) Q E s1
 refine wpAny_bind ?_
 show wpAny (pwM C) A (assign (.Subscript o i ip) env vx) _ E s1
 rw [arm_assign_Subscript]
 refine wpAny_bind (wpAny_holding (ho A V' σ1 σ2 _ s1 ρ1 _ _ hA (hV.step st1) st1.st q2 fun vo s2 ρ2 st2 r2 => ?_))
 refine wpAny_bind (wpAny_holding (hi A V' σ2 σ3 _ s2 ρ2 _ _ hA ((hV.step st1).step st2) st2.st q3 fun vi s3 ρ3 st3 r3 => ?_))
 obtain ⟨t, rfl⟩ := r3
 refine e24 ((r2.step st3).list st3.st q4) fun ad vs z2 had l1 rl => ?_; subst z2
 have rx := (r1.step st2).step st3
 refine wpAny_bind (wpAny_standAt (wpAny_bind (wpAny_holding (ow l1 j0 (by lia) (by simp [rl.length]; lia) fun h' l2 hsb => ?_))))
 have l3 : h'.PlainList ad (vs.set j.toNat vx).toArray := by simpa using l2
 have up := aT.upd (t := s3.toks) st3.st (Nat.le_refl _) hsb (Nat.succ_ne_zero a) had l3 (rl.set rx _)
 have fin := h .next { s3 with heap := h' } ρ3 (st1.ss.trans (st2.ss.trans (st3.ss.trans up.ss))) ((((hV.step st1).step st2).step st3).step up) rfl
 intro Γ p hΓ
 rw [Sem.wp_release]
 exact wpAny_pure fin
end
noncomputable def dP (c : CM) (b : SM) : Nat → SM
 | 0 => fun _ _ => none
 | n + 1 => fun V σ => match c V σ with
  | none => none
  | some (false, σ1) => some (none, V, σ1)
  | some (true, σ1) => match b V σ1 with
   | none => none
   | some (some r, V', σ') => some (some r, V', σ')
   | some (none, V', σ') => dP c b n V' σ'
def eK (v : MV) (its : List MV) (x : Nat) (b : SM) : List MV → SM
 | [] => fun V σ => match ck v its σ with
  | true => some (none, V, σ)
  | false => none
 | a :: r => fun V σ => match ck v its σ with
  | false => none
  | true => match b (put V x a) σ with
   | none => none
   | some (some r, V', σ') => some (some r, V', σ')
   | some (none, V', σ') => eK v its x b r V' σ'
def Qk (x : Nat) : ap → MV → Option ap := fun V a => some (put V x a)
def M0 (x y : Nat) : ap → MV → Option ap := fun V a => match a with
 | .pair p q => some (put (put V x p) y q)
 | _ => none
def fe (it : EM) (x : Nat) (b : SM) : SM := fun V σ => match it V σ with
 | none => none
 | some (v, σ1) => match cW v σ1 with
  | none => none
  | some its => eK v its x b its V σ1
def k0 (v : MV) (its : List MV) (x y : Nat) (b : SM) : List MV → SM
 | [] => fun V σ => match ck v its σ with
  | true => some (none, V, σ)
  | false => none
 | .pair p q :: r => fun V σ => match ck v its σ with
  | false => none
  | true => match b (put (put V x p) y q) σ with
   | none => none
   | some (some r, V', σ') => some (some r, V', σ')
   | some (none, V', σ') => k0 v its x y b r V' σ'
 | _ :: _ => fun _ _ => none
def oO (it : EM) (x y : Nat) (b : SM) : SM := fun V σ => match it V σ with
 | some (.ref i, σ1) => match am σ1 i with
  | none => none
  | some its => k0 (.ref i) its x y b its V σ1
 | _ => none
section
variable {C : Sys} {k : Nat} {env : Env}
theorem sa {c : CM} {m : SM} {n : Nat} {V : ap} {σ : ac} {R : Option MV × ap × ac} (h : dP c m n V σ = some R) : ∃ n' p σ1, n = n' + 1 ∧ c V σ = some (p, σ1) ∧ (p = false → (none, V, σ1) = R) ∧ (p = true → ∃ r2 V2 σ2, m V σ1 = some (r2, V2, σ2) ∧ (r2 = none → dP c m n' V2 σ2 = some R) ∧ (r2 ≠ none → (r2, V2, σ2) = R)) := by
 cases n with
 | zero => exact nS h
 | succ n =>
  unfold dP at h
  split at h
  ·exact nS h
  ·rename_i q; exact ⟨n, _, _, rfl, q, fun _ => Option.some.inj h, nofun⟩
  ·rename_i q
   refine ⟨n, _, _, rfl, q, nofun, fun _ => ?_⟩
   split at h
   ·exact nS h
   ·rename_i q2; exact ⟨_, _, _, q2, nofun, fun _ => Option.some.inj h⟩
   ·rename_i q2; exact ⟨_, _, _, q2, fun _ => h, fun n => absurd rfl n⟩
def v6 (N B : Prop) (T : Value → Prop) (f : Flow) : Prop := match f with
 | .next | .cont => N
 | .brk => B
 | .ret v => T v
theorem rB {w : World} {t : Nat} {h : Heap} {ρ : List Addr} {f : Flow} {r : Option MV} (hf : we w t h ρ f r) {N B : Prop} {T : Value → Prop} (hn : r = none → N) (hr : ∀ v, f = .ret v → T v) : v6 N B T f := by
 cases r with
 | none => cases (hf : f = .next); exact hn rfl
 | some y => refine e12 hf fun v z1 _ => ?_; subst z1; exact hr v rfl
def Ok (C : Sys) (A : Around) (env : Env) (t : Expr) (b : List Stmt) (R : Result → Shared → Prop) (N : Shared → Prop) (s : Shared) : Prop :=
   wpAny (pwM C) A (isTrue t env (eval t env)) (fun p s₂ =>
    if p then wpAny (pwM C) A (execs b env) (fun f s₃ => v6 (N s₃) (R (.ok .next) s₃) (fun v => R (.ok (.ret v)) s₃) f) (notedBy (pwM C) A env fun e s' => R (.error e) s') s₂
    else wpAny (pwM C) A (execs [] env) (fun f s₃ => R (.ok f) s₃) (notedBy (pwM C) A env fun e s' => R (.error e) s') s₂)
    (notedBy (pwM C) A env fun e s' => R (.error e) s') s
theorem Ma {A : Around} {t : Expr} {b : List Stmt} {R : Result → Shared → Prop} {s : Shared} (I : Nat → Shared → Prop) (turn : ∀ n s N, I n s → (∀ m s₃, m < n → I m s₃ → N s₃) → Ok C A env t b R N s) (n : Nat) (h : I n s) :
  codeAny (pwM C) A (.whileLoop t b [] env) R s := codeAny_whileLoop I (fun n s hI => turn n s (fun s₃ => ∃ m, m < n ∧ I m s₃) hI fun m _ h1 h2 => ⟨m, h1, h2⟩) n h
theorem uB {t : Expr} {b : List Stmt} {c : CM} {m : SM} {n : Nat} (hc : COk C k env t c) (hb : BOk C k env b m) {A : Around} {V : ap} {σ : ac} {s : Shared} {ρ : List Addr} {R : Option MV × ap × ac} {RR : Result → Shared → Prop} (hA : AOk A k) (hV : aJ C.w env V s.toks ρ s.heap) (hS : MSt C σ ρ s)
  (hm : dP c m n V σ = some R) (hR : ∀ f s' ρ', ct C env s ρ R.2.2 s' ρ' → aJ C.w env R.2.1 s'.toks ρ' s'.heap → we C.w s'.toks s'.heap ρ' f R.1 → RR (.ok f) s') : codeAny (pwM C) A (.whileLoop t b [] env) RR s := by
 refine Ma (fun n' s' => ∃ V1 σ1 ρ1, ct C env s ρ σ1 s' ρ1 ∧ aJ C.w env V1 s'.toks ρ1 s'.heap ∧ dP c m n' V1 σ1 = some R) ?_ n ⟨V, σ, ρ, .refl hS, hV, hm⟩
 intro n' s1 N ⟨V1, σ1, ρ1, st1, hV1, hm1⟩ hN
 refine e34 (sa hm1) fun n1 p σ2 e q q2 q3 => ?_
 refine hc A V1 σ1 σ2 p s1 ρ1 _ _ hA hV1 st1.st q fun s2 ρ2 st2 => ?_
 cases p with
 | false =>
  cases q2 rfl
  exact wpAny_execs_nil (hR .next s2 ρ2 (st1.trans st2.ss) (hV1.step st2) rfl)
 | true =>
  refine e33 (q3 rfl) fun r2 V2 σ3 q4 q5 q6 => ?_
  refine hb A V1 V2 σ2 σ3 r2 s2 ρ2 _ _ hA (hV1.step st2) st2.st q4 fun f s3 ρ3 st3 hV3 hf => rB hf (fun e2 => hN n1 s3 (by rw [e]; exact Nat.lt_succ_self _) ⟨V2, σ3, ρ3, st1.trans (st2.ss.trans st3), hV3, q5 e2⟩) fun v ev => ?_
  subst ev
  cases r2 with
  | none => cases (hf : Flow.ret v = .next)
  | some y => cases q6 nofun; exact hR _ s3 ρ3 (st1.trans (st2.ss.trans st3)) hV3 hf
theorem SOk.while {t : Expr} {b : List Stmt} {pos : Pos} {c : CM} {m : SM} {n : Nat} (hc : COk C k env t c) (hb : BOk C k env b m) : SOk C k env (.While t b [] pos) (dP c m n) :=
 fun _ _ _ _ _ _ _ _ _ _ hA hV hS hm h => wpAny_While (uB hc hb hA hV hS hm h)
theorem aJ.keep1 {w : World} {V : ap} {t t' : Nat} {ρ : List Addr} {h h' : Heap} {I : Addr} (hV : aJ w env V t ρ h) (ho : ∃ o, h.get? I = some o ∧ (∃ vs, o.data = .fields vs) ∧ ¬ isV o) (k : d1 I h h') (le : t ≤ t') : aJ w env V t' ρ h' := by
 refine e13 ho fun o ho z2 nv => ?_; obtain ⟨ws, hd⟩ := z2
 have ev : dX h h' := dX.of_keep1 ⟨o, ho, nv⟩ k
 have cellk : ∀ c v, h.IsCell c v → h'.IsCell c v := fun c v ⟨o', e, d⟩ => ⟨o', k c o' (fun q => by rw [q, ho] at e; cases e; rw [hd] at d; cases d) e, d⟩
 obtain ⟨⟨m, ⟨o', es, ep, e, d, r⟩, q, hr⟩, hc⟩ := hV
 exact ⟨⟨m, ⟨o', es, ep, k _ o' (fun q => by rw [q, ho] at e; cases e; rw [hd] at d; cases d) e, d, r⟩, q, fun n mv hl => (hr n mv hl).map rfl (fun c v _ => cellk c v) fun _ r => r.mono le ev (List.prefix_refl _)⟩, fun n c e1 e2 => let ⟨v, i⟩ := hc n c e1 e2; ⟨v, cellk c v i⟩⟩
theorem dO.fields {ρ : List Addr} {I : Addr} {j : Nat} {h : Heap} {src : Src} (a : dO ρ I j h src) : ∃ o, h.get? I = some o ∧ (∃ vs, o.data = .fields vs) ∧ ¬ isV o := by
 refine e13 a.obj fun o' ho' _ nv => ?_
 cases src with
 | lst i => obtain ⟨ax, _, o, ho, hc, hd⟩ := a; rw [ho] at ho'; cases ho'; exact ⟨_, ho, ⟨_, hd⟩, nv⟩
 | asc x t => refine e13 a fun o ho hc hd => ?_; rw [ho] at ho'; cases ho'; exact ⟨_, ho, ⟨_, hd⟩, nv⟩
 | wid x t => refine e13 a fun o ho hc hd => ?_; rw [ho] at ho'; cases ho'; exact ⟨_, ho, ⟨_, hd⟩, nv⟩
 | rg a' c n => have a' : h.get? I = some _ := a; rw [a'] at ho'; cases ho'; exact ⟨_, a', ⟨_, rfl⟩, nv⟩
structure i0 (C : Sys) (env : Env) (s : Shared) (I : Addr) : Prop where
 h1 : C.h₁.get? I = none
 loc : I ≠ env.locals
 cel : ∀ n, env.kindOf n = some .cell → env.cells.lookup n ≠ some I
 old : s.heap.get? I = none
theorem i0.of {s : Shared} {V : ap} {ρ : List Addr} {σ : ac} (hV : aJ C.w env V s.toks ρ s.heap) (hS : MSt C σ ρ s) {I : Addr} (hI : s.heap.get? I = none) : i0 C env s I := by
 refine ⟨?_, fun q => ?_, fun n e q => ?_, hI⟩
 ·match e : C.h₁.get? I with
  | none => rfl
  | some o => have := hS.keep _ _ e; rw [hI] at this; exact nS this
 ·obtain ⟨⟨m, ⟨o, _, _, e, _⟩, _⟩, _⟩ := hV
  rw [← q, hI] at e; exact nS e
 ·refine e22 (hV.cells n I e q) fun v o e2 _ => ?_
  rw [hI] at e2; exact nS e2
theorem ct.keep1 {V : ap} {σ : ac} {s₀ s : Shared} {ρ₀ ρ : List Addr} {src : Src} {I : Addr} {j : Nat} {h' : Heap} {tk : Nat} (hN : i0 C env s₀ I) (st : ct C env s₀ ρ₀ σ s ρ) (it : dO ρ I j s.heap src) (k1 : d1 I s.heap h') (le : s.toks ≤ tk) :
  ct C env s₀ ρ₀ σ { s with heap := h', toks := tk } ρ :=
 ⟨st.pre, st.st.keep1 hN.h1 it.obj (t := tk) k1 le, fun b ob h1 h2 e n => k1 b ob (fun q => by rw [q, hN.old] at e; exact nS e) (st.keep b ob h1 h2 e n),
  st.exv.trans (dX.of_keep1 (let ⟨o, ho, _, nv⟩ := it.obj; ⟨o, ho, nv⟩) k1), Nat.le_trans st.tk le⟩
theorem dO.sstep {σ' : ac} {s s' : Shared} {ρ ρ' : List Addr} {I : Addr} {j : Nat} {src : Src} {s₀ : Shared} (hN : i0 C env s₀ I) (it : dO ρ I j s.heap src) (st : ct C env s ρ σ' s' ρ') : dO ρ' I j s'.heap src :=
 it.keep st.pre fun o e n => st.keep I o hN.loc hN.cel e n
theorem j6 {b : Bool} {α : Type} {x : Option α} {y : α} (h : (match b with | true => x | false => none) = some y) : b = true ∧ x = some y := by
 cases b with
 | false => exact nS h
 | true => exact ⟨rfl, h⟩
def Ql (C : Sys) (A : Around) (env : Env) (target : Expr) (it : Value) (b oe : List Stmt) (R : Result → Shared → Prop) (N : Shared → Prop) (s : Shared) : Prop :=
 wpAny (pwM C) A (pyNext it) (fun r s₁ => match r with
   | none => wpAny (pwM C) A (execs oe env) (fun f s₃ => R (.ok f) s₃) (notedBy (pwM C) A env fun e s' => R (.error e) s') s₁
   | some v => wpAny (pwM C) A (letOwnedTupleGo target it v) (fun _ s₁' =>
     wpAny (pwM C) A (assign target env v) (fun _ s₂ => wpAny (pwM C) A (execs b env) (fun f s₃ => v6 (N s₃) (R (.ok .next) s₃) (fun v => R (.ok (.ret v)) s₃) f) (notedBy (pwM C) A env fun e s' => R (.error e) s') s₂) (notedBy (pwM C) A env fun e s' => R (.error e) s') s₁') (notedBy (pwM C) A env fun e s' => R (.error e) s') s₁) (notedBy (pwM C) A env fun e s' => R (.error e) s') s
theorem LS {A : Around} {target : Expr} {it : Value} {b oe : List Stmt} {R : Result → Shared → Prop} {s : Shared} (I : Nat → Shared → Prop) (turn : ∀ n s N, I n s → (∀ m s₃, m < n → I m s₃ → N s₃) → Ql C A env target it b oe R N s) (n : Nat) (h : I n s) :
  codeAny (pwM C) A (.forLoop target it b oe env) R s := codeAny_forLoop_any I (fun n s hI => turn n s (fun s₃ => ∃ m, m < n ∧ I m s₃) hI fun m _ h1 h2 => ⟨m, h1, h2⟩) n h
structure Qo (C : Sys) (env : Env) (s₁ : Shared) (ρ₁ : List Addr) (I : Addr) (src : Src) (its : List MV) (L : List MV → SM) (R : Option MV × ap × ac) (n : Nat) (s : Shared) (j : Nat) (V : ap) (σ : ac) (ρ : List Addr) : Prop where
 n : n = its.length + 1 - j
 le : j ≤ its.length
 st : ct C env s₁ ρ₁ σ s ρ
 hV : aJ C.w env V s.toks ρ s.heap
 it : dO ρ I j s.heap src
 run : L (its.drop j) V σ = some R
theorem nN {A : Around} {target : Expr} {b : List Stmt} {RR : Result → Shared → Prop} {s₁ s₂ : Shared} {ρ₁ : List Addr} {σ₁ σ' : ac} {src : Src} {I : Addr} {v : MV} {its : List MV} {V V' : ap} {r : Option MV} {L : List MV → SM} {bd : ap → MV → Option ap} {mb : SM}
  (hL0 : ∀ V σ R, L [] V σ = some R → ck v its σ = true ∧ (none, V, σ) = R)
  (hLc : ∀ a l V σ R, L (a :: l) V σ = some R → ck v its σ = true ∧ ∃ V1 r5 V5 σ5, bd V a = some V1 ∧ mb V1 σ = some (r5, V5, σ5) ∧ (r5 = none → L l V5 σ5 = some R) ∧ (r5 ≠ none → (r5, V5, σ5) = R))
  (hstep : ∀ V σ V1 r5 V5 σ5 a t s ρ u j Q E, ct C env s₁ ρ₁ σ s ρ → aJ C.w env V s.toks ρ s.heap → aJ C.w env V t ρ s.heap → t ≤ s.toks → dO ρ I j s.heap src → a7 C.w s.toks s.heap ρ u a → (isS src = true → ∀ x w, u = .str x w → t ≤ w) →
   bd V a = some V1 → mb V1 σ = some (r5, V5, σ5) → (∀ f s5 ρ5, ct C env s ρ σ5 s5 ρ5 → aJ C.w env V5 s5.toks ρ5 s5.heap → we C.w s5.toks s5.heap ρ5 f r5 → Q f s5) →
   wpAny (pwM C) A (letOwnedTupleGo target (.ref I) u) (fun _ s₁' => wpAny (pwM C) A (assign target env u) (fun _ s₂ => wpAny (pwM C) A (execs b env) Q E s₂) E s₁') E s)
  (hA : A.handled = none) (hN : i0 C env s₁ I) (hsrc : pE v src) (hi : fw σ₁ its src) (st : ct C env s₁ ρ₁ σ₁ s₂ ρ₁) (hV : aJ C.w env V s₂.toks ρ₁ s₂.heap) (it : dO ρ₁ I 0 s₂.heap src) (hm : L its V σ₁ = some (r, V', σ'))
  (hR : ∀ f s' ρ', ct C env s₁ ρ₁ σ' s' ρ' → aJ C.w env V' s'.toks ρ' s'.heap → we C.w s'.toks s'.heap ρ' f r → RR (.ok f) s') : codeAny (pwM C) A (.forLoop target (.ref I) b [] env) RR s₂ := by
 refine LS (fun n s => ∃ j V σ ρ, Qo C env s₁ ρ₁ I src its L (r, V', σ') n s j V σ ρ) ?_ _ ⟨0, V, σ₁, ρ₁, rfl, Nat.zero_le _, st, hV, it, hm⟩
 intro n s N ⟨j, V2, σ2, ρ2, c⟩ hNN
 have hm2 := c.run
 rcases Nat.lt_or_ge j its.length with hlt | hge
 ·rw [List.drop_eq_getElem_cons hlt] at hm2
  obtain ⟨hst, V1, r5, V5, σ5, q1, q2, q3, q4⟩ := hLc _ _ _ _ _ hm2
  refine zJ c.st.st hN.h1 c.it (fP hsrc hi hst) (List.getElem?_eq_getElem hlt) fun u h' tk le k1 it' r3 y => ?_
  have st3 := c.st.keep1 (V := V) hN c.it k1 le
  refine hstep V2 σ2 V1 r5 V5 σ5 _ s.toks _ ρ2 u (j + 1) _ _ st3 (c.hV.keep1 c.it.fields k1 le) (c.hV.keep1 c.it.fields k1 (Nat.le_refl _)) le it' r3 y q1 q2 fun f s5 ρ5 st5 hV5 hf => rB hf (fun e => ?_) (fun v ev => ?_)
  ·refine hNN (its.length + 1 - (j + 1)) _ ?_ ⟨j + 1, V5, σ5, ρ5, rfl, hlt, st3.trans st5, hV5, dO.sstep (s := { s with heap := h', toks := tk }) hN it' st5, q3 e⟩
   rw [c.n]; exact Nat.sub_lt_sub_left (Nat.lt_succ_of_lt hlt) (Nat.lt_succ_self j)
  ·subst ev
   cases r5 with
   | none => cases (hf : Flow.ret v = .next)
   | some y => cases q4 nofun; exact hR _ s5 ρ5 (st3.trans st5) hV5 hf
 ·rw [List.drop_eq_nil_of_le hge] at hm2
  obtain ⟨hst, e⟩ := hL0 _ _ _ hm2
  cases e
  cases Nat.le_antisymm c.le hge
  exact Gk hA c.st.st c.it (fP hsrc hi hst) fun h' k1 => wpAny_execs_nil (hR .next _ ρ2 (c.st.keep1 (V := V) hN c.it k1 (Nat.le_refl _)) (c.hV.keep1 c.it.fields k1 (Nat.le_refl _)) rfl)
theorem t5 {v : MV} {its : List MV} {x : Nat} {b : SM} {V : ap} {σ : ac} {R : Option MV × ap × ac} (h : eK v its x b [] V σ = some R) : ck v its σ = true ∧ (none, V, σ) = R := by
 obtain ⟨h1, h2⟩ := j6 h
 exact ⟨h1, Option.some.inj h2⟩
theorem pf {v : MV} {its : List MV} {x : Nat} {b : SM} {a : MV} {l : List MV} {V : ap} {σ : ac} {R : Option MV × ap × ac} (h : eK v its x b (a :: l) V σ = some R) :
  ck v its σ = true ∧ ∃ V1 r5 V5 σ5, Qk x V a = some V1 ∧ b V1 σ = some (r5, V5, σ5) ∧ (r5 = none → eK v its x b l V5 σ5 = some R) ∧ (r5 ≠ none → (r5, V5, σ5) = R) := by
 unfold eK at h
 split at h
 ·exact nS h
 ·rename_i q
  split at h
  ·exact nS h
  ·rename_i q2
   exact ⟨q, _, _, _, _, rfl, q2, nofun, fun _ => Option.some.inj h⟩
  ·rename_i q2
   exact ⟨q, _, _, _, _, rfl, q2, fun _ => h, fun n => absurd rfl n⟩
theorem Al {it : EM} {x : Nat} {b : SM} {V : ap} {σ : ac} {R : Option MV × ap × ac} (h : fe it x b V σ = some R) : ∃ v σ1 its, it V σ = some (v, σ1) ∧ cW v σ1 = some its ∧ eK v its x b its V σ1 = some R := by
 unfold fe at h
 split at h
 ·exact nS h
 ·rename_i q
  split at h
  ·exact nS h
  ·rename_i q2; exact ⟨_, _, _, q, q2, h⟩
theorem SOk.for (hE : aS env) (hF : fc C env) {x : Str} {c : Nat} {p pos : Pos} {iter : Expr} {b : List Stmt} {m : EM} {mb : SM} (hx : jD env x c) (he : EOk C k env iter m) (hb : BOk C k env b mb) (hs : ∀ x, foldedSetIterable iter env x = pure x) :
  SOk C k env (.For (.Name x p) iter b [] pos) (fe m c mb) := by
 intro A V V' σ σ' r s ρ Q E hA hV hS hm h
 obtain ⟨rfl, hk, hsg⟩ := hx
 refine e33 (Al hm) fun v σ1 its q q2 hm => ?_
 refine wpAny_For (he A V σ σ1 v s ρ _ _ hA hV hS q fun vv s1 ρ1 st1 r1 => kY st1.st r1 q2 fun src o hsrc it hi _ => ?_) hs
 have hV1 := hV.step st1
 have gr := aT.grow st1.st o
 refine nN (fun _ _ _ => t5) (fun _ _ _ _ _ => pf) (fun V σ V1 r5 V5 σ5 a t s ρ u j Q E st hV _ _ _ ra _ e q2 h => ?_) hA.1 (i0.of hV1 st1.st (dS s1.heap)) hsrc hi gr.ss (hV1.step gr) it hm fun f s' ρ' st hV hf => h f s' ρ' (st1.ss.trans st) hV hf
 cases e
 exact wpAny_of_eq (show letOwnedTupleGo (.Name x p) (.ref _) u = pure () from rfl) (wpAny_assign_Name (dr hE hF hk hsg hV st.st ra fun s4 st4 hV4 => hb A _ V5 σ σ5 r5 s4 ρ _ _ hA hV4 st4.st q2 fun f s5 ρ5 st5 => h f s5 ρ5 (st4.trans st5)))
end
section
variable {C : Sys} {k : Nat} {env : Env}
theorem uo (hE : aS env) (hF : fc C env) {x y : Str} {c d : Nat} {p p' tp : Pos} {kk : Nat} (hx : jD env x c) (hy : jD env y d) {A : Around} {V : ap} {σ : ac} {s : Shared} {ρ : List Addr} {a b : MV} {v : Value} {Q : Unit → Shared → Prop} {E : Value → Shared → Prop} (hA : A.handled = none)
  (hV : aJ C.w env V s.toks ρ s.heap) (hS : MSt C σ ρ s) (r : a7 C.w s.toks s.heap ρ v (.pair a b)) (h : ∀ s', ct C env s ρ σ s' ρ → aJ C.w env (put (put V c a) d b) s'.toks ρ s'.heap → Q () s') :
  wpAny (pwM C) A (assign (.Tuple [.Name x p, .Name y p'] kk tp) env v) Q E s := by
 obtain ⟨rfl, hk, hsg⟩ := hx
 obtain ⟨rfl, hk2, hsg2⟩ := hy
 refine e34 r fun ad va vb z3 ht ra rb => ?_; subst z3
 refine wpAny_assign_Tuple hA ht rfl rfl fun h' hx => ?_
 have gr : aT C s ρ σ { s with heap := h' } ρ := aT.heap (t := s.toks) hS (Nat.le_refl _) (fun b o e => hx b o (Nat.ne_of_lt (Heap.lt_size e)) e)
 show wpAny (pwM C) A (do holding [vb] (assign (.Name x p) env va); do holding [] (assign (.Name y p') env vb); pure ()) _ _ _
 refine wpAny_bind (wpAny_holding (wpAny_assign_Name (dr hE hF hk hsg (hV.step gr) gr.st (ra.step gr) fun s2 st2 hV2 => ?_)))
 refine wpAny_bind (wpAny_holding (wpAny_assign_Name (dr hE hF hk2 hsg2 hV2 st2.st ((rb.step gr).sstep st2) fun s3 st3 hV3 => wpAny_pure ?_)))
 exact h s3 (gr.ss.trans (st2.trans st3)) hV3
theorem AH {v : MV} {its : List MV} {x y : Nat} {b : SM} {V : ap} {σ : ac} {R : Option MV × ap × ac} (h : k0 v its x y b [] V σ = some R) : ck v its σ = true ∧ (none, V, σ) = R := by
 obtain ⟨h1, h2⟩ := j6 h
 exact ⟨h1, Option.some.inj h2⟩
theorem vJ {v : MV} {its : List MV} {x y : Nat} {b : SM} {a : MV} {l : List MV} {V : ap} {σ : ac} {R : Option MV × ap × ac} (h : k0 v its x y b (a :: l) V σ = some R) :
  ck v its σ = true ∧ ∃ V1 r5 V5 σ5, M0 x y V a = some V1 ∧ b V1 σ = some (r5, V5, σ5) ∧ (r5 = none → k0 v its x y b l V5 σ5 = some R) ∧ (r5 ≠ none → (r5, V5, σ5) = R) := by
 have hp : ∃ p q, a = .pair p q := by
  cases a <;> first | exact ⟨_, _, rfl⟩ | exact nS h
 refine e21 hp fun p q z2 => ?_; subst z2
 unfold k0 at h
 split at h
 ·exact nS h
 ·rename_i q
  split at h
  ·exact nS h
  ·rename_i q2
   exact ⟨q, _, _, _, _, rfl, q2, nofun, fun _ => Option.some.inj h⟩
  ·rename_i q2
   exact ⟨q, _, _, _, _, rfl, q2, fun _ => h, fun n => absurd rfl n⟩
theorem uH {it : EM} {x y : Nat} {b : SM} {V : ap} {σ : ac} {R : Option MV × ap × ac} (h : oO it x y b V σ = some R) : ∃ i σ1 its, it V σ = some (.ref i, σ1) ∧ am σ1 i = some its ∧ k0 (.ref i) its x y b its V σ1 = some R := by
 unfold oO at h
 split at h
 ·rename_i q
  split at h
  ·exact nS h
  ·rename_i q2; exact ⟨_, _, _, q, q2, h⟩
 ·exact nS h
theorem AV {x y : Nat} {V V1 : ap} {a : MV} (h : M0 x y V a = some V1) : ∃ p q, a = .pair p q ∧ put (put V x p) y q = V1 := by
 unfold M0 at h
 split at h
 ·exact ⟨_, _, rfl, Option.some.inj h⟩
 ·exact nS h
theorem SOk.for2 (hE : aS env) (hF : fc C env) {x y : Str} {c d : Nat} {p p' tp pos : Pos} {kk : Nat} {iter : Expr} {b : List Stmt} {m : EM} {mb : SM} (hx : jD env x c) (hy : jD env y d) (he : EOk C k env iter m) (hb : BOk C k env b mb) (hs : ∀ x, foldedSetIterable iter env x = pure x) :
  SOk C k env (.For (.Tuple [.Name x p, .Name y p'] kk tp) iter b [] pos) (oO m c d mb) := by
 intro A V V' σ σ' r s ρ Q E hA hV hS hm h
 refine e33 (uH hm) fun i σ1 its q q2 hm => ?_
 refine wpAny_For (he A V σ σ1 _ s ρ _ _ hA hV hS q fun vv s1 ρ1 st1 r1 => kY st1.st r1 q2 fun src o hsrc it hi _ => ?_) hs
 have hV1 := hV.step st1
 have gr := aT.grow st1.st o
 refine nN (fun _ _ _ => AH) (fun _ _ _ _ _ => vJ) (fun V σ V1 r5 V5 σ5 a t s ρ u j Q E st hV _ _ it ra _ e q2 h => ?_) hA.1 (i0.of hV1 st1.st (dS s1.heap)) hsrc hi gr.ss (hV1.step gr) it hm fun f s' ρ' st hV hf => h f s' ρ' (st1.ss.trans st) hV hf
 refine e22 (AV e) fun p q z2 z3 => ?_; subst z2; subst z3
 have ra' := ra
 refine e32 ra' fun T va vb z3 _ => ?_; subst z3
 cases src with
 | lst i' =>
  refine e12 it fun ax hax hit => ?_
  exact wpAny_letOwnedTupleGo_listiter hit (uo hE hF hx hy hA.1 hV st.st ra fun s4 st4 hV4 => hb A _ V5 σ σ5 r5 s4 ρ _ _ hA hV4 st4.st q2 fun f s5 ρ5 st5 => h f s5 ρ5 (st4.trans st5))
 | asc _ _ => exact (hsrc : False).elim
 | wid _ _ => exact (hsrc : False).elim
 | rg _ _ _ => exact (hsrc : False).elim
def zY (C : Sys) (env : Env) (V : ap) (x : Str) (s : Shared) (ρ : List Addr) : Prop :=
 ∃ lo m, lo ≤ s.toks ∧ s.heap.Ns env.locals m ∧ (∀ y u, m x = some (.str y u) → lo ≤ u) ∧ ∀ n mv, n ≠ x → lk V (nc n) = some mv → cb C.w env lo ρ s.heap m n mv
def M9 (C : Sys) (k : Nat) (env : Env) (x : Str) (e : Expr) (m : CM) : Prop :=
 ∀ (A : Around) (V : ap) (σ σ' : ac) (b : Bool) (s : Shared) (ρ : List Addr) (Q : Bool → Shared → Prop) (E : Value → Shared → Prop), AOk A k → aJ C.w env V s.toks ρ s.heap → zY C env V x s ρ → MSt C σ ρ s → m V σ = some (b, σ') →
  PC C s ρ Q b σ' → wpAny (pwM C) A (isTrue e env (eval e env)) Q E s
def BC (C : Sys) (k : Nat) (env : Env) (x : Str) (b : List Stmt) (m : SM) : Prop :=
 ∀ (A : Around) (V V' : ap) (σ σ' : ac) (r : Option MV) (s : Shared) (ρ : List Addr) (Q : Flow → Shared → Prop) (E : Value → Shared → Prop), AOk A k → aJ C.w env V s.toks ρ s.heap → zY C env V x s ρ → MSt C σ ρ s → m V σ = some (r, V', σ') →
  PS C env s ρ Q r V' σ' → wpAny (pwM C) A (execs b env) Q E s
def jY (x y : Nat) : CM := fun V σ => match lk V x, lk V y with
 | some (.str a), some (.str b) => some (leq a b, σ)
 | some (.bool a), some (.bool b) => some (a == b, σ)
 | _, _ => none
theorem gp (hE : aS env) {x : Str} {V : ap} {s : Shared} {ρ : List Addr} {A : Around} {mv : MV} {m : Str → Option Value} {Q : Value → Shared → Prop} {E : Value → Shared → Prop} {M : Model} (hn : s.heap.Ns env.locals m) (hk : env.kindOf x = some .local) {v : Value} (hv : m x = some v) (h : Q v s) (pos : Pos)
  (hd : (x == ("__debug__" : Str)) = false) : wpAny M A (eval (.Name x pos) env) Q E s := wpAny_Name (wpAny_loadName_local hE.kind hk hn hv h) hd
set_option tactic.hygienic true in
theorem M9.isEq (hE : aS env) {x y : Str} {c d : Nat} {p1 p2 p3 p4 q1 q2 pos : Pos} (hx : nc x = c) (hy : nc y = d) (kx : env.kindOf x = some .local) (ky : env.kindOf y = some .local) (hxy : y ≠ x) (dx : (x == ("__debug__" : Str)) = false) (dy : (y == ("__debug__" : Str)) = false) :
  M9 C k env x (.BoolOp .Or [.Compare (.Name x p1) [.Is] [.Name y p2] q1, .Compare (.Name x p3) [.Eq] [.Name y p4] q2] pos) (jY c d) := by
 intro A V σ σ' b s ρ Q E hA hV hY hS hm h
 subst hx hy
 unfold jY at hm
 refine e24 hY fun lo m le ns hyoung hold => ?_
 obtain ⟨⟨m', ns', _, hr⟩, _⟩ := hV
 have em : m' = m := by
  refine e34 ns fun o es ep e d _ f => ?_
  refine e34 ns' fun o' es' ep' e' d' _ f' => ?_
  rw [e] at e'; cases e'; rw [d] at d'; cases d'
  funext n; rw [← f, ← f']
 subst em
 refine wpAny_isTrue_BoolOp (wpAny_allTrue_Or_cons (wpAny_isTrue_Compare1 ?_ rfl))
 have second : ∀ (a e : MV) (r : Bool) (va ve : Value), m' x = some va → m' y = some ve → a7 C.w s.toks s.heap ρ va a → a7 C.w s.toks s.heap ρ ve e → fEq a e = some r → (∀ x y, a ≠ .pair x y) → a ≠ .none → (∀ s' ρ', aT C s ρ σ s' ρ' → Q r s') →
   wpAny (pwM C) A (allTrue .Or [.Compare (.Name x p3) [.Eq] [.Name y p4] q2] env) Q E s := fun a e r va ve h1 h2 ra re hf hp hn hq => by
  refine wpAny_allTrue_Or_cons (wpAny_isTrue_Compare1 (gp (V := V) (mv := a) (ρ := ρ) hE ns kx h1 (gp (V := V) (mv := a) (ρ := ρ) hE ns ky h2 ?_ p4 dy) p3 dx) rfl)
  refine mC (hA.mono (Nat.zero_le _)) ra re hf hp hn (wpAny_truthy_bool ?_)
  cases r with
  | true => exact hq s ρ (.refl hS)
  | false => exact wpAny_allTrue_Or_nil (hq s ρ (.refl hS))
 split at hm
 ·rename_i a e h1 h2
  cases hm
  have r1 := hr x _ h1
  have r2 := hr y _ h2
  unfold cb at r1 r2
  rw [kx] at r1; rw [ky] at r2
  obtain ⟨va, ha, t, t0, t1, ta, rfl⟩ := r1
  obtain ⟨ve, he, u, u0, u1, ue, rfl⟩ := r2
  have hu : u < lo := by
   have := hold y _ hxy h2
   unfold cb at this
   rw [ky] at this
   obtain ⟨v', h', t', _, hlt, _, e'⟩ := this
   rw [he] at h'; cases h'
   injection e' with _ e'
   rw [e']; exact hlt
  have ht : lo ≤ t := hyoung _ _ ha
  have hne : t ≠ u := by lia
  refine gp (V := V) (mv := .none) (ρ := ρ) hE ns kx ha (gp (V := V) (mv := .none) (ρ := ρ) hE ns ky he ?_ p2 dy) p1 dx
  have snd := second (.str a) (.str e) (leq a e) _ _ ha he ⟨t, t0, t1, ta, rfl⟩ ⟨u, u0, u1, ue, rfl⟩ rfl (fun _ _ => nofun) nofun h
  show wpAny (pwM C) A (do return Value.bool (← isSame (.str ⟨a.toArray⟩ t) (.str ⟨e.toArray⟩ u)) : Sem Value) _ E s
  have h00 : (t == 0 || u == 0) = false := by
   have a1 : (t == 0) = false := beq_eq_false_iff_ne.mpr (Nat.ne_of_gt t0)
   have a2 : (u == 0) = false := beq_eq_false_iff_ne.mpr (Nat.ne_of_gt u0)
   rw [a1, a2]; rfl
  have h01 : (t == u) = false := beq_eq_false_iff_ne.mpr hne
  by_cases q : a = e
  ·subst q
   have hl : leq a a = true := by rw [eF]; simp
   refine wpAny_bind (wpAny_isSame_str h00 hS.nb fun bb => wpAny_pure (wpAny_truthy_bool ?_))
   cases bb with
   | true => have := h s ρ (.refl hS); rw [hl] at this; exact this
   | false => exact snd
  ·have hq : ((⟨a.toArray⟩ : Str) == ⟨e.toArray⟩) = false := beq_eq_false_iff_ne.mpr fun q' => q (by injection q' with q'; simpa using q')
   rw [isSame_str_other _ _ t u h00 h01 hq]
   exact wpAny_bind (wpAny_pure (wpAny_pure (wpAny_truthy_bool snd)))
 ·rename_i a e h1 h2
  have h := h.of hm
  have r1 := hr x _ h1
  have r2 := hr y _ h2
  unfold cb at r1 r2
  rw [kx] at r1; rw [ky] at r2
  refine e12 r1 fun va ha z2 => ?_; subst z2
  refine e12 r2 fun ve he z2 => ?_; subst z2
  refine gp (V := V) (mv := .none) (ρ := ρ) hE ns kx ha (gp (V := V) (mv := .none) (ρ := ρ) hE ns ky he ?_ p2 dy) p1 dx
  have snd := second (.bool a) (.bool e) (a == e) _ _ ha he rfl rfl rfl (fun _ _ => nofun) nofun h
  refine wpAny_is_plain rfl (wpAny_truthy_bool ?_)
  have e2 : (Value.bool a == Value.bool e) = (a == e) := by
   rw [Bool.eq_iff_iff, beq_iff_eq, beq_iff_eq]; simp
  rw [e2]
  match q : (a == e) with
  | true => have := h s ρ (.refl hS); rw [q] at this; exact this
  | false => exact snd
 ·exact nS hm
theorem BC.if {x : Str} {t : Expr} {a b : List Stmt} {pos : Pos} {c : CM} {ma mb : SM} (hc : M9 C k env x t c) (ha : BOk C k env a ma) (hb : BOk C k env b mb) : BC C k env x [.If t a b pos] (ab (sIf c ma mb) ak) := by
 intro A V V' σ σ' r s ρ Q E hA hV hY hS hm h
 have hm : sIf c ma mb V σ = some (r, V', σ') := by
  unfold ab at hm
  match q : sIf c ma mb V σ with
  | none => simp only [q] at hm; exact nS hm
  | some p =>
   obtain ⟨r1, V1, σ1⟩ := p
   cases r1 with
   | none => simp only [q] at hm; exact hm
   | some y => simp only [q] at hm; exact hm
 unfold sIf at hm
 match q : c V σ with
 | none => simp only [q] at hm; exact nS hm
 | some p =>
  obtain ⟨p, σ1⟩ := p
  have fin : ∀ f s2 ρ2, ct C env s ρ σ' s2 ρ2 → aJ C.w env V' s2.toks ρ2 s2.heap → we C.w s2.toks s2.heap ρ2 f r → (match f with | .next => wpAny (pwM C) A (execs [] env) Q E s2 | f => Q f s2) := fun f s2 ρ2 st hV2 hf => by
   have := h f s2 ρ2 st hV2 hf
   cases r with
   | none => have hf : f = .next := hf; subst hf; exact wpAny_execs_nil this
   | some y => refine e12 hf fun v z1 _ => ?_; subst z1; exact this
  refine wpAny_execs_cons (wpAny_If (hc A V σ σ1 p s ρ _ _ hA hV hY hS q fun s1 ρ1 st1 => ?_))
  cases p with
  | true => simp only [q] at hm; exact ha A V V' σ1 σ' r s1 ρ1 _ E hA (hV.step st1) st1.st hm fun f s2 ρ2 st2 hV2 hf => fin f s2 ρ2 (st1.ss.trans st2) hV2 hf
  | false => simp only [q] at hm; exact hb A V V' σ1 σ' r s1 ρ1 _ E hA (hV.step st1) st1.st hm fun f s2 ρ2 st2 hV2 hf => fin f s2 ρ2 (st1.ss.trans st2) hV2 hf
end
section
variable {C : Sys} {k : Nat} {env : Env}
theorem lU (hE : aS env) (hF : fc C env) {A : Around} {E : Value → Shared → Prop} {Q : Unit → Shared → Prop} {x : Str} {V : ap} {v : Value} {mv : MV} {σ : ac} {s : Shared} {ρ : List Addr} {lo : Nat} (hx : env.kindOf x = some .local) (hns : ∀ c, c < 48 → x ≠ ⟨#[c]⟩)
  (hV : aJ C.w env V s.toks ρ s.heap) (hV0 : aJ C.w env V lo ρ s.heap) (le : lo ≤ s.toks) (hy : ∀ y u, v = .str y u → lo ≤ u) (a : MSt C σ ρ s) (r : a7 C.w s.toks s.heap ρ v mv)
  (h : ∀ s', ct C env s ρ σ s' ρ → aJ C.w env (put V (nc x) mv) s'.toks ρ s'.heap → zY C env (put V (nc x) mv) x s' ρ → Q () s') : wpAny (pwM C) A (storeName env x v) Q E s := by
 refine jI hE hF.loc hx hns hV a r fun h' hst hv kp hp ⟨m, hn, hmx, old⟩ => h _ ⟨List.prefix_refl _, hst, fun b o hb _ e _ => kp b o hb e, hv, Nat.le_succ _⟩ (hp _ _ (Nat.le_succ _) hV r) ⟨lo, m, Nat.le_trans le (Nat.le_succ _), hn, fun y u e => hy y u ?_, old lo hV0⟩
 rw [hmx] at e
 exact Option.some.inj e
noncomputable def Px : MV → Bool
 | .str _ => true
 | _ => false
def m7 (it : EM) (x : Nat) (b : SM) : SM := fun V σ => match it V σ with
 | some (.str l, σ1) => eK (.str l) (l.map fun c => .str [c]) x b (l.map fun c => .str [c]) V σ1
 | _ => none
theorem uG {it : EM} {x : Nat} {b : SM} {V : ap} {σ : ac} {R : Option MV × ap × ac} (h : m7 it x b V σ = some R) : ∃ l σ1 its, it V σ = some (.str l, σ1) ∧ cW (.str l) σ1 = some its ∧ eK (.str l) its x b its V σ1 = some R := by
 unfold m7 at h
 split at h
 ·rename_i q; exact ⟨_, _, _, q, rfl, h⟩
 ·exact nS h
theorem SOk.forY (hE : aS env) (hF : fc C env) {x : Str} {c : Nat} {p pos : Pos} {iter : Expr} {b : List Stmt} {m : EM} {mb : SM} (hx : nc x = c) (hk : env.kindOf x = some .local) (hsg : ∀ c, c < 48 → x ≠ ⟨#[c]⟩) (he : EOk C k env iter m) (hb : BC C k env x b mb) (hs : ∀ x, foldedSetIterable iter env x = pure x) :
  SOk C k env (.For (.Name x p) iter b [] pos) (m7 m c mb) := by
 intro A V V' σ σ' r s ρ Q E hA hV hS hm h
 subst hx
 refine e33 (uG hm) fun l σ1 its q q2 hm => ?_
 refine wpAny_For (he A V σ σ1 _ s ρ _ _ hA hV hS q fun vv s1 ρ1 st1 r1 => kY st1.st r1 q2 fun src o hsrc it hi hstr => ?_) hs
 have hV1 := hV.step st1
 have gr := aT.grow st1.st o
 refine nN (fun _ _ _ => t5) (fun _ _ _ _ _ => pf) (fun V σ V1 r5 V5 σ5 a t s ρ u j Q E st hV hV0 le _ ra hy e q2 h => ?_) hA.1 (i0.of hV1 st1.st (dS s1.heap)) hsrc hi gr.ss (hV1.step gr) it hm fun f s' ρ' st hV hf => h f s' ρ' (st1.ss.trans st) hV hf
 cases e
 exact wpAny_of_eq (show letOwnedTupleGo (.Name x p) (.ref _) u = pure () from rfl) (wpAny_assign_Name (lU hE hF hk hsg hV hV0 le (hy (hstr rfl)) st.st ra fun s4 st4 hV4 hY4 => hb A _ V5 σ σ5 r5 s4 ρ _ _ hA hV4 hY4 st4.st q2 fun f s5 ρ5 st5 => h f s5 ρ5 (st4.trans st5)))
end
def c0 : Nat := nc ".0"
def di (v : MV) (its : List MV) (bd : ap → MV → Option ap) (n : Nat) (c : CM) (e : EM) (V : ap) : List MV → ac → Option ac
 | [], σ => match ck v its σ with
  | true => some σ
  | false => none
 | a :: r, σ => match ck v its σ, bd V a with
  | true, some V1 => match c V1 σ with
   | none => none
   | some (false, σ1) => di v its bd n c e V r σ1
   | some (true, σ1) => match e V1 σ1 with
    | none => none
    | some (y, σ2) => match am σ2 n with
     | none => none
     | some acc => match Nat.ble acc.length 1000000 with
      | false => none
      | true => di v its bd n c e V r (σ2.set n (acc ++ [y]))
  | _, _ => none
def aX (it : EM) (bd : ap → MV → Option ap) (c : CM) (e : EM) : EM := fun V σ => match lk V c0, it V σ with
 | none, some (v, σ1) => match cW v σ1, Nat.ble 1 σ1.length with
  | some its, true => match di v its bd σ1.length c e V its (σ1 ++ [[]]) with
   | some σ2 => some (.ref σ1.length, σ2)
   | none => none
  | _, _ => none
 | _, _ => none
def bd1 (x : Nat) : ap → MV → Option ap := fun V a => some (put V x a)
def bd2 (x y : Nat) : ap → MV → Option ap := fun V a => match a with
 | .pair p q => some (put (put V x p) y q)
 | _ => none
noncomputable def del (x : Nat) : ap → ap
 | [] => []
 | p :: r => match Nat.beq p.1 x with
  | true => del x r
  | false => p :: del x r
theorem jt (x : Nat) : ∀ (V : ap) (y : Nat), lk (del x V) y = if y = x then none else lk V y := by
 intro V
 induction V with
 | nil =>
  intro y
  simp [del, lk]
 | cons p r ih =>
  intro y
  have ih := ih y
  unfold del
  rw [dU]
  by_cases h : p.1 = x
  ·rw [decide_eq_true h]
   show lk (del x r) y = _
   rw [ih]
   by_cases q : y = x
   ·rw [if_pos q, if_pos q]
   ·rw [if_neg q, if_neg q]
    show _ = (match Nat.beq p.1 y with | true => some p.2 | false => lk r y)
    rw [dU, decide_eq_false fun e => q (e.symm.trans h)]
  ·rw [decide_eq_false h]
   show (match Nat.beq p.1 y with | true => some p.2 | false => lk (del x r) y) = if y = x then none else (match Nat.beq p.1 y with | true => some p.2 | false => lk r y)
   rw [dU, ih]
   by_cases q : p.1 = y
   ·have : ¬ y = x := fun e => h (q.trans e)
    rw [decide_eq_true q]
    simp only [if_neg this]
   ·rw [decide_eq_false q]
def oB (env : Env) : List (Str × NameKind) → List (Str × Addr)
 | [] => []
 | (n, k) :: r => match k with
  | .free => (n, (env.cells.lookup n).getD 0) :: oB env r
  | _ => oB env r
def eO (env : Env) : List (Str × NameKind) → Prop
 | [] => True
 | (n, k) :: r => (k = .free → (env.kindOf n = some .cell ∨ env.kindOf n = some .free) ∧ ∃ c, env.cells.lookup n = some c) ∧ k ≠ .cell ∧ eO env r
theorem eO.mem {env : Env} : ∀ {l : List (Str × NameKind)}, eO env l → ∀ p ∈ l, (p.2 = .free → (env.kindOf p.1 = some .cell ∨ env.kindOf p.1 = some .free) ∧ ∃ c, env.cells.lookup p.1 = some c) ∧ p.2 ≠ .cell
 | (n, k) :: r, ⟨h1, h2, h3⟩, p, hp => by
  rcases List.mem_cons.mp hp with rfl | hp
  ·exact ⟨h1, h2⟩
  ·exact h3.mem p hp
theorem GN (env : Env) : ∀ {l : List (Str × NameKind)}, eO env l → ∀ n c, (n, c) ∈ oB env l → env.cells.lookup n = some c := by
 intro l
 induction l with
 | nil =>
  intro _ n c h
  cases h
 | cons hd0 r ih =>
  obtain ⟨n, k⟩ := hd0
  intro ⟨h1, h2, h3⟩ m c h
  cases k with
  | free =>
   have h : (m, c) ∈ (n, (env.cells.lookup n).getD 0) :: oB env r := h
   rcases List.mem_cons.mp h with e | h
   ·cases e
    obtain ⟨c', hc'⟩ := (h1 rfl).2
    rw [hc']; rfl
   ·exact ih h3 m c h
  | _ => exact ih h3 m c h
theorem uf (env : Env) : ∀ {l : List (Str × NameKind)}, eO env l → ∀ n, (n, NameKind.free) ∈ l → ∃ c, (n, c) ∈ oB env l
 | (n, k) :: r, ⟨h1, h2, h3⟩, m, hm => by
  rcases List.mem_cons.mp hm with e | hm
  ·cases e
   exact ⟨_, List.mem_cons_self⟩
  ·obtain ⟨c, hc⟩ := uf env h3 m hm
   cases k with
   | free => exact ⟨c, List.mem_cons_of_mem _ hc⟩
   | _ => exact ⟨c, hc⟩
theorem fm {α : Type} : ∀ {l : List (Str × α)} {n : Str} {c : α}, (n, c) ∈ l → ∃ c', l.lookup n = some c'
 | (k, v) :: r, n, c, h => by
  rw [List.lookup_cons]
  match q : n == k with
  | true => exact ⟨_, rfl⟩
  | false =>
   rcases List.mem_cons.mp h with e | h
   ·cases e; rw [beq_self_eq_true] at q; cases q
   ·exact fm h
theorem rO (env : Env) (f : Str × NameKind → List (Str × Addr) → Sem (ForInStep (List (Str × Addr)))) (hf : ∀ n k cs, f (n, k) cs = if k == .free then (do let a ← cellOf env n; pure (.yield ((n, a) :: cs))) else pure (.yield cs)) : ∀ (l : List (Str × NameKind)) (cs : List (Str × Addr)), eO env l → forIn l cs f = pure ((oB env l).reverse ++ cs) := by
 intro l
 induction l with
 | nil =>
  intro cs _
  simp [oB]
 | cons hd0 r ih =>
  obtain ⟨n, k⟩ := hd0
  intro cs ⟨h1, h2, h3⟩
  rw [List.forIn_cons, hf]
  cases k with
  | free =>
   obtain ⟨c, hc⟩ := (h1 rfl).2
   have e : cellOf env n = pure c := by unfold cellOf; rw [hc]
   have e2 : (NameKind.free == NameKind.free) = true := rfl
   rw [e2, if_pos rfl, e]
   simp only [pure_bind]
   rw [ih _ h3]
   have e3 : oB env ((n, NameKind.free) :: r) = (n, c) :: oB env r := by
    show (n, (env.cells.lookup n).getD 0) :: _ = _
    rw [hc]; rfl
   rw [e3]
   simp
  | cell => exact absurd rfl h2
  | _ =>
   rw [if_neg (by decide)]
   simp only [pure_bind]
   rw [ih _ h3]
   rfl
def clR (env : Env) (l : List (Str × NameKind)) : List (Str × Addr) := (oB env l).reverse
theorem n8 {env : Env} {scope : Scope} (h : eO env scope.names) : closureFor scope env = pure (clR env scope.names) := by
 have key := rO env (fun x cs => match x with
  | (n, k) => if (k == NameKind.free) = true then (do let a ← cellOf env n; pure (.yield ((n, a) :: cs))) else pure (.yield cs)) (fun n k cs => rfl) scope.names [] h
 show (forIn scope.names ([] : List (Str × Addr)) _ >>= fun s => pure s) = _
 refine Eq.trans (congrArg (fun t => t >>= fun s => pure s) key) ?_
 simp [clR]
theorem rP {env : Env} {l : List (Str × NameKind)} (h : eO env l) {n : Str} {c : Addr} (hl : (clR env l).lookup n = some c) : env.cells.lookup n = some c :=
 GN env h n c (List.mem_reverse.mp (PySem.mem_of_lookup hl))
theorem IF {env : Env} {l : List (Str × NameKind)} (h : eO env l) {n : Str} (hl : (n, NameKind.free) ∈ l) : ∃ c, (clR env l).lookup n = some c ∧ env.cells.lookup n = some c := by
 obtain ⟨c, hc⟩ := uf env h n hl
 obtain ⟨c', hc'⟩ := fm (List.mem_reverse.mpr hc)
 exact ⟨c', hc', rP h hc'⟩
section
variable {C : Sys} {k : Nat} {env : Env}
theorem ja (hE : aS env) (hL : C.h₁.get? env.locals = none) {A : Around} {E : Value → Shared → Prop} {Q : Unit → Shared → Prop} {x : Str} {V : ap} {v : Value} {mv : MV} {σ : ac} {s : Shared} {ρ : List Addr} (e : env.kindOf x = some .local) (hns : ∀ c, c < 48 → x ≠ ⟨#[c]⟩)
  (hV : aJ C.w env V s.toks ρ s.heap) (a : MSt C σ ρ s) (r : a7 C.w s.toks s.heap ρ v mv)
  (h : ∀ s', MSt C σ ρ s' → s.toks ≤ s'.toks → dX s.heap s'.heap → (∀ b o, b ≠ env.locals → s.heap.get? b = some o → s'.heap.get? b = some o) → aJ C.w env (put V (nc x) mv) s'.toks ρ s'.heap → Q () s') : wpAny (pwM C) A (storeName env x v) Q E s := by
 exact jI hE hL e hns hV a r fun h' hst hv kp hp _ => h _ hst (Nat.le_succ _) hv kp (hp _ _ (Nat.le_succ _) hV r)
theorem aJ.weaken {w : World} {V V' : ap} {t : Nat} {ρ : List Addr} {h : Heap} (hV : aJ w env V t ρ h) (hs : ∀ c mv, lk V' c = some mv → lk V c = some mv) : aJ w env V' t ρ h := by
 obtain ⟨⟨m, ns, q, hr⟩, hc⟩ := hV
 exact ⟨⟨m, ns, q, fun n mv hl => hr n mv (hs _ _ hl)⟩, hc⟩
structure mF (C : Sys) (e' : Env) (target : Expr) (bd : ap → MV → Option ap) (er : ap → ap) : Prop where
 sub : ∀ V c mv, lk (er V) c = some mv → lk V c = some mv
 bnd : ∀ V a V1, bd V a = some V1 → ∃ V2, bd (er V) a = some V2 ∧ ∀ c, lk V2 c = lk V1 c
 back : ∀ V a V1 c mv, bd V a = some V1 → lk (er V) c = some mv → lk V1 c = some mv
 run : ∀ (A : Around) (V V' : ap) (σ : ac) (s : Shared) (ρ : List Addr) (v : Value) (mv : MV) (I : Addr) (src : Src) (j : Nat) (Q : Unit → Shared → Prop) (E : Value → Shared → Prop), A.handled = none → C.h₁.get? e'.locals = none → aJ C.w e' V s.toks ρ s.heap → MSt C σ ρ s →
  a7 C.w s.toks s.heap ρ v mv → bd V mv = some V' → dO ρ I j s.heap src → (∀ p q, mv = .pair p q → ∃ i, src = .lst i) →
  (∀ s', MSt C σ ρ s' → s.toks ≤ s'.toks → dX s.heap s'.heap → (∀ b o, b ≠ e'.locals → s.heap.get? b = some o → s'.heap.get? b = some o) → aJ C.w e' V' s'.toks ρ s'.heap → Q () s') →
  wpAny (pwM C) A (letOwnedTupleGo target (.ref I) v) (fun _ s1 => wpAny (pwM C) A (assign target e' v) Q E s1) E s
theorem mF.one {e' : Env} (hE : aS e') {x : Str} {c : Nat} {p : Pos} (hx : nc x = c) (hk : e'.kindOf x = some .local) (hns : ∀ c, c < 48 → x ≠ ⟨#[c]⟩) : mF C e' (.Name x p) (bd1 c) (del c) := by
 subst hx
 refine ⟨fun V c mv h => ?_, fun V a V1 h => ⟨_, rfl, fun c => ?_⟩, fun V a V1 c mv h hl => ?_, fun A V V' σ s ρ v mv I src j Q E hA hL hV a r hb it hp h => ?_⟩
 ·rw [jt] at h
  by_cases q : c = nc x
  ·rw [if_pos q] at h; exact nS h
  ·rw [if_neg q] at h; exact h
 ·cases h
  rw [ch, ch, jt]
  by_cases q : c = nc x
  ·rw [if_pos q, if_pos q]
  ·rw [if_neg q, if_neg q, if_neg q]
 ·cases h
  rw [jt] at hl
  rw [ch]
  by_cases q : c = nc x
  ·rw [if_pos q] at hl; exact nS hl
  ·rw [if_neg q] at hl ⊢; exact hl
 ·cases hb
  refine wpAny_of_eq (show letOwnedTupleGo (.Name x p) (.ref I) v = pure () from rfl) ?_
  exact wpAny_assign_Name (ja hE hL hk hns hV a r h)
set_option tactic.hygienic true in
theorem mF.two {e' : Env} (hE : aS e') {x y : Str} {c d : Nat} {p p' tp : Pos} {kk : Nat} (hx : nc x = c) (hy : nc y = d) (hk : e'.kindOf x = some .local) (hk2 : e'.kindOf y = some .local) (hns : ∀ c, c < 48 → x ≠ ⟨#[c]⟩) (hns2 : ∀ c, c < 48 → y ≠ ⟨#[c]⟩) :
  mF C e' (.Tuple [.Name x p, .Name y p'] kk tp) (bd2 c d) (fun V => del d (del c V)) := by
 subst hx hy
 have hdel : ∀ V c', lk (del (nc y) (del (nc x) V)) c' = if c' = nc y then none else if c' = nc x then none else lk V c' := fun V c' => by rw [jt, jt]
 refine ⟨fun V c mv h => ?_, fun V a V1 h => ?_, fun V a V1 c mv h hl => ?_, fun A V V' σ s ρ v mv I src j Q E hA hL hV a r hb it hp h => ?_⟩
 ·rw [hdel] at h
  by_cases q : c = nc y
  ·rw [if_pos q] at h; exact nS h
  ·rw [if_neg q] at h
   by_cases q2 : c = nc x
   ·rw [if_pos q2] at h; exact nS h
   ·rw [if_neg q2] at h; exact h
 ·cases a <;> first | (exact nS h; done) | skip
  cases h
  refine ⟨_, rfl, fun c => ?_⟩
  rw [ch, ch, ch, ch, hdel]
  by_cases q : c = nc y
  ·rw [if_pos q, if_pos q]
  ·rw [if_neg q, if_neg q]
   by_cases q2 : c = nc x
   ·rw [if_pos q2, if_pos q2, if_neg q]
   ·rw [if_neg q2, if_neg q2, if_neg q, if_neg q2]
 ·cases a <;> first | (exact nS h; done) | skip
  cases h
  rw [hdel] at hl
  rw [ch, ch]
  by_cases q : c = nc y
  ·rw [if_pos q] at hl; exact nS hl
  ·rw [if_neg q] at hl ⊢
   by_cases q2 : c = nc x
   ·rw [if_pos q2] at hl; exact nS hl
   ·rw [if_neg q2] at hl ⊢; exact hl
 ·cases mv <;> first | (exact nS hb; done) | skip
  rename_i a1 b1
  cases hb
  obtain ⟨i, rfl⟩ := hp _ _ rfl
  refine e12 it fun ax hax hit => ?_
  refine e34 r fun ad va vb z3 ht ra rb => ?_; subst z3
  refine wpAny_letOwnedTupleGo_listiter hit ?_
  refine wpAny_assign_Tuple hA ht rfl rfl fun h' hx => ?_
  have gr : aT C s ρ σ { s with heap := h' } ρ := aT.heap (t := s.toks) a (Nat.le_refl _) (fun b o e => hx b o (Nat.ne_of_lt (Heap.lt_size e)) e)
  show wpAny (pwM C) A (do holding [vb] (assign (.Name x p) e' va); do holding [] (assign (.Name y p') e' vb); pure ()) _ _ _
  refine wpAny_bind (wpAny_holding (wpAny_assign_Name (ja hE hL hk hns (hV.step gr) gr.st (ra.step gr) fun s2 a2 le2 ev2 kp2 hV2 => ?_)))
  refine wpAny_bind (wpAny_holding (wpAny_assign_Name (ja hE hL hk2 hns2 hV2 a2 ((rb.step gr).mono le2 ev2 (List.prefix_refl _)) fun s3 a3 le3 ev3 kp3 hV3 => wpAny_pure ?_)))
  exact h s3 a3 (Nat.le_trans gr.tk (Nat.le_trans le2 le3)) (gr.ext.v.trans (ev2.trans ev3)) (fun b o hb e => kp3 b o hb (kp2 b o hb (hx b o (Nat.ne_of_lt (Heap.lt_size e)) e))) hV3
def lH : List (Str × NameKind) → Bool
 | [] => true
 | p :: r => r.all (fun q => !(Nat.beq (nc p.1) (nc q.1))) && lH r
theorem mQ : ∀ {l : List (Str × NameKind)}, lH l = true → ∀ p ∈ l, ∀ q ∈ l, nc p.1 = nc q.1 → p = q
 | a :: r, h, p, hp, q, hq, e => by
  unfold lH at h
  rw [Bool.and_eq_true] at h
  have hall : ∀ q ∈ r, nc a.1 ≠ nc q.1 := fun q hq e => by
   have := List.all_eq_true.mp h.1 q hq
   rw [e, dU] at this
   simp at this
  rcases List.mem_cons.mp hp with e1 | hp <;> rcases List.mem_cons.mp hq with e2 | hq
  ·rw [e1, e2]
  ·rw [e1] at e; exact absurd e (hall q hq)
  ·rw [e2] at e; exact absurd e.symm (hall p hp)
  ·exact mQ h.2 p hp q hq e
def rlK (env : Env) (n : Str) (k : NameKind) : NameKind := if (k == .free && env.scope.kind == .function && env.kindOf n == some .cell) = true then .cell else k
theorem oP (env : Env) (n : Str) : ∀ l : List (Str × NameKind), (l.map fun (n, k) => if (k == .free && env.scope.kind == .function && env.kindOf n == some .cell) then (n, NameKind.cell) else (n, k)).lookup n = (l.lookup n).map (rlK env n)
 | [] => rfl
 | (m, k) :: r => by
  rw [List.map_cons, List.lookup_cons]
  have ih := oP env n r
  have hfst : (if (k == .free && env.scope.kind == .function && env.kindOf m == some .cell) = true then (m, NameKind.cell) else (m, k)) = (m, rlK env m k) := by
   unfold rlK; split <;> rfl
  show List.lookup n ((if (k == .free && env.scope.kind == .function && env.kindOf m == some .cell) = true then (m, NameKind.cell) else (m, k)) :: _) = _
  rw [hfst, List.lookup_cons]
  conv => rhs; rw [List.lookup_cons]
  match q : n == m with
  | true =>
   have : n = m := eq_of_beq q
   subst this; rfl
  | false => exact ih
theorem lR (env : Env) (scope : Scope) (cl : List (Str × Addr)) (L : Addr) (n : Str) : (compEnvC scope cl L env).kindOf n = (scope.names.lookup n).map (rlK env n) := oP env n scope.names
theorem aS.comp (hE : aS env) {scope : Scope} (hk : scope.kind = .function) (hf : eO env scope.names) (hi : lH scope.names = true) (L : Addr) : aS (compEnvC scope (clR env scope.names) L env) := by
 refine ⟨hk, hE.glob, hE.blt, fun n n' c h1 h2 => hE.cells n n' c (rP hf h1) (rP hf h2), fun n n' h1 h2 e => ?_⟩
 rw [lR] at h1 h2
 match q1 : scope.names.lookup n with
 | none => rw [q1] at h1; exact absurd rfl h1
 | some k1 => match q2 : scope.names.lookup n' with
  | none => rw [q2] at h2; exact absurd rfl h2
  | some k2 => exact congrArg Prod.fst (mQ hi _ (PySem.mem_of_lookup q1) _ (PySem.mem_of_lookup q2) e)
theorem HZ (hE : aS env) {scope : Scope} (hf : eO env scope.names) {w : World} {V V0 : ap} {t : Nat} {ρ : List Addr} {h : Heap} {L : Addr} (hV : aJ w env V t ρ h) (hn : h.Ns L fun _ => none) (hsub : ∀ c mv, lk V0 c = some mv → lk V c = some mv)
  (hloc : ∀ n, scope.names.lookup n = some .local → lk V0 (nc n) = none) : aJ w (compEnvC scope (clR env scope.names) L env) V0 t ρ h := by
 obtain ⟨⟨m, ns, q, hr⟩, hc⟩ := hV
 refine ⟨⟨_, hn, fun _ _ => rfl, fun n mv hl => ?_⟩, fun n c e1 e2 => ?_⟩
 ·unfold cb
  rw [lR]
  cases q1 : scope.names.lookup n with
  | none => trivial
  | some k1 =>
   have hm := PySem.mem_of_lookup q1
   obtain ⟨hfree, hcell⟩ := hf.mem _ hm
   have fr : k1 = .free → ∃ c v, (clR env scope.names).lookup n = some c ∧ h.IsCell c (some v) ∧ a7 w t h ρ v mv := fun e => by
    subst e
    obtain ⟨hkind, _⟩ := hfree rfl
    refine e12 (IF hf hm) fun c hc1 hc2 => ?_
    have := hr n mv (hsub _ _ hl)
    unfold cb at this
    rcases hkind with e | e
    ·rw [show env.kindOf n = some .cell from e] at this
     refine e23 this fun c' v h1 h2 h3 => ?_
     rw [hc2] at h1; cases h1
     exact ⟨c, v, hc1, h2, h3⟩
    ·rw [show env.kindOf n = some .free from e] at this
     refine e23 this fun c' v h1 h2 h3 => ?_
     rw [hc2] at h1; cases h1
     exact ⟨c, v, hc1, h2, h3⟩
   cases k1 with
   | free =>
    show (match some (rlK env n .free) with
     | some .local => _ | some .cell => _ | some .free => _ | _ => True)
    unfold rlK
    split
    ·rename_i e
     split at e <;> cases e
    ·exact fr rfl
    ·exact fr rfl
    ·trivial
   | «local» =>
    have := hloc n q1
    rw [this] at hl; exact nS hl
   | cell => exact absurd rfl hcell
   | _ => trivial
 ·have e2' := rP hf e2
  have hm : ∃ k, (n, k) ∈ scope.names ∧ rlK env n k = .cell := by
   rw [lR] at e1
   match q1 : scope.names.lookup n with
   | none => rw [q1] at e1; exact nS e1
   | some k1 => rw [q1] at e1; exact ⟨k1, PySem.mem_of_lookup q1, Option.some.inj e1⟩
  refine e12 hm fun k1 hm hk => ?_
  have hcell := (hf.mem _ hm).2
  have : env.kindOf n = some .cell := by
   unfold rlK at hk
   split at hk
   ·rename_i e
    rw [Bool.and_eq_true, Bool.and_eq_true] at e
    exact eq_of_beq e.2
   ·exact absurd hk hcell
  exact hc n c this e2'
end
section
variable {C : Sys} {k : Nat} {env : Env}
def Op (C : Sys) (A : Around) (env : Env) (elt target : Expr) (ifs : List Expr) (it acc : Value) (R : Result → Shared → Prop) (N : Shared → Prop) (s : Shared) : Prop :=
 wpAny (pwM C) A (pyNext it) (fun r s₁ => match r with
   | none => R (.ok .next) s₁
   | some v => wpAny (pwM C) A (letOwnedTupleGo target it v) (fun _ s₁' => wpAny (pwM C) A (assign target env v) (fun _ s₂ =>
     wpAny (pwM C) A (forIn ifs true fun c r => if r = true then do let ok ← isTrue c env (eval c env); pure (ForInStep.yield ok) else pure (ForInStep.yield r)) (fun ok s₃ =>
      if ok = true then wpAny (pwM C) A (eval elt env) (fun x s₄ =>
       wpAny (pwM C) A (call (.builtin "list.append") [acc, x]) (fun _ s₅ => N s₅) (notedBy (pwM C) A env fun e s' => R (.error e) s') s₄) (notedBy (pwM C) A env fun e s' => R (.error e) s') s₃
      else N s₃) (notedBy (pwM C) A env fun e s' => R (.error e) s') s₂) (notedBy (pwM C) A env fun e s' => R (.error e) s') s₁') (notedBy (pwM C) A env fun e s' => R (.error e) s') s₁) (notedBy (pwM C) A env fun e s' => R (.error e) s') s
theorem AP {A : Around} {R : Result → Shared → Prop} {s : Shared} {elt target iter : Expr} {ifs : List Expr} {scope : Scope} {pos : Pos} {it acc : Value} {env : Env} (I : Nat → Shared → Prop)
  (turn : ∀ n s N, I n s → (∀ m s₃, m < n → I m s₃ → N s₃) → Op C A env elt target ifs it acc R N s)
  (n : Nat) (h : I n s) : codeAny (pwM C) A (.compLoop (.ListComp elt [⟨target, iter, ifs, 0⟩] scope pos) 0 it acc env) R s := by
 refine codeAny_loop rfl I (fun n s hI => ?_) n h
 show wpAny _ A ((compTurn (.ListComp elt [⟨target, iter, ifs, 0⟩] scope pos) 0 it acc env).onRaise (fun x => do noteFrame x env; theTreesLotGoes x)) _ _ s
 refine wpAny_noted ?_
 rw [compTurn_list]
 refine wpAny_bind (wpAny_standAt (wpAny_bind (wpAny_mono (turn n s (fun s₃ => ∃ m, m < n ∧ I m s₃) hI fun m _ h1 h2 => ⟨m, h1, h2⟩) (fun r s₁ h₁ => ?_) fun _ _ h' => h')))
 cases r with
 | none => exact wpAny_pure h₁
 | some v =>
  refine wpAny_bind (wpAny_mono h₁ (fun _ s₁' h₁' => ?_) fun _ _ h' => h')
  refine wpAny_bind (wpAny_mono h₁' (fun _ s₂ h₂ => wpAny_bind (wpAny_mono h₂ (fun ok s₃ h₃ => ?_) fun _ _ h' => h')) fun _ _ h' => h')
  cases ok with
  | false => exact wpAny_pure ⟨rfl, h₃⟩
  | true =>
   exact wpAny_bind (wpAny_bind (wpAny_mono h₃ (fun x s₄ h₄ => wpAny_bind (wpAny_mono h₄ (fun _ s₅ h₅ => wpAny_pure (wpAny_pure ⟨rfl, h₅⟩)) fun _ _ h' => h')) fun _ _ h' => h'))
def k8 (C : Sys) (k : Nat) (env : Env) (ifs : List Expr) (m : CM) : Prop :=
 ∀ (A : Around) (V : ap) (σ σ' : ac) (b : Bool) (s : Shared) (ρ : List Addr) (Q : Bool → Shared → Prop) (E : Value → Shared → Prop), AOk A k → aJ C.w env V s.toks ρ s.heap → MSt C σ ρ s → m V σ = some (b, σ') →
  PC C s ρ Q b σ' → wpAny (pwM C) A (forIn ifs true fun c r => if r = true then do let ok ← isTrue c env (eval c env); pure (ForInStep.yield ok) else pure (ForInStep.yield r)) Q E s
theorem k8.nil : k8 C k env [] (cK true) := by
 intro A V σ σ' b s ρ Q E hA hV hS hm h
 have h := h.of hm
 exact wpAny_tests_nil (h s ρ (.refl hS))
theorem k8.one {e : Expr} {c : CM} (hc : COk C k env e c) : k8 C k env [e] c := by
 intro A V σ σ' b s ρ Q E hA hV hS hm h
 exact wpAny_tests_one (hc A V σ σ' b s ρ Q E hA hV hS hm h)
theorem It {A : Around} {E : Value → Shared → Prop} {Q : Value → Shared → Prop} {s : Shared} {ρ : List Addr} {I : Addr} {j : Nat} {src : Src} (it : dO ρ I j s.heap src) (h : Q (.ref I) s) : wpAny (pwM C) A (pyIter (.ref I)) Q E s := by
 cases src with
 | lst i => refine e12 it fun ax _ hit => ?_; exact wpAny_pyIter_listiter hit h
 | asc x t => exact wpAny_pyIter_striter_ascii it h
 | wid x t => exact wpAny_pyIter_striter_wide it h
 | rg a c n => exact wpAny_pyIter_rangeiter it h
theorem B3 {σ : ac} {items : List MV} {src : Src} {j : Nat} {mv : MV} (hi : fw σ items src) (hj : items[j]? = some mv) (p q : MV) (e : mv = .pair p q) : ∃ i, src = .lst i := by
 subst e
 cases src with
 | lst i => exact ⟨i, rfl⟩
 | asc x t =>
  have hi : items = x.map fun c => .str [c] := hi
  subst hi
  rw [List.getElem?_map, Option.map_eq_some_iff] at hj
  refine e12 hj fun _ _ e => ?_; cases e
 | wid x t =>
  have hi : items = x.map fun c => .str [c] := hi
  subst hi
  rw [List.getElem?_map, Option.map_eq_some_iff] at hj
  refine e12 hj fun _ _ e => ?_; cases e
 | rg a c n =>
  have hi : items = bu a c n := hi
  subst hi
  have hlt : j < n := by rw [← fQ a c n]; exact (List.getElem?_eq_some_iff.mp hj).1
  rw [jc a c n j hlt] at hj
  cases hj
set_option tactic.hygienic true in
theorem vz {it : EM} {bd : ap → MV → Option ap} {c : CM} {e : EM} {V : ap} {σ σ' : ac} {mv : MV} (h : aX it bd c e V σ = some (mv, σ')) :
  ∃ v σ1 its, lk V c0 = none ∧ it V σ = some (v, σ1) ∧ cW v σ1 = some its ∧ 1 ≤ σ1.length ∧ di v its bd σ1.length c e V its (σ1 ++ [[]]) = some σ' ∧ mv = .ref σ1.length := by
 unfold aX at h
 split at h
 ·rename_i v σ1 q1 q2
  split at h
  ·rename_i its q3 q4
   split at h
   ·rename_i σ2 q5
    cases h
    exact ⟨v, σ1, its, q1, q2, q3, Nat.le_of_ble_eq_true q4, q5, rfl⟩
   ·exact nS h
  ·exact nS h
 ·exact nS h
theorem AQ {v : MV} {its : List MV} {bd : ap → MV → Option ap} {n : Nat} {c : CM} {e : EM} {V : ap} {σ σ' : ac} (h : di v its bd n c e V [] σ = some σ') : ck v its σ = true ∧ σ = σ' := by
 unfold di at h
 obtain ⟨h1, h2⟩ := j6 h
 exact ⟨h1, Option.some.inj h2⟩
theorem vU {v : MV} {its : List MV} {bd : ap → MV → Option ap} {n : Nat} {c : CM} {e : EM} {V : ap} {a : MV} {r : List MV} {σ σ' : ac} (h : di v its bd n c e V (a :: r) σ = some σ') :
  ck v its σ = true ∧ ∃ V1 p σ1, bd V a = some V1 ∧ c V1 σ = some (p, σ1) ∧ (p = false → di v its bd n c e V r σ1 = some σ') ∧
   (p = true → ∃ y σ2 acc, e V1 σ1 = some (y, σ2) ∧ am σ2 n = some acc ∧ Nat.ble acc.length 1000000 = true ∧ di v its bd n c e V r (σ2.set n (acc ++ [y])) = some σ') := by
 unfold di at h
 split at h
 ·rename_i q1 q2
  split at h
  ·exact nS h
  ·rename_i q3; exact ⟨q1, _, _, _, q2, q3, fun _ => h, nofun⟩
  ·rename_i q3
   split at h
   ·exact nS h
   ·rename_i q4
    split at h
    ·exact nS h
    ·rename_i q5
     split at h
     ·exact nS h
     ·rename_i q6; exact ⟨q1, _, _, _, q2, q3, nofun, fun _ => ⟨_, _, _, q4, q5, q6, h⟩⟩
 ·exact nS h
theorem AX {σ : ac} {n : Nat} {acc : List MV} {y : MV} (hn : 1 ≤ n) (q5 : am σ n = some acc) (q6 : Nat.ble acc.length 1000000 = true) : bf [.ref n, y] σ = some (.none, σ.set n (acc ++ [y])) := by
 cases n with
 | zero => cases hn
 | succ n => unfold bf; simp only [q5, q6]
structure Oq (C : Sys) (e' : Env) (s₁ : Shared) (ρ₀ : List Addr) (I : Addr) (src : Src) (its : List MV) (V0 : ap) (L : List MV → ac → Option ac) (σ' : ac) (n : Nat) (s : Shared) (j : Nat) (σ : ac) (ρ : List Addr) : Prop where
 n : n = its.length + 1 - j
 le : j ≤ its.length
 pre : ρ₀ <+: ρ
 st : MSt C σ ρ s
 ext : Ext s₁.heap s.heap
 tk : s₁.toks ≤ s.toks
 hV : aJ C.w e' V0 s.toks ρ s.heap
 it : dO ρ I j s.heap src
 run : L (its.drop j) σ = some σ'
theorem vR {e' : Env} {elt target iter : Expr} {ifs : List Expr} {scope : Scope} {pos : Pos} {me : EM} {mc : CM} {bd : ap → MV → Option ap} {er : ap → ap} (ht : mF C e' target bd er) (hc : k8 C k e' ifs mc) (he : EOk C k e' elt me)
  {A : Around} {V : ap} {s₁ s₄ : Shared} {σ₁ σ₄ σ' : ac} {ρ₀ : List Addr} {I D : Addr} {nn : Nat} {v : MV} {its : List MV} {src : Src} {RR : Result → Shared → Prop} (hA : AOk A k) (hI1 : C.h₁.get? I = none) (hI0 : s₁.heap.get? I = none) (hL1 : C.h₁.get? e'.locals = none) (hLn : ∀ b ob, s₁.heap.get? b = some ob → ¬ isL ob → b ≠ e'.locals) (hIL : I ≠ e'.locals)
  (hD : ρ₀[nn]? = some D) (hn : 1 ≤ nn) (hsrc : pE v src) (hi : fw σ₁ its src) (start : Oq C e' s₁ ρ₀ I src its (er V) (di v its bd nn mc me V) σ' (its.length + 1) s₄ 0 σ₄ ρ₀)
  (hR : ∀ s ρ m, ρ₀ <+: ρ → MSt C σ' ρ s → Ext s₁.heap s.heap → s₁.toks ≤ s.toks → s.heap.Ns e'.locals m → oi m → RR (.ok .next) s) :
  codeAny (pwM C) A (.compLoop (.ListComp elt [⟨target, iter, ifs, 0⟩] scope pos) 0 (.ref I) (.ref D) e') RR s₄ := by
 have hD' : ∀ {ρ}, ρ₀ <+: ρ → ρ[nn]? = some D := fun ⟨t, e⟩ => by rw [← e, List.getElem?_append_left (List.getElem?_eq_some_iff.mp hD).1]; exact hD
 refine AP (fun n s => ∃ j σ ρ, Oq C e' s₁ ρ₀ I src its (er V) (di v its bd nn mc me V) σ' n s j σ ρ) ?_ _ ⟨0, _, _, start⟩
 intro n s N ⟨j, σ2, ρ2, c⟩ hNN
 have hm2 := c.run
 have ext1 : ∀ {h'}, d1 I s.heap h' → Ext s₁.heap h' := fun k1 b ob e n => k1 b ob (fun q => by rw [q, hI0] at e; exact nS e) (c.ext b ob e n)
 rcases Nat.lt_or_ge j its.length with hlt | hge
 ·rw [List.drop_eq_getElem_cons hlt] at hm2
  obtain ⟨hst, V1, b3, σ3, hbd, q3, q4, q5⟩ := vU hm2
  have hgo : ∀ {σ s ρ}, ρ₀ <+: ρ → MSt C σ ρ s → Ext s₁.heap s.heap → s₁.toks ≤ s.toks → aJ C.w e' V1 s.toks ρ s.heap → dO ρ I (j + 1) s.heap src → di v its bd nn mc me V (its.drop (j + 1)) σ = some σ' → N s := fun h1 h2 h3 h4 h5 h6 h7 =>
   hNN (its.length + 1 - (j + 1)) _ (by rw [c.n]; exact Nat.sub_lt_sub_left (Nat.lt_succ_of_lt hlt) (Nat.lt_succ_self j)) ⟨j + 1, _, _, rfl, hlt, h1, h2, h3, h4, h5.weaken (fun c mv hl => ht.back V _ V1 c mv hbd hl), h6, h7⟩
  have hi2 := fP hsrc hi hst
  have hget := List.getElem?_eq_getElem hlt
  refine e12 (ht.bnd V _ V1 hbd) fun V2 hb2 hlk => ?_
  refine zJ c.st hI1 c.it hi2 hget fun u h' tk' le k1 it3 r3 _ => ?_
  refine ht.run A (er V) V2 σ2 _ ρ2 u _ _ src (j + 1) _ _ hA.1 hL1 (c.hV.keep1 c.it.fields k1 le) (c.st.keep1 hI1 c.it.obj (t := tk') k1 le) r3 hb2 it3 (fun p q e => B3 hi2 hget p q e) fun sB msB leB evB kpB hVB => ?_
  have extB : Ext s₁.heap sB.heap := fun b ob e n => kpB b ob (hLn b ob e n) (ext1 k1 b ob e n)
  have itB : dO ρ2 I (j + 1) sB.heap src := it3.keep (List.prefix_refl _) fun ob e _ => kpB _ ob hIL e
  have hVB1 := hVB.weaken (V' := V1) fun c mv hl => by rw [hlk]; exact hl
  have tkB := Nat.le_trans c.tk (Nat.le_trans le leB)
  refine hc A V1 σ2 σ3 b3 sB ρ2 _ _ hA hVB1 msB q3 fun sC ρC stC => ?_
  have hVC := hVB1.step stC
  have itC := itB.keep stC.pre fun ob e n => stC.ext _ ob e n
  cases b3 with
  | false =>
   rw [if_neg Bool.false_ne_true]
   exact hgo (c.pre.trans stC.pre) stC.st (extB.trans stC.ext) (Nat.le_trans tkB stC.tk) hVC itC (q4 rfl)
  | true =>
   rw [if_pos rfl]
   refine e34 (q5 rfl) fun y σ4 acc q6 q7 q8 q9 => ?_
   refine he A V1 σ3 σ4 y sC ρC _ _ hA hVC stC.st q6 fun w sD ρD stD rD => ?_
   refine cN (C := C) (k := k) A σ4 _ [.ref nn, y] .none [.ref D, w] sD ρD _ _ hA stD.st (.cons ⟨D, hD' (c.pre.trans (stC.pre.trans stD.pre)), rfl⟩ (.cons rD .nil)) (AX hn q7 q8) fun _ sE ρE stE _ => ?_
   have stX := stC.trans (stD.trans stE)
   exact hgo (c.pre.trans stX.pre) stX.st (extB.trans stX.ext) (Nat.le_trans tkB stX.tk) ((hVC.step stD).step stE) (itB.keep stX.pre fun ob e n => stX.ext _ ob e n) q9
 ·rw [List.drop_eq_nil_of_le hge] at hm2
  obtain ⟨hst, e⟩ := AQ hm2
  cases e
  cases Nat.le_antisymm c.le hge
  refine Gk hA.1 c.st c.it (fP hsrc hi hst) fun h' k1 => ?_
  obtain ⟨⟨m, hns, hsg, _⟩, _⟩ := c.hV.keep1 c.it.fields k1 (Nat.le_refl _)
  exact hR _ ρ2 m c.pre (c.st.keep1 hI1 c.it.obj (t := s.toks) k1 (Nat.le_refl _)) (ext1 k1) c.tk hns hsg
theorem pt (hE : aS env) {elt target iter : Expr} {ifs : List Expr} {scope : Scope} {pos : Pos} {mi me : EM} {mc : CM} {bd : ap → MV → Option ap} {er : ap → ap} (hi : EOk C k env iter mi) (hf : eO env scope.names) (hk : scope.kind = .function) (hinj : lH scope.names = true)
  (hloc : ∀ V n, lk V c0 = none → scope.names.lookup n = some .local → lk (er V) (nc n) = none)
  (ht : ∀ L, mF C (compEnvC scope (clR env scope.names) L env) target bd er) (hc : ∀ L, k8 C k (compEnvC scope (clR env scope.names) L env) ifs mc) (he : ∀ L, EOk C k (compEnvC scope (clR env scope.names) L env) elt me)
  {A : Around} {V : ap} {σ σ' : ac} {mv : MV} {s : Shared} {ρ : List Addr} {E : Value → Shared → Prop} (hA : AOk A k) (hV : aJ C.w env V s.toks ρ s.heap) (hS : MSt C σ ρ s) (hm : aX mi bd mc me V σ = some (mv, σ')) (RR : Value → Addr → Result → Shared → Prop)
  (h : ∀ acc L s' ρ' m, aT C s ρ σ' s' ρ' → a7 C.w s'.toks s'.heap ρ' acc mv → C.h₁.get? L = none → (∀ b o, s.heap.get? b = some o → ¬ isL o → b ≠ L) → s'.heap.Ns L m → oi m → RR acc L (.ok .next) s') :
  wpAny (pwM C) A (eval iter env) (fun x s₁ => wpAny (pwM C) A (pyIter x) (fun it s₂ => wpAny (pwM C) A (newList []) (fun acc s₃ =>
   wpAny (pwM C) A (newFunctionEnv scope env.globals (clR env scope.names) [] env.qual none .none (some env)) (fun cenv s₄ =>
    codeAny (pwM C) A (.compStart (.ListComp elt [⟨target, iter, ifs, 0⟩] scope pos) 0 it acc { cenv with scope := relabel scope env }) (RR acc cenv.locals) s₄) E s₃) E s₂) E s₁) E s := by
 refine e36 (vz hm) fun v σ1 its hc0 q1 q2 hn1 hcl z8 => ?_; subst z8
 refine hi A V σ σ1 v s ρ _ _ hA hV hS q1 fun vv s1 ρ1 st1 r1 => kY st1.st r1 q2 fun src o hsrc it hit _ => ?_
 have hV1 := hV.step st1
 have gr := aT.grow st1.st o
 have hV2 := hV1.step gr
 refine wpAny_newObj_type ?_
 have ms3 := aT.push gr.st (vs := []) (xs := []) .nil
 generalize hD : ({ s1 with heap := s1.heap.push o } : Shared).heap.objs.size = D at ms3 ⊢
 have hV3 := hV2.step ms3
 generalize hs3 : ({ s1 with heap := (s1.heap.push o).push { cls := .type "list", data := .seq ([] : List Value).toArray } } : Shared) = s3 at ms3 hV3
 have hcell : ∀ x ∈ scope.names, x.2 ≠ .cell := fun x hx => (hf.mem x hx).2
 refine wpAny_newFunctionEnv hcell (by intro y hy; simp at hy) (fun h₁ hns₁ hsb₁ => ?_) hk
 have kp : ∀ b o, s3.heap.get? b = some o → h₁.get? b = some o := fun b o e => (hsb₁.2 b (Nat.ne_of_lt (Heap.lt_size e))).trans (Heap.get?_push_of_some _ e)
 have ms4 := aT.heap (t := s3.toks + 0) ms3.st (Nat.le_refl _) kp
 generalize hL : s3.heap.objs.size = L at hns₁ hsb₁ ⊢
 have hLs3 : s3.heap.get? L = none := by rw [← hL]; exact dS _
 have hV4 := hV3.step ms4
 generalize hs4 : ({ s3 with heap := h₁, toks := s3.toks + 0 } : Shared) = s4 at ms4 hV4
 have hns4 : s4.heap.Ns L fun _ => none := by rw [← hs4]; exact hns₁
 have st4 := (gr.trans ms3).trans ms4
 have hfresh : ∀ b, s1.heap.get? b = none → C.h₁.get? b = none := fun b hb => by
  match e : C.h₁.get? b with
  | none => rfl
  | some o' => have := st1.st.keep _ _ e; rw [hb] at this; exact nS this
 have hI1 : C.h₁.get? s1.heap.objs.size = none := hfresh _ (dS _)
 have hL1 : C.h₁.get? L = none := by
  match e : C.h₁.get? L with
  | none => rfl
  | some o' => have := ms3.st.keep _ _ e; rw [hLs3] at this; exact nS this
 have hLn : ∀ b ob, s1.heap.get? b = some ob → ¬ isL ob → b ≠ L := fun b ob e n q => by
  have := (gr.trans ms3).ext _ _ e n
  rw [q, hLs3] at this; exact nS this
 have hIL : s1.heap.objs.size ≠ L := fun q => by
  refine e13 it.obj fun ob ho nl _ => ?_
  have := ms3.ext _ _ ho nl
  rw [q, hLs3] at this; exact nS this
 have hV5 : aJ C.w (compEnvC scope (clR env scope.names) L env) (er V) s4.toks (ρ1 ++ [D]) s4.heap :=
  HZ hE hf hV4 hns4 ((ht L).sub V) (fun n hn => hloc V n hc0 hn)
 have it4 : dO (ρ1 ++ [D]) s1.heap.objs.size 0 s4.heap src := it.keep (List.prefix_append _ _) fun ob e n => (ms3.trans ms4).ext _ _ e n
 have hn0 : ρ1.length = σ1.length := st1.st.len
 have hD0 : (ρ1 ++ [D])[σ1.length]? = some D := by rw [← hn0]; simp
 have loop := vR (RR := RR (.ref D) L) (iter := iter) (scope := scope) (pos := pos) (s₁ := s1) (ht L) (hc L) (he L) hA hI1 (dS _) hL1 hLn hIL hD0 hn1 hsrc hit ⟨rfl, Nat.zero_le _, List.prefix_refl _, ms4.st, st4.ext, st4.tk, hV5, it4, hcl⟩
  fun s ρ2 m pre ms ext tk hns hsg => h (.ref D) L _ ρ2 m ⟨st1.pre.trans ((List.prefix_append _ _).trans pre), ms, st1.ext.trans ext, Nat.le_trans st1.tk tk⟩ ⟨D, by obtain ⟨t, e⟩ := pre; rw [← e, List.getElem?_append_left (List.getElem?_eq_some_iff.mp hD0).1]; exact hD0, rfl⟩ hL1 (fun b ob e n => hLn b ob (st1.ext _ _ e n) n) hns hsg
 have es4 : ({ s3 with heap := h₁, toks := s3.toks + ([] : List (Str × Value)).length } : Shared) = s4 := hs4
 show codeAny (pwM C) A (.compStart (.ListComp elt [⟨target, iter, ifs, 0⟩] scope pos) 0 (.ref s1.heap.objs.size) (.ref D) (compEnvC scope (clR env scope.names) L env)) (RR (.ref D) L) _
 exact codeAny_compStart_list loop (It it4 loop)
end
section
variable {C : Sys} {k : Nat} {env : Env}
theorem aJ.but {w : World} {V : ap} {t : Nat} {ρ : List Addr} {h h' : Heap} {L : Addr} {m : Str → Option Value} (hV : aJ w env V t ρ h) (hn : h.Ns L m) (hs : oi m) (hne : env.locals ≠ L) (k : Heap.SameBut L h h') : aJ w env V t ρ h' := by
 refine e33 (id hn) fun o es ep ho hd _ => ?_
 have nv := mN hn hs ho
 have ev : dX h h' := dX.of_keep1 ⟨o, ho, nv⟩ fun b ob hb e => (k.2 b hb).trans e
 have cellk : ∀ c v, h.IsCell c v → h'.IsCell c v := fun c v => lS hn k
 obtain ⟨⟨m', ns, q, hr⟩, hc⟩ := hV
 exact ⟨⟨m', ns.sameBut k hne, q, fun n mv hl => (hr n mv hl).map rfl (fun c v _ => cellk c v) fun _ r => r.mono (Nat.le_refl _) ev (List.prefix_refl _)⟩, fun n c e1 e2 => let ⟨v, i⟩ := hc n c e1 e2; ⟨v, cellk c v i⟩⟩
structure kj (C : Sys) (k : Nat) (env : Env) (elt target iter : Expr) (ifs : List Expr) (scope : Scope) (mi me : EM) (mc : CM) (bd : ap → MV → Option ap) (er : ap → ap) : Prop where
 it : EOk C k env iter mi
 free : eO env scope.names
 kind : scope.kind = .function
 inj : lH scope.names = true
 loc : ∀ V n, lk V c0 = none → scope.names.lookup n = some .local → lk (er V) (nc n) = none
 tgt : ∀ L, mF C (compEnvC scope (clR env scope.names) L env) target bd er
 tst : ∀ L, k8 C k (compEnvC scope (clR env scope.names) L env) ifs mc
 elt : ∀ L, EOk C k (compEnvC scope (clR env scope.names) L env) elt me
 names : ∀ x ∈ scope.names, x.2 = .local → scope.names.lookup x.1 = some .local
 fold : ∀ x, foldedSetIterable iter env x = pure x
theorem EOk.comp (hE : aS env) {elt target iter : Expr} {ifs : List Expr} {scope : Scope} {pos : Pos} {mi me : EM} {mc : CM} {bd : ap → MV → Option ap} {er : ap → ap} (h0 : kj C k env elt target iter ifs scope mi me mc bd er) :
  EOk C k env (.ListComp elt [⟨target, iter, ifs, 0⟩] scope pos) (aX mi bd mc me) := by
 intro A V σ σ' mv s ρ Q E hA hV hS hm h
 rw [eval_ListComp]
 refine wpAny_comprehension_free (use := none) rfl h0.fold (n8 h0.free) h0.kind h0.names
  (pt hE h0.it h0.free h0.kind h0.inj h0.loc h0.tgt h0.tst h0.elt hA hV hS hm (fun acc L => compPost (pwM C) A E none Q acc L) fun acc L s' ρ' m st r hL hLn hn hs => ?_)
 refine ⟨m, hn, fun h' hsb => ?_⟩
 refine e33 (id hn) fun o es ep ho hd _ => ?_
 obtain ⟨hst, hv⟩ := st.st.turn (t := s'.toks) hL ⟨o, ho, go hd, mN hn hs ho⟩ hsb (Nat.le_refl _)
 have st' : aT C s ρ σ' { s' with heap := h' } ρ' := ⟨st.pre, hst, fun b ob e n => (hsb.2 b (hLn b ob e n)).trans (st.ext b ob e n), st.tk⟩
 exact h acc _ ρ' st' (r.mono (Nat.le_refl _) hv (List.prefix_refl _))
theorem SOk.setC (hE : aS env) (hF : fc C env) {elt target iter : Expr} {ifs : List Expr} {scope : Scope} {pos spos : Pos} {mi me : EM} {mc : CM} {bd : ap → MV → Option ap} {er : ap → ap} {y : Str} {c : Nat} {py : Pos} (h0 : kj C k env elt target iter ifs scope mi me mc bd er)
  (hy : jD env y c) (hsw : swapsWith (.ListComp elt [⟨target, iter, ifs, 0⟩] scope pos) (some (.Name y py)) spos.line env = pure true) :
  SOk C k env (.Assign [.Name y py] (.ListComp elt [⟨target, iter, ifs, 0⟩] scope pos) spos) (aL c (aX mi bd mc me)) := by
 intro A V V' σ σ' r s ρ Q E hA hV hS hm h
 obtain ⟨rfl, hk, hsg⟩ := hy
 unfold aL at hm
 cases q : aX mi bd mc me V σ with
 | none => simp only [q] at hm; exact nS hm
 | some p1 =>
  obtain ⟨mv, σ1⟩ := p1
  simp only [q] at hm; cases hm
  rw [exec_Assign_Name_used _ _ _ _ hsw]
  refine wpAny_bind (wpAny_standAt (wpAny_bind ?_))
  show wpAny _ A (do let _ ← comprehension (.ListComp elt [⟨target, iter, ifs, 0⟩] scope pos) scope env _ (newList []) false (eval iter env) (some (assign (.Name y py) env))) _ _ s
  refine wpAny_bind (wpAny_mono (wpAny_comprehension_free (use := some (assign (.Name y py) env)) (Q := fun _ s' => Q .next s') rfl h0.fold (n8 h0.free) h0.kind h0.names
   (pt hE h0.it h0.free h0.kind h0.inj h0.loc h0.tgt h0.tst h0.elt hA hV hS q (fun acc L => compPost (pwM C) A E (some (assign (.Name y py) env)) (fun _ s' => Q .next s') acc L) fun acc L s' ρ' m st r hL hLn hn hs => ?_)) (fun _ s' hq => wpAny_pure (wpAny_pure hq)) fun _ _ e => e)
  show wpAny _ A (assign (.Name y py) env acc) _ _ _
  have hV1 := hV.step st
  refine e33 (id hn) fun oL es ep ho hd hks => ?_
  have hloc : env.locals ≠ L := by
   obtain ⟨⟨_, ⟨o', _, _, e', d', _⟩, _⟩, _⟩ := hV
   exact hLn _ _ e' (go d')
  have hcel : ∀ n, env.kindOf n = some .cell → env.cells.lookup n ≠ some L := fun n e q => by
   refine e22 (hV.cells n L e q) fun v o' e' d' => ?_
   exact hLn _ _ e' (lw d') rfl
  refine wpAny_assign_Name (dr hE hF hk hsg hV1 st.st r fun s2 st2 hV2 => ?_)
  have hn2 : s2.heap.Ns L m := ⟨oL, es, ep, st2.keep L oL hloc.symm hcel ho (go hd), hd, hks⟩
  refine ⟨m, hn2, fun h' hsb => ?_⟩
  refine e33 (id hn2) fun o2 es2 ep2 ho2 hd2 _ => ?_
  obtain ⟨hst, hv⟩ := st2.st.turn (t := s2.toks) hL ⟨o2, ho2, go hd2, mN hn2 hs ho2⟩ hsb (Nat.le_refl _)
  have st' : ct C env s ρ σ' { s2 with heap := h' } ρ' :=
   ⟨st.pre, hst, fun b ob h1 h2 e n => (hsb.2 b (hLn b ob e n)).trans (st2.keep b ob h1 h2 (st.ext b ob e n) n), (st.ext.v.trans st2.exv).trans hv, Nat.le_trans st.tk st2.tk⟩
  exact h .next _ ρ' st' (hV2.but hn2 hs hloc hsb) rfl
end
noncomputable def ft : MV → Bool
 | .ref _ => false
 | .pair a b => ft a && ft b
 | _ => true
def eJ : ac → ac → Bool
 | [], _ => true
 | x :: r, y :: r' => (@decide (x = y) (Classical.propDecidable _) || y.all ft) && eJ r r'
 | _ :: _, [] => false
def pack (σ : ac) (v : MV) (σ' : ac) : Option (MV × ac) := match eJ σ (σ'.take σ.length) with
 | false => none
 | true => match v with
  | .ref i => match Nat.blt i σ.length with
   | true => some (.ref i, σ'.take σ.length)
   | false => match am σ' i with
    | some xs => match xs.all ft with
     | true => some (.ref σ.length, σ'.take σ.length ++ [xs])
     | false => none
    | none => none
  | .pair (.ref i) (.ref j) => match Nat.ble σ.length i && Nat.ble σ.length j && !(Nat.beq i j), am σ' i, am σ' j with
   | true, some xs, some ys => match xs.all ft && ys.all ft with
    | true => some (.pair (.ref σ.length) (.ref (σ.length + 1)), σ'.take σ.length ++ [xs, ys])
    | false => none
   | _, _, _ => none
  | v => match ft v with
   | true => some (v, σ'.take σ.length)
   | false => none
def mFn (ps : List Nat) (b : SM) : FM := fun args σ => match Nat.beq args.length ps.length && Nat.ble 1 σ.length with
 | false => none
 | true => match b (ps.zip args) σ with
  | none => none
  | some (some v, _, σ') => pack σ v σ'
  | some (none, _, σ') => pack σ .none σ'
section
variable {C : Sys} {k : Nat}
theorem t6 {w : World} {n : Nat} {h : Heap} {ρ ρ' : List Addr} {mv : MV} : ∀ {v : Value}, ft mv = true → a7 w n h ρ v mv → a7 w n h ρ' v mv := by
 induction mv with
 | ref => exact fun f => nB f
 | pair a b ih1 ih2 =>
  intro v f ⟨ad, va, vb, e, t, ra, rb⟩
  have f : (ft a && ft b) = true := f
  rw [Bool.and_eq_true] at f
  exact ⟨ad, va, vb, e, t, ih1 f.1 ra, ih2 f.2 rb⟩
 | _ => exact fun _ r => r
theorem pk {w : World} {n : Nat} {h : Heap} {ρ ρ' : List Addr} {xs : List MV} {vs : List Value} (f : xs.all ft = true) (r : bV w n h ρ vs xs) : bV w n h ρ' vs xs := by
 induction r with
 | nil => exact .nil
 | cons a _ ih =>
  rw [List.all_cons, Bool.and_eq_true] at f
  exact .cons (t6 f.1 a) (ih f.2)
noncomputable def low (n : Nat) : MV → Prop
 | .ref i => i < n
 | .pair a b => low n a ∧ low n b
 | _ => True
theorem MC {w : World} {n : Nat} {h : Heap} {ρ : List Addr} {mv : MV} : ∀ {v : Value}, a7 w n h ρ v mv → low ρ.length mv := by
 induction mv with
 | ref => exact fun ⟨a, e, _⟩ => (List.getElem?_eq_some_iff.mp e).1
 | pair a b ih1 ih2 => exact fun ⟨_, _, _, _, _, ra, rb⟩ => ⟨ih1 ra, ih2 rb⟩
 | _ => exact fun _ => trivial
theorem Iq {w : World} {n : Nat} {h : Heap} {ρ ρ' : List Addr} {m : Nat} (e : ∀ i, i < m → ρ'[i]? = ρ[i]?) {mv : MV} : ∀ {v : Value}, low m mv → a7 w n h ρ v mv → a7 w n h ρ' v mv := by
 induction mv with
 | ref => exact fun l ⟨a, q, r⟩ => ⟨a, (e _ l).trans q, r⟩
 | pair a b ih1 ih2 => exact fun l ⟨ad, va, vb, q, t, ra, rb⟩ => ⟨ad, va, vb, q, t, ih1 l.1 ra, ih2 l.2 rb⟩
 | _ => exact fun _ r => r
theorem Ip {w : World} {n : Nat} {h : Heap} {ρ : List Addr} {xs : List MV} {vs : List Value} (r : bV w n h ρ vs xs) : ∀ x ∈ xs, low ρ.length x := by
 induction r with
 | nil => intro x hx; cases hx
 | cons a _ ih =>
  intro x hx
  rcases List.mem_cons.mp hx with rfl | hx
  ·exact MC a
  ·exact ih x hx
theorem FZ {w : World} {n : Nat} {h : Heap} {ρ ρ' : List Addr} {m : Nat} (e : ∀ i, i < m → ρ'[i]? = ρ[i]?) {xs : List MV} {vs : List Value} (r : bV w n h ρ vs xs) (l : ∀ x ∈ xs, low m x) : bV w n h ρ' vs xs := by
 induction r with
 | nil => exact .nil
 | cons a _ ih => exact .cons (Iq e (l _ List.mem_cons_self) a) (ih fun x hx => l x (List.mem_cons_of_mem _ hx))
theorem oW : ∀ {σ τ : ac}, eJ σ τ = true → ∀ (i : Nat) (xs ys : List MV), σ[i]? = some xs → τ[i]? = some ys → xs = ys ∨ ys.all ft = true
 | [], _, _, i, xs, ys, h, _ => by simp at h
 | x :: r, [], h, i, xs, ys, _, _ => by exact nB h
 | x :: r, y :: r', h, i, xs, ys, h1, h2 => by
  unfold eJ at h
  rw [Bool.and_eq_true, Bool.or_eq_true] at h
  cases i with
  | zero =>
   simp at h1 h2; subst h1; subst h2
   rcases h.1 with e | e
   ·exact .inl (@of_decide_eq_true (x = y) (Classical.propDecidable _) e)
   ·exact .inr e
  | succ i => exact oW h.2 i xs ys (by simpa using h1) (by simpa using h2)
theorem nF : ∀ {σ τ : ac}, eJ σ τ = true → σ.length ≤ τ.length
 | [], _, _ => Nat.zero_le _
 | x :: r, [], h => by exact nB h
 | x :: r, y :: r', h => by
  unfold eJ at h
  rw [Bool.and_eq_true] at h
  exact Nat.succ_le_succ (nF h.2)
theorem MSt.pack {σ σ' τ : ac} {ρ ρ' κ : List Addr} {s s' : Shared} (a : MSt C σ ρ s) (b : MSt C σ' ρ' s') (pre : ρ <+: ρ') (hk : eJ σ (σ'.take σ.length) = true) (hlen : κ.length = τ.length) (hnd : κ.Nodup) (hne : ∀ x ∈ κ, x ∉ ρ) (hκ : ∀ (i : Nat) (c : Addr) (xs : List MV), κ[i]? = some c → τ[i]? = some xs → xs.all ft = true ∧ ∃ j : Nat, σ.length ≤ j ∧ ρ'[j]? = some c ∧ σ'[j]? = some xs) (h0 : 1 ≤ σ.length) :
  MSt C (σ'.take σ.length ++ τ) (ρ ++ κ) s' := by
 have hl := nF hk
 have hl' : σ.length ≤ σ'.length := by rw [List.length_take] at hl; lia
 have htl : (σ'.take σ.length).length = σ.length := by rw [List.length_take]; lia
 have hρ : ∀ i, i < σ.length → ρ'[i]? = ρ[i]? := fun i hi => by
  obtain ⟨t, rfl⟩ := pre
  rw [List.getElem?_append_left (by rw [a.len]; exact hi)]
 refine ⟨by rw [List.length_append, List.length_append, a.len, hlen, htl], List.nodup_append.mpr ⟨a.nodup, hnd, fun x hx y hy e => hne y hy (e ▸ hx)⟩, fun i c e hi => ?_, b.keep, b.gens, b.os, b.tk0, fun i xs c e1 e2 => ?_⟩
 ·by_cases q : i < ρ.length
  ·rw [List.getElem?_append_left q] at e
   exact a.fresh i c e hi
  ·rw [List.getElem?_append_right (by lia)] at e
   have hlt : i - ρ.length < τ.length := by rw [← hlen]; exact (List.getElem?_eq_some_iff.mp e).1
   obtain ⟨_, j, hj, h1, _⟩ := hκ _ c _ e (List.getElem?_eq_getElem hlt)
   exact b.fresh j c h1 (by lia)
 ·by_cases q : i < σ.length
  ·rw [List.getElem?_append_left (by rw [htl]; exact q), List.getElem?_take, if_pos q] at e1
   rw [List.getElem?_append_left (by rw [a.len]; exact q)] at e2
   obtain ⟨vs, hp, hr⟩ := b.cells i xs c e1 (by rw [hρ i q]; exact e2)
   refine ⟨vs, hp, ?_⟩
   rcases oW hk i σ[i] xs (List.getElem?_eq_getElem q) (by rw [List.getElem?_take, if_pos q]; exact e1) with e | e
   ·refine e12 (a.cells i σ[i] c (List.getElem?_eq_getElem q) e2) fun ws _ hw => ?_
    rw [e] at hw
    have lo := Ip hw
    refine FZ (m := ρ.length) (fun j hj => ?_) hr lo
    rw [List.getElem?_append_left hj, hρ j (by rw [← a.len]; exact hj)]
   ·exact pk e hr
  ·rw [List.getElem?_append_right (by rw [htl]; lia), htl] at e1
   rw [List.getElem?_append_right (by rw [a.len]; lia), a.len] at e2
   obtain ⟨hfl, j, hj, h1, h2⟩ := hκ _ c xs e2 e1
   refine e12 (b.cells j xs c h2 h1) fun vs hp hr => ?_
   exact ⟨vs, hp, pk hfl hr⟩
theorem jf {ρ ρ' : List Addr} {j : Nat} {c : Addr} (nd : ρ'.Nodup) (pre : ρ <+: ρ') (hj : ρ.length ≤ j) (h : ρ'[j]? = some c) : c ∉ ρ := fun hm => by
 obtain ⟨i, hi, e⟩ := List.mem_iff_getElem.mp hm
 obtain ⟨t, rfl⟩ := pre
 obtain ⟨hj', e'⟩ := List.getElem?_eq_some_iff.mp h
 have e1 : (ρ ++ t)[i]'(by rw [List.length_append]; lia) = c := by rw [List.getElem_append_left hi]; exact e
 have := (List.getElem_inj nd).mp (e1.trans e'.symm)
 lia
inductive Pk (σ σ' : ac) : MV → MV → ac → Prop
 | f {v : MV} : ft v = true → Pk σ σ' v v (σ'.take σ.length)
 | old {i : Nat} : Nat.blt i σ.length = true → Pk σ σ' (.ref i) (.ref i) (σ'.take σ.length)
 | one {i : Nat} {xs : List MV} : Nat.blt i σ.length = false → am σ' i = some xs → xs.all ft = true → Pk σ σ' (.ref i) (.ref σ.length) (σ'.take σ.length ++ [xs])
 | two {i j : Nat} {xs ys : List MV} : (Nat.ble σ.length i && Nat.ble σ.length j && !(Nat.beq i j)) = true → am σ' i = some xs → am σ' j = some ys → (xs.all ft && ys.all ft) = true →
  Pk σ σ' (.pair (.ref i) (.ref j)) (.pair (.ref σ.length) (.ref (σ.length + 1))) (σ'.take σ.length ++ [xs, ys])
theorem Pk.of {σ σ' σ2 τ : ac} {v m m2 : MV} (p : Pk σ σ' v m τ) (e : some (m, τ) = some (m2, σ2)) : Pk σ σ' v m2 σ2 := by cases e; exact p
theorem H8 {σ σ' σ2 : ac} {mv mv2 : MV} (hp : pack σ mv σ' = some (mv2, σ2)) : eJ σ (σ'.take σ.length) = true ∧ Pk σ σ' mv mv2 σ2 := by
 unfold pack at hp
 split at hp
 ·exact nS hp
 ·rename_i hk
  refine ⟨hk, ?_⟩
  split at hp
  ·split at hp
   ·rename_i q; exact (Pk.old q).of hp
   ·rename_i q
    split at hp
    ·rename_i q2
     split at hp
     ·rename_i q3; exact (Pk.one q q2 q3).of hp
     ·exact nS hp
    ·exact nS hp
  ·split at hp
   ·rename_i q q2 q3
    split at hp
    ·rename_i q4; exact (Pk.two q q2 q3 q4).of hp
    ·exact nS hp
   ·exact nS hp
  ·split at hp
   ·rename_i q; exact (Pk.f q).of hp
   ·exact nS hp
theorem wv {σ σ' σ2 : ac} {ρ ρ' : List Addr} {s s' : Shared} {v : Value} {mv mv2 : MV} (a : MSt C σ ρ s) (pre : ρ <+: ρ') (b : MSt C σ' ρ' s') (ext : Ext s.heap s'.heap) (tk : s.toks ≤ s'.toks) (r : a7 C.w s'.toks s'.heap ρ' v mv) (hp : pack σ mv σ' = some (mv2, σ2)) (h0 : 1 ≤ σ.length) :
  ∃ ρ2, aT C s ρ σ2 s' ρ2 ∧ a7 C.w s'.toks s'.heap ρ2 v mv2 := by
 obtain ⟨hk, p⟩ := H8 hp
 have base : MSt C (σ'.take σ.length) ρ s' := by
  have := MSt.pack a b pre hk (κ := []) (τ := []) rfl List.nodup_nil nofun (fun i c xs h => by simp at h) h0
  simpa using this
 have al := a.len
 clear hp
 cases p with
 | f hf => exact ⟨ρ, ⟨List.prefix_refl _, base, ext, tk⟩, t6 hf r⟩
 | @old i q =>
  obtain ⟨c, hc, rfl⟩ := r
  rw [Nat.blt_eq] at q
  refine ⟨ρ, ⟨List.prefix_refl _, base, ext, tk⟩, c, ?_, rfl⟩
  obtain ⟨t, rfl⟩ := pre
  rw [List.getElem?_append_left (by rw [al]; exact q)] at hc
  exact hc
 | @one i xs q q2 q3 =>
  obtain ⟨c, hc, rfl⟩ := r
  have q' : σ.length ≤ i := Nat.not_lt.mp fun h => by rw [← Nat.blt_eq, q] at h; cases h
  have hnm := jf b.nodup pre (by rw [al]; exact q') hc
  refine ⟨ρ ++ [c], ⟨List.prefix_append _ _, MSt.pack a b pre hk rfl (by simp) (fun x hx => by simp at hx; subst hx; exact hnm) (fun j c' xs' h1 h2 => ?_) h0, ext, tk⟩, c, ?_, rfl⟩
  ·cases j with
   | zero => simp at h1 h2; subst h1; subst h2; exact ⟨q3, i, q', hc, q2⟩
   | succ j => simp at h1
  ·rw [← al]; simp
 | @two i j xs ys q q2 q3 q4 =>
  obtain ⟨T, va, vb, rfl, ht, ⟨c, hc, rfl⟩, ⟨d, hd, rfl⟩⟩ := r
  rw [Bool.and_eq_true, Bool.and_eq_true, dU] at q
  obtain ⟨⟨l1, l2⟩, l3⟩ := q
  have l1 := Nat.le_of_ble_eq_true l1
  have l2 := Nat.le_of_ble_eq_true l2
  have l3 : i ≠ j := by simpa using l3
  rw [Bool.and_eq_true] at q4
  have n1 := jf b.nodup pre (by rw [al]; exact l1) hc
  have n2 := jf b.nodup pre (by rw [al]; exact l2) hd
  have ncd : c ≠ d := fun e => by
   subst e
   obtain ⟨h1, e1⟩ := List.getElem?_eq_some_iff.mp hc
   obtain ⟨h2, e2⟩ := List.getElem?_eq_some_iff.mp hd
   exact l3 ((List.getElem_inj b.nodup).mp (e1.trans e2.symm))
  refine ⟨ρ ++ [c, d], ⟨List.prefix_append _ _, MSt.pack a b pre hk rfl (by simp [ncd]) (fun x hx => ?_) (fun m c' xs' h1 h2 => ?_) h0, ext, tk⟩, T, _, _, rfl, ht, ⟨c, ?_, rfl⟩, ⟨d, ?_, rfl⟩⟩
  ·simp at hx; rcases hx with rfl | rfl; exact n1; exact n2
  ·match m with
   | 0 => simp at h1 h2; subst h1; subst h2; exact ⟨q4.1, i, l1, hc, q2⟩
   | 1 => simp at h1 h2; subst h1; subst h2; exact ⟨q4.2, j, l2, hd, q3⟩
   | m + 2 => simp at h1
  ·rw [← al]; simp
  ·rw [← al]; simp
end
theorem jB (kf : Str → Option NameKind) : ∀ (bs : List (Str × Value)) (m : Str → Option Value) (n : Str), (∀ p ∈ bs, p.1 ≠ n) → bindL kf bs m n = m n
 | [], m, n, _ => rfl
 | (x, v) :: r, m, n, h => by
  unfold bindL
  rw [jB kf r _ n fun p hp => h p (List.mem_cons_of_mem _ hp)]
  have hx : n ≠ x := fun e => h (x, v) List.mem_cons_self e.symm
  split
  ·show (if n = x then some v else m n) = m n
   rw [if_neg hx]
  ·rfl
theorem mD (kf : Str → Option NameKind) : ∀ (bs : List (Str × Value)) (m : Str → Option Value) (n : Str), (∀ p ∈ bs, p.1 ≠ n) → bindC kf bs m n = m n
 | [], m, n, _ => rfl
 | (x, v) :: r, m, n, h => by
  unfold bindC
  rw [mD kf r _ n fun p hp => h p (List.mem_cons_of_mem _ hp)]
  have hx : n ≠ x := fun e => h (x, v) List.mem_cons_self e.symm
  split
  ·rfl
  ·show (if n = x then some v else m n) = m n
   rw [if_neg hx]
theorem ui (kf : Str → Option NameKind) : ∀ (bs : List (Str × Value)) (m : Str → Option Value) (n : Str) (v : Value), (bs.map (·.1)).Nodup → (n, v) ∈ bs → kf n = some .local → bindL kf bs m n = some v
 | (x, u) :: r, m, n, v, hd, hm, hk => by
  obtain ⟨h1, h2⟩ := List.nodup_cons.mp hd
  unfold bindL
  rcases List.mem_cons.mp hm with e | hm
  ·obtain ⟨e1, e2⟩ := Prod.mk.inj e
   subst e1; subst e2
   rw [if_pos hk, jB kf r _ n fun p hp e => h1 (List.mem_map.mpr ⟨p, hp, e⟩)]
   exact if_pos rfl
  ·exact ui kf r _ n v h2 hm hk
theorem uj (kf : Str → Option NameKind) : ∀ (bs : List (Str × Value)) (m : Str → Option Value) (n : Str) (v : Value), (bs.map (·.1)).Nodup → (n, v) ∈ bs → kf n ≠ some .local → bindC kf bs m n = some v
 | (x, u) :: r, m, n, v, hd, hm, hk => by
  obtain ⟨h1, h2⟩ := List.nodup_cons.mp hd
  unfold bindC
  rcases List.mem_cons.mp hm with e | hm
  ·obtain ⟨e1, e2⟩ := Prod.mk.inj e
   subst e1; subst e2
   rw [if_neg hk, mD kf r _ n fun p hp e => h1 (List.mem_map.mpr ⟨p, hp, e⟩)]
   exact if_pos rfl
  ·exact uj kf r _ n v h2 hm hk
theorem Ga : ∀ {cs : List Nat} {mvs : List MV} {c : Nat} {mv : MV}, lk (cs.zip mvs) c = some mv → ∃ i : Nat, cs[i]? = some c ∧ mvs[i]? = some mv
 | [], mvs, c, mv, h => by exact nS h
 | _ :: _, [], c, mv, h => by exact nS h
 | a :: cs, m :: mvs, c, mv, h => by
  have h : (match Nat.beq a c with | true => some m | false => lk (cs.zip mvs) c) = some mv := h
  rw [dU] at h
  by_cases e : a = c
  ·subst e
   rw [decide_eq_true rfl] at h
   cases h
   exact ⟨0, rfl, rfl⟩
  ·rw [decide_eq_false e] at h
   refine e12 (Ga h) fun i h1 h2 => ?_
   exact ⟨i + 1, h1, h2⟩
structure L8 (fd : FuncData) (ps : List Str) (cs : List Nat) (body : List Stmt) : Prop where
 kind : fd.scope.kind = .function
 co : fd.scope.isCoroutine = false
 gen : fd.scope.isGenerator = false
 body : fd.body = .stmts body
 clo : fd.closure = []
 glob : fd.globals = mainGlobals
 blt : fd.builtins = builtinsNs
 bind : ∀ vals : List Value, vals.length = ps.length → bindArgs fd ⟨vals, []⟩ = pure (ps.zip vals)
 names : ∀ x ∈ ps, fd.scope.names.lookup x = some .local ∨ fd.scope.names.lookup x = some .cell
 nodup : ps.Nodup
 codes : ps.map nc = cs
 sign : ∀ x ∈ ps, ∀ c, c < 48 → x ≠ ⟨#[c]⟩
 inj : lH fd.scope.names = true
theorem jX : ∀ (names : List (Str × NameKind)) (n : Nat) (acc : List (Str × Addr)) (x : Str), (x, NameKind.cell) ∈ names ∨ (∃ c, (x, c) ∈ acc) → ∃ c, (x, c) ∈ cellsFrom n names acc := by
 intro names
 induction names with
 | nil =>
  intro n acc x h
  rcases h with h | h
  ·cases h
  ·exact h
 | cons hd0 r ih =>
  obtain ⟨y, k⟩ := hd0
  intro n acc x h
  unfold cellsFrom
  split
  ·rename_i hk
   refine ih _ _ x ?_
   rcases h with h | ⟨c, h⟩
   ·rcases List.mem_cons.mp h with e | h
    ·cases e; exact .inr ⟨_, List.mem_cons_self⟩
    ·exact .inl h
   ·exact .inr ⟨c, List.mem_cons_of_mem _ h⟩
  ·rename_i hk
   refine ih _ _ x ?_
   rcases h with h | h
   ·rcases List.mem_cons.mp h with e | h
    ·cases e; exact absurd (show (NameKind.cell == NameKind.cell) = true from rfl) hk
    ·exact .inl h
   ·exact .inr h
section
variable {C : Sys} {k : Nat}
theorem vX {fd : FuncData} {ps : List Str} {cs : List Nat} {body : List Stmt} (d : L8 fd ps cs body) (L a : Addr) (hap : (cellsFrom (L + 1) fd.scope.names []).Pairwise fun x y => x.2 ≠ y.2) : aS (callEnvC fd L a) := by
 refine ⟨d.kind, d.glob, d.blt, fun n n' c h1 h2 => PySem.name_of_addr hap (PySem.mem_of_lookup h1) (PySem.mem_of_lookup h2), fun n n' h1 h2 e => ?_⟩
 have h1 : fd.scope.names.lookup n ≠ none := h1
 have h2 : fd.scope.names.lookup n' ≠ none := h2
 match q1 : fd.scope.names.lookup n with
 | none => exact absurd q1 h1
 | some k1 => match q2 : fd.scope.names.lookup n' with
  | none => exact absurd q2 h2
  | some k2 => exact congrArg Prod.fst (mQ d.inj _ (PySem.mem_of_lookup q1) _ (PySem.mem_of_lookup q2) e)
theorem ei.def {fd : FuncData} {ps : List Str} {cs : List Nat} {body : List Stmt} {a : Addr} {o : Obj} {m : SM} (d : L8 fd ps cs body) (ho : C.h₁.get? a = some o) (hd : o.data = .func fd) (hcd : C.h₁.CodeRec fd.code fd.qualname)
  (hb : ∀ L, aS (callEnvC fd L a) → fc C (callEnvC fd L a) → BOk C k (callEnvC fd L a) body m) : ei C (k + 1) (.ref a) (mFn cs m) := by
 intro A σ σ' args mv vals s ρ Q E hA hS hr hg h
 unfold mFn at hg
 match q : Nat.beq args.length cs.length && Nat.ble 1 σ.length with
 | false => simp only [q] at hg; exact nS hg
 | true =>
  simp only [q] at hg
  rw [Bool.and_eq_true, dU] at q
  have h1 := Nat.le_of_ble_eq_true q.2
  have hlen : args.length = cs.length := of_decide_eq_true q.1
  have hpl : ps.length = cs.length := by rw [← d.codes]; simp
  have hvl : vals.length = ps.length := by rw [hr.length, hlen, hpl]
  refine wpAny_call ?_
  have hbinds : ∀ x ∈ ps.zip vals, fd.scope.names.lookup x.1 = some .local ∨ (fd.scope.names.lookup x.1 = some .cell ∧ ((cellsFrom (s.heap.objs.size + 1) fd.scope.names []).lookup x.1).isSome = true) := fun x hx => by
   have hx1 : x.1 ∈ ps := (List.of_mem_zip (a := x.1) (b := x.2) hx).1
   rcases d.names x.1 hx1 with e | e
   ·exact .inl e
   ·refine .inr ⟨e, ?_⟩
    obtain ⟨c, hc⟩ := jX fd.scope.names (s.heap.objs.size + 1) [] x.1 (.inl (PySem.mem_of_lookup e))
    obtain ⟨c', hc'⟩ := fm hc
    rw [hc']; rfl
  have hcd' : s.heap.CodeRec fd.code fd.qualname := by
   refine e44 hcd fun c oc vs t e1 e2 e3 e4 => ?_
   exact ⟨c, oc, vs, t, e1, hS.keep _ _ e2, e3, e4⟩
  refine codeAny_call_function (by have := hA.2.1; lia) (hS.keep _ _ ho) hd d.co d.gen d.body hcd' ?_
  rw [d.bind vals hvl, d.clo]
  refine wpAny_pure (wpAny_with_toks (Nat.le_refl s.toks) (wpAny_newFunctionEnv_cells d.kind hbinds fun env he s1 x le => ?_))
  subst he
  refine ⟨hS.lim.keeps x.toInCall.keep, codeAny_func ?_⟩
  generalize hL : s.heap.objs.size = L at x ⊢
  have hold : ∀ b, L ≤ b → C.h₁.get? b = none := fun b hb => by
   cases e : C.h₁.get? b with
   | none => rfl
   | some o' => have := Heap.lt_size (hS.keep _ _ e); rw [hL] at this; exact absurd this (Nat.not_lt.mpr hb)
  have hE := vX d L a x.apart
  have hF : fc C (callEnvC fd L a) := ⟨hold L (Nat.le_refl _), fun n c _ e => hold c (Nat.le_of_lt (x.above n c (PySem.mem_of_lookup e)))⟩
  refine e22 x.done fun hp tk z2 hkp => ?_; subst z2
  have ms := aT.heap hS (t := tk) le hkp
  have hnd : ((ps.zip vals).map (·.1)).Nodup := by rw [List.map_fst_zip (by lia)]; exact d.nodup
  have hr' := hr.step ms
  have at_ : ∀ n mv, lk (cs.zip args) (nc n) = some mv → (callEnvC fd L a).kindOf n ≠ none → ∃ v, (n, v) ∈ ps.zip vals ∧ a7 C.w tk hp ρ v mv ∧ n ∈ ps := fun n mv hl hk => by
   refine e12 (Ga hl) fun i h1 h2 => ?_
   rw [← d.codes, List.getElem?_map, Option.map_eq_some_iff] at h1
   refine e12 h1 fun p hp1 hp2 => ?_
   have hpn : p = n := by
    have hpm := List.mem_of_getElem? hp1
    have hk2 : (callEnvC fd L a).kindOf p ≠ none := by
     show fd.scope.names.lookup p ≠ none
     rcases d.names p hpm with e | e <;> rw [e] <;> exact Option.some_ne_none _
    exact hE.inj p n hk2 hk hp2
   subst hpn
   refine e12 (hr'.get h2) fun v hv rv => ?_
   exact ⟨v, List.mem_of_getElem? (by rw [List.getElem?_zip_eq_some]; exact ⟨hp1, hv⟩), rv, List.mem_of_getElem? hp1⟩
  have hV : aJ C.w (callEnvC fd L a) (cs.zip args) tk ρ hp := by
   refine ⟨⟨_, x.toInCall.ns, fun c hc => jB _ _ _ _ fun p hpz e => d.sign p.1 (List.of_mem_zip (a := p.1) (b := p.2) hpz).1 c hc e, fun n mv hl => ?_⟩, fun n c e1 e2 => ⟨_, x.cell n c e2⟩⟩
   unfold cb
   cases hk : (callEnvC fd L a).kindOf n with
   | none => trivial
   | some kd =>
    obtain ⟨v, hv, rv, hn⟩ := at_ n mv hl (by rw [hk]; exact Option.some_ne_none _)
    have hkn : fd.scope.names.lookup n = some kd := hk
    rcases d.names n hn with e | e
    ·rw [hkn] at e; cases e
     exact ⟨v, ui _ _ _ n v hnd hv hk, rv⟩
    ·rw [hkn] at e; cases e
     obtain ⟨c, hc⟩ := jX fd.scope.names (L + 1) [] n (.inl (PySem.mem_of_lookup hkn))
     obtain ⟨c', hc'⟩ := fm hc
     refine ⟨c', v, hc', ?_, rv⟩
     have := x.cell n c' hc'
     rwa [uj _ _ _ n v hnd hv (fun h2 => by have h2 : (callEnvC fd L a).kindOf n = some .local := h2; rw [hk] at h2; cases h2)] at this
  have hA' : AOk (A.deeper (callEnvC fd L a)) k := ⟨hA.1, by have := hA.2.1; show A.depth + 1 + k < _; lia, by have := hA.2.2; show A.units + 3 + 10 * k + 20 < _; lia⟩
  match qb : m (cs.zip args) σ with
  | none => simp only [qb] at hg; exact nS hg
  | some p =>
   obtain ⟨r, V', σ1⟩ := p
   refine hb L hE hF _ _ V' σ σ1 r _ ρ _ _ hA' hV ms.st qb fun f s2 ρ2 st2 hV2 hf => ?_
   have ext : Ext s.heap s2.heap := fun b ob e n => by
    have hlt := Heap.lt_size e
    rw [hL] at hlt
    exact st2.keep b ob (Nat.ne_of_lt hlt) (fun n' _ e' => Nat.lt_irrefl _ (Nat.lt_trans hlt (x.above n' b (PySem.mem_of_lookup e')))) (hkp b ob e) n
   have tk2 : s.toks ≤ s2.toks := Nat.le_trans le st2.tk
   cases r with
   | some mv' =>
    simp only [qb] at hg
    refine e12 hf fun v z1 rv => ?_; subst z1
    refine e12 (wv hS st2.pre st2.st ext tk2 rv hg h1) fun ρ3 st3 r3 => ?_
    exact h v s2 ρ3 st3 r3
   | none =>
    simp only [qb] at hg
    have hf : f = .next := hf
    subst hf
    refine e12 (wv (v := .none) (mv := .none) hS st2.pre st2.st ext tk2 (show a7 C.w s2.toks s2.heap ρ2 .none .none from rfl) hg h1) fun ρ3 st3 r3 => ?_
    exact h .none s2 ρ3 st3 r3
end
noncomputable def b1E : List (Int × Value) := [(65024, .int 65024 320), (65025, .int 65025 321), (65026, .int 65026 322), (65027, .int 65027 323), (65028, .int 65028 324), (65029, .int 65029 325), (6150, .int 6150 306), (65030, .int 65030 326), (65031, .int 65031 327), (65032, .int 65032 328), (65033, .int 65033 329), (6155, .int 6155 307), (6156, .int 6156 308), (6157, .int 6157 309), (8203, .int 8203 310), (8204, .int 8204 311), (8205, .int 8205 312), (65034, .int 65034 330), (65035, .int 65035 331), (65036, .int 65036 332), (65037, .int 65037 333), (65038, .int 65038 334), (65039, .int 65039 335), (173, .int 173 304), (847, .int 847 305), (8288, .int 8288 313), (65279, .int 65279 314)]
def iE (i : Int) : Bool := b1E.any fun e => Value.isInt i e.2
def mB1 (e : EM) : EM := fun V σ => match e V σ with
 | some (.int i, σ1) => some (.bool (iE i), σ1)
 | _ => none
theorem GX : b1E.all (fun e => match e.2 with
 | .int k _ => decide (e.1 = hashInt k)
 | _ => false) = true := by decide +kernel
section
variable {C : Sys} {k : Nat} {env : Env}
theorem b1_set (w : World) : ∃ ep t, (KF w.params).lookup 99 = some ⟨.type "set", none, .set b1E.toArray ep t, #[]⟩ ∧ t.fits 27 = true ∧ b1E.toArray.size = 27 := ⟨_, _, rfl, rfl, rfl⟩
set_option tactic.hygienic true in
theorem EOk.inB1 (hE : aS env) {e : Expr} {x : Str} {p pos : Pos} {m : EM} (he : EOk C k env e m) (hx : env.kindOf x = some .globalImplicit) (hv : C.mg x = some (.ref 99)) (hd : (x == ("__debug__" : Str)) = false) : EOk C k env (.Compare e [.In] [.Name x p] pos) (mB1 m) := by
 intro A V σ σ' mv s ρ Q E hA hV hS hm h
 unfold mB1 at hm
 split at hm
 ·rename_i i σ1 q
  have h := h.of hm
  refine wpAny_Compare1 (he A V σ _ _ s ρ _ _ hA hV hS q fun va s1 ρ1 st1 r1 => ?_) rfl
  refine Name_function_global hE.kind hx (loadGlobal_global ?_ hv ?_) hd
  ·rw [hE.glob]; exact C.nsg.keeps st1.st.keep
  ·obtain ⟨t, rfl⟩ := r1
   refine e23 (b1_set C.w) fun ep tb hl hfit hsz => ?_
   have hobj := st1.st.keep _ _ (C.X _ _ hl)
   have hel : ElemsOf (intKind P0 C.w) b1E.toArray.toList := by
    intro e he
    have h1 := List.all_eq_true.mp GX e he
    obtain ⟨kk, vv⟩ := e
    cases vv <;> simp only [decide_eq_true_eq, Bool.false_eq_true] at h1
    rename_i k t'
    exact ⟨⟨k, intKind_is P0 C.w k t', h1⟩, rfl⟩
   have hset : s1.heap.SetOf (intKind P0 C.w) 99 iE 27 := Obj.SetObjOf.setOf ⟨⟨rfl, rfl, rfl⟩, b1E.toArray, ep, tb, rfl, hel, fun i => by unfold iE; rw [List.any_eq_true]; rfl, hsz, by rw [hsz]; exact hfit⟩ hobj (by decide)
   exact wpAny_inSet_of (intKind_is P0 C.w i t) rfl hset (h _ _ ρ1 (st1.trans (.tok st1.st (Nat.le_succ _))) rfl)
 ·exact nS hm
def oa (i : Int) : Option (List Nat) := match dM.find? fun p => decide (p.1 = i) with
 | some p => some p.2.cps.toList
 | none => none
def mB3 (e : EM) : EM := fun V σ => match e V σ with
 | some (.int i, σ1) => match oa i with
  | some l => some (.str l, σ1)
  | none => some (.none, σ1)
 | _ => none
noncomputable def zS (e : DictEntry) : Bool := match e.key, e.val with
 | .int k _, .str s t => decide (e.hash = hashInt k) && Nat.blt 0 t && Nat.blt t 2433 && Nat.ble s.cps.size 1000
 | _, _ => false
theorem L5 : (dmE 39).all zS = true := by decide +kernel
noncomputable def nh (e : DictEntry) : Int × Str := match e.key, e.val with
 | .int k _, .str s _ => (k, s)
 | _, _ => (0, ⟨#[]⟩)
theorem GU : (dmE 39).map nh = dM := by decide +kernel
set_option tactic.hygienic true in
theorem zX (P : Program) (w : World) (i : Int) : ∀ es : List DictEntry, es.all zS = true →
  (match (es.find? fun e => (intKind P w).is i e.key).map (·.val) with
   | some v => ∃ t s, v = .str s t ∧ 0 < t ∧ t < 2433 ∧ s.cps.size ≤ 1000 ∧ (es.map nh).find? (fun p => decide (p.1 = i)) = some (i, s)
   | none => (es.map nh).find? (fun p => decide (p.1 = i)) = none)
 | [], _ => rfl
 | e :: es, h => by
  rw [List.all_cons, Bool.and_eq_true] at h
  have h1 := h.1
  unfold zS at h1
  split at h1
  ·rename_i kk tt s t hk hv
   simp only [Bool.and_eq_true, decide_eq_true_eq] at h1
   obtain ⟨⟨⟨q1, q2⟩, q3⟩, q4⟩ := h1
   have hp : nh e = (kk, s) := by unfold nh; rw [hk, hv]
   rw [List.find?_cons, List.map_cons, List.find?_cons, hp, hk]
   match hq : decide (kk = i) with
   | true =>
    have := of_decide_eq_true hq
    subst this
    rw [intKind_is P w kk tt]
    exact ⟨t, s, hv, Nat.le_of_ble_eq_true q2, Nat.le_of_ble_eq_true q3, Nat.le_of_ble_eq_true q4, rfl⟩
   | false =>
    have hne : kk ≠ i := of_decide_eq_false hq
    have : (intKind P w).is i (.int kk tt) = false := by
     match hz : (intKind P w).is i (.int kk tt) with
     | false => rfl
     | true => exact absurd ((intKind P w).inj _ _ _ (intKind_is P w kk tt) hz) hne
    rw [this]
    exact zX P w i es h.2
  ·exact nB h1
theorem M1 (w : World) : ∃ ep, (KF w.params).lookup 110 = some ⟨.type "dict", none, .dict (dmE 39).toArray ep, #[]⟩ := ⟨_, rfl⟩
set_option tactic.hygienic true in
theorem EOk.b3get (hE : aS env) {e : Expr} {x : Str} {p apos pos : Pos} {m : EM} (he : EOk C k env e m) (hx : env.kindOf x = some .globalImplicit) (hv : C.mg x = some (.ref 110)) (hd : (x == ("__debug__" : Str)) = false)
  (hbase : attributeBase (.Name x p) "get" env (eval (.Name x p) env) = eval (.Name x p) env) (hs : starEach [e] env = [(false, eval e env)]) (hline : (apos.endLine == pos.line) = true) :
  EOk C k env (.Call (.Attribute (.Name x p) "get" apos) [e] [] pos) (mB3 m) := by
 intro A V σ σ' mv s ρ Q E hA hV hS hm h
 unfold mB3 at hm
 split at hm
 ·rename_i i σ1 q
  refine Call_method1 hbase hs hline ?_
  refine Name_function_global hE.kind hx (loadGlobal_global ?_ hv ?_) hd
  ·rw [hE.glob]; exact C.nsg.keeps hS.keep
  ·obtain ⟨ep, hl⟩ := M1 C.w
   have mapOf : ∀ h : Heap, h.get? 110 = some ⟨.type "dict", none, .dict (dmE 39).toArray ep, #[]⟩ → h.MapOf (intKind P0 C.w) 110 (findBy (intKind P0 C.w).is (dmE 39).toArray) := by
    intro h hh
    refine ⟨_, _, _, hh, ⟨rfl, rfl, rfl⟩, rfl, ?_, fun _ => rfl⟩
    intro e he
    have h1 := List.all_eq_true.mp L5 e (by simpa using he)
    unfold zS at h1
    split at h1
    ·rename_i kk tt s t hk hv
     simp only [Bool.and_eq_true, decide_eq_true_eq] at h1
     exact ⟨kk, by rw [hk]; exact intKind_is P0 C.w kk tt, h1.1.1.1⟩
    ·exact nB h1
   have m0 := mapOf _ (hS.keep _ _ (C.X _ _ hl))
   refine ⟨"dict", "dict.get", F.plainAttrs_dict, F.slot_dict_get, F.type_dict_get, m0.typeIs, m0.noDict, ?_⟩
   refine wpAny_dict_get1 (knd := intKind P0 C.w) rfl (he A V σ _ _ s ρ _ _ hA hV hS q fun va s1 ρ1 st1 r1 => ?_)
   obtain ⟨t, rfl⟩ := r1
   refine ⟨i, _, intKind_is P0 C.w i t, mapOf _ (st1.st.keep _ _ (C.X _ _ hl)), ?_⟩
   have hf := zX P0 C.w i (dmE 39) L5
   rw [GU] at hf
   have ef : findBy (intKind P0 C.w).is (dmE 39).toArray i = ((dmE 39).find? fun e => (intKind P0 C.w).is i e.key).map (·.val) := by unfold findBy; rw [List.find?_toArray]
   rw [ef]
   split at hf
   ·rename_i v hq
    refine e25 hf fun t' s' z2 t1 t2 t3 t4 => ?_; subst z2
    rw [hq]
    simp only [oa, t4] at hm
    have h := h.of hm
    exact h _ _ ρ1 (st1.trans (.tok st1.st (Nat.le_succ _))) ⟨t', t1, Nat.lt_of_lt_of_le t2 (Nat.le_succ_of_le st1.st.tk0), by simpa using t3, rfl⟩
   ·rename_i hq
    rw [hq]
    simp only [oa, hf] at hm
    have h := h.of hm
    exact h _ _ ρ1 (st1.trans (.tok st1.st (Nat.le_succ _))) rfl
 ·exact nS hm
end
theorem d1.of_same {I : Addr} {h h' : Heap} (a : Heap.SameBut I h h') : d1 I h h' := fun b o hb e => (a.2 b hb).trans e
theorem d1.trans {I : Addr} {h h' h'' : Heap} (a : d1 I h h') (b : d1 I h' h'') : d1 I h h'' := fun x o hx e => b x o hx (a x o hx e)
theorem AJ {prog : Program} {w : World} {A : Around} {E : Value → Shared → Prop} {Q : Option Value → Shared → Prop} {s : Shared} {e it : Addr} {i : Nat} {old : Value} (he : IsEnum s.heap e it i old) (hne : e ≠ it) {R : Value → Heap → Nat → Prop}
  (draw : ∀ (A' : Around) (Q' : Value → Shared → Prop) (E' : Value → Shared → Prop), (∀ v h' tk, R v h' tk → Heap.SameBut it s.heap h' → Q' v { s with heap := h', toks := tk }) → wpAny (model prog w) A' (Builtin.SmallTypes.nextOf (.ref it)) Q' E' s)
  (hQ : ∀ v h₁ tk h₂, R v h₁ tk → Heap.SameBut it s.heap h₁ → d1 e h₁ h₂ → IsEnumOut h₂ e it ((i : Int) + 1) v s.heap.objs.size → h₂.get? s.heap.objs.size = some { cls := .type "tuple", data := .seq #[.int i tk, v] } →
   Q (some (.ref s.heap.objs.size)) { s with heap := h₂, toks := tk + 1 }) : wpAny (model prog w) A (pyNext (.ref e)) Q E s := by
 have hT : s.TypeIs (.ref e) "enumerate" := ⟨_, he, rfl⟩
 unfold pyNext
 refine wpAny_bind (wpAny_attempt (wpAny_callSpecial?_slot (name := Str.ofString "__next__") hT F.slot_enumerate_next
  (wpAny_call_entry F.slot_enumerate_next hT F.entry_enumerate_next ?_ (F.args_enumerate_next_1 _))))
 have hel : e < s.heap.objs.size := Heap.lt_size he
 obtain ⟨hp, g, d, tk₀, os⟩ := s
 show wpAny _ _ (field (.ref e) 2 >>= _) _ _ _
 refine wpAny_bind (wpAny_field he rfl (x := .ref it) rfl (wpAny_bind (draw _ _ _ fun v h₁ tk hR hs₁ => ?_)))
 replace hs₁ : Heap.SameBut it hp h₁ := hs₁
 have he₁ : IsEnum h₁ e it i old := (hs₁.2 e hne).trans he
 have hz₁ : h₁.objs.size = hp.objs.size := hs₁.1
 show wpAny _ _ (field (.ref e) 3 >>= _) _ _ ⟨h₁, g, d, tk, os⟩
 refine wpAny_bind (wpAny_field he₁ rfl (x := rawInt i) rfl ?_)
 show wpAny _ _ (field (.ref e) 4 >>= _) _ _ ⟨h₁, g, d, tk, os⟩
 refine wpAny_bind (wpAny_field he₁ rfl (x := .none) rfl ?_)
 show wpAny _ _ (mkInt i >>= _) _ _ ⟨h₁, g, d, tk, os⟩
 refine wpAny_bind (wpAny_mkInt ?_)
 show wpAny _ _ (setField (.ref e) 3 (rawInt ((i : Int) + 1)) >>= _) _ _ ⟨h₁, g, d, tk + 1, os⟩
 refine wpAny_bind (wpAny_setField_rec he₁ (by simp) fun h₂ he₂ hs₂ => ?_)
 replace hs₂ : Heap.SameBut e h₁ h₂ := hs₂
 replace he₂ : IsEnum h₂ e it ((i : Int) + 1) old := he₂
 show wpAny _ _ (setField (.ref e) 4 .none >>= _) _ _ ⟨h₂, g, d, tk + 1, os⟩
 refine wpAny_bind (wpAny_setField_rec he₂ (by simp) fun h₃ he₃ hs₃ => ?_)
 replace hs₃ : Heap.SameBut e h₂ h₃ := hs₃
 replace he₃ : IsEnum h₃ e it ((i : Int) + 1) old := he₃
 show wpAny _ _ (newTuple [.int i tk, v] >>= _) _ _ ⟨h₃, g, d, tk + 1, os⟩
 refine wpAny_bind (wpAny_newTuple ?_)
 have hz₃ : h₃.objs.size = hp.objs.size := by rw [hs₃.1, hs₂.1, hz₁]
 have k₄ : d1 e h₁ (h₃.push { cls := .type "tuple", data := .seq #[.int i tk, v] }) := ((d1.of_same hs₂).trans (.of_same hs₃)).trans fun b o _ q => Heap.get?_push_of_some _ q
 have he₄ : IsEnum (h₃.push { cls := .type "tuple", data := .seq #[.int i tk, v] }) e it ((i : Int) + 1) old := Heap.get?_push_of_some _ he₃
 have ht₄ : (h₃.push { cls := .type "tuple", data := .seq #[.int i tk, v] }).get? hp.objs.size = some { cls := .type "tuple", data := .seq #[.int i tk, v] } := by rw [← hz₃]; exact Heap.get?_push_size _ rfl
 generalize h₃.push { cls := .type "tuple", data := .seq #[.int i tk, v] } = h₄ at k₄ he₄ ht₄
 rw [hz₃]
 show wpAny _ _ (Builtin.SmallTypes.ownedTupleIsFree (.ref e) >>= _) _ _ ⟨h₄, g, d, tk + 1, os⟩
 refine wpAny_bind ?_
 unfold Builtin.SmallTypes.ownedTupleIsFree
 refine wpAny_bind (wpAny_field he₄ rfl (x := .none) rfl (wpAny_pure ?_))
 simp only [if_true]
 refine wpAny_bind (wpAny_rule (wpAny_bind (wpAny_field he₄ rfl (x := old) rfl (wpAny_bind (wpAny_setField_rec he₄ (by simp) fun h₅ he₅ hs₅ => ?_)))))
 replace hs₅ : Heap.SameBut e h₄ h₅ := hs₅
 replace he₅ : IsEnum h₅ e it ((i : Int) + 1) v := he₅
 show wpAny _ _ (Builtin.SmallTypes.ownedTupleHandOut (.ref e) (.ref hp.objs.size) >>= _) _ _ ⟨h₅, g, d, tk + 1, os⟩
 refine wpAny_bind ?_
 unfold Builtin.SmallTypes.ownedTupleHandOut
 refine wpAny_bind (wpAny_setField_rec he₅ (by simp) fun h₆ he₆ hs₆ => ?_)
 replace hs₆ : Heap.SameBut e h₅ h₆ := hs₆
 replace he₆ : IsEnumOut h₆ e it ((i : Int) + 1) v hp.objs.size := he₆
 refine wpAny_setField_rec he₆ (by simp) fun h₇ he₇ hs₇ => ?_
 replace hs₇ : Heap.SameBut e h₆ h₇ := hs₇
 replace he₇ : IsEnumOut h₇ e it ((i : Int) + 1) v hp.objs.size := he₇
 have k₇ : d1 e h₁ h₇ := k₄.trans ((d1.of_same hs₅).trans ((d1.of_same hs₆).trans (.of_same hs₇)))
 have ht₇ := hs₇.extBut _ _ (Nat.ne_of_gt hel) (hs₆.extBut _ _ (Nat.ne_of_gt hel) (hs₅.extBut _ _ (Nat.ne_of_gt hel) ht₄))
 exact wpAny_bind (wpAny_letGo (wpAny_pure ⟨_, rfl, wpAny_pure (hQ v h₁ tk h₇ hR hs₁ k₇ he₇ ht₇)⟩))
section
variable {C : Sys} {k : Nat} {env : Env} {σ : ac} {ρ : List Addr} {s : Shared}
theorem Iu {src : Src} {I : Addr} {j : Nat} {items : List MV} {mv : MV} (a : MSt C σ ρ s) (it : dO ρ I j s.heap src) (hi : fw σ items src) (hj : items[j]? = some mv) (hrg : ∀ a c n, src ≠ .rg a c n)
  (A : Around) (Q : Value → Shared → Prop) (E : Value → Shared → Prop) (h : ∀ v h' tk, (s.toks ≤ tk ∧ dO ρ I (j + 1) h' src ∧ a7 C.w tk h' ρ v mv ∧ (isS src = true → ∀ x u, v = .str x u → s.toks ≤ u)) → Heap.SameBut I s.heap h' → Q v { s with heap := h', toks := tk }) : wpAny (pwM C) A (Builtin.SmallTypes.nextOf (.ref I)) Q E s := by
 refine e13 it.obj fun o ho nl nv => ?_
 cases src with
 | lst i =>
  refine e12 it fun ax hax hit => ?_
  refine e23 (a.addr hi) fun ad vs h1 l1 rl => ?_
  rw [hax] at h1; cases h1
  refine e12 (rl.get hj) fun v hv rv => ?_
  refine wpAny_nextOf_list_item hit l1.isList (x := v) (by simpa using hv) fun h' hit' hs' => ?_
  exact h v h' s.toks ⟨Nat.le_refl _, ⟨ax, hax, hit'⟩, rv.mono (Nat.le_refl _) (dX.of_keep1 ⟨o, ho, nv⟩ (.of_same hs')) (List.prefix_refl _), by intro e; cases e⟩ hs'
 | asc x t =>
  have hi : items = x.map fun c => .str [c] := hi
  subst hi
  rw [List.getElem?_map, Option.map_eq_some_iff] at hj
  refine e12 hj fun c hc z2 => ?_; subst z2
  refine wpAny_nextOf_ascii_item it (c := c) (by simpa using hc) fun h' hit' hs' => ?_
  exact h _ h' _ ⟨Nat.le_succ _, hit', ⟨s.toks, a.toks, Nat.lt_succ_self _, by simp, rfl⟩, fun _ x u e => by injection e with _ e; rw [← e]; exact Nat.le_refl _⟩ hs'
 | wid x t =>
  have hi : items = x.map fun c => .str [c] := hi
  subst hi
  rw [List.getElem?_map, Option.map_eq_some_iff] at hj
  refine e12 hj fun c hc z2 => ?_; subst z2
  refine wpAny_nextOf_wide_item it (c := c) (by simpa using hc) fun h' hit' hs' => ?_
  exact h _ h' _ ⟨Nat.le_succ _, hit', ⟨s.toks, a.toks, Nat.lt_succ_self _, by simp, rfl⟩, fun _ x u e => by injection e with _ e; rw [← e]; exact Nat.le_refl _⟩ hs'
 | rg a c n => exact absurd rfl (hrg a c n)
theorem BH (hE : aS env) (hF : fc C env) {A : Around} {E : Value → Shared → Prop} {Q : Unit → Shared → Prop} {x : Str} {V : ap} {v : Value} {mv : MV} {lo : Nat} (hx : env.kindOf x = some .local) (hns : ∀ c, c < 48 → x ≠ ⟨#[c]⟩)
  (hV : aJ C.w env V s.toks ρ s.heap) (hV0 : aJ C.w env V lo ρ s.heap) (a : MSt C σ ρ s) (r : a7 C.w s.toks s.heap ρ v mv) (r0 : a7 C.w lo s.heap ρ v mv)
  (h : ∀ s', ct C env s ρ σ s' ρ → aJ C.w env (put V (nc x) mv) s'.toks ρ s'.heap → aJ C.w env (put V (nc x) mv) lo ρ s'.heap → Q () s') : wpAny (pwM C) A (storeName env x v) Q E s := by
 exact jI hE hF.loc hx hns hV a r fun h' hst hv kp hp _ => h _ ⟨List.prefix_refl _, hst, fun b o hb _ e _ => kp b o hb e, hv, Nat.le_succ _⟩ (hp _ _ (Nat.le_succ _) hV r) (hp lo lo (Nat.le_refl _) hV0 r0)
noncomputable def Gn : MV → Bool
 | .bool _ => true
 | _ => false
def ia (v : MV) (its : List MV) (x y : Nat) (b : SM) : Nat → List MV → SM
 | _, [] => fun _ _ => none
 | j, a :: r => fun V σ => match ck v its σ with
  | false => none
  | true => match b (put (put V x (.int j)) y a) σ with
   | none => none
   | some (some r, V', σ') => some (some r, V', σ')
   | some (none, V', σ') => ia v its x y b (j + 1) r V' σ'
def lQ : MV → ac → Option (List MV)
 | .ref i, σ => match am σ i with
  | some l => match l.all Gn with
   | true => some l
   | false => none
  | none => none
 | .str l, _ => some (l.map fun c => .str [c])
 | _, _ => none
def kn (it : EM) (x y : Nat) (b : SM) : SM := fun V σ => match it V σ with
 | none => none
 | some (v, σ1) => match lQ v σ1 with
  | none => none
  | some its => ia v its x y b 0 its V σ1
set_option tactic.hygienic true in
theorem AT {A : Around} {E : Value → Shared → Prop} {Q : Value → Shared → Prop} {v : Value} {mv : MV} {items : List MV} (a : MSt C σ ρ s) (r : a7 C.w s.toks s.heap ρ v mv) (hi : lQ mv σ = some items)
  (h : ∀ src h', pE mv src → dO ρ s.heap.objs.size 0 h' src → fw σ items src → (∀ a c n, src ≠ .rg a c n) → (isS src = true ∨ items.all Gn = true) → IsEnum h' (s.heap.objs.size + 1) s.heap.objs.size 0 .none → (∀ b o, s.heap.get? b = some o → h'.get? b = some o) → Q (.ref (s.heap.objs.size + 1)) { s with heap := h' }) : wpAny (pwM C) A (call (.type "enumerate") [v]) Q E s := by
 cases mv <;> first | (exact nS hi; done) | skip
 ·rename_i l
  cases hi
  refine e14 r fun t _ _ _ z4 => ?_; subst z4
  refine call_enumerate_str fun h' he hit _ hk => ?_
  cases ha : (⟨l.toArray⟩ : Str).cps.all (· < 128)
  ·rw [show strIterType ⟨l.toArray⟩ = "str_iterator" by unfold strIterType; rw [ha]; rfl] at hit
   exact h (.wid l t) h' trivial hit rfl (fun _ _ _ => nofun) (.inl rfl) he hk
  ·rw [show strIterType ⟨l.toArray⟩ = "str_ascii_iterator" by unfold strIterType; rw [ha]; rfl] at hit
   exact h (.asc l t) h' trivial hit rfl (fun _ _ _ => nofun) (.inl rfl) he hk
 ·rename_i i
  unfold lQ at hi
  cases q : am σ i with
  | none => simp only [q] at hi; exact nS hi
  | some l =>
   simp only [q] at hi
   cases q2 : l.all Gn with
   | false => simp only [q2] at hi; exact nS hi
   | true =>
    simp only [q2] at hi; cases hi
    refine e24 (r.list a q) fun ad vs z2 h1 l1 rl => ?_; subst z2
    exact call_enumerate_list l1.isList fun h' he hit _ hk => h (.lst i) h' rfl ⟨ad, h1, hit⟩ q (fun _ _ _ => nofun) (.inr q2) he hk
theorem vO {v : MV} {its : List MV} {x y : Nat} {b : SM} {j : Nat} {a : MV} {l : List MV} {V : ap} {σ : ac} {R : Option MV × ap × ac} (h : ia v its x y b j (a :: l) V σ = some R) :
  ck v its σ = true ∧ ∃ r5 V5 σ5, b (put (put V x (.int j)) y a) σ = some (r5, V5, σ5) ∧ (r5 = none → ia v its x y b (j + 1) l V5 σ5 = some R) ∧ (r5 ≠ none → (r5, V5, σ5) = R) := by
 unfold ia at h
 split at h
 ·exact nS h
 ·rename_i q
  split at h
  ·exact nS h
  ·rename_i q2
   exact ⟨q, _, _, _, q2, nofun, fun _ => Option.some.inj h⟩
  ·rename_i q2
   exact ⟨q, _, _, _, q2, fun _ => h, fun n => absurd rfl n⟩
theorem uI {it : EM} {x y : Nat} {b : SM} {V : ap} {σ : ac} {R : Option MV × ap × ac} (h : kn it x y b V σ = some R) : ∃ v σ1 its, it V σ = some (v, σ1) ∧ lQ v σ1 = some its ∧ ia v its x y b 0 its V σ1 = some R := by
 unfold kn at h
 split at h
 ·exact nS h
 ·rename_i q
  split at h
  ·exact nS h
  ·rename_i q2; exact ⟨_, _, _, q, q2, h⟩
theorem vN {s₁ : Shared} {ρ₁ : List Addr} {V : ap} {src : Src} {I e : Addr} {j : Nat} {old v : Value} {mv : MV} {h₁ h₃ : Heap} {tk : Nat} (hN : i0 C env s₁ I) (hN' : i0 C env s₁ e) (hne : e ≠ I) (st : ct C env s₁ ρ₁ σ s ρ) (hV : aJ C.w env V s.toks ρ s.heap) (it : dO ρ I j s.heap src) (hen : IsEnum s.heap e I j old)
  (hs₁ : Heap.SameBut I s.heap h₁) (k3 : d1 e h₁ h₃) (le : s.toks ≤ tk) (it3 : dO ρ I (j + 1) h₁ src) (rv : a7 C.w tk h₁ ρ v mv) :
  ct C env s₁ ρ₁ σ { s with heap := h₃, toks := tk + 1 } ρ ∧ aJ C.w env V (tk + 1) ρ h₃ ∧ aJ C.w env V s.toks ρ h₃ ∧ dO ρ I (j + 1) h₃ src ∧ a7 C.w (tk + 1) h₃ ρ v mv := by
 have k1 : d1 I s.heap h₁ := .of_same hs₁
 have st1 := st.keep1 (V := V) hN it k1 le
 have he1 : IsEnum h₁ e I j old := (hs₁.2 _ hne).trans hen
 have ob1 : ∃ o, h₁.get? e = some o ∧ ¬ isL o ∧ ¬ isV o := ⟨_, he1, eY rfl, dQ rfl rfl (by decide)⟩
 have of1 : ∃ o, h₁.get? e = some o ∧ (∃ vs, o.data = .fields vs) ∧ ¬ isV o := ⟨_, he1, ⟨_, rfl⟩, dQ rfl rfl (by decide)⟩
 have ev3 : dX h₁ h₃ := let ⟨o, ho, _, nv⟩ := ob1; dX.of_keep1 ⟨o, ho, nv⟩ k3
 exact ⟨⟨st1.pre, st1.st.keep1 hN'.h1 ob1 (t := tk + 1) k3 (Nat.le_succ _), fun b ob h1 h2 e n => k3 b ob (fun q => by rw [q, hN'.old] at e; exact nS e) (st1.keep b ob h1 h2 e n), st1.exv.trans ev3, Nat.le_trans st1.tk (Nat.le_succ _)⟩,
  (hV.keep1 it.fields k1 le).keep1 of1 k3 (Nat.le_succ _), (hV.keep1 it.fields k1 (Nat.le_refl _)).keep1 of1 k3 (Nat.le_refl _), it3.keep (List.prefix_refl _) fun o ho _ => k3 _ o (Ne.symm hne) ho, rv.mono (Nat.le_succ _) ev3 (List.prefix_refl _)⟩
theorem vM (hE : aS env) (hF : fc C env) {x y : Str} {p p' tp : Pos} {kk : Nat} (hkx : env.kindOf x = some .local) (hsx : ∀ c, c < 48 → x ≠ ⟨#[c]⟩) (hky : env.kindOf y = some .local) (hsy : ∀ c, c < 48 → y ≠ ⟨#[c]⟩)
  {A : Around} {Q : Unit → Shared → Prop} {E : Value → Shared → Prop} {V : ap} {e I T : Addr} {j lo tk : Nat} {o : Int} {v old : Value} {mv : MV} (hA : A.handled = none) (hV : aJ C.w env V s.toks ρ s.heap) (hV0 : aJ C.w env V lo ρ s.heap) (a : MSt C σ ρ s) (r : a7 C.w s.toks s.heap ρ v mv) (le : lo ≤ s.toks) (hy : ∀ y u, v = .str y u → lo ≤ u)
  (ht : s.heap.IsTuple T #[.int j tk, v]) (hen : IsEnum s.heap e I o old) (h : ∀ s', ct C env s ρ σ s' ρ → aJ C.w env (put (put V (nc x) (.int j)) (nc y) mv) s'.toks ρ s'.heap → zY C env (put (put V (nc x) (.int j)) (nc y) mv) y s' ρ → Q () s') :
  wpAny (pwM C) A (assign (.Tuple [.Name x p, .Name y p'] kk tp) env (.ref T)) Q E s := by
 refine wpAny_assign_Tuple hA ht rfl rfl fun h₄ hx4 => ?_
 have gr4 : aT C s ρ σ { s with heap := h₄ } ρ := aT.heap (t := s.toks) a (Nat.le_refl _) (fun b o e => hx4 b o (Nat.ne_of_lt (Heap.lt_size e)) e)
 have hV40 : aJ C.w env V lo ρ h₄ := hV0.keep1 (I := e) ⟨_, hen, ⟨_, rfl⟩, dQ rfl rfl (by decide)⟩ (fun b o _ e => hx4 b o (Nat.ne_of_lt (Heap.lt_size e)) e) (Nat.le_refl _)
 show wpAny (pwM C) A (do holding [v] (assign (.Name x p) env (.int j tk)); do holding [] (assign (.Name y p') env v); pure ()) _ _ _
 refine wpAny_bind (wpAny_holding (wpAny_assign_Name (BH (mv := .int j) hE hF hkx hsx (hV.step gr4) hV40 gr4.st ⟨_, rfl⟩ ⟨_, rfl⟩ fun s5 st5 hV5 hV50 => ?_)))
 exact wpAny_bind (wpAny_holding (wpAny_assign_Name (lU hE hF hky hsy hV5 hV50 (Nat.le_trans le st5.tk) hy st5.st ((r.step gr4).sstep st5) fun s6 st6 hV6 hY6 => wpAny_pure (h s6 (gr4.ss.trans (st5.trans st6)) hV6 hY6))))
structure Qp (C : Sys) (env : Env) (s₁ : Shared) (ρ₁ : List Addr) (I e : Addr) (src : Src) (its : List MV) (L : Nat → List MV → SM) (R : Option MV × ap × ac) (n : Nat) (s : Shared) (j : Nat) (V : ap) (σ : ac) (ρ : List Addr) (old : Value) : Prop where
 n : n = its.length + 1 - j
 le : j ≤ its.length
 st : ct C env s₁ ρ₁ σ s ρ
 hV : aJ C.w env V s.toks ρ s.heap
 it : dO ρ I j s.heap src
 en : IsEnum s.heap e I j old
 run : L j (its.drop j) V σ = some R
theorem AK (hE : aS env) (hF : fc C env) {x y : Str} {p p' tp : Pos} {kk : Nat} (hkx : env.kindOf x = some .local) (hsx : ∀ c, c < 48 → x ≠ ⟨#[c]⟩) (hky : env.kindOf y = some .local) (hsy : ∀ c, c < 48 → y ≠ ⟨#[c]⟩) {b oe : List Stmt} {mb : SM} (hb : BC C k env y b mb)
  {A : Around} {RR : Result → Shared → Prop} {s₁ s₂ : Shared} {ρ₁ : List Addr} {σ₁ : ac} {src : Src} {I e : Addr} {mv : MV} {its : List MV} {V : ap} {R : Option MV × ap × ac} (hA : AOk A k) (hN : i0 C env s₁ I) (hN' : i0 C env s₁ e) (hne : e ≠ I) (hsrc : pE mv src) (hi : fw σ₁ its src) (hrg : ∀ a c n, src ≠ .rg a c n) (hsb : isS src = true ∨ its.all Gn = true)
  (st : ct C env s₁ ρ₁ σ₁ s₂ ρ₁) (hV : aJ C.w env V s₂.toks ρ₁ s₂.heap) (it : dO ρ₁ I 0 s₂.heap src) (hen : IsEnum s₂.heap e I 0 .none) (hm : ia mv its (nc x) (nc y) mb 0 its V σ₁ = some R)
  (hR : ∀ f s' ρ', ct C env s₁ ρ₁ R.2.2 s' ρ' → aJ C.w env R.2.1 s'.toks ρ' s'.heap → we C.w s'.toks s'.heap ρ' f R.1 → RR (.ok f) s') : codeAny (pwM C) A (.forLoop (.Tuple [.Name x p, .Name y p'] kk tp) (.ref e) b oe env) RR s₂ := by
 refine LS (fun n s => ∃ j V σ ρ old, Qp C env s₁ ρ₁ I e src its (ia mv its (nc x) (nc y) mb) R n s j V σ ρ old) ?_ _ ⟨0, V, σ₁, ρ₁, _, rfl, Nat.zero_le _, st, hV, it, hen, hm⟩
 intro n s N ⟨j, V2, σ2, ρ2, old, c⟩ hNN
 have hm2 := c.run
 rcases Nat.lt_or_ge j its.length with hlt | hge
 ·rw [List.drop_eq_getElem_cons hlt] at hm2
  obtain ⟨hst, r5, V5, σ5, q2, q3, q4⟩ := vO hm2
  refine AJ c.en hne (Iu c.st.st c.it (fP hsrc hi hst) (List.getElem?_eq_getElem hlt) hrg) fun v h₁ tk h₂ hD hs₁ k2 heo htup => wpAny_letOwnedTupleGo_enum heo fun h₃ hen3 hs3 => ?_
  replace hs3 : Heap.SameBut e h₂ h₃ := hs3
  have mo := vN hN hN' hne c.st c.hV c.it c.en hs₁ (k2.trans (.of_same hs3)) hD.1 hD.2.1 hD.2.2.1
  have hyv : ∀ y u, v = .str y u → s.toks ≤ u := fun y u e => by
   rcases hsb with hS' | hB
   ·exact hD.2.2.2 hS' y u e
   ·have h1 := List.all_eq_true.mp hB its[j] (List.getElem_mem hlt)
    have h2 : ∃ p, its[j] = .bool p := by cases hq : its[j] <;> rw [hq] at h1 <;> first | exact ⟨_, rfl⟩ | exact nB h1
    obtain ⟨p, hp⟩ := h2
    have rv := hD.2.2.1
    rw [hp] at rv
    rw [show v = .bool _ from rv] at e
    cases e
  have hT : s.heap.objs.size ≠ e := Nat.ne_of_gt (Heap.lt_size c.en)
  refine vM (s := { s with heap := h₃, toks := tk + 1 }) hE hF hkx hsx hky hsy hA.1 mo.2.1 mo.2.2.1 mo.1.st mo.2.2.2.2 (Nat.le_trans hD.1 (Nat.le_succ _)) hyv ⟨_, (hs3.2 _ hT).trans htup, rfl, _, rfl⟩ hen3 fun s6 st6 hV6 hY6 => ?_
  refine hb A _ V5 σ2 σ5 r5 s6 ρ2 _ _ hA hV6 hY6 st6.st q2 fun f s7 ρ7 st7 hV7 hf => rB hf (fun e => ?_) (fun v ev => ?_)
  ·have st07 := st6.trans st7
   refine hNN (its.length + 1 - (j + 1)) _ ?_ ⟨j + 1, V5, σ5, ρ7, v, rfl, hlt, mo.1.trans st07, hV7, dO.sstep (s := { s with heap := h₃, toks := tk + 1 }) hN mo.2.2.2.1 st07, st07.keep _ _ hN'.loc hN'.cel hen3 (eY rfl), q3 e⟩
   rw [c.n]; exact Nat.sub_lt_sub_left (Nat.lt_succ_of_lt hlt) (Nat.lt_succ_self j)
  ·subst ev
   cases r5 with
   | none => cases (hf : Flow.ret v = .next)
   | some y => cases q4 nofun; exact hR _ s7 ρ7 (mo.1.trans (st6.trans st7)) hV7 hf
 ·rw [List.drop_eq_nil_of_le hge] at hm2
  exact nS hm2
theorem SOk.enum (hE : aS env) (hF : fc C env) {x y xe : Str} {c d : Nat} {p p' tp pe pos pos' : Pos} {kk : Nat} {ae : Expr} {b oe : List Stmt} {m : EM} {mb : SM} (hx : nc x = c) (hkx : env.kindOf x = some .local) (hsx : ∀ c, c < 48 → x ≠ ⟨#[c]⟩) (hy : nc y = d) (hky : env.kindOf y = some .local) (hsy : ∀ c, c < 48 → y ≠ ⟨#[c]⟩)
  (hxe : env.kindOf xe = some .globalImplicit) (hme : C.mg xe = none) (hbe : bootBuiltins xe = some (.type "enumerate")) (hne : xe ≠ ("__name__" : Str)) (hde : (xe == ("__debug__" : Str)) = false)
  (hse : starEach [ae] env = [(false, eval ae env)]) (he : EOk C k env ae m) (hb : BC C k env y b mb) (hs : ∀ x, foldedSetIterable (.Call (.Name xe pe) [ae] [] pos') env x = pure x) :
  SOk C k env (.For (.Tuple [.Name x p, .Name y p'] kk tp) (.Call (.Name xe pe) [ae] [] pos') b oe pos) (kn m c d mb) := by
 intro A V V' σ σ' r s ρ Q E hA hV hS hm h
 subst hx hy
 refine e33 (uI hm) fun mv σ1 its q q2 hm => ?_
 refine wpAny_For (gR (by rw [hse]; simp) (Name_function_global hE.kind hxe (loadGlobal_builtin (mg := C.mg) (mb := C.mb) ?_ hme ?_ ((C.hb xe hne).trans hbe) ?_) hde)) hs
 ·rw [hE.glob]; exact C.nsg.keeps hS.keep
 ·rw [hE.blt]; exact C.nsb.keeps hS.keep
 rw [hse]
 refine PyProof.Rows.callWith_type rfl (evalArgs_plain (spliced_cons (he A V σ σ1 mv s ρ _ _ hA hV hS q fun vv s1 ρ1 st1 r1 => spliced_nil ?_)))
 refine AT st1.st r1 q2 fun src h0 hsrc it hi hrg hsb hen hk0 => wpAny_pyIter_enum hen ?_
 have hV1 := hV.step st1
 have fr1 : s1.heap.get? (s1.heap.objs.size + 1) = none := by
  match e : s1.heap.get? (s1.heap.objs.size + 1) with
  | none => rfl
  | some o => exact absurd (Heap.lt_size e) (Nat.not_lt.mpr (Nat.le_succ _))
 have gr : aT C s1 ρ1 σ1 { s1 with heap := h0 } ρ1 := aT.heap (t := s1.toks) st1.st (Nat.le_refl _) hk0
 exact AK hE hF hkx hsx hky hsy hb hA (.of hV1 st1.st (dS s1.heap)) (.of hV1 st1.st fr1) (Nat.succ_ne_self _) hsrc hi hrg hsb gr.ss (hV1.step gr) it hen hm fun f s' ρ' st hV hf => h f s' ρ' (st1.ss.trans st) hV hf
end
def fdF (i : Nat) (md code : Value) : FuncData := match st i with
 | .FunctionDef n a b _ _ _ sc _ _ _ => { name := n, qualname := n, params := a, body := .stmts b, scope := sc, globals := builtinsNs, closure := [], defaults := .none, kwdefaults := .none, pyModule := md, code := code, builtins := builtinsNs }
 | _ => default
def fdG (i : Nat) (md code : Value) : FuncData := { fdF i md code with globals := mainGlobals }
def L2 (i : Nat) : List Stmt := match st i with
 | .FunctionDef _ _ b _ _ _ _ _ _ _ => b
 | _ => []
def br (o : EM) (g : FM) (a : LM) : EM := fun V σ => match o V σ with
 | some (.ref i, σ1) => match am σ1 i with
  | none => none
  | some _ => match a V σ1 with
   | none => none
   | some (as, σ2) => g (.ref i :: as) σ2
 | _ => none
def nC (o : EM) : EM := fun V σ => match o V σ with
 | some (.ref i, σ1) => match am σ1 i with
  | none => none
  | some _ => some (.ref i, σ1)
 | _ => none
section
variable {C : Sys} {k : Nat} {env : Env}
set_option tactic.hygienic true in
theorem nL {o : EM} {V : ap} {σ σ' : ac} {mv : MV} (h : nC o V σ = some (mv, σ')) : ∃ i xs, mv = .ref i ∧ o V σ = some (.ref i, σ') ∧ am σ' i = some xs := by
 unfold nC at h
 split at h
 ·rename_i i σ1 q
  match q2 : am σ1 i with
  | none => simp only [q2] at h; exact nS h
  | some xs => simp only [q2] at h; cases h; exact ⟨i, xs, rfl, q, q2⟩
 ·exact nS h
theorem EOk.guard {e : Expr} {o : EM} (h : EOk C k env e o) : EOk C k env e (nC o) := by
 intro A V σ σ' mv s ρ Q E hA hV hS hm hh
 refine e23 (nL hm) fun i xs z2 q _ => ?_; subst z2
 exact h A V σ σ' _ s ρ Q E hA hV hS q hh
set_option tactic.hygienic true in
theorem FW (o : EM) (g : FM) (a : LM) : br o g a = cz (nC o) g a := by
 funext V σ
 unfold br cz nC
 cases o V σ with
 | none => rfl
 | some p =>
  obtain ⟨x, σ1⟩ := p
  cases x <;> first | rfl | skip
  rename_i i
  simp only
  cases am σ1 i <;> rfl
theorem EOk.methL' {o : Expr} {name : Str} {id : String} {apos pos : Pos} {es : List Expr} {mo : EM} {ms : LM} {g : FM} (slot : Slot "list" name id) (hty : typeOf (.builtin id) = pure (.type "method_descriptor"))
  (ho : EOk C k env o mo) (hg : ∀ x as σ mv σ', g (x :: as) σ = some (mv, σ') → ∃ i xs, x = .ref i ∧ am σ i = some xs) (hes : LOk C k env es ms) (hf : ei C k (.builtin id) g)
  (hbase : attributeBase o name env (eval o env) = eval o env)
  (hfew : ((backTo pos (starEach es env)).all (fun x => !x.1) && (backToKw pos (keywordEach [] env)).all (fun x => x.1.isSome) && decide (es.length + ([] : List Keyword).length + (if ([] : List Keyword).isEmpty then 0 else 1) < 30)) = true)
  (hline : (apos.endLine == pos.line) = true) : EOk C k env (.Call (.Attribute o name apos) es [] pos) (br mo g ms) := by
 rw [FW]
 refine EOk.methL slot hty ho.guard hg (fun V σ i σ1 as σ2 h1 h2 h3 => ?_) hes hf hbase hfew hline
 refine e23 (nL h1) fun j xs e _ q => ?_
 cases e
 rw [q]; rfl
theorem cH : ∀ x as σ mv σ', bf (x :: as) σ = some (mv, σ') → ∃ i xs, x = .ref i ∧ am σ i = some xs := by
 intro x as σ mv σ' h
 unfold bf at h
 split at h
 ·rename_i heq
  cases heq
  split at h <;> first | (cases h; done) | exact ⟨_, _, rfl, by assumption⟩
 ·exact nS h
theorem vD : ∀ x as σ mv σ', gi (x :: as) σ = some (mv, σ') → ∃ i xs, x = .ref i ∧ am σ i = some xs := by
 intro x as σ mv σ' h
 unfold gi at h
 split at h
 ·rename_i heq
  cases heq
  split at h <;> first | (cases h; done) | exact ⟨_, _, rfl, by assumption⟩
 ·exact nS h
theorem nR : ∀ x as σ mv σ', ek (x :: as) σ = some (mv, σ') → ∃ i xs, x = .ref i ∧ am σ i = some xs := by
 intro x as σ mv σ' h
 unfold ek at h
 split at h
 ·rename_i heq
  cases heq
  split at h <;> first | (cases h; done) | exact ⟨_, _, rfl, by assumption⟩
 ·exact nS h
theorem gK : ∀ x as σ mv σ', cO (x :: as) σ = some (mv, σ') → ∃ l, x = .str l := by
 intro x as σ mv σ' h
 unfold cO at h
 split at h
 ·rename_i i heq; cases heq; exact ⟨_, rfl⟩
 ·exact nS h
theorem lE : ∀ x as σ mv σ', gv (x :: as) σ = some (mv, σ') → ∃ l, x = .str l := by
 intro x as σ mv σ' h
 unfold gv at h
 split at h
 ·rename_i l heq; cases heq; exact ⟨_, rfl⟩
 ·exact nS h
end
theorem few (pos : Pos) {env : Env} {es : List Expr} (h : (starEach es env).all (fun x => !x.1) = true) (hl : decide (es.length < 30) = true) : ((backTo pos (starEach es env)).all (fun x => !x.1) && (backToKw pos (keywordEach [] env)).all (fun x => x.1.isSome) && decide (es.length + ([] : List Keyword).length + (if ([] : List Keyword).isEmpty then 0 else 1) < 30)) = true := by
 rw [dW pos (fun x hx => by have := List.all_eq_true.mp h x hx; simpa using this), h]
 have : (backToKw pos (keywordEach [] env)).all (fun x => x.1.isSome) = true := rfl
 rw [this]
 simpa using hl
theorem Qu {α β : Type} {ps : List α} {f : List β → Prop} (h : ps.length = 0) (g : f []) : ∀ vals : List β, vals.length = ps.length → f vals := fun vals e => by
 cases vals with
 | nil => exact g
 | cons a r => rw [h] at e; cases e
theorem jZ {α β : Type} {ps : List α} {f : List β → Prop} (h : ps.length = 1) (g : ∀ a, f [a]) : ∀ vals : List β, vals.length = ps.length → f vals := fun vals e => by
 rw [h] at e
 match vals, e with
 | [a], _ => exact g a
theorem fJ {α β : Type} {ps : List α} {f : List β → Prop} (h : ps.length = 2) (g : ∀ a b, f [a, b]) : ∀ vals : List β, vals.length = ps.length → f vals := fun vals e => by
 rw [h] at e
 match vals, e with
 | [a, b], _ => exact g a b
theorem L4 {α β : Type} {ps : List α} {f : List β → Prop} (h : ps.length = 3) (g : ∀ a b c, f [a, b, c]) : ∀ vals : List β, vals.length = ps.length → f vals := fun vals e => by
 rw [h] at e
 match vals, e with
 | [a, b, c], _ => exact g a b c
theorem Oh {α β : Type} {ps : List α} {f : List β → Prop} (h : ps.length = 4) (g : ∀ a b c d, f [a, b, c, d]) : ∀ vals : List β, vals.length = ps.length → f vals := fun vals e => by
 rw [h] at e
 match vals, e with
 | [a, b, c, d], _ => exact g a b c d
noncomputable def si (x : Str) : Bool := match x.cps.toList with
 | [c] => Nat.ble 48 c
 | _ => true
theorem vd {x : Str} (h : si x = true) : ∀ c, c < 48 → x ≠ ⟨#[c]⟩ := by
 intro c hc e
 subst e
 have h : Nat.ble 48 c = true := h
 have := Nat.le_of_ble_eq_true h
 lia
theorem signs {ps : List Str} (h : ps.all si = true) : ∀ x ∈ ps, ∀ c, c < 48 → x ≠ ⟨#[c]⟩ := fun x hx => vd (List.all_eq_true.mp h x hx)
theorem cM {x y : Str} (h : (x == y) = false) : x ≠ y := by
 intro e
 subst e
 simp at h
theorem LY {l : List (Str × Addr)} {x : Str} (h : (l.lookup x).isSome = true) : ∃ a, l.lookup x = some a := Option.isSome_iff_exists.mp h
noncomputable def Gm : Option NameKind → Bool
 | some .local => true
 | some .cell => true
 | _ => false
theorem GJ {ps : List Str} {l : List (Str × NameKind)} (h : ps.all (fun x => Gm (l.lookup x)) = true) : ∀ x ∈ ps, l.lookup x = some .local ∨ l.lookup x = some .cell := fun x hx => by
 have := List.all_eq_true.mp h x hx
 unfold Gm at this
 split at this
 ·exact .inl (by assumption)
 ·exact .inr (by assumption)
 ·exact nB this
def tY (env : Env) : List (Str × NameKind) → Bool
 | [] => true
 | (n, k) :: r => (match k with
  | .free => (match env.kindOf n with
   | some .cell => true
   | some .free => true
   | _ => false) && (env.cells.lookup n).isSome
  | .cell => false
  | _ => true) && tY env r
theorem GD {env : Env} : ∀ {l : List (Str × NameKind)}, tY env l = true → eO env l := by
 intro l
 induction l with
 | nil =>
  intro _
  exact trivial
 | cons hd0 r ih =>
  obtain ⟨n, k⟩ := hd0
  intro h
  unfold tY at h
  rw [Bool.and_eq_true] at h
  refine ⟨fun e => ?_, fun e => ?_, ih h.2⟩
  ·subst e
   have h1 := h.1
   rw [Bool.and_eq_true] at h1
   refine ⟨?_, LY h1.2⟩
   have h2 := h1.1
   split at h2
   ·exact .inl (by assumption)
   ·exact .inr (by assumption)
   ·exact nB h2
  ·subst e
   exact absurd h.1 (by intro h; exact nB h)
theorem nD : ∀ {l : List (Str × NameKind)}, lH l = true → ∀ x ∈ l, l.lookup x.1 = some x.2
 | a :: r, h, x, hx => by
  rw [List.lookup_cons]
  match q : x.1 == a.1 with
  | true =>
   have e : x.1 = a.1 := by simpa using q
   have := mQ h x hx a List.mem_cons_self (by rw [e])
   rw [this]
  | false =>
   rcases List.mem_cons.mp hx with rfl | hx
   ·simp at q
   ·unfold lH at h
    rw [Bool.and_eq_true] at h
    exact nD h.2 x hx
noncomputable def isC : NameKind → Bool
 | .local => false
 | _ => true
theorem NJ {l : List (Str × NameKind)} {c : Nat} (h : l.all (fun p => isC p.2 || (Nat.beq (nc p.1) c0 || Nat.beq (nc p.1) c)) = true) : ∀ V n, lk V c0 = none → l.lookup n = some .local → lk (del c V) (nc n) = none := by
 intro V n hV hn
 have := List.all_eq_true.mp h _ (PySem.mem_of_lookup hn)
 rw [jt]
 have : (false || (Nat.beq (nc n) c0 || Nat.beq (nc n) c)) = true := this
 rw [Bool.false_or, Bool.or_eq_true, dU, dU, decide_eq_true_iff, decide_eq_true_iff] at this
 rcases this with e | e
 ·rw [e, hV]; split <;> rfl
 ·rw [if_pos e]
theorem NI {l : List (Str × NameKind)} {c d : Nat} (h : l.all (fun p => isC p.2 || (Nat.beq (nc p.1) c0 || (Nat.beq (nc p.1) c || Nat.beq (nc p.1) d))) = true) : ∀ V n, lk V c0 = none → l.lookup n = some .local → lk ((fun V => del d (del c V)) V) (nc n) = none := by
 intro V n hV hn
 have := List.all_eq_true.mp h _ (PySem.mem_of_lookup hn)
 show lk (del d (del c V)) (nc n) = none
 rw [jt, jt]
 have : (false || (Nat.beq (nc n) c0 || (Nat.beq (nc n) c || Nat.beq (nc n) d))) = true := this
 rw [Bool.false_or, Bool.or_eq_true, Bool.or_eq_true, dU, dU, dU, decide_eq_true_iff, decide_eq_true_iff, decide_eq_true_iff] at this
 rcases this with e | e | e
 ·by_cases q : nc n = d
  ·rw [if_pos q]
  ·rw [if_neg q]
   by_cases q' : nc n = c
   ·rw [if_pos q']
   ·rw [if_neg q', e, hV]
 ·by_cases q : nc n = d
  ·rw [if_pos q]
  ·rw [if_neg q, if_pos e]
 ·rw [if_pos e]
section
variable {C : Sys} {k : Nat} {env : Env}
theorem GK {elt target iter : Expr} {ifs : List Expr} {scope : Scope} {mi me : EM} {mc : CM} {bd : ap → MV → Option ap} {er : ap → ap} (hE : aS env) (hf : eO env scope.names) (hk : scope.kind = .function) (hi : lH scope.names = true)
  (tgt : ∀ L, aS (compEnvC scope (clR env scope.names) L env) → mF C (compEnvC scope (clR env scope.names) L env) target bd er)
  (tst : ∀ L, aS (compEnvC scope (clR env scope.names) L env) → k8 C k (compEnvC scope (clR env scope.names) L env) ifs mc)
  (elt' : ∀ L, aS (compEnvC scope (clR env scope.names) L env) → EOk C k (compEnvC scope (clR env scope.names) L env) elt me)
  (it : EOk C k env iter mi) (loc : ∀ V n, lk V c0 = none → scope.names.lookup n = some .local → lk (er V) (nc n) = none) (fold : ∀ x, foldedSetIterable iter env x = pure x) :
  kj C k env elt target iter ifs scope mi me mc bd er :=
 ⟨it, hf, hk, hi, loc, fun L => tgt L (hE.comp hk hf hi L), fun L => tst L (hE.comp hk hf hi L), fun L => elt' L (hE.comp hk hf hi L), fun x hx e => by rw [nD hi x hx, e], fold⟩
noncomputable def GL (P : Params) (cd : Value) (q : Str) : Bool := match cd with
 | .ref c => match (KF P).lookup c with
  | some o => match o.data with
   | .fields vs => match (vs : Array Value)[1]? with
    | some (Value.str q' _) => q' == q
    | _ => false
   | _ => false
  | none => false
 | _ => false
set_option tactic.hygienic true in
theorem IE (C : Sys) {cd : Value} {q : Str} (h : GL C.w.params cd q = true) : C.h₁.CodeRec cd q := by
 unfold GL at h
 split at h
 ·rename_i c
  split at h
  ·rename_i o ho
   split at h
   ·rename_i vs hvs
    split at h
    ·rename_i q' t hq
     have : q' = q := by simpa using h
     subst this
     exact ⟨c, o, vs, t, rfl, C.X _ _ ho, hvs, hq⟩
    ·exact nB h
   ·exact nB h
  ·exact nB h
 ·exact nB h
noncomputable def mO : Expr → Bool
 | .Starred _ _ => false
 | _ => true
theorem Mg {e : Expr} {es : List Expr} {env : Env} (h : mO e = true) : starEach (e :: es) env = (false, eval e env) :: starEach es env := by
 cases e <;> first | rfl | exact nB h
theorem jw : C.mg (Str.ofString "_substitution_cost") = some (.ref 21) := mg_of C.X C.nsg (by kernel_rfl)
theorem bt : C.mg (Str.ofString "_levenshtein_distance") = some (.ref 28) := mg_of C.X C.nsg (by kernel_rfl)
theorem PA : C.mg (Str.ofString "eq") = some (.ref 35) := mg_of C.X C.nsg (by kernel_rfl)
theorem N4 : C.mg (Str.ofString "ne") = some (.ref 42) := mg_of C.X C.nsg (by kernel_rfl)
theorem vI : C.mg (Str.ofString "floordiv") = some (.ref 49) := mg_of C.X C.nsg (by kernel_rfl)
theorem N5 : C.mg (Str.ofString "mul") = some (.ref 56) := mg_of C.X C.nsg (by kernel_rfl)
theorem N3 : C.mg (Str.ofString "sub") = some (.ref 63) := mg_of C.X C.nsg (by kernel_rfl)
theorem kg : C.mg (Str.ofString "contains") = some (.ref 70) := mg_of C.X C.nsg (by kernel_rfl)
theorem AG : C.mg (Str.ofString "countOf") = some (.ref 77) := mg_of C.X C.nsg (by kernel_rfl)
theorem pd : C.mg (Str.ofString "indexOf") = some (.ref 84) := mg_of C.X C.nsg (by kernel_rfl)
theorem pc : C.mg (Str.ofString "setitem") = some (.ref 91) := mg_of C.X C.nsg (by kernel_rfl)
theorem jV : C.mg (Str.ofString "in_table_b1") = some (.ref 109) := mg_of C.X C.nsg (by kernel_rfl)
theorem jv : C.mg (Str.ofString "map_table_b3") = some (.ref 155) := mg_of C.X C.nsg (by kernel_rfl)
theorem mL : C.mg (Str.ofString "_escape_cdata") = some (.ref 169) := mg_of C.X C.nsg (by kernel_rfl)
theorem lM : C.mg (Str.ofString "_escape_attrib") = some (.ref 176) := mg_of C.X C.nsg (by kernel_rfl)
theorem i7 : C.mg (Str.ofString "_escape_attrib_html") = some (.ref 183) := mg_of C.X C.nsg (by kernel_rfl)
theorem jy : C.mg (Str.ofString "_escape_cdata_c14n") = some (.ref 190) := mg_of C.X C.nsg (by kernel_rfl)
theorem i8 : C.mg (Str.ofString "_escape_attrib_c14n") = some (.ref 197) := mg_of C.X C.nsg (by kernel_rfl)
theorem rs : C.mg (Str.ofString "_law_cells") = some (.ref 202) := mg_of C.X C.nsg (by kernel_rfl)
theorem iC : C.mg (Str.ofString "_law_reference") = some (.ref 209) := mg_of C.X C.nsg (by kernel_rfl)
theorem jx : C.mg (Str.ofString "_law_word") = some (.ref 216) := mg_of C.X C.nsg (by kernel_rfl)
theorem rq : C.mg (Str.ofString "_law_typed") = some (.ref 221) := mg_of C.X C.nsg (by kernel_rfl)
theorem tW : C.mg (Str.ofString "_law_read") = some (.ref 226) := mg_of C.X C.nsg (by kernel_rfl)
theorem oz : C.mg (Str.ofString "_law_merged") = some (.ref 231) := mg_of C.X C.nsg (by kernel_rfl)
theorem mJ : C.mg (Str.ofString "_law_greatest") = some (.ref 236) := mg_of C.X C.nsg (by kernel_rfl)
theorem GB : C.mg (Str.ofString "b1_set") = some (.ref 99) := mg_of C.X C.nsg (by kernel_rfl)
theorem mI : C.mg (Str.ofString "b3_exceptions") = some (.ref 110) := mg_of C.X C.nsg (by kernel_rfl)
theorem gN : C.mg (Str.ofString "_MAX_STRING_SIZE") = some (.int 40 189) := mg_of C.X C.nsg (by kernel_rfl)
theorem cX : C.mg (Str.ofString "_MOVE_COST") = some (.int 2 191) := mg_of C.X C.nsg (by kernel_rfl)
theorem ru : C.mg (Str.ofString "_CASE_COST") = some (.int 1 193) := mg_of C.X C.nsg (by kernel_rfl)
theorem rW : C.mg (Str.ofString "bool") = none := mg_none_of C.X C.nsg (by kernel_rfl)
theorem mP : Str.ofString "bool" ≠ ("__name__" : Str) := cM (by kernel_rfl)
theorem pC : C.mg (Str.ofString "chr") = none := mg_none_of C.X C.nsg (by kernel_rfl)
theorem lz : Str.ofString "chr" ≠ ("__name__" : Str) := cM (by kernel_rfl)
theorem um : C.mg (Str.ofString "enumerate") = none := mg_none_of C.X C.nsg (by kernel_rfl)
theorem qe : Str.ofString "enumerate" ≠ ("__name__" : Str) := cM (by kernel_rfl)
theorem pB : C.mg (Str.ofString "int") = none := mg_none_of C.X C.nsg (by kernel_rfl)
theorem ly : Str.ofString "int" ≠ ("__name__" : Str) := cM (by kernel_rfl)
theorem fA : C.mg (Str.ofString "len") = none := mg_none_of C.X C.nsg (by kernel_rfl)
theorem dD : Str.ofString "len" ≠ ("__name__" : Str) := cM (by kernel_rfl)
theorem v0 : C.mg (Str.ofString "list") = none := mg_none_of C.X C.nsg (by kernel_rfl)
theorem qd : Str.ofString "list" ≠ ("__name__" : Str) := cM (by kernel_rfl)
theorem Oj : C.mg (Str.ofString "max") = none := mg_none_of C.X C.nsg (by kernel_rfl)
theorem Mx : Str.ofString "max" ≠ ("__name__" : Str) := cM (by kernel_rfl)
theorem GS : C.mg (Str.ofString "min") = none := mg_none_of C.X C.nsg (by kernel_rfl)
theorem vf : Str.ofString "min" ≠ ("__name__" : Str) := cM (by kernel_rfl)
theorem pz : C.mg (Str.ofString "ord") = none := mg_none_of C.X C.nsg (by kernel_rfl)
theorem lx : Str.ofString "ord" ≠ ("__name__" : Str) := cM (by kernel_rfl)
theorem dc : C.mg (Str.ofString "range") = none := mg_none_of C.X C.nsg (by kernel_rfl)
theorem cp : Str.ofString "range" ≠ ("__name__" : Str) := cM (by kernel_rfl)
theorem uk : C.mg (Str.ofString "sorted") = none := mg_none_of C.X C.nsg (by kernel_rfl)
theorem oT : Str.ofString "sorted" ≠ ("__name__" : Str) := cM (by kernel_rfl)
theorem iV : C.mg (Str.ofString "type") = none := mg_none_of C.X C.nsg (by kernel_rfl)
theorem f6 : Str.ofString "type" ≠ ("__name__" : Str) := cM (by kernel_rfl)
end
structure EO (C : Sys) (k : Nat) (env : Env) (e : Expr) (m : EM) : Prop where
 h : EOk C k env e m
structure CO (C : Sys) (k : Nat) (env : Env) (e : Expr) (m : CM) : Prop where
 h : COk C k env e m
structure LO (C : Sys) (k : Nat) (env : Env) (e : List Expr) (m : LM) : Prop where
 h : LOk C k env e m
structure OO (C : Sys) (k : Nat) (env : Env) (e : Option Expr) (m : OM) : Prop where
 h : OOk C k env e m
structure AO (C : Sys) (k : Nat) (env : Env) (o : BoolOp) (e : List Expr) (m : CM) : Prop where
 h : i6 C k env o e m
structure SO (C : Sys) (k : Nat) (env : Env) (e : Stmt) (m : SM) : Prop where
 h : SOk C k env e m
structure BO (C : Sys) (k : Nat) (env : Env) (e : List Stmt) (m : SM) : Prop where
 h : BOk C k env e m
structure BY (C : Sys) (k : Nat) (env : Env) (x : Str) (e : List Stmt) (m : SM) : Prop where
 h : BC C k env x e m
structure TS (C : Sys) (k : Nat) (env : Env) (e : List Expr) (m : CM) : Prop where
 h : k8 C k env e m
structure FO (C : Sys) (k : Nat) (f : Value) (g : FM) : Prop where
 h : ei C k f g
def NV (env : Env) (x : Str) : Bool := match env.kindOf x with
 | some .local => true
 | _ => false
def NX (env : Env) (x : Str) : Bool := match env.kindOf x with
 | some .local => true
 | some .cell => true
 | some .free => true
 | _ => false
def NW (env : Env) (x : Str) : Bool := match env.kindOf x with
 | some .local => true
 | some .cell => (env.cells.lookup x).isSome
 | _ => false
def nG (env : Env) (x : Str) : Bool := match env.kindOf x with
 | some .globalImplicit => !(x == ("__debug__" : Str))
 | _ => false
def nmC (env : Env) (x : Str) (c : Nat) : Bool := Nat.beq (nc x) c && (NX env x && (!(x == ("__classdict__" : Str)) && !(x == ("__debug__" : Str))))
def nmS (env : Env) (x : Str) (c : Nat) : Bool := Nat.beq (nc x) c && (NW env x && (si x && !(x == ("__classdict__" : Str))))
def nmL (env : Env) (x : Str) (c : Nat) : Bool := Nat.beq (nc x) c && (NV env x && (si x && !(x == ("__debug__" : Str))))
section
variable {C : Sys} {k : Nat} {env : Env} {x y : Str} {c d : Nat}
theorem rZ {a b : Bool} (h : (a && b) = true) : a = true ∧ b = true := by rwa [Bool.and_eq_true] at h
theorem CT {a : Bool} (h : (!a) = true) : a = false := by simpa using h
theorem CU (h : nmC env x c = true) : nc x = c ∧ (env.kindOf x = some .local ∨ env.kindOf x = some .cell ∨ env.kindOf x = some .free) ∧ (x == ("__classdict__" : Str)) = false ∧ (x == ("__debug__" : Str)) = false := by
 have h1 := rZ h
 have h2 := rZ h1.2
 have h3 := rZ h2.2
 refine ⟨Nat.eq_of_beq_eq_true h1.1, ?_, CT h3.1, CT h3.2⟩
 have h4 := h2.1
 unfold NX at h4
 split at h4
 ·exact .inl (by assumption)
 ·exact .inr (.inl (by assumption))
 ·exact .inr (.inr (by assumption))
 ·exact nB h4
theorem fG (h : nmS env x c = true) : jD env x c ∧ (x == ("__classdict__" : Str)) = false := by
 have h1 := rZ h
 have h2 := rZ h1.2
 have h3 := rZ h2.2
 refine ⟨⟨Nat.eq_of_beq_eq_true h1.1, ?_, vd h3.1⟩, CT h3.2⟩
 have h4 := h2.1
 unfold NW at h4
 split at h4
 ·exact .inl (by assumption)
 ·exact .inr ⟨by assumption, LY h4⟩
 ·exact nB h4
theorem jg (h : nmL env x c = true) : nc x = c ∧ env.kindOf x = some .local ∧ (∀ c, c < 48 → x ≠ ⟨#[c]⟩) ∧ (x == ("__debug__" : Str)) = false := by
 have h1 := rZ h
 have h2 := rZ h1.2
 have h3 := rZ h2.2
 refine ⟨Nat.eq_of_beq_eq_true h1.1, ?_, vd h3.1, CT h3.2⟩
 have h4 := h2.1
 unfold NV at h4
 split at h4
 ·assumption
 ·exact nB h4
theorem cJ (h : nG env x = true) : env.kindOf x = some .globalImplicit ∧ (x == ("__debug__" : Str)) = false := by
 unfold nG at h
 split at h
 ·exact ⟨by assumption, CT h⟩
 ·exact nB h
variable {e e2 v i o t : Expr} {es : List Expr} {m ma mb mi me : EM} {ms : LM} {cm cm2 : CM} {sm sm2 : SM} {pos p p' q tp apos : Pos} {kk k1 k2 : Nat} {g : FM} {st : Stmt} {b b2 : List Stmt} {oe oe2 : Option Expr} {om om2 : OM}
theorem eN {v : Const} (h : v = .none := by rfl) : EO C k env (.Constant .none kk pos) (mK .none) := ⟨.const_none⟩
theorem eI {n : Int} : EO C k env (.Constant (.int n) kk pos) (mK (.int n)) := ⟨.const_int⟩
theorem eB {n : Bool} : EO C k env (.Constant (.bool n) kk pos) (mK (.bool n)) := ⟨.const_bool⟩
theorem eS {l : List Nat} (h : x.cps.toList = l := by kernel_rfl) (hl : Nat.ble l.length 1000 = true := by kernel_rfl) : EO C k env (.Constant (.str x) kk pos) (mK (.str l)) := ⟨.const_str h hl⟩
theorem eV (h : nmC env x c = true := by kernel_rfl) (hE : aS env := by assumption) : EO C k env (.Name x pos) (mV c) := let ⟨a, b, d, f⟩ := CU h; ⟨.name hE a b d f⟩
theorem eG {n : Int} {tk : Tok} (hv : C.mg x = some (.int n tk)) (h : nG env x = true := by kernel_rfl) (hE : aS env := by assumption) : EO C k env (.Name x pos) (mK (.int n)) := ⟨.glob hE (cJ h).1 hv (fun _ _ _ => ⟨_, rfl⟩) (cJ h).2⟩
theorem eH {a : Addr} (hv : C.mg x = some (.ref a)) (h : nG env x = true := by kernel_rfl) (hE : aS env := by assumption) : EO C k env (.Name x pos) (mK (.fn a)) := ⟨.glob hE (cJ h).1 hv (fun _ _ _ => rfl) (cJ h).2⟩
theorem eT {T : String} (hm : C.mg x = none) (hn : x ≠ ("__name__" : Str)) (hv : bootBuiltins x = some (.type T) := by kernel_rfl) (h : nG env x = true := by kernel_rfl) (hE : aS env := by assumption) : EO C k env (.Name x pos) (mK (.typ T)) := ⟨.blt hE (cJ h).1 hm hv hn (fun _ _ _ => rfl) (cJ h).2⟩
theorem eBi {op : Operator} {f} (h2 : Op2 C (binaryOp op) f) (hl : EO C k env e ma) (hr : EO C k env i mb) : EO C k env (.BinOp e op i pos) (m2 f ma mb) := ⟨.bin h2 hl.h hr.h⟩
theorem eM (h : EO C k env e m) : EO C k env (.UnaryOp .USub e pos) (m1 ke m) := ⟨.neg h.h⟩
theorem eQ {op : CmpOp} {f} (h2 : i5 C op f) (hl : EO C k env e ma) (hr : EO C k env i mb) (h : behindInMarks op i = false := by kernel_rfl) : EO C k env (.Compare e [op] [i] pos) (eE f ma mb) := ⟨.cmp h2 hl.h hr.h h⟩
theorem eB1 (he : EO C k env e m) (hv : C.mg x = some (.ref 99)) (h : nG env x = true := by kernel_rfl) (hE : aS env := by assumption) : EO C k env (.Compare e [.In] [.Name x p] pos) (mB1 m) := ⟨.inB1 hE he.h (cJ h).1 hv (cJ h).2⟩
theorem PI (a : EO C k env e ma) (b : EO C k env i mb) : EO C k env (.BoolOp .And [e, i] pos) (vA ma mb) := ⟨.and2 a.h b.h⟩
theorem eOr (a : EO C k env e ma) (b : EO C k env i mb) : EO C k env (.BoolOp .Or [e, i] pos) (mOr ma mb) := ⟨.or2 a.h b.h⟩
theorem eIf (c : CO C k env t cm) (a : EO C k env e ma) (b : EO C k env i mb) : EO C k env (.IfExp t e i pos) (mIf cm ma mb) := ⟨.ifexp c.h a.h b.h⟩
theorem cB {id : String} (hm : C.mg x = none) (hn : x ≠ ("__name__" : Str)) (hf : ei C k (.builtin id) g) (hes : LO C k env es ms) (hv : bootBuiltins x = some (.builtin id) := by kernel_rfl) (h : nG env x = true := by kernel_rfl) (hE : aS env := by assumption) : EO C k env (.Call (.Name x p) es [] pos) (ag g ms) := ⟨.callB hE (cJ h).1 hm hv hn (cJ h).2 hf hes.h⟩
theorem cT {id : String} (hm : C.mg x = none) (hn : x ≠ ("__name__" : Str)) (hf : ei C k (.type id) g) (hes : LO C k env es ms) (hv : bootBuiltins x = some (.type id) := by kernel_rfl) (h : nG env x = true := by kernel_rfl) (hE : aS env := by assumption) : EO C k env (.Call (.Name x p) es [] pos) (ag g ms) := ⟨.callT hE (cJ h).1 hm hv hn (cJ h).2 hf hes.h⟩
theorem cF {a : Addr} {ob : Obj} (hm : C.mg x = some (.ref a)) (ho : C.h₁.get? a = some ob) (hf : FO C k (.ref a) g) (hes : LO C k env es ms) {fd : FuncData} (hd : ob.data = .func fd := by rfl) (h : nG env x = true := by kernel_rfl) (hE : aS env := by assumption) : EO C k env (.Call (.Name x p) es [] pos) (ag g ms) := ⟨.callF hE (cJ h).1 hm ho hd (cJ h).2 hf.h hes.h⟩
theorem cV {T : Nat → Option FM} (hT : ∀ f g, T f = some g → (∃ o fd, C.h₁.get? f = some o ∧ o.data = .func fd) ∧ ei C k (.ref f) g) (hes : LO C k env es ms) (h : nmC env x c = true := by kernel_rfl) (hE : aS env := by assumption) : EO C k env (.Call (.Name x p) es [] pos) (ie c T ms) := let ⟨a, b, d, f⟩ := CU h; ⟨.callV hE a b d f hT hes.h⟩
theorem eb3 (he : EO C k env e m) (hv : C.mg x = some (.ref 110)) (h : nG env x = true := by kernel_rfl) (hb : attributeBase (.Name x p) "get" env (eval (.Name x p) env) = eval (.Name x p) env := by kernel_rfl) (hs : mO e = true := by kernel_rfl) (hl : (apos.endLine == pos.line) = true := by kernel_rfl) (hE : aS env := by assumption) :
  EO C k env (.Call (.Attribute (.Name x p) "get" apos) [e] [] pos) (mB3 m) := ⟨.b3get hE he.h (cJ h).1 hv (cJ h).2 hb (Mg hs) hl⟩
theorem eR {zl : List Nat} (ho : EO C k env o m) (hy : x = ⟨#[c]⟩ := by rfl) (hz : y.cps.toList = zl := by kernel_rfl) (hne : (x == y) = false := by kernel_rfl) (hzl : Nat.ble zl.length 100 = true := by kernel_rfl) (hb : attributeBase o "replace" env (eval o env) = eval o env := by kernel_rfl) (hl : (apos.endLine == pos.line) = true := by kernel_rfl) :
  EO C k env (.Call (.Attribute o "replace" apos) [.Constant (.str x) k1 p, .Constant (.str y) k2 p'] [] pos) (c8 m c zl) := ⟨.repl ho.h hy hz hne hzl hb hl⟩
theorem N8 (hes : LO C k env es ms) (hl : decide (es.length < 30) = true) : ((backTo pos (starEach es env)).all (fun x => !x.1) && (backToKw pos (keywordEach [] env)).all (fun x => x.1.isSome) && decide (es.length + ([] : List Keyword).length + (if ([] : List Keyword).isEmpty then 0 else 1) < 30)) = true :=
 few pos (List.all_eq_true.mpr fun x hx => by rw [hes.h.1 x hx]; rfl) hl
theorem eL {id : String} (slot : Slot "list" x id) (hty : typeOf (.builtin id) = pure (.type "method_descriptor")) (ho : EO C k env o m) (hg : ∀ x as σ mv σ', g (x :: as) σ = some (mv, σ') → ∃ i xs, x = .ref i ∧ am σ i = some xs) (hes : LO C k env es ms) (hf : ei C k (.builtin id) g)
  (hb : attributeBase o x env (eval o env) = eval o env := by kernel_rfl) (hn : decide (es.length < 30) = true := by kernel_rfl) (hl : (apos.endLine == pos.line) = true := by kernel_rfl) : EO C k env (.Call (.Attribute o x apos) es [] pos) (br m g ms) := ⟨.methL' slot hty ho.h hg hes.h hf hb (N8 hes hn) hl⟩
theorem eU {id : String} (slot : Slot "str" x id) (hty : typeOf (.builtin id) = pure (.type "method_descriptor")) (ho : EO C k env o m) (hg : ∀ x as σ mv σ', g (x :: as) σ = some (mv, σ') → ∃ l, x = .str l) (hes : LO C k env es ms) (hf : ei C k (.builtin id) g)
  (hb : attributeBase o x env (eval o env) = eval o env := by kernel_rfl) (hn : decide (es.length < 30) = true := by kernel_rfl) (hl : (apos.endLine == pos.line) = true := by kernel_rfl) : EO C k env (.Call (.Attribute o x apos) es [] pos) (cz m g ms) := ⟨.methS slot hty ho.h hg hes.h hf hb (N8 hes hn) hl⟩
theorem eX (a : EO C k env e m) (b : OO C k env oe om) (d : OO C k env oe2 om2) : EO C k env (.Subscript e (.Slice oe oe2 none p) pos) (bW m om om2) := ⟨.cut a.h b.h d.h⟩
theorem eAt (a : EO C k env e ma) (b : EO C k env i mb) (h : ∀ o x, subscripted i false o x = operate [o, x] (getItem o x) := by intro _ _; kernel_rfl) : EO C k env (.Subscript e i pos) (m2 az ma mb) := ⟨.item a.h b.h h⟩
theorem eLi (a : LO C k env es ms) : EO C k env (.List es pos) (ba ms) := ⟨.list a.h⟩
theorem ePr (a : LO C k env es ms) : EO C k env (.Tuple es kk pos) (b9 ms) := ⟨.pair a.h⟩
theorem eD {ks : List (Option Expr)} {D : List (Str × Str)} {ds : List (List Nat × List Nat)} (d : BB ks es D) (h1 : nP D = ds := by kernel_rfl) (h2 : BL D = true := by kernel_rfl) (h3 : AL (D.map (·.1)) = true := by kernel_rfl) (h4 : D.all (fun p => Nat.ble p.2.cps.size 1000) = true := by kernel_rfl) (h5 : ks.all (·.isSome) = true := by kernel_rfl) (h6 : ks.length = es.length := by rfl) (h7 : ks ≠ [] := by simp) (h8 : ks.length ≤ 15 := by simp) :
  EO C k env (.Dict ks es pos) (mK (.dct ds)) := ⟨.dict d h1 h2 h3 h4 h5 h6 h7 h8⟩
theorem oN : OO C k env none be := ⟨.none⟩
theorem oS (a : EO C k env e m) : OO C k env (some e) (bc m) := ⟨.some a.h⟩
theorem lN : LO C k env [] ah := ⟨.nil⟩
theorem lC (a : EO C k env e m) (b : LO C k env es ms) (h : mO e = true := by kernel_rfl) : LO C k env (e :: es) (aa m ms) := ⟨.cons a.h b.h (Mg h)⟩
theorem qC {op : CmpOp} {f} (h2 : i5 C op f) (hl : EO C k env e ma) (hr : EO C k env i mb) (h : behindInMarks op i = false := by kernel_rfl) : CO C k env (.Compare e [op] [i] pos) (aE f ma mb) := ⟨.cmp h2 hl.h hr.h h⟩
theorem qN (a : CO C k env e cm) : CO C k env (.UnaryOp .Not e pos) (ig cm) := ⟨.not a.h⟩
theorem qB {op : BoolOp} (a : AO C k env op es cm) : CO C k env (.BoolOp op es pos) cm := ⟨.bool a.h⟩
theorem qV (a : EO C k env e m) (h : ∀ whole, isTrue e env whole = (do let v ← whole; standAt e.pos; holding [v] (truthy v)) := by intro _; kernel_rfl) : CO C k env e (dT m) := ⟨.val a.h h⟩
theorem aA : AO C k env .And [] (cK true) := ⟨.and_nil⟩
theorem aO : AO C k env .Or [] (cK false) := ⟨.or_nil⟩
theorem aAc (a : CO C k env e cm) (b : AO C k env .And es cm2) : AO C k env .And (e :: es) (cj cm cm2) := ⟨.and_cons a.h b.h⟩
theorem aOc (a : CO C k env e cm) (b : AO C k env .Or es cm2) : AO C k env .Or (e :: es) (cOr cm cm2) := ⟨.or_cons a.h b.h⟩
theorem bN : BO C k env [] ak := ⟨.nil⟩
theorem bC (a : SO C k env st sm) (r : BO C k env b sm2) : BO C k env (st :: b) (ab sm sm2) := ⟨.cons a.h r.h⟩
theorem sI (c : CO C k env t cm) (a : BO C k env b sm) (r : BO C k env b2 sm2) : SO C k env (.If t b b2 pos) (sIf cm sm sm2) := ⟨.if c.h a.h r.h⟩
theorem sR (a : EO C k env e m) : SO C k env (.Return (some e) pos) (bj m) := ⟨.ret a.h⟩
theorem sE (a : EO C k env e m) (h1 : interactive env = false := by kernel_rfl) (h2 : swapsWith e none pos.line env = pure false := by kernel_rfl) : SO C k env (.Expr e pos) (dt m) := ⟨.expr a.h h1 h2⟩
theorem sT {h₀ : ExceptHandler} {hs : List ExceptHandler} (a : BO C k env b sm) : SO C k env (.Try b (h₀ :: hs) [] [] pos) sm := ⟨.try a.h⟩
theorem sA {op : Operator} {f} (h2 : Op2 C (inplaceOp op) f) (a : EO C k env e m) (h : nmS env x c = true := by kernel_rfl) (hE : aS env := by assumption) (hF : fc C env := by assumption) : SO C k env (.AugAssign (.Name x p) op e pos) (m8 c f m) := ⟨.aug hE hF (fG h).1 (fG h).2 h2 a.h⟩
theorem sS (a : EO C k env e m) (h : nmS env x c = true := by kernel_rfl) (hs : swapsWith e (some (.Name x p)) pos.line env = pure false := by kernel_rfl) (hE : aS env := by assumption) (hF : fc C env := by assumption) : SO C k env (.Assign [.Name x p] e pos) (aL c m) := ⟨.set hE hF (fG h).1 a.h hs⟩
theorem sS2 (a : EO C k env e m) (h : nmS env x c = true := by kernel_rfl) (h' : nmS env y d = true := by kernel_rfl) (hs : swappedStores [.Name x p, .Name y p'] e env = pure none := by kernel_rfl) (hE : aS env := by assumption) (hF : fc C env := by assumption) : SO C k env (.Assign [.Name x p, .Name y p'] e pos) (m6 c d m) := ⟨.set2 hE hF (fG h).1 (fG h').1 a.h hs⟩
theorem sP (a : EO C k env e m) (h : nmS env x c = true := by kernel_rfl) (h' : nmS env y d = true := by kernel_rfl) (hs : swapsWithSole [.Tuple [.Name x p, .Name y p'] kk tp] e pos.line env = pure false := by kernel_rfl) (hw : swappedStores [.Tuple [.Name x p, .Name y p'] kk tp] e env = pure none := by kernel_rfl) (hE : aS env := by assumption) (hF : fc C env := by assumption) :
  SO C k env (.Assign [.Tuple [.Name x p, .Name y p'] kk tp] e pos) (jU c d m) := ⟨.pair hE hF (fG h).1 (fG h').1 a.h hs hw⟩
theorem sW (a : EO C k env e m) (h : nmS env x c = true := by kernel_rfl) (h' : nmS env y d = true := by kernel_rfl) (hs : swapsWithSole [.Tuple [.Name x p, .Name y p'] kk tp] e pos.line env = pure false := by kernel_rfl) (hw : swappedStores [.Tuple [.Name x p, .Name y p'] kk tp] e env = pure (some [x, y]) := by kernel_rfl) (hE : aS env := by assumption) (hF : fc C env := by assumption) :
  SO C k env (.Assign [.Tuple [.Name x p, .Name y p'] kk tp] e pos) (m5 c d m) := ⟨.swap hE hF (fG h).1 (fG h').1 a.h hs hw⟩
theorem sIt (hv : EO C k env v m) (ho : EO C k env o ma) (hi : EO C k env i mb) (hs : swapsWithSole [.Subscript o i p] v pos.line env = pure false := by kernel_rfl) (hw : swappedStores [.Subscript o i p] v env = pure none := by kernel_rfl) : SO C k env (.Assign [.Subscript o i p] v pos) (km ma mb m) := ⟨.item hv.h ho.h hi.h hs hw⟩
theorem sWh {n : Nat} (c : CO C k env t cm) (a : BO C k env b sm) : SO C k env (.While t b [] pos) (dP cm sm n) := ⟨.while c.h a.h⟩
theorem sFo (a : EO C k env e m) (r : BO C k env b sm) (h : nmS env x c = true := by kernel_rfl) (hs : ∀ x, foldedSetIterable e env x = pure x := by intro _; kernel_rfl) (hE : aS env := by assumption) (hF : fc C env := by assumption) : SO C k env (.For (.Name x p) e b [] pos) (fe m c sm) := ⟨.for hE hF (fG h).1 a.h r.h hs⟩
theorem sF2 (a : EO C k env e m) (r : BO C k env b sm) (h : nmS env x c = true := by kernel_rfl) (h' : nmS env y d = true := by kernel_rfl) (hs : ∀ x, foldedSetIterable e env x = pure x := by intro _; kernel_rfl) (hE : aS env := by assumption) (hF : fc C env := by assumption) :
  SO C k env (.For (.Tuple [.Name x p, .Name y p'] kk tp) e b [] pos) (oO m c d sm) := ⟨.for2 hE hF (fG h).1 (fG h').1 a.h r.h hs⟩
theorem yI {p1 p2 p3 p4 q1 q2 pos2 : Pos} (a : BO C k env b sm) (r : BO C k env b2 sm2) (h : nmL env x c = true := by kernel_rfl) (h' : nmL env y d = true := by kernel_rfl) (hn : y ≠ x := by decide) (hE : aS env := by assumption) :
  BY C k env x [.If (.BoolOp .Or [.Compare (.Name x p1) [.Is] [.Name y p2] q1, .Compare (.Name x p3) [.Eq] [.Name y p4] q2] pos2) b b2 pos] (ab (sIf (jY c d) sm sm2) ak) :=
 let ⟨a1, a2, _, a4⟩ := jg h; let ⟨b1, b2, _, b4⟩ := jg h'; ⟨.if (.isEq hE a1 b1 a2 b2 hn a4 b4) a.h r.h⟩
theorem sFY (a : EO C k env e m) (r : BY C k env x b sm) (h : nmL env x c = true := by kernel_rfl) (hs : ∀ x, foldedSetIterable e env x = pure x := by intro _; kernel_rfl) (hE : aS env := by assumption) (hF : fc C env := by assumption) : SO C k env (.For (.Name x p) e b [] pos) (m7 m c sm) :=
 let ⟨a1, a2, a3, _⟩ := jg h; ⟨.forY hE hF a1 a2 a3 a.h r.h hs⟩
theorem sEn {xe : Str} {pe pos' : Pos} (hm : C.mg xe = none) (hn : xe ≠ ("__name__" : Str)) (a : EO C k env e m) (r : BY C k env y b sm) (h : nmL env x c = true := by kernel_rfl) (h' : nmL env y d = true := by kernel_rfl) (hg : nG env xe = true := by kernel_rfl) (hv : bootBuiltins xe = some (.type "enumerate") := by kernel_rfl) (hst : mO e = true := by kernel_rfl)
  (hs : ∀ x, foldedSetIterable (.Call (.Name xe pe) [e] [] pos') env x = pure x := by intro _; kernel_rfl) (hE : aS env := by assumption) (hF : fc C env := by assumption) : SO C k env (.For (.Tuple [.Name x p, .Name y p'] kk tp) (.Call (.Name xe pe) [e] [] pos') b b2 pos) (kn m c d sm) :=
 let ⟨a1, a2, a3, _⟩ := jg h; let ⟨b1, b2, b3, _⟩ := jg h'; ⟨.enum hE hF a1 a2 a3 b1 b2 b3 (cJ hg).1 hm hv hn (cJ hg).2 (Mg hst) a.h r.h hs⟩
theorem tN : TS C k env [] (cK true) := ⟨.nil⟩
theorem tO (a : CO C k env e cm) : TS C k env [e] cm := ⟨.one a.h⟩
variable {elt iter : Expr} {ifs : List Expr} {scope : Scope}
abbrev cE' (env : Env) (scope : Scope) (L : Addr) : Env := compEnvC scope (clR env scope.names) L env
theorem cO1 (it : EO C k env iter mi) (tst : ∀ L, aS (cE' env scope L) → TS C k (cE' env scope L) ifs cm) (el : ∀ L, aS (cE' env scope L) → EO C k (cE' env scope L) elt me) (hx : ∀ L, nmL (cE' env scope L) x c = true := by intro _; kernel_rfl) (hf : tY env scope.names = true := by kernel_rfl) (hk : scope.kind = .function := by kernel_rfl) (hi : lH scope.names = true := by kernel_rfl)
  (loc : scope.names.all (fun p => isC p.2 || (Nat.beq (nc p.1) c0 || Nat.beq (nc p.1) c)) = true := by kernel_rfl) (fold : ∀ x, foldedSetIterable iter env x = pure x := by intro _; kernel_rfl) (hE : aS env := by assumption) : kj C k env elt (.Name x p) iter ifs scope mi me cm (bd1 c) (del c) :=
 GK hE (GD hf) hk hi (fun L h => let ⟨a, b, d, _⟩ := jg (hx L); .one h a b d) (fun L h => (tst L h).h) (fun L h => (el L h).h) it.h (NJ loc) fold
theorem cO2 (it : EO C k env iter mi) (tst : ∀ L, aS (cE' env scope L) → TS C k (cE' env scope L) ifs cm) (el : ∀ L, aS (cE' env scope L) → EO C k (cE' env scope L) elt me) (hx : ∀ L, nmL (cE' env scope L) x c = true := by intro _; kernel_rfl) (hy : ∀ L, nmL (cE' env scope L) y d = true := by intro _; kernel_rfl) (hf : tY env scope.names = true := by kernel_rfl) (hk : scope.kind = .function := by kernel_rfl) (hi : lH scope.names = true := by kernel_rfl)
  (loc : scope.names.all (fun p => isC p.2 || (Nat.beq (nc p.1) c0 || (Nat.beq (nc p.1) c || Nat.beq (nc p.1) d))) = true := by kernel_rfl) (fold : ∀ x, foldedSetIterable iter env x = pure x := by intro _; kernel_rfl) (hE : aS env := by assumption) : kj C k env elt (.Tuple [.Name x p, .Name y p'] kk tp) iter ifs scope mi me cm (bd2 c d) (fun V => del d (del c V)) :=
 GK hE (GD hf) hk hi (fun L h => let ⟨a, b, e, _⟩ := jg (hx L); let ⟨a', b', e', _⟩ := jg (hy L); .two h a a' b b' e e') (fun L h => (tst L h).h) (fun L h => (el L h).h) it.h (NI loc) fold
variable {bd : ap → MV → Option ap} {er : ap → ap} {target : Expr}
theorem eC (h0 : kj C k env elt target iter ifs scope mi me cm bd er) (hE : aS env := by assumption) : EO C k env (.ListComp elt [⟨target, iter, ifs, 0⟩] scope pos) (aX mi bd cm me) := ⟨.comp hE h0⟩
theorem sC (h0 : kj C k env elt target iter ifs scope mi me cm bd er) (h : nmS env y c = true := by kernel_rfl) (hs : swapsWith (.ListComp elt [⟨target, iter, ifs, 0⟩] scope pos) (some (.Name y q)) tp.line env = pure true := by kernel_rfl) (hE : aS env := by assumption) (hF : fc C env := by assumption) :
  SO C k env (.Assign [.Name y q] (.ListComp elt [⟨target, iter, ifs, 0⟩] scope pos) tp) (aL c (aX mi bd cm me)) := ⟨.setC hE hF h0 (fG h).1 hs⟩
def fdK (i : Nat) (md : Str) (t : Nat) (a : Addr) : FuncData := fdG i (.str md t) (.ref a)
theorem fD {i a t : Nat} {md : Str} {ps : List Str} {cs : List Nat} {sm : SM} (bind : ∀ vals : List Value, vals.length = ps.length → bindArgs (fdK i md t a) ⟨vals, []⟩ = pure (ps.zip vals))
  (ho : C.h₁.get? (a + 1) = some (fnO i (.str md t) (.ref a))) (hb : ∀ L, aS (callEnvC (fdK i md t a) L (a + 1)) → fc C (callEnvC (fdK i md t a) L (a + 1)) → BO C k (callEnvC (fdK i md t a) L (a + 1)) (L2 i) sm)
  (hd : (fnO i (.str md t) (.ref a)).data = .func (fdK i md t a) := by kernel_rfl) (h1 : (fdK i md t a).scope.kind = .function := by kernel_rfl) (h2 : (fdK i md t a).scope.isCoroutine = false := by kernel_rfl) (h3 : (fdK i md t a).scope.isGenerator = false := by kernel_rfl) (h4 : (fdK i md t a).body = .stmts (L2 i) := by kernel_rfl) (h5 : (fdK i md t a).closure = [] := by kernel_rfl) (h6 : (fdK i md t a).builtins = builtinsNs := by kernel_rfl)
  (h7 : ps.all (fun x => Gm ((fdK i md t a).scope.names.lookup x)) = true := by kernel_rfl) (h8 : AL ps = true := by kernel_rfl) (h9 : ps.map nc = cs := by kernel_rfl) (h10 : ps.all si = true := by kernel_rfl) (h11 : lH (fdK i md t a).scope.names = true := by kernel_rfl) (h12 : GL C.w.params (fdK i md t a).code (fdK i md t a).qualname = true := by kernel_rfl) : FO C (k + 1) (.ref (a + 1)) (mFn cs sm) :=
 ⟨ei.def (ps := ps) ⟨h1, h2, h3, h4, h5, rfl, h6, bind, GJ h7, nY h8, h9, signs h10, h11⟩ ho hd (IE C h12) fun L hE hF => (hb L hE hF).h⟩
end
noncomputable def nx : Nat := 138289158763067605391
noncomputable def nw : Nat := 138289158763067605392
noncomputable def n_a : Nat := 98
noncomputable def n_b : Nat := 99
noncomputable def b8 : Nat := 140261126897994
noncomputable def b7 : Nat := 156266741147977056714
noncomputable def aV : Nat := 234367682249747442785528653646034582344762214
noncomputable def du : Nat := 142743619109211
noncomputable def bA : Nat := 197398748607756811780674223342245
noncomputable def dh : Nat := 169934602915702769594390908502656
noncomputable def g8 : Nat := 152529046579223303421690373
noncomputable def cg : Nat := 215192175244079415457796051776206684472410963
noncomputable def bF : Nat := 210362591181338504646170551405633471235
noncomputable def dk : Nat := 163313934094349362741445149
noncomputable def cR : Nat := 306776128299939892164779228084310428723091118217742124134
noncomputable def bQ : Nat := 387665519831471094668089707911955586190068530840168288019731095654922913140
noncomputable def fk : Nat := 154069759217256836746641966
noncomputable def n_i : Nat := 106
noncomputable def n_j : Nat := 107
noncomputable def n_c : Nat := 100
noncomputable def dG : Nat := 138289167451807613343
noncomputable def n_r : Nat := 115
noncomputable def aG : Nat := 161798289872782623177
noncomputable def jj : Nat := 159032509304138170818
noncomputable def n_k : Nat := 108
noncomputable def b5 : Nat := 199115255017290298523130767999643
noncomputable def jl : Nat := 150735162633231532458
noncomputable def g7 : Nat := 148949842395476
noncomputable def ar : Nat := 160415404553435349429
noncomputable def a5 : Nat := 178720887613241517458391593
noncomputable def au : Nat := 173367609571995250010108138422910
noncomputable def aP : Nat := 139672040358674891172
noncomputable def bg : Nat := 153500943201862615461
noncomputable def a6 : Nat := 135296132448597
noncomputable def c9 : Nat := 184883670403689656646566424
noncomputable def jm : Nat := 183666688087287765684144086516351
noncomputable def ji : Nat := 199115281209099526077217925300903
noncomputable def jo : Nat := 180233659861250678585185784824434
noncomputable def aR : Nat := 138289155039338758564
noncomputable def dJ : Nat := 160232547539243770750370328
noncomputable def db : Nat := 169476705821669021157491226
noncomputable def aQ : Nat := 180261605782831223045489195
noncomputable def aI : Nat := 187099691662196456776079216476822
noncomputable def dg : Nat := 161798309732740366797
noncomputable def iO : Nat := 154069759217235735524409875
noncomputable def cv : Nat := 142437838304774848937
noncomputable def bT : Nat := 202548290946792390486475352900238
noncomputable def dE : Nat := 150735167598221525435
noncomputable def aF : Nat := 167936004246803688560263714
noncomputable def ay : Nat := 165946973138212028864
noncomputable def fM : Nat := 177180186038338947426746906
noncomputable def dw : Nat := 188816201153120647294980701618810
noncomputable def jh : Nat := 163181197534549770677
noncomputable def bY : Nat := 150988362981903118299496971
noncomputable def fz : Nat := 125366156919105
noncomputable def gG : Nat := 145203606460935963041
noncomputable def iN : Nat := 159032521716620394959
noncomputable def cu : Nat := 158691847347258792514880033
noncomputable def fj : Nat := 184883671786573734729351712
noncomputable def kT : Nat := 139019874664773
noncomputable def bG : Nat := 154069745388342822320013848
noncomputable def ic : Nat := 145203601495947084191
noncomputable def de : Nat := 229486462014567260340263843579451278100
noncomputable def b6 : Nat := 272980811586457794328786270578578135438754128200632
noncomputable def iM : Nat := 178720882081698998887252518
noncomputable def bK : Nat := 150988372662137591024452109
noncomputable def bB : Nat := 153500948166840353194
noncomputable def dF : Nat := 150735167598207041967
noncomputable def jk : Nat := 150735180010693722546
noncomputable def eA : Nat := 141054930642976506261
noncomputable def cS : Nat := 237374668423434026964007940972349727349554775065550
noncomputable def ey : Nat := 156266723770494812577
noncomputable def bX : Nat := 174098811929254603048419864
noncomputable def bJ : Nat := 193151141933252592756585233438433608413
noncomputable def dZ : Nat := 127848630190396
noncomputable def bU : Nat := 200831792240746034856677949178520
noncomputable def cU : Nat := 150988368513454325602845213
noncomputable def iL : Nat := 161798302285247021495
noncomputable def cQ : Nat := 184883670403697104143254052
noncomputable def fZ : Nat := 152118070295018734023
section
variable {C : Sys}
def Ae : SM := (ab (sIf (aE gEq (mV nx) (mV nw)) (ab (bj (mK (.int 0)))
 ak) ak)
 (ab (sIf (aE gEq (cz (mV nx) gv ah) (cz (mV nw) gv ah)) (ab (bj (mK (.int 1)))
 ak) ak)
 (ab (bj (mK (.int 2)))
 ak)))
def mW : FM := mFn [nx, nw] Ae
theorem zQ (C : Sys) : C.h₁.get? 21 = some (fnO 4 (.str (Str.ofString "cpy313.traceback") 187) (.ref 20)) := C.X _ _ (by kernel_rfl)
theorem B7 (k : Nat) : FO C (k + 1) (.ref 21) mW := fD (ps := [Str.ofString "ch_a", Str.ofString "ch_b"]) (fJ rfl (fun _ _ => rfl)) (zQ C) fun _ _ _ =>
 (bC (sI (qC cx eV eV) (bC (sR eI)
 bN) bN)
 (bC (sI (qC cx (eU PySem.F.slot_str_lower PySem.F.type_str_lower eV lE lN nO) (eU PySem.F.slot_str_lower PySem.F.type_str_lower eV lE lN nO)) (bC (sR (eG ru))
 bN) bN)
 (bC (sR (eG cX))
 bN)))
def L7 : SM := (ab (sIf (aE gEq (mV n_a) (mV n_b)) (ab (bj (mK (.int 0)))
 ak) ak)
 (ab (aL b8 (mK (.int 0)))
 (ab (dP (cj (dT (bW (mV n_a) (bc (mV b8)) be)) (cj (dT (bW (mV n_b) (bc (mV b8)) be)) (cj (aE gEq (m2 az (mV n_a) (mV b8)) (m2 az (mV n_b) (mV b8))) (cK true)))) (ab (m8 b8 o3 (mK (.int 1)))
 ak) 50)
 (ab (aL n_a (bW (mV n_a) (bc (mV b8)) be))
 (ab (aL n_b (bW (mV n_b) (bc (mV b8)) be))
 (ab (aL b7 (mK (.int 0)))
 (ab (dP (cj (dT (bW (mV n_a) be (bc (mOr (mV b7) (mK .none))))) (cj (dT (bW (mV n_b) be (bc (mOr (mV b7) (mK .none))))) (cj (aE gEq (m2 az (mV n_a) (m2 cD (mV b7) (mK (.int 1)))) (m2 az (mV n_b) (m2 cD (mV b7) (mK (.int 1))))) (cK true)))) (ab (m8 b7 cD (mK (.int 1)))
 ak) 50)
 (ab (aL n_a (bW (mV n_a) be (bc (mOr (mV b7) (mK .none)))))
 (ab (aL n_b (bW (mV n_b) be (bc (mOr (mV b7) (mK .none)))))
 (ab (sIf (cOr (ig (dT (mV n_a))) (cOr (ig (dT (mV n_b))) (cK false))) (ab (bj (m2 dN (mK (.int 2)) (m2 cG (ag bZ (aa (mV n_a) ah)) (ag bZ (aa (mV n_b) ah)))))
 ak) ak)
 (ab (sIf (cOr (aE cGt (ag bZ (aa (mV n_a) ah)) (mK (.int 40))) (cOr (aE cGt (ag bZ (aa (mV n_b) ah)) (mK (.int 40))) (cK false))) (ab (bj (m2 cG (mV aV) (mK (.int 1))))
 ak) ak)
 (ab (sIf (aE cLt (ag bZ (aa (mV n_b) ah)) (ag bZ (aa (mV n_a) ah))) (ab (m5 n_a n_b (b9 (aa (mV n_b) (aa (mV n_a) ah))))
 ak) ak)
 (ab (sIf (aE cGt (m2 dN (m2 cD (ag bZ (aa (mV n_b) ah)) (ag bZ (aa (mV n_a) ah))) (mK (.int 2))) (mV aV)) (ab (bj (m2 cG (mV aV) (mK (.int 1))))
 ak) ak)
 (ab (aL du (ag jS (aa (ag aZ (aa (mK (.int 2)) (aa (m2 dN (mK (.int 2)) (m2 cG (ag bZ (aa (mV n_a) ah)) (mK (.int 1)))) (aa (mK (.int 2)) ah)))) ah)))
 (ab (aL bA (mK (.int 0)))
 (ab (fe (ag aZ (aa (ag bZ (aa (mV n_b) ah)) ah)) dh (ab (aL g8 (m2 az (mV n_b) (mV dh)))
 (ab (m6 cg bA (m2 dN (mV dh) (mK (.int 2))))
 (ab (aL bF (mK (.int 9223372036854775807)))
 (ab (fe (ag aZ (aa (ag bZ (aa (mV n_a) ah)) ah)) dk (ab (aL cR (m2 cG (mV cg) (ag mW (aa (mV g8) (aa (m2 az (mV n_a) (mV dk)) ah)))))
 (ab (aL cg (m2 az (mV du) (mV dk)))
 (ab (aL bQ (m2 cG (ag k7 (aa (mV bA) (aa (mV cg) ah))) (mK (.int 2))))
 (ab (aL bA (ag k7 (aa (mV bQ) (aa (mV cR) ah))))
 (ab (km (mV du) (mV dk) (mV bA))
 (ab (sIf (aE cLt (mV bA) (mV bF)) (ab (aL bF (mV bA))
 ak) ak)
 ak)))))))
 (ab (sIf (aE cGt (mV bF) (mV aV)) (ab (bj (m2 cG (mV aV) (mK (.int 1))))
 ak) ak)
 ak))))))
 (ab (bj (mV bA))
 ak)))))))))))))))))
def e9 : FM := mFn [n_a, n_b, aV] L7
theorem nJ (C : Sys) : C.h₁.get? 28 = some (fnO 5 (.str (Str.ofString "cpy313.traceback") 187) (.ref 27)) := C.X _ _ (by kernel_rfl)
theorem lr (k : Nat) : FO C (k + 2) (.ref 28) e9 := fD (ps := [Str.ofString "a", Str.ofString "b", Str.ofString "max_cost"]) (L4 rfl (fun _ _ _ => rfl)) (nJ C) fun _ _ _ =>
 (bC (sI (qC cx eV eV) (bC (sR eI)
 bN) bN)
 (bC (sS eI)
 (bC (sWh (qB (aAc (qV (eX eV (oS eV) oN)) (aAc (qV (eX eV (oS eV) oN)) (aAc (qC cx (eAt eV eV) (eAt eV eV)) aA)))) (bC (sA ww eI)
 bN))
 (bC (sS (eX eV (oS eV) oN))
 (bC (sS (eX eV (oS eV) oN))
 (bC (sS eI)
 (bC (sWh (qB (aAc (qV (eX eV oN (oS (eOr eV eN)))) (aAc (qV (eX eV oN (oS (eOr eV eN)))) (aAc (qC cx (eAt eV (eBi ew eV eI)) (eAt eV (eBi ew eV eI))) aA)))) (bC (sA Ia eI)
 bN))
 (bC (sS (eX eV oN (oS (eOr eV eN))))
 (bC (sS (eX eV oN (oS (eOr eV eN))))
 (bC (sI (qB (aOc (qN (qV eV)) (aOc (qN (qV eV)) aO))) (bC (sR (eBi gF (eG cX) (eBi ec (cB fA dD dH (lC eV lN)) (cB fA dD dH (lC eV lN)))))
 bN) bN)
 (bC (sI (qB (aOc (qC n0 (cB fA dD dH (lC eV lN)) (eG gN)) (aOc (qC n0 (cB fA dD dH (lC eV lN)) (eG gN)) aO))) (bC (sR (eBi ec eV eI))
 bN) bN)
 (bC (sI (qC vV (cB fA dD dH (lC eV lN)) (cB fA dD dH (lC eV lN))) (bC (sW (ePr (lC eV (lC eV lN))))
 bN) bN)
 (bC (sI (qC n0 (eBi gF (eBi ew (cB fA dD dH (lC eV lN)) (cB fA dD dH (lC eV lN))) (eG cX)) eV) (bC (sR (eBi ec eV eI))
 bN) bN)
 (bC (sS (cT v0 qd rA (lC (cT dc cp cr (lC (eG cX) (lC (eBi gF (eG cX) (eBi ec (cB fA dD dH (lC eV lN)) eI)) (lC (eG cX) lN)))) lN)))
 (bC (sS eI)
 (bC (sFo (cT dc cp cr (lC (cB fA dD dH (lC eV lN)) lN)) (bC (sS (eAt eV eV))
 (bC (sS2 (eBi gF eV (eG cX)))
 (bC (sS eI)
 (bC (sFo (cT dc cp cr (lC (cB fA dD dH (lC eV lN)) lN)) (bC (sS (eBi ec eV (cF jw (zQ C) (B7 (k + 0)) (lC eV (lC (eAt eV eV) lN)))))
 (bC (sS (eAt eV eV))
 (bC (sS (eBi ec (cB GS vf vK (lC eV (lC eV lN))) (eG cX)))
 (bC (sS (cB GS vf vK (lC eV (lC eV lN))))
 (bC (sIt eV eV eV)
 (bC (sI (qC vV eV eV) (bC (sS eV)
 bN) bN)
 bN)))))))
 (bC (sI (qC n0 eV eV) (bC (sR (eBi ec eV eI))
 bN) bN)
 bN))))))
 (bC (sR eV)
 bN)))))))))))))))))
def Qn : SM := (ab (bj (eE gEq (mV n_a) (mV n_b)))
 ak)
def HY : FM := mFn [n_a, n_b] Qn
theorem N2 (C : Sys) : C.h₁.get? 35 = some (fnO 7 (.str (Str.ofString "cpy313.operator") 223) (.ref 34)) := C.X _ _ (by kernel_rfl)
theorem Nn (k : Nat) : FO C (k + 1) (.ref 35) HY := fD (ps := [Str.ofString "a", Str.ofString "b"]) (fJ rfl (fun _ _ => rfl)) (N2 C) fun _ _ _ =>
 (bC (sR (eQ cx eV eV))
 bN)
def Qm : SM := (ab (bj (eE gNe (mV n_a) (mV n_b)))
 ak)
def oD : FM := mFn [n_a, n_b] Qm
theorem MJ (C : Sys) : C.h₁.get? 42 = some (fnO 8 (.str (Str.ofString "cpy313.operator") 223) (.ref 41)) := C.X _ _ (by kernel_rfl)
theorem IW (k : Nat) : FO C (k + 1) (.ref 42) oD := fD (ps := [Str.ofString "a", Str.ofString "b"]) (fJ rfl (fun _ _ => rfl)) (MJ C) fun _ _ _ =>
 (bC (sR (eQ fu eV eV))
 bN)
def M7 : SM := (ab (bj (m2 cZ (mV n_a) (mV n_b)))
 ak)
def ot : FM := mFn [n_a, n_b] M7
theorem Gs (C : Sys) : C.h₁.get? 49 = some (fnO 9 (.str (Str.ofString "cpy313.operator") 223) (.ref 48)) := C.X _ _ (by kernel_rfl)
theorem Ic (k : Nat) : FO C (k + 1) (.ref 49) ot := fD (ps := [Str.ofString "a", Str.ofString "b"]) (fJ rfl (fun _ _ => rfl)) (Gs C) fun _ _ _ =>
 (bC (sR (eBi fi eV eV))
 bN)
def Om : SM := (ab (bj (m2 dN (mV n_a) (mV n_b)))
 ak)
def uy : FM := mFn [n_a, n_b] Om
theorem LX (C : Sys) : C.h₁.get? 56 = some (fnO 10 (.str (Str.ofString "cpy313.operator") 223) (.ref 55)) := C.X _ _ (by kernel_rfl)
theorem Mt (k : Nat) : FO C (k + 1) (.ref 56) uy := fD (ps := [Str.ofString "a", Str.ofString "b"]) (fJ rfl (fun _ _ => rfl)) (LX C) fun _ _ _ =>
 (bC (sR (eBi gF eV eV))
 bN)
def Ol : SM := (ab (bj (m2 cD (mV n_a) (mV n_b)))
 ak)
def ux : FM := mFn [n_a, n_b] Ol
theorem LW (C : Sys) : C.h₁.get? 63 = some (fnO 11 (.str (Str.ofString "cpy313.operator") 223) (.ref 62)) := C.X _ _ (by kernel_rfl)
theorem Ms (k : Nat) : FO C (k + 1) (.ref 63) ux := fD (ps := [Str.ofString "a", Str.ofString "b"]) (fJ rfl (fun _ _ => rfl)) (LW C) fun _ _ _ =>
 (bC (sR (eBi ew eV eV))
 bN)
def v5 : SM := (ab (bj (eE cIn (mV n_b) (mV n_a)))
 ak)
def cI : FM := mFn [n_a, n_b] v5
theorem iR (C : Sys) : C.h₁.get? 70 = some (fnO 12 (.str (Str.ofString "cpy313.operator") 223) (.ref 69)) := C.X _ _ (by kernel_rfl)
theorem je (k : Nat) : FO C (k + 1) (.ref 70) cI := fD (ps := [Str.ofString "a", Str.ofString "b"]) (fJ rfl (fun _ _ => rfl)) (iR C) fun _ _ _ =>
 (bC (sR (eQ bM eV eV))
 bN)
def Bx : SM := (ab (aL fk (mK (.int 0)))
 (ab (m7 (mV n_a) n_i (ab (sIf (jY n_i n_b) (ab (m8 fk o3 (mK (.int 1)))
 ak) ak) ak))
 (ab (bj (mV fk))
 ak)))
def iH : FM := mFn [n_a, n_b] Bx
theorem pb (C : Sys) : C.h₁.get? 77 = some (fnO 13 (.str (Str.ofString "cpy313.operator") 223) (.ref 76)) := C.X _ _ (by kernel_rfl)
theorem uS (k : Nat) : FO C (k + 1) (.ref 77) iH := fD (ps := [Str.ofString "a", Str.ofString "b"]) (fJ rfl (fun _ _ => rfl)) (pb C) fun _ _ _ =>
 (bC (sS eI)
 (bC (sFY eV (yI (bC (sA ww eI)
 bN) bN))
 (bC (sR eV)
 bN)))
def Bw : SM := (ab (kn (mV n_a) n_i n_j (ab (sIf (jY n_j n_b) (ab (bj (mV n_i))
 ak) ak) ak))
 ak)
def fb : FM := mFn [n_a, n_b] Bw
theorem lK (C : Sys) : C.h₁.get? 84 = some (fnO 14 (.str (Str.ofString "cpy313.operator") 223) (.ref 83)) := C.X _ _ (by kernel_rfl)
theorem np (k : Nat) : FO C (k + 1) (.ref 84) fb := fD (ps := [Str.ofString "a", Str.ofString "b"]) (fJ rfl (fun _ _ => rfl)) (lK C) fun _ _ _ =>
 (bC (sEn um qe eV (yI (bC (sR eV)
 bN) bN))
 bN)
def Bv : SM := (ab (km (mV n_a) (mV n_b) (mV n_c))
 ak)
def fK : FM := mFn [n_a, n_b, n_c] Bv
theorem lJ (C : Sys) : C.h₁.get? 91 = some (fnO 15 (.str (Str.ofString "cpy313.operator") 223) (.ref 90)) := C.X _ _ (by kernel_rfl)
theorem no (k : Nat) : FO C (k + 1) (.ref 91) fK := fD (ps := [Str.ofString "a", Str.ofString "b", Str.ofString "c"]) (L4 rfl (fun _ _ _ => rfl)) (lJ C) fun _ _ _ =>
 (bC (sIt eV eV eV)
 bN)
def M6 : SM := (ab (bj (mB1 (ag jQ (aa (mV dG) ah))))
 ak)
def jF : FM := mFn [dG] M6
theorem vH (C : Sys) : C.h₁.get? 109 = some (fnO 18 (.str (Str.ofString "cpy313.stringprep") 302) (.ref 108)) := C.X _ _ (by kernel_rfl)
theorem wx (k : Nat) : FO C (k + 1) (.ref 109) jF := fD (ps := [Str.ofString "code"]) (jZ rfl (fun _ => rfl)) (vH C) fun _ _ _ =>
 (bC (sR (eB1 (cB pz lx lO (lC eV lN)) GB))
 bN)
def IL : SM := (ab (aL n_r (mB3 (ag jQ (aa (mV dG) ah))))
 (ab (sIf (aE ii (mV n_r) (mK .none)) (ab (bj (mV n_r))
 ak) ak)
 (ab (bj (cz (mV dG) gv ah))
 ak)))
def gn : FM := mFn [dG] IL
theorem rn (C : Sys) : C.h₁.get? 155 = some (fnO 20 (.str (Str.ofString "cpy313.stringprep") 302) (.ref 154)) := C.X _ _ (by kernel_rfl)
theorem sM (k : Nat) : FO C (k + 1) (.ref 155) gn := fD (ps := [Str.ofString "code"]) (jZ rfl (fun _ => rfl)) (rn C) fun _ _ _ =>
 (bC (sS (eb3 (cB pz lx lO (lC eV lN)) mI))
 (bC (sI (qC gk eV eN) (bC (sR eV)
 bN) bN)
 (bC (sR (eU PySem.F.slot_str_lower PySem.F.type_str_lower eV lE lN nO))
 bN)))
def HN : SM := (ab (ab (sIf (aE cIn (mK (.str [38])) (mV aG)) (ab (aL aG (c8 (mV aG) 38 [38, 97, 109, 112, 59]))
 ak) ak)
 (ab (sIf (aE cIn (mK (.str [60])) (mV aG)) (ab (aL aG (c8 (mV aG) 60 [38, 108, 116, 59]))
 ak) ak)
 (ab (sIf (aE cIn (mK (.str [62])) (mV aG)) (ab (aL aG (c8 (mV aG) 62 [38, 103, 116, 59]))
 ak) ak)
 (ab (bj (mV aG))
 ak))))
 ak)
def HW : FM := mFn [aG] HN
theorem Gy (C : Sys) : C.h₁.get? 169 = some (fnO 23 (.str (Str.ofString "cpy313.xml.etree.ElementTree") 2330) (.ref 168)) := C.X _ _ (by kernel_rfl)
theorem Ii (k : Nat) : FO C (k + 1) (.ref 169) HW := fD (ps := [Str.ofString "text"]) (jZ rfl (fun _ => rfl)) (Gy C) fun _ _ _ =>
 (bC (sT (bC (sI (qC bM eS eV) (bC (sS (eR eV))
 bN) bN)
 (bC (sI (qC bM eS eV) (bC (sS (eR eV))
 bN) bN)
 (bC (sI (qC bM eS eV) (bC (sS (eR eV))
 bN) bN)
 (bC (sR eV)
 bN)))))
 bN)
def HM : SM := (ab (ab (sIf (aE cIn (mK (.str [38])) (mV aG)) (ab (aL aG (c8 (mV aG) 38 [38, 97, 109, 112, 59]))
 ak) ak)
 (ab (sIf (aE cIn (mK (.str [60])) (mV aG)) (ab (aL aG (c8 (mV aG) 60 [38, 108, 116, 59]))
 ak) ak)
 (ab (sIf (aE cIn (mK (.str [62])) (mV aG)) (ab (aL aG (c8 (mV aG) 62 [38, 103, 116, 59]))
 ak) ak)
 (ab (sIf (aE cIn (mK (.str [34])) (mV aG)) (ab (aL aG (c8 (mV aG) 34 [38, 113, 117, 111, 116, 59]))
 ak) ak)
 (ab (sIf (aE cIn (mK (.str [13])) (mV aG)) (ab (aL aG (c8 (mV aG) 13 [38, 35, 49, 51, 59]))
 ak) ak)
 (ab (sIf (aE cIn (mK (.str [10])) (mV aG)) (ab (aL aG (c8 (mV aG) 10 [38, 35, 49, 48, 59]))
 ak) ak)
 (ab (sIf (aE cIn (mK (.str [9])) (mV aG)) (ab (aL aG (c8 (mV aG) 9 [38, 35, 48, 57, 59]))
 ak) ak)
 (ab (bj (mV aG))
 ak))))))))
 ak)
def HV : FM := mFn [aG] HM
theorem Gx (C : Sys) : C.h₁.get? 176 = some (fnO 24 (.str (Str.ofString "cpy313.xml.etree.ElementTree") 2330) (.ref 175)) := C.X _ _ (by kernel_rfl)
theorem Ih (k : Nat) : FO C (k + 1) (.ref 176) HV := fD (ps := [Str.ofString "text"]) (jZ rfl (fun _ => rfl)) (Gx C) fun _ _ _ =>
 (bC (sT (bC (sI (qC bM eS eV) (bC (sS (eR eV))
 bN) bN)
 (bC (sI (qC bM eS eV) (bC (sS (eR eV))
 bN) bN)
 (bC (sI (qC bM eS eV) (bC (sS (eR eV))
 bN) bN)
 (bC (sI (qC bM eS eV) (bC (sS (eR eV))
 bN) bN)
 (bC (sI (qC bM eS eV) (bC (sS (eR eV))
 bN) bN)
 (bC (sI (qC bM eS eV) (bC (sS (eR eV))
 bN) bN)
 (bC (sI (qC bM eS eV) (bC (sS (eR eV))
 bN) bN)
 (bC (sR eV)
 bN)))))))))
 bN)
def HL : SM := (ab (ab (sIf (aE cIn (mK (.str [38])) (mV aG)) (ab (aL aG (c8 (mV aG) 38 [38, 97, 109, 112, 59]))
 ak) ak)
 (ab (sIf (aE cIn (mK (.str [62])) (mV aG)) (ab (aL aG (c8 (mV aG) 62 [38, 103, 116, 59]))
 ak) ak)
 (ab (sIf (aE cIn (mK (.str [34])) (mV aG)) (ab (aL aG (c8 (mV aG) 34 [38, 113, 117, 111, 116, 59]))
 ak) ak)
 (ab (bj (mV aG))
 ak))))
 ak)
def HU : FM := mFn [aG] HL
theorem Gw (C : Sys) : C.h₁.get? 183 = some (fnO 25 (.str (Str.ofString "cpy313.xml.etree.ElementTree") 2330) (.ref 182)) := C.X _ _ (by kernel_rfl)
theorem Ig (k : Nat) : FO C (k + 1) (.ref 183) HU := fD (ps := [Str.ofString "text"]) (jZ rfl (fun _ => rfl)) (Gw C) fun _ _ _ =>
 (bC (sT (bC (sI (qC bM eS eV) (bC (sS (eR eV))
 bN) bN)
 (bC (sI (qC bM eS eV) (bC (sS (eR eV))
 bN) bN)
 (bC (sI (qC bM eS eV) (bC (sS (eR eV))
 bN) bN)
 (bC (sR eV)
 bN)))))
 bN)
def HK : SM := (ab (ab (sIf (aE cIn (mK (.str [38])) (mV aG)) (ab (aL aG (c8 (mV aG) 38 [38, 97, 109, 112, 59]))
 ak) ak)
 (ab (sIf (aE cIn (mK (.str [60])) (mV aG)) (ab (aL aG (c8 (mV aG) 60 [38, 108, 116, 59]))
 ak) ak)
 (ab (sIf (aE cIn (mK (.str [62])) (mV aG)) (ab (aL aG (c8 (mV aG) 62 [38, 103, 116, 59]))
 ak) ak)
 (ab (sIf (aE cIn (mK (.str [13])) (mV aG)) (ab (aL aG (c8 (mV aG) 13 [38, 35, 120, 68, 59]))
 ak) ak)
 (ab (bj (mV aG))
 ak)))))
 ak)
def HT : FM := mFn [aG] HK
theorem Gv (C : Sys) : C.h₁.get? 190 = some (fnO 26 (.str (Str.ofString "cpy313.xml.etree.ElementTree") 2330) (.ref 189)) := C.X _ _ (by kernel_rfl)
theorem Ie (k : Nat) : FO C (k + 1) (.ref 190) HT := fD (ps := [Str.ofString "text"]) (jZ rfl (fun _ => rfl)) (Gv C) fun _ _ _ =>
 (bC (sT (bC (sI (qC bM eS eV) (bC (sS (eR eV))
 bN) bN)
 (bC (sI (qC bM eS eV) (bC (sS (eR eV))
 bN) bN)
 (bC (sI (qC bM eS eV) (bC (sS (eR eV))
 bN) bN)
 (bC (sI (qC bM eS eV) (bC (sS (eR eV))
 bN) bN)
 (bC (sR eV)
 bN))))))
 bN)
def HJ : SM := (ab (ab (sIf (aE cIn (mK (.str [38])) (mV aG)) (ab (aL aG (c8 (mV aG) 38 [38, 97, 109, 112, 59]))
 ak) ak)
 (ab (sIf (aE cIn (mK (.str [60])) (mV aG)) (ab (aL aG (c8 (mV aG) 60 [38, 108, 116, 59]))
 ak) ak)
 (ab (sIf (aE cIn (mK (.str [34])) (mV aG)) (ab (aL aG (c8 (mV aG) 34 [38, 113, 117, 111, 116, 59]))
 ak) ak)
 (ab (sIf (aE cIn (mK (.str [9])) (mV aG)) (ab (aL aG (c8 (mV aG) 9 [38, 35, 120, 57, 59]))
 ak) ak)
 (ab (sIf (aE cIn (mK (.str [10])) (mV aG)) (ab (aL aG (c8 (mV aG) 10 [38, 35, 120, 65, 59]))
 ak) ak)
 (ab (sIf (aE cIn (mK (.str [13])) (mV aG)) (ab (aL aG (c8 (mV aG) 13 [38, 35, 120, 68, 59]))
 ak) ak)
 (ab (bj (mV aG))
 ak)))))))
 ak)
def HS : FM := mFn [aG] HJ
theorem Gu (C : Sys) : C.h₁.get? 197 = some (fnO 27 (.str (Str.ofString "cpy313.xml.etree.ElementTree") 2330) (.ref 196)) := C.X _ _ (by kernel_rfl)
theorem Id (k : Nat) : FO C (k + 1) (.ref 197) HS := fD (ps := [Str.ofString "text"]) (jZ rfl (fun _ => rfl)) (Gu C) fun _ _ _ =>
 (bC (sT (bC (sI (qC bM eS eV) (bC (sS (eR eV))
 bN) bN)
 (bC (sI (qC bM eS eV) (bC (sS (eR eV))
 bN) bN)
 (bC (sI (qC bM eS eV) (bC (sS (eR eV))
 bN) bN)
 (bC (sI (qC bM eS eV) (bC (sS (eR eV))
 bN) bN)
 (bC (sI (qC bM eS eV) (bC (sS (eR eV))
 bN) bN)
 (bC (sI (qC bM eS eV) (bC (sS (eR eV))
 bN) bN)
 (bC (sR eV)
 bN))))))))
 bN)
def IM : SM := (ab (aL jj (ba (aa (mK (.int 64)) (aa (mK (.int 5)) (aa (mK (.int 32)) (aa (mK (.int 25)) (aa (mK (.int 3)) (aa (mK (.int 26)) (aa (mK (.int 486)) ah)))))))))
 (ab (bj (aX (ag aZ (aa (mK (.int 7)) ah)) (bd1 n_k) (cK true) (mIf (aE cLt (mV n_k) (ag bZ (aa (mV b5) ah))) (m2 bS (m2 az (mV b5) (mV n_k)) (mK (.int 1000000))) (m2 az (mV jj) (mV n_k)))))
 ak))
def r9 : FM := mFn [b5] IM
theorem zR (C : Sys) : C.h₁.get? 202 = some (fnO 29 (.str (Str.ofString "law_tc0074_01") 2374) (.ref 201)) := C.X _ _ (by kernel_rfl)
theorem B8 (k : Nat) : FO C (k + 1) (.ref 202) r9 := fD (ps := [Str.ofString "script"]) (jZ rfl (fun _ => rfl)) (zR C) fun _ _ _ =>
 (bC (sS (eLi (lC eI (lC eI (lC eI (lC eI (lC eI (lC eI (lC eI lN)))))))))
 (bC (sR (eC (cO1 (cT dc cp cr (lC eI lN)) (fun _ _ => tN) (fun _ _ => (eIf (qC vV eV (cB fA dD dH (lC eV lN))) (eBi dB (eAt eV eV) eI) (eAt eV eV))))))
 bN))
def IK : SM := (ab (aL jl (mK (.dct [([13], [38, 35, 120, 68, 59]), ([10], [38, 35, 120, 65, 59]), ([9], [38, 35, 120, 57, 59])])))
 (ab (sIf (aE gEq (mV g7) (mK (.int 1))) (ab (aL jl (mK (.dct [([13], [38, 35, 49, 51, 59]), ([10], [38, 35, 49, 48, 59]), ([9], [38, 35, 48, 57, 59])])))
 ak) ak)
 (ab (sIf (aE cIn (mV ar) (mV jl)) (ab (bj (m2 az (mV jl) (mV ar)))
 ak) ak)
 (ab (bj (m2 az (mK (.dct [([38], [38, 97, 109, 112, 59]), ([60], [38, 108, 116, 59]), ([62], [38, 103, 116, 59]), ([34], [38, 113, 117, 111, 116, 59])])) (mV ar)))
 ak))))
def jP : FM := mFn [g7, ar] IK
theorem rm (C : Sys) : C.h₁.get? 209 = some (fnO 30 (.str (Str.ofString "law_tc0074_01") 2374) (.ref 208)) := C.X _ _ (by kernel_rfl)
theorem sK (k : Nat) : FO C (k + 1) (.ref 209) jP := fD (ps := [Str.ofString "way", Str.ofString "sign"]) (fJ rfl (fun _ _ => rfl)) (rm C) fun _ _ _ =>
 (bC (sS (eD (.cons (.cons (.cons .nil)))))
 (bC (sI (qC cx eV eI) (bC (sS (eD (.cons (.cons (.cons .nil)))))
 bN) bN)
 (bC (sI (qC bM eV eV) (bC (sR (eAt eV eV))
 bN) bN)
 (bC (sR (eAt (eD (.cons (.cons (.cons (.cons .nil))))) eV))
 bN))))
def HH : SM := (ab (aL a5 (ba ah))
 (ab (fe (ag aZ (aa (mK (.int 3)) ah)) n_k (ab (sIf (aE gEq (m2 bS (m2 cZ (mV au) (m2 gS (mK (.int 2)) (mV n_k))) (mK (.int 2))) (mK (.int 1))) (ab (dt (br (mV a5) bf (aa (mV aP) ah)))
 ak) (ab (dt (br (mV a5) bf (aa (ag jR (aa (m2 cD (ag jQ (aa (m2 az (mV bg) (mV n_k)) ah)) (m2 dN (mK (.int 32)) (m2 bS (m2 cZ (mV a6) (m2 gS (mK (.int 2)) (mV n_k))) (mK (.int 2))))) ah)) ah)))
 ak))
 ak))
 (ab (bj (cz (mK (.str [])) cO (aa (mV a5) ah)))
 ak)))
def f0 : FM := mFn [bg, a6, au, aP] HH
theorem rj (C : Sys) : C.h₁.get? 216 = some (fnO 31 (.str (Str.ofString "law_tc0074_01") 2374) (.ref 215)) := C.X _ _ (by kernel_rfl)
theorem pR (k : Nat) : FO C (k + 1) (.ref 216) f0 := fD (ps := [Str.ofString "name", Str.ofString "low", Str.ofString "dashes", Str.ofString "dash"]) (Oh rfl (fun _ _ _ _ => rfl)) (rj C) fun _ _ _ =>
 (bC (sS (eLi lN))
 (bC (sFo (cT dc cp cr (lC eI lN)) (bC (sI (qC cx (eBi dB (eBi fi eV (eBi lq eI eV)) eI) eI) (bC (sE (eL PySem.F.slot_list_append PySem.F.type_list_append eV cH (lC eV lN) cN))
 bN) (bC (sE (eL PySem.F.slot_list_append PySem.F.type_list_append eV cH (lC (cB pC lz lP (lC (eBi ew (cB pz lx lO (lC (eAt eV eV) lN)) (eBi gF eI (eBi dB (eBi fi eV (eBi lq eI eV)) eI))) lN)) lN) cN))
 bN))
 bN))
 (bC (sR (eU PySem.F.slot_str_join PySem.F.type_str_join eS gK (lC eV lN) iS))
 bN)))
def Ac : SM := (ab (aL bg (m2 az (ba (aa (mK (.str [107, 112, 97])) (aa (mK (.str [109, 112, 97])) (aa (mK (.str [104, 112, 97])) (aa (mK (.str [107, 104, 122])) ah))))) (mV c9)))
 (ab (aL jm (m2 az (ba (aa (ba (aa (b9 (aa (mK (.int 13188)) (aa (mK (.str [107, 97])) ah))) (aa (b9 (aa (mK (.int 13184)) (aa (mK (.str [112, 97])) ah))) (aa (b9 (aa (mK (.int 13225)) (aa (mK (.str [112, 97])) ah))) (aa (b9 (aa (mK (.int 13226)) (aa (mK (.str [107, 112, 97])) ah))) ah))))) (aa (ba (aa (b9 (aa (mK (.int 13187)) (aa (mK (.str [109, 97])) ah))) (aa (b9 (aa (mK (.int 13184)) (aa (mK (.str [112, 97])) ah))) (aa (b9 (aa (mK (.int 13225)) (aa (mK (.str [112, 97])) ah))) (aa (b9 (aa (mK (.int 13227)) (aa (mK (.str [109, 112, 97])) ah))) ah))))) (aa (ba (aa (b9 (aa (mK (.int 13259)) (aa (mK (.str [104, 112])) ah))) (aa (b9 (aa (mK (.int 13184)) (aa (mK (.str [112, 97])) ah))) (aa (b9 (aa (mK (.int 13271)) (aa (mK (.str [112, 104])) ah))) (aa (b9 (aa (mK (.int 13169)) (aa (mK (.str [104, 112, 97])) ah))) ah))))) (aa (ba (aa (b9 (aa (mK (.int 13200)) (aa (mK (.str [104, 122])) ah))) (aa (b9 (aa (mK (.int 13201)) (aa (mK (.str [107, 104, 122])) ah))) (aa (b9 (aa (mK (.int 13200)) (aa (mK (.str [104, 122])) ah))) (aa (b9 (aa (mK (.int 13201)) (aa (mK (.str [107, 104, 122])) ah))) ah))))) ah))))) (mV c9)))
 (ab (aL ji (ba (aa (mK (.int 119808)) (aa (mK (.int 119860)) (aa (mK (.int 119912)) (aa (mK (.int 120016)) (aa (mK (.int 120172)) (aa (mK (.int 120224)) (aa (mK (.int 120276)) (aa (mK (.int 120328)) (aa (mK (.int 120380)) (aa (mK (.int 120432)) ah))))))))))))
 (ab (aL jo (m2 cG (ba (aa (mK (.int 173)) (aa (mK (.int 847)) (aa (mK (.int 6150)) (aa (mK (.int 6155)) (aa (mK (.int 6156)) (aa (mK (.int 6157)) (aa (mK (.int 8203)) (aa (mK (.int 8204)) (aa (mK (.int 8205)) (aa (mK (.int 8288)) (aa (mK (.int 65279)) ah)))))))))))) (ag jS (aa (ag aZ (aa (mK (.int 65024)) (aa (mK (.int 65040)) ah))) ah))))
 (ab (aL dJ (aX (ag aZ (aa (mK (.int 3)) ah)) (bd1 n_k) (aE gEq (m2 bS (m2 cZ (mV aR) (m2 gS (mK (.int 2)) (mV n_k))) (mK (.int 2))) (mK (.int 1))) (m2 az (mV bg) (mV n_k))))
 (ab (aL db (mK (.str [])))
 (ab (aL aQ (ba ah))
 (ab (sIf (aE cGt (m2 bS (m2 cZ (mV aR) (mK (.int 8))) (mK (.int 5))) (mK (.int 0))) (ab (jU ar db (m2 az (mV jm) (m2 cD (m2 bS (m2 cZ (mV aR) (mK (.int 8))) (mK (.int 5))) (mK (.int 1)))))
 (ab (sIf (aE gEq (aX (mV dJ) (bd1 aI) (aE cIn (mV aI) (mV db)) (mV aI)) (ba ah)) (ab (dt (br (mV aQ) bf (aa (ag jR (aa (mV ar) ah)) ah)))
 ak) (ab (aL db (mK (.str [])))
 ak))
 ak)) ak)
 (ab (fe (mV bg) aI (ab (sIf (cj (aE cIn (mV aI) (mV dJ)) (cj (aE gEq (m2 bS (m2 cZ (mV aR) (mK (.int 40))) (mK (.int 11))) (mK (.int 0))) (cK true))) (ab (dt (br (mV aQ) bf (aa (ag jR (aa (m2 cD (ag jQ (aa (mV aI) ah)) (mK (.int 32))) ah)) ah)))
 ak) (ab (sIf (aE cIn (mV aI) (mV dJ)) (ab (dt (br (mV aQ) bf (aa (ag jR (aa (m2 cD (m2 cG (m2 az (mV ji) (m2 cD (m2 bS (m2 cZ (mV aR) (mK (.int 40))) (mK (.int 11))) (mK (.int 1)))) (ag jQ (aa (mV aI) ah))) (mK (.int 97))) ah)) ah)))
 ak) (ab (sIf (aE rQ (mV aI) (mV db)) (ab (dt (br (mV aQ) bf (aa (mV aI) ah)))
 ak) ak)
 ak))
 ak))
 ak))
 (ab (aL dg (m2 bS (m2 cZ (mV aR) (mK (.int 440))) (mK (.int 3))))
 (ab (aL aQ (m2 cG (bW (mV aQ) (bc (mV dg)) be) (bW (mV aQ) be (bc (mV dg)))))
 (ab (dt (br (mV aQ) gi (aa (m2 bS (m2 cZ (mV aR) (mK (.int 35640))) (m2 cG (ag bZ (aa (mV aQ) ah)) (mK (.int 1)))) (aa (ag jR (aa (m2 az (mV jo) (m2 bS (m2 cZ (mV aR) (mK (.int 1320))) (mK (.int 27)))) ah)) ah))))
 (ab (bj (mV aQ))
 ak)))))))))))))
def k9 : FM := mFn [c9, aR] Ac
theorem zP (C : Sys) : C.h₁.get? 221 = some (fnO 32 (.str (Str.ofString "law_tc0074_01") 2374) (.ref 220)) := C.X _ _ (by kernel_rfl)
theorem B6 (k : Nat) : FO C (k + 1) (.ref 221) k9 := fD (ps := [Str.ofString "which", Str.ofString "cell"]) (fJ rfl (fun _ _ => rfl)) (zP C) fun _ _ _ =>
 (bC (sS (eAt (eLi (lC eS (lC eS (lC eS (lC eS lN))))) eV))
 (bC (sS (eAt (eLi (lC (eLi (lC (ePr (lC eI (lC eS lN))) (lC (ePr (lC eI (lC eS lN))) (lC (ePr (lC eI (lC eS lN))) (lC (ePr (lC eI (lC eS lN))) lN))))) (lC (eLi (lC (ePr (lC eI (lC eS lN))) (lC (ePr (lC eI (lC eS lN))) (lC (ePr (lC eI (lC eS lN))) (lC (ePr (lC eI (lC eS lN))) lN))))) (lC (eLi (lC (ePr (lC eI (lC eS lN))) (lC (ePr (lC eI (lC eS lN))) (lC (ePr (lC eI (lC eS lN))) (lC (ePr (lC eI (lC eS lN))) lN))))) (lC (eLi (lC (ePr (lC eI (lC eS lN))) (lC (ePr (lC eI (lC eS lN))) (lC (ePr (lC eI (lC eS lN))) (lC (ePr (lC eI (lC eS lN))) lN))))) lN))))) eV))
 (bC (sS (eLi (lC eI (lC eI (lC eI (lC eI (lC eI (lC eI (lC eI (lC eI (lC eI (lC eI lN))))))))))))
 (bC (sS (eBi ec (eLi (lC eI (lC eI (lC eI (lC eI (lC eI (lC eI (lC eI (lC eI (lC eI (lC eI (lC eI lN)))))))))))) (cT v0 qd rA (lC (cT dc cp cr (lC eI (lC eI lN))) lN))))
 (bC (sC (cO1 (cT dc cp cr (lC eI lN)) (fun _ _ => (tO (qC cx (eBi dB (eBi fi eV (eBi lq eI eV)) eI) eI))) (fun _ _ => (eAt eV eV))))
 (bC (sS eS)
 (bC (sS (eLi lN))
 (bC (sI (qC n0 (eBi dB (eBi fi eV eI) eI) eI) (bC (sP (eAt eV (eBi ew (eBi dB (eBi fi eV eI) eI) eI)))
 (bC (sI (qC cx (eC (cO1 eV (fun _ _ => (tO (qC bM eV eV))) (fun _ _ => eV))) (eLi lN)) (bC (sE (eL PySem.F.slot_list_append PySem.F.type_list_append eV cH (lC (cB pC lz lP (lC eV lN)) lN) cN))
 bN) (bC (sS eS)
 bN))
 bN)) bN)
 (bC (sFo eV (bC (sI (qB (aAc (qC bM eV eV) (aAc (qC cx (eBi dB (eBi fi eV eI) eI) eI) aA))) (bC (sE (eL PySem.F.slot_list_append PySem.F.type_list_append eV cH (lC (cB pC lz lP (lC (eBi ew (cB pz lx lO (lC eV lN)) eI) lN)) lN) cN))
 bN) (bC (sI (qC bM eV eV) (bC (sE (eL PySem.F.slot_list_append PySem.F.type_list_append eV cH (lC (cB pC lz lP (lC (eBi ew (eBi ec (eAt eV (eBi ew (eBi dB (eBi fi eV eI) eI) eI)) (cB pz lx lO (lC eV lN))) eI) lN)) lN) cN))
 bN) (bC (sI (qC zV eV eV) (bC (sE (eL PySem.F.slot_list_append PySem.F.type_list_append eV cH (lC eV lN) cN))
 bN) bN)
 bN))
 bN))
 bN))
 (bC (sS (eBi dB (eBi fi eV eI) eI))
 (bC (sS (eBi ec (eX eV (oS eV) oN) (eX eV oN (oS eV))))
 (bC (sE (eL PySem.F.slot_list_insert PySem.F.type_list_insert eV vD (lC (eBi dB (eBi fi eV eI) (eBi ec (cB fA dD dH (lC eV lN)) eI)) (lC (cB pC lz lP (lC (eAt eV (eBi dB (eBi fi eV eI) eI)) lN)) lN)) AI))
 (bC (sR eV)
 bN)))))))))))))
def M5 : SM := (ab (aL iO (ba (aa (mK (.int 0)) (aa (mK (.int 0)) (aa (mK (.int 0)) ah)))))
 (ab (fe (mV aQ) ar (ab (sIf (ig (dT (ag jF (aa (mV ar) ah)))) (ab (aL cv (ag gn (aa (mV ar) ah)))
 (ab (aL bT (ag oD (aa (mV cv) (aa (mV ar) ah))))
 (ab (aL dE (mK (.int 0)))
 (ab (sIf (cj (aE gEq (ag bZ (aa (mV cv) ah)) (mK (.int 1))) (cj (aE cIs (ag dI (aa (mV bT) ah)) (mK (.typ "bool"))) (cj (dT (mV bT)) (cK true)))) (ab (aL dE (mK (.int 32)))
 ak) ak)
 (ab (fe (mV cv) aI (ab (sIf (aE ii (ag fK (aa (mV iO) (aa (ag fb (aa (m2 cG (mV bg) (mV bg)) (aa (mV aI) ah))) (aa (m2 cD (ag jQ (aa (mV aI) ah)) (mV dE)) ah)))) (mK .none)) (ab (bj (mK (.str [])))
 ak) ak)
 ak))
 ak))))) ak)
 ak))
 (ab (bj (cz (mK (.str [])) cO (aa (aX (mV iO) (bd1 dG) (cK true) (ag jR (aa (mV dG) ah))) ah)))
 ak)))
def on : FM := mFn [bg, aQ] M5
theorem Gq (C : Sys) : C.h₁.get? 226 = some (fnO 33 (.str (Str.ofString "law_tc0074_01") 2374) (.ref 225)) := C.X _ _ (by kernel_rfl)
theorem Ib (k : Nat) : FO C (k + 2) (.ref 226) on := fD (ps := [Str.ofString "name", Str.ofString "typed"]) (fJ rfl (fun _ _ => rfl)) (Gq C) fun _ _ _ =>
 (bC (sS (eLi (lC eI (lC eI (lC eI lN)))))
 (bC (sFo eV (bC (sI (qN (qV (cF jV (vH C) (wx (k + 0)) (lC eV lN)))) (bC (sS (cF jv (rn C) (sM (k + 0)) (lC eV lN)))
 (bC (sS (cF N4 (MJ C) (IW (k + 0)) (lC eV (lC eV lN))))
 (bC (sS eI)
 (bC (sI (qB (aAc (qC cx (cB fA dD dH (lC eV lN)) eI) (aAc (qC GM (cT iV f6 gj (lC eV lN)) (eT rW mP)) (aAc (qV eV) aA)))) (bC (sS eI)
 bN) bN)
 (bC (sFo eV (bC (sI (qC gk (cF pc (lJ C) (no (k + 0)) (lC eV (lC (cF pd (lK C) (np (k + 0)) (lC (eBi ec eV eV) (lC eV lN))) (lC (eBi ew (cB pz lx lO (lC eV lN)) eV) lN)))) eN) (bC (sR eS)
 bN) bN)
 bN))
 bN))))) bN)
 bN))
 (bC (sR (eU PySem.F.slot_str_join PySem.F.type_str_join eS gK (lC (eC (cO1 eV (fun _ _ => tN) (fun _ _ => (cB pC lz lP (lC eV lN))))) lN) iS))
 bN)))
def HI : SM := (ab (aL fM (aX (mV aF) (bd1 ay) (cK true) (cz (mK (.str [])) cO (aa (aX (mV ay) (bd1 ar) (cK true) (ag gn (aa (mV ar) ah))) ah))))
 (ab (jU dw jh (b9 (aa (ba ah) (aa (ba ah) ah))))
 (ab (fe (ag aZ (aa (ag bZ (aa (mV aF) ah)) ah)) n_i (ab (fe (ag aZ (aa (mV n_i) ah)) n_j (ab (aL bY (ag HY (aa (m2 az (mV fM) (mV n_i)) (aa (m2 az (mV fM) (mV n_j)) ah))))
 (ab (aL fz (eE gEq (aX (m2 az (mV aF) (mV n_i)) (bd1 ar) (cK true) (eE gEq (mV ar) (mV aP))) (aX (m2 az (mV aF) (mV n_j)) (bd1 ar) (cK true) (eE gEq (mV ar) (mV aP)))))
 (ab (sIf (cOr (aE ii (ag dI (aa (mV bY) ah)) (mK (.typ "bool"))) (cOr (aE gNe (mV bY) (mV fz)) (cK false))) (ab (bj (b9 (aa (ba ah) (aa (ba ah) ah))))
 ak) ak)
 (ab (sIf (cj (dT (mV bY)) (cj (aE gEq (ag e9 (aa (m2 az (mV aF) (mV n_j)) (aa (m2 az (mV aF) (mV n_i)) (aa (mK (.int 1)) ah)))) (mK (.int 1))) (cK true))) (ab (aL a5 (ag jS (aa (m2 az (mV aF) (mV n_i)) ah)))
 (ab (dt (ag fK (aa (mV a5) (aa (ag fb (aa (aX (ag aZ (aa (mK (.int 3)) ah)) (bd1 n_k) (cK true) (ag oD (aa (m2 az (mV a5) (mV n_k)) (aa (m2 az (m2 az (mV aF) (mV n_j)) (mV n_k)) ah)))) (aa (mK (.bool true)) ah))) (aa (mV aP) ah)))))
 (ab (sIf (ig (dT (ag cI (aa (mV dw) (aa (cz (mK (.str [])) cO (aa (mV a5) ah)) ah))))) (ab (dt (br (mV dw) bf (aa (cz (mK (.str [])) cO (aa (mV a5) ah)) ah)))
 ak) ak)
 (ab (dt (br (mV jh) ek (aa (ba (aa (m2 az (mV aF) (mV n_i)) (aa (m2 az (mV aF) (mV n_j)) ah))) ah)))
 ak)))) ak)
 ak)))))
 ak))
 (ab (bj (b9 (aa (mV dw) (aa (aX (mV aF) (bd1 ay) (ig (dT (ag cI (aa (mV jh) (aa (mV ay) ah))))) (mV ay)) ah))))
 ak))))
def jE : FM := mFn [aF, aP] HI
theorem tV (C : Sys) : C.h₁.get? 231 = some (fnO 34 (.str (Str.ofString "law_tc0074_01") 2374) (.ref 230)) := C.X _ _ (by kernel_rfl)
theorem Av (k : Nat) : FO C (k + 3) (.ref 231) jE := fD (ps := [Str.ofString "layer", Str.ofString "dash"]) (fJ rfl (fun _ _ => rfl)) (tV C) fun _ _ _ =>
 (bC (sC (cO1 eV (fun _ _ => tN) (fun _ _ => (eU PySem.F.slot_str_join PySem.F.type_str_join eS gK (lC (eC (cO1 eV (fun _ _ => tN) (fun _ _ => (cF jv (rn C) (sM (k + 1)) (lC eV lN))))) lN) iS))))
 (bC (sP (ePr (lC (eLi lN) (lC (eLi lN) lN))))
 (bC (sFo (cT dc cp cr (lC (cB fA dD dH (lC eV lN)) lN)) (bC (sFo (cT dc cp cr (lC eV lN)) (bC (sS (cF PA (N2 C) (Nn (k + 1)) (lC (eAt eV eV) (lC (eAt eV eV) lN))))
 (bC (sS (eQ cx (eC (cO1 (eAt eV eV) (fun _ _ => tN) (fun _ _ => (eQ cx eV eV)))) (eC (cO1 (eAt eV eV) (fun _ _ => tN) (fun _ _ => (eQ cx eV eV))))))
 (bC (sI (qB (aOc (qC gk (cT iV f6 gj (lC eV lN)) (eT rW mP)) (aOc (qC fu eV eV) aO))) (bC (sR (ePr (lC (eLi lN) (lC (eLi lN) lN))))
 bN) bN)
 (bC (sI (qB (aAc (qV eV) (aAc (qC cx (cF bt (nJ C) (lr (k + 0)) (lC (eAt eV eV) (lC (eAt eV eV) (lC eI lN)))) eI) aA))) (bC (sS (cT v0 qd rA (lC (eAt eV eV) lN)))
 (bC (sE (cF pc (lJ C) (no (k + 1)) (lC eV (lC (cF pd (lK C) (np (k + 1)) (lC (eC (cO1 (cT dc cp cr (lC eI lN)) (fun _ _ => tN) (fun _ _ => (cF N4 (MJ C) (IW (k + 1)) (lC (eAt eV eV) (lC (eAt (eAt eV eV) eV) lN)))))) (lC eB lN))) (lC eV lN)))))
 (bC (sI (qN (qV (cF kg (iR C) (je (k + 1)) (lC eV (lC (eU PySem.F.slot_str_join PySem.F.type_str_join eS gK (lC eV lN) iS) lN))))) (bC (sE (eL PySem.F.slot_list_append PySem.F.type_list_append eV cH (lC (eU PySem.F.slot_str_join PySem.F.type_str_join eS gK (lC eV lN) iS) lN) cN))
 bN) bN)
 (bC (sE (eL PySem.F.slot_list_extend PySem.F.type_list_extend eV nR (lC (eLi (lC (eAt eV eV) (lC (eAt eV eV) lN))) lN) pi))
 bN)))) bN)
 bN)))))
 bN))
 (bC (sR (ePr (lC eV (lC (eC (cO1 eV (fun _ _ => (tO (qN (qV (cF kg (iR C) (je (k + 1)) (lC eV (lC eV lN))))))) (fun _ _ => eV))) lN))))
 bN))))
def v4 : SM := (ab (aL gG (ba ah))
 (ab (fe (ag aZ (aa (mK (.int 8)) ah)) au (ab (fe (ag aZ (aa (mK (.int 8)) ah)) a6 (ab (sIf (cj (aE gEq (m2 lI (mV a6) (mV au)) (mK (.int 0))) (cj (aE gEq (aX (ag aZ (aa (mK (.int 8)) ah)) (bd1 du) (cj (aE gEq (m2 lI (mV du) (m2 cD (mK (.int 7)) (mV au))) (mV a6)) (cj (aE rQ (mV du) (mV iN)) (cK true))) (mV du)) (ba ah)) (cK true))) (ab (dt (br (mV gG) bf (aa (b9 (aa (mV a6) (aa (mV au) ah))) ah)))
 ak) ak)
 ak))
 ak))
 (ab (aL cu (ba ah))
 (ab (oO (mV gG) a6 au (ab (aL fj (aX (ag aZ (aa (mK (.int 3)) ah)) (bd1 n_k) (aE gEq (m2 bS (m2 cZ (mV au) (m2 gS (mK (.int 2)) (mV n_k))) (mK (.int 2))) (mK (.int 0))) (b9 (aa (m2 lI (mV a6) (m2 cD (mK (.int 7)) (m2 gS (mK (.int 2)) (mV n_k)))) (aa (m2 cG (mV au) (m2 gS (mK (.int 2)) (mV n_k))) ah)))))
 (ab (sIf (aE gEq (aX (mV fj) (bd1 kT) (aE cIn (mV kT) (mV gG)) (mV kT)) (ba ah)) (ab (dt (br (mV cu) bf (aa (b9 (aa (mV a6) (aa (mV au) ah))) ah)))
 ak) ak)
 ak)))
 (ab (bj (mV cu))
 ak)))))
def fL : FM := mFn [iN] v4
theorem nK (C : Sys) : C.h₁.get? 236 = some (fnO 35 (.str (Str.ofString "law_tc0074_01") 2374) (.ref 235)) := C.X _ _ (by kernel_rfl)
theorem sN (k : Nat) : FO C (k + 1) (.ref 236) fL := fD (ps := [Str.ofString "rows"]) (jZ rfl (fun _ => rfl)) (nK C) fun _ _ _ =>
 (bC (sS (eLi lN))
 (bC (sFo (cT dc cp cr (lC eI lN)) (bC (sFo (cT dc cp cr (lC eI lN)) (bC (sI (qB (aAc (qC cx (eBi uR eV eV) eI) (aAc (qC cx (eC (cO1 (cT dc cp cr (lC eI lN)) (fun _ _ => (tO (qB (aAc (qC cx (eBi uR eV (eBi ew eI eV)) eV) (aAc (qC zV eV eV) aA))))) (fun _ _ => eV))) (eLi lN)) aA))) (bC (sE (eL PySem.F.slot_list_append PySem.F.type_list_append eV cH (lC (ePr (lC eV (lC eV lN))) lN) cN))
 bN) bN)
 bN))
 bN))
 (bC (sS (eLi lN))
 (bC (sF2 eV (bC (sC (cO1 (cT dc cp cr (lC eI lN)) (fun _ _ => (tO (qC cx (eBi dB (eBi fi eV (eBi lq eI eV)) eI) eI))) (fun _ _ => (ePr (lC (eBi uR eV (eBi ew eI (eBi lq eI eV))) (lC (eBi ec eV (eBi lq eI eV)) lN))))))
 (bC (sI (qC cx (eC (cO1 eV (fun _ _ => (tO (qC bM eV eV))) (fun _ _ => eV))) (eLi lN)) (bC (sE (eL PySem.F.slot_list_append PySem.F.type_list_append eV cH (lC (ePr (lC eV (lC eV lN))) lN) cN))
 bN) bN)
 bN)))
 (bC (sR eV)
 bN)))))
def oh (f : Nat) : Option FM := match Nat.beq f 169 with
 | true => some HW
 | false => match Nat.beq f 176 with
  | true => some HV
  | false => match Nat.beq f 183 with
   | true => some HU
   | false => match Nat.beq f 190 with
    | true => some HT
    | false => match Nat.beq f 197 with
     | true => some HS
     | false => none
theorem tU {f a : Nat} {g F : FM} {X : Option FM} {P : Nat → FM → Prop} (h : (match Nat.beq f a with | true => some F | false => X) = some g) (k : P a F) (r : X = some g → P f g) : P f g := by
 cases q : Nat.beq f a with
 | true => rw [q] at h; cases h; cases Nat.eq_of_beq_eq_true q; exact k
 | false => rw [q] at h; exact r h
def HOk (C : Sys) (j f : Nat) (g : FM) : Prop := (∃ o fd, C.h₁.get? f = some o ∧ o.data = .func fd) ∧ ei C (j + 1) (.ref f) g
theorem zO (j : Nat) : ∀ f g, oh f = some g → HOk C j f g := fun f g h =>
 tU h ⟨⟨_, _, Gy C, rfl⟩, (Ii j).h⟩ fun h => tU h ⟨⟨_, _, Gx C, rfl⟩, (Ih j).h⟩ fun h => tU h ⟨⟨_, _, Gw C, rfl⟩, (Ig j).h⟩ fun h =>
 tU h ⟨⟨_, _, Gv C, rfl⟩, (Ie j).h⟩ fun h => tU h ⟨⟨_, _, Gu C, rfl⟩, (Id j).h⟩ fun h => nS h
def On : SM := (ab (aL bG (ag r9 (aa (mV b5) ah)))
 (ab (aL c9 (m2 bS (m2 az (mV bG) (mK (.int 0))) (mK (.int 4))))
 (ab (aL bg (m2 az (ba (aa (mK (.str [107, 112, 97])) (aa (mK (.str [109, 112, 97])) (aa (mK (.str [104, 112, 97])) (aa (mK (.str [107, 104, 122])) ah))))) (mV c9)))
 (ab (aL g7 (m2 bS (m2 cZ (m2 az (mV bG) (mK (.int 0))) (mK (.int 4))) (mK (.int 5))))
 (ab (aL ic (m2 az (ba (aa (mK (.fn 169)) (aa (mK (.fn 176)) (aa (mK (.fn 183)) (aa (mK (.fn 190)) (aa (mK (.fn 197)) ah)))))) (mV g7)))
 (ab (aL de (m2 az (ba (aa (mK (.str [38, 60, 62])) (aa (mK (.str [38, 60, 62, 34, 13, 10, 9])) (aa (mK (.str [38, 62, 34])) (aa (mK (.str [38, 60, 62, 13])) (aa (mK (.str [38, 60, 34, 13, 10, 9])) ah)))))) (mV g7)))
 (ab (aL aP (m2 az (mV de) (m2 bS (m2 cZ (m2 az (mV bG) (mK (.int 0))) (mK (.int 20))) (ag bZ (aa (mV de) ah)))))
 (ab (aL b6 (ag jP (aa (mV g7) (aa (mV aP) ah))))
 (ab (aL iM (mK (.str [38, 60, 62, 34, 13, 10, 9])))
 (ab (sIf (aE gNe (ie ic oh (aa (mV iM) ah)) (cz (mK (.str [])) cO (aa (aX (mV iM) (bd1 ar) (cK true) (mIf (aE cIn (mV ar) (mV de)) (ag jP (aa (mV g7) (aa (mV ar) ah))) (mV ar))) ah))) (ab (bj (mK (.bool false)))
 ak) ak)
 (ab (aL aF (ba ah))
 (ab (fe (bW (mV bG) (bc (mK (.int 2))) be) aR (ab (aL aQ (ag k9 (aa (mV c9) (aa (mV aR) ah))))
 (ab (sIf (aE gNe (aX (mV aQ) (bd1 ar) (aE ii (ag dI (aa (ag jF (aa (mV ar) ah)) ah)) (mK (.typ "bool"))) (mV ar)) (ba ah)) (ab (bj (mK (.bool false)))
 ak) ak)
 (ab (aL ay (ag on (aa (mV bg) (aa (mV aQ) ah))))
 (ab (sIf (aE gNe (mV ay) (ag f0 (aa (mV bg) (aa (m2 bS (mV aR) (mK (.int 8))) (aa (mK (.int 0)) (aa (mV aP) ah)))))) (ab (bj (mK (.bool false)))
 ak) ak)
 (ab (aL cu (ag cI (aa (mV aF) (aa (mV ay) ah))))
 (ab (sIf (aE ii (ag dI (aa (mV cu) ah)) (mK (.typ "bool"))) (ab (bj (mK (.bool false)))
 ak) ak)
 (ab (sIf (ig (dT (mV cu))) (ab (dt (br (mV aF) bf (aa (mV ay) ah)))
 ak) ak)
 ak))))))))
 (ab (aL bK (ag f0 (aa (mV bg) (aa (m2 bS (m2 az (mV bG) (mK (.int 1))) (mK (.int 8))) (aa (mK (.int 0)) (aa (mV aP) ah))))))
 (ab (aL bB (aX (mV aF) (bd1 ay) (cK true) (ag e9 (aa (mV bK) (aa (mV ay) (aa (mK (.int 3)) ah))))))
 (ab (aL dF (ba ah))
 (ab (fe (ag aZ (aa (mK (.int 4)) ah)) dg (ab (jU aF jk (ag jE (aa (mV aF) (aa (mV aP) ah))))
 (ab (dt (br (mV dF) ek (aa (mV jk) ah)))
 ak)))
 (ab (aL fz (aX (ag fL (aa (aX (bW (mV bG) (bc (mK (.int 2))) be) (bd1 aR) (cK true) (m2 bS (mV aR) (mK (.int 8)))) ah)) (bd2 a6 au) (cK true) (ag f0 (aa (mV bg) (aa (mV a6) (aa (mV au) (aa (mV aP) ah)))))))
 (ab (sIf (aE gNe (ag fO (aa (mV dF) ah)) (ag fO (aa (mV fz) ah))) (ab (bj (mK (.bool false)))
 ak) ak)
 (ab (aL eA (m2 cD (m2 dN (mK (.int 2)) (ag bZ (aa (mV b6) ah))) (m2 dN (mK (.int 2)) (ag BG (aa (eE gEq (mV aP) (mK (.str [38]))) ah)))))
 (ab (aL cS (ba ah))
 (ab (fe (mV dF) ay (ab (aL ey (ie ic oh (aa (mV ay) ah)))
 (ab (sIf (aE gNe (mV ey) (cz (mK (.str [])) cO (aa (aX (mV ay) (bd1 ar) (cK true) (mIf (aE gEq (mV ar) (mV aP)) (mV b6) (mV ar))) ah))) (ab (bj (mK (.bool false)))
 ak) ak)
 (ab (aL au (ag iH (aa (mV ay) (aa (mV aP) ah))))
 (ab (aL bX (ag e9 (aa (mV ay) (aa (mV ey) (aa (m2 dN (mV eA) (mV au)) ah)))))
 (ab (sIf (cOr (aE ii (ag dI (aa (mV bX) ah)) (mK (.typ "int"))) (cOr (aE gNe (mV bX) (m2 dN (mV eA) (mV au))) (cK false))) (ab (bj (mK (.bool false)))
 ak) ak)
 (ab (aL bJ (m2 cG (m2 dN (mK (.int 2)) (mV au)) (ag bZ (aa (aX (ag aZ (aa (mK (.int 3)) ah)) (bd1 n_k) (cj (aE gNe (m2 az (mV ay) (mV n_k)) (mV aP)) (cj (aE gNe (m2 az (mV ay) (mV n_k)) (m2 az (mV bK) (mV n_k))) (cK true))) (mV n_k)) ah))))
 (ab (aL dZ (ag e9 (aa (mV bK) (aa (mV ay) (aa (mV bJ) ah)))))
 (ab (sIf (cOr (aE ii (ag dI (aa (mV dZ) ah)) (mK (.typ "int"))) (cOr (aE gNe (mV dZ) (mV bJ)) (cK false))) (ab (bj (mK (.bool false)))
 ak) ak)
 (ab (aL bU (m2 cG (bW (mV ay) (bc (mK (.int 1))) be) (bW (mV ay) be (bc (mK (.int 1))))))
 (ab (aL cU (ba (aa (ag e9 (aa (mV ay) (aa (mV bU) (aa (mK (.int 4)) ah)))) (aa (ag e9 (aa (mV bU) (aa (mV ay) (aa (mK (.int 4)) ah)))) ah))))
 (ab (sIf (cOr (aE gNe (mV cU) (ba (aa (mK (.int 4)) (aa (mK (.int 4)) ah)))) (cOr (aE gNe (aX (mV cU) (bd1 iL) (aE ii (ag dI (aa (mV iL) ah)) (mK (.typ "int"))) (mV iL)) (ba ah)) (cK false))) (ab (bj (mK (.bool false)))
 ak) ak)
 (ab (aL cQ (ag ot (aa (m2 cD (m1 ke (mK (.int 1))) (mV bX)) (aa (mV eA) ah))))
 (ab (sIf (cOr (aE ii (ag dI (aa (mV cQ) ah)) (mK (.typ "int"))) (cOr (aE gNe (mV cQ) (m2 cD (m1 ke (mK (.int 1))) (mV au))) (cK false))) (ab (bj (mK (.bool false)))
 ak) ak)
 (ab (dt (br (mV cS) bf (aa (ag ux (aa (ag uy (aa (m1 ke (mK (.int 2))) (aa (mV cQ) ah))) (aa (m2 cG (mV dZ) (mK (.int 2))) ah))) ah)))
 ak)))))))))))))))
 (ab (aL fZ (ag AW (aa (mV cS) ah)))
 (ab (bj (vA (eE cIs (ag dI (aa (mV fZ) ah)) (mK (.typ "int"))) (eE gEq (mV fZ) (m1 ke (ag k7 (aa (mV bB) ah))))))
 ak)))))))))))))))))))))))
def HR : FM := mFn [b5] On
theorem N1 (C : Sys) : C.h₁.get? 241 = some (fnO 36 (.str (Str.ofString "law_tc0074_01") 2374) (.ref 240)) := C.X _ _ (by kernel_rfl)
theorem Mu (k : Nat) : FO C (k + 4) (.ref 241) HR := fD (ps := [Str.ofString "script"]) (jZ rfl (fun _ => rfl)) (N1 C) fun _ _ _ =>
 (bC (sS (cF rs (zR C) (B8 (k + 2)) (lC eV lN)))
 (bC (sS (eBi dB (eAt eV eI) eI))
 (bC (sS (eAt (eLi (lC eS (lC eS (lC eS (lC eS lN))))) eV))
 (bC (sS (eBi dB (eBi fi (eAt eV eI) eI) eI))
 (bC (sS (eAt (eLi (lC (eH mL) (lC (eH lM) (lC (eH i7) (lC (eH jy) (lC (eH i8) lN)))))) eV))
 (bC (sS (eAt (eLi (lC eS (lC eS (lC eS (lC eS (lC eS lN)))))) eV))
 (bC (sS (eAt eV (eBi dB (eBi fi (eAt eV eI) eI) (cB fA dD dH (lC eV lN)))))
 (bC (sS (cF iC (rm C) (sK (k + 2)) (lC eV (lC eV lN))))
 (bC (sS eS)
 (bC (sI (qC fu (cV (zO (k + 2)) (lC eV lN)) (eU PySem.F.slot_str_join PySem.F.type_str_join eS gK (lC (eC (cO1 eV (fun _ _ => tN) (fun _ _ => (eIf (qC bM eV eV) (cF iC (rm C) (sK (k + 2)) (lC eV (lC eV lN))) eV)))) lN) iS)) (bC (sR eB)
 bN) bN)
 (bC (sS (eLi lN))
 (bC (sFo (eX eV (oS eI) oN) (bC (sS (cF rq (zP C) (B6 (k + 2)) (lC eV (lC eV lN))))
 (bC (sI (qC fu (eC (cO1 eV (fun _ _ => (tO (qC gk (cT iV f6 gj (lC (cF jV (vH C) (wx (k + 2)) (lC eV lN)) lN)) (eT rW mP)))) (fun _ _ => eV))) (eLi lN)) (bC (sR eB)
 bN) bN)
 (bC (sS (cF tW (Gq C) (Ib (k + 1)) (lC eV (lC eV lN))))
 (bC (sI (qC fu eV (cF jx (rj C) (pR (k + 2)) (lC eV (lC (eBi dB eV eI) (lC eI (lC eV lN)))))) (bC (sR eB)
 bN) bN)
 (bC (sS (cF kg (iR C) (je (k + 2)) (lC eV (lC eV lN))))
 (bC (sI (qC gk (cT iV f6 gj (lC eV lN)) (eT rW mP)) (bC (sR eB)
 bN) bN)
 (bC (sI (qN (qV eV)) (bC (sE (eL PySem.F.slot_list_append PySem.F.type_list_append eV cH (lC eV lN) cN))
 bN) bN)
 bN))))))))
 (bC (sS (cF jx (rj C) (pR (k + 2)) (lC eV (lC (eBi dB (eAt eV eI) eI) (lC eI (lC eV lN))))))
 (bC (sC (cO1 eV (fun _ _ => tN) (fun _ _ => (cF bt (nJ C) (lr (k + 1)) (lC eV (lC eV (lC eI lN)))))))
 (bC (sS (eLi lN))
 (bC (sFo (cT dc cp cr (lC eI lN)) (bC (sP (cF oz (tV C) (Av (k + 0)) (lC eV (lC eV lN))))
 (bC (sE (eL PySem.F.slot_list_extend PySem.F.type_list_extend eV nR (lC eV lN) pi))
 bN)))
 (bC (sC (cO2 (cF mJ (nK C) (sN (k + 2)) (lC (eC (cO1 (eX eV (oS eI) oN) (fun _ _ => tN) (fun _ _ => (eBi dB eV eI)))) lN)) (fun _ _ => tN) (fun _ _ => (cF jx (rj C) (pR (k + 2)) (lC eV (lC eV (lC eV (lC eV lN))))))))
 (bC (sI (qC fu (cB uk oT ph (lC eV lN)) (cB uk oT ph (lC eV lN))) (bC (sR eB)
 bN) bN)
 (bC (sS (eBi ew (eBi gF eI (cB fA dD dH (lC eV lN))) (eBi gF eI (cT pB ly MN (lC (eQ cx eV eS) lN)))))
 (bC (sS (eLi lN))
 (bC (sFo eV (bC (sS (cV (zO (k + 2)) (lC eV lN)))
 (bC (sI (qC fu eV (eU PySem.F.slot_str_join PySem.F.type_str_join eS gK (lC (eC (cO1 eV (fun _ _ => tN) (fun _ _ => (eIf (qC cx eV eV) eV eV)))) lN) iS)) (bC (sR eB)
 bN) bN)
 (bC (sS (cF AG (pb C) (uS (k + 2)) (lC eV (lC eV lN))))
 (bC (sS (cF bt (nJ C) (lr (k + 1)) (lC eV (lC eV (lC (eBi gF eV eV) lN)))))
 (bC (sI (qB (aOc (qC gk (cT iV f6 gj (lC eV lN)) (eT pB ly)) (aOc (qC fu eV (eBi gF eV eV)) aO))) (bC (sR eB)
 bN) bN)
 (bC (sS (eBi ec (eBi gF eI eV) (cB fA dD dH (lC (eC (cO1 (cT dc cp cr (lC eI lN)) (fun _ _ => (tO (qB (aAc (qC fu (eAt eV eV) eV) (aAc (qC fu (eAt eV eV) (eAt eV eV)) aA))))) (fun _ _ => eV))) lN))))
 (bC (sS (cF bt (nJ C) (lr (k + 1)) (lC eV (lC eV (lC eV lN)))))
 (bC (sI (qB (aOc (qC gk (cT iV f6 gj (lC eV lN)) (eT pB ly)) (aOc (qC fu eV eV) aO))) (bC (sR eB)
 bN) bN)
 (bC (sS (eBi ec (eX eV (oS eI) oN) (eX eV oN (oS eI))))
 (bC (sS (eLi (lC (cF bt (nJ C) (lr (k + 1)) (lC eV (lC eV (lC eI lN)))) (lC (cF bt (nJ C) (lr (k + 1)) (lC eV (lC eV (lC eI lN)))) lN))))
 (bC (sI (qB (aOc (qC fu eV (eLi (lC eI (lC eI lN)))) (aOc (qC fu (eC (cO1 eV (fun _ _ => (tO (qC gk (cT iV f6 gj (lC eV lN)) (eT pB ly)))) (fun _ _ => eV))) (eLi lN)) aO))) (bC (sR eB)
 bN) bN)
 (bC (sS (cF vI (Gs C) (Ic (k + 2)) (lC (eBi ew (eM eI) eV) (lC eV lN))))
 (bC (sI (qB (aOc (qC gk (cT iV f6 gj (lC eV lN)) (eT pB ly)) (aOc (qC fu eV (eBi ew (eM eI) eV)) aO))) (bC (sR eB)
 bN) bN)
 (bC (sE (eL PySem.F.slot_list_append PySem.F.type_list_append eV cH (lC (cF N3 (LW C) (Ms (k + 2)) (lC (cF N5 (LX C) (Mt (k + 2)) (lC (eM eI) (lC eV lN))) (lC (eBi ec eV eI) lN))) lN) cN))
 bN)))))))))))))))
 (bC (sS (cB Oj Mx MM (lC eV lN)))
 (bC (sR (PI (eQ GM (cT iV f6 gj (lC eV lN)) (eT pB ly)) (eQ cx eV (eM (cB GS vf vK (lC eV lN))))))
 bN)))))))))))))))))))))))
end
theorem hZ : ∀ (σ : ac), eJ σ σ = true := by
 intro σ
 induction σ with
 | nil =>
  exact rfl
 | cons x r ih =>
  unfold eJ
  rw [ih]; simp
theorem bx {σ : ac} {i : Nat} {xs : List MV} (h : am σ i = some xs) : i < σ.length := (List.getElem?_eq_some_iff.mp h).1
theorem AB {σ τ : ac} {i : Nat} (h : i < σ.length) : am (σ ++ τ) i = am σ i := List.getElem?_append_left h
theorem aj {σ τ : ac} {i : Nat} {xs : List MV} (h : am σ i = some xs) : am (σ ++ τ) i = some xs := (AB (bx h)).trans h
theorem aN (σ : ac) (xs : List MV) : am (σ ++ [xs]) σ.length = some xs := by simp [am]
theorem cA {σ : ac} {i : Nat} {xs ys : List MV} (h : am σ i = some xs) : am (σ.set i ys) i = some ys := by
 unfold am; rw [List.getElem?_set_self (bx h)]
theorem bo {σ : ac} {i j : Nat} {ys : List MV} (h : i ≠ j) : am (σ.set i ys) j = am σ j := by
 unfold am; rw [List.getElem?_set_ne h]
theorem iJ {σ τ : ac} {ys : List MV} : (σ ++ τ).set σ.length ys = σ ++ τ.set 0 ys := by
 rw [List.set_append_right _ _ (Nat.le_refl _), Nat.sub_self]
set_option tactic.hygienic true in
theorem io {σ τ : ac} {v : MV} (h : ft v = true) : pack σ v (σ ++ τ) = some (v, σ) := by
 unfold pack
 rw [List.take_left, hZ]
 cases v <;> first | (simp only [h]; done) | (cases h; done) | skip
 rename_i a b
 cases a <;> first | (simp only [h]; done) | (cases h; done) | skip
theorem bv {σ : ac} {v : MV} (h : ft v = true) : pack σ v σ = some (v, σ) := by simpa using io (τ := []) (σ := σ) h
theorem ni {σ τ : ac} {i : Nat} {xs : List MV} (hi : σ.length ≤ i) (h : am (σ ++ τ) i = some xs) (hf : xs.all ft = true) : pack σ (.ref i) (σ ++ τ) = some (.ref σ.length, σ ++ [xs]) := by
 unfold pack
 rw [List.take_left, hZ]
 have : Nat.blt i σ.length = false := by
  rw [Bool.eq_false_iff]; intro q; rw [Nat.blt_eq] at q; lia
 simp only [this, h, hf]
theorem Au {σ τ : ac} {i j : Nat} {xs ys : List MV} (hi : σ.length ≤ i) (hj : σ.length ≤ j) (hij : i ≠ j) (h : am (σ ++ τ) i = some xs) (h' : am (σ ++ τ) j = some ys) (hf : xs.all ft = true) (hg : ys.all ft = true) :
  pack σ (.pair (.ref i) (.ref j)) (σ ++ τ) = some (.pair (.ref σ.length) (.ref (σ.length + 1)), σ ++ [xs, ys]) := by
 unfold pack
 rw [List.take_left, hZ]
 have e1 : Nat.ble σ.length i = true := Nat.ble_eq_true_of_le hi
 have e2 : Nat.ble σ.length j = true := Nat.ble_eq_true_of_le hj
 have e3 : Nat.beq i j = false := by rw [dU]; exact decide_eq_false hij
 have e4 : (Nat.ble σ.length i && Nat.ble σ.length j && !(Nat.beq i j)) = true := by rw [e1, e2, e3]; rfl
 simp only [e4, h, h', hf, hg]
 rfl
theorem bH {ps : List Nat} {b : SM} {args : List MV} {σ σ' σ2 : ac} {v mv : MV} {V : ap} (hl : args.length = ps.length) (h0 : 1 ≤ σ.length) (h : b (ps.zip args) σ = some (some v, V, σ')) (hp : pack σ v σ' = some (mv, σ2)) : mFn ps b args σ = some (mv, σ2) := by
 unfold mFn
 have e1 : Nat.beq args.length ps.length = true := by rw [dU]; exact decide_eq_true hl
 have e2 : Nat.ble 1 σ.length = true := Nat.ble_eq_true_of_le h0
 simp only [e1, e2, h, hp]
 rfl
theorem FY {ps : List Nat} {b : SM} {args : List MV} {σ σ' σ2 : ac} {mv : MV} {V : ap} (hl : args.length = ps.length) (h0 : 1 ≤ σ.length) (h : b (ps.zip args) σ = some (none, V, σ')) (hp : pack σ .none σ' = some (mv, σ2)) : mFn ps b args σ = some (mv, σ2) := by
 unfold mFn
 have e1 : Nat.beq args.length ps.length = true := by rw [dU]; exact decide_eq_true hl
 have e2 : Nat.ble 1 σ.length = true := Nat.ble_eq_true_of_le h0
 simp only [e1, e2, h, hp]
 rfl
section
variable {V V' V1 V2 : ap} {σ σ' σ1 σ2 σ3 : ac} {x y : Nat} {v a b : MV} {e l r o : EM} {c d : CM} {p q : Bool} {as : List MV} {g : FM} {m ms : SM} {lm : LM} {rr : Option MV}
theorem rV (h : lk V x = some v) : mV x V σ = some (v, σ) := by unfold mV; rw [h]
theorem rK : mK v V σ = some (v, σ) := rfl
theorem r1 {f : MV → ac → Option (MV × ac)} (h : e V σ = some (a, σ1)) (h2 : f a σ1 = some (v, σ2)) : m1 f e V σ = some (v, σ2) := by unfold m1; rw [h]; exact h2
theorem r2 {f : MV → MV → ac → Option (MV × ac)} (h : l V σ = some (a, σ1)) (h' : r V σ1 = some (b, σ2)) (h2 : f a b σ2 = some (v, σ3)) : m2 f l r V σ = some (v, σ3) := by unfold m2; rw [h]; dsimp only; rw [h']; exact h2
theorem pN {f : MV → MV → ac → Option Bool} (h : l V σ = some (a, σ1)) (h' : r V σ1 = some (b, σ2)) (h2 : f a b σ2 = some p) : eE f l r V σ = some (.bool p, σ2) := by unfold eE; rw [h]; dsimp only; rw [h']; dsimp only; rw [h2]
theorem aU {f : MV → MV → ac → Option Bool} (h : l V σ = some (a, σ1)) (h' : r V σ1 = some (b, σ2)) (h2 : f a b σ2 = some p) : aE f l r V σ = some (p, σ2) := by unfold aE; rw [h]; dsimp only; rw [h']; dsimp only; rw [h2]
theorem fY (h : e V σ = some (a, σ1)) (h2 : tM a σ1 = some p) : dT e V σ = some (p, σ1) := by unfold dT; rw [h]; dsimp only; rw [h2]
theorem ox (h : c V σ = some (p, σ1)) : ig c V σ = some (!p, σ1) := by unfold ig; rw [h]
theorem bR (h : c V σ = some (true, σ1)) (h2 : d V σ1 = some (p, σ2)) : cj c d V σ = some (p, σ2) := by unfold cj; rw [h]; exact h2
theorem dj (h : c V σ = some (false, σ1)) : cj c d V σ = some (false, σ1) := by unfold cj; rw [h]
theorem IT (h : c V σ = some (true, σ1)) : cOr c d V σ = some (true, σ1) := by unfold cOr; rw [h]
theorem gC (h : c V σ = some (false, σ1)) (h2 : d V σ1 = some (p, σ2)) : cOr c d V σ = some (p, σ2) := by unfold cOr; rw [h]; exact h2
theorem BW (h : c V σ = some (true, σ1)) (h2 : l V σ1 = some (v, σ2)) : mIf c l r V σ = some (v, σ2) := by unfold mIf; rw [h]; exact h2
theorem BX (h : c V σ = some (false, σ1)) (h2 : r V σ1 = some (v, σ2)) : mIf c l r V σ = some (v, σ2) := by unfold mIf; rw [h]; exact h2
theorem aD : ah V σ = some ([], σ) := rfl
theorem af (h : e V σ = some (a, σ1)) (h2 : lm V σ1 = some (as, σ2)) : aa e lm V σ = some (a :: as, σ2) := by unfold aa; rw [h]; dsimp only; rw [h2]
theorem aK (h : lm V σ = some (as, σ1)) (h2 : g as σ1 = some (v, σ2)) : ag g lm V σ = some (v, σ2) := by unfold ag; rw [h]; exact h2
theorem jd (h : o V σ = some (a, σ1)) (h' : lm V σ1 = some (as, σ2)) (h2 : g (a :: as) σ2 = some (v, σ3)) : cz o g lm V σ = some (v, σ3) := by unfold cz; rw [h]; dsimp only; rw [h']; exact h2
theorem fh {i : Nat} {xs : List MV} (h : o V σ = some (.ref i, σ1)) (hi : am σ1 i = some xs) (h' : lm V σ1 = some (as, σ2)) (h2 : g (.ref i :: as) σ2 = some (v, σ3)) : br o g lm V σ = some (v, σ3) := by unfold br; rw [h]; dsimp only; rw [hi]; dsimp only; rw [h']; exact h2
theorem c7 (h : lm V σ = some (as, σ1)) (h2 : Nat.ble as.length 100 = true) : ba lm V σ = some (.ref σ1.length, σ1 ++ [as]) := by unfold ba; rw [h]; dsimp only; rw [h2]
theorem dY (h : lm V σ = some ([a, b], σ1)) : b9 lm V σ = some (.pair a b, σ1) := by unfold b9; rw [h]
theorem aM : ak V σ = some (none, V, σ) := rfl
theorem rbC (h : m V σ = some (none, V1, σ1)) (h2 : ms V1 σ1 = some (rr, V2, σ2)) : ab m ms V σ = some (rr, V2, σ2) := by unfold ab; rw [h]; exact h2
theorem rbR (h : m V σ = some (some v, V1, σ1)) : ab m ms V σ = some (some v, V1, σ1) := by unfold ab; rw [h]
theorem bp (h : e V σ = some (v, σ1)) : aL x e V σ = some (none, put V x v, σ1) := by unfold aL; rw [h]
theorem Nl (h : e V σ = some (v, σ1)) : m6 x y e V σ = some (none, put (put V x v) y v, σ1) := by unfold m6; rw [h]
theorem pI (h : e V σ = some (.pair a b, σ1)) : jU x y e V σ = some (none, put (put V x a) y b, σ1) := by unfold jU; rw [h]
theorem Nk (h : e V σ = some (.pair a b, σ1)) : m5 x y e V σ = some (none, put (put V y b) x a, σ1) := by unfold m5; rw [h]
theorem Mn {f : MV → MV → ac → Option (MV × ac)} (h : lk V x = some a) (h' : e V σ = some (b, σ1)) (h2 : f a b σ1 = some (v, σ2)) : m8 x f e V σ = some (none, put V x v, σ2) := by unfold m8; rw [h]; dsimp only; rw [h']; dsimp only; rw [h2]
theorem bL (h : c V σ = some (true, σ1)) (h2 : m V σ1 = some (rr, V2, σ2)) : sIf c m ms V σ = some (rr, V2, σ2) := by unfold sIf; rw [h]; exact h2
theorem aW (h : c V σ = some (false, σ1)) (h2 : ms V σ1 = some (rr, V2, σ2)) : sIf c m ms V σ = some (rr, V2, σ2) := by unfold sIf; rw [h]; exact h2
theorem et (h : e V σ = some (v, σ1)) : bj e V σ = some (some v, V, σ1) := by unfold bj; rw [h]
theorem j9 (h : e V σ = some (.none, σ1)) : dt e V σ = some (none, V, σ1) := by unfold dt; rw [h]
theorem IU {i j : Nat} {xs : List MV} (hv : e V σ = some (v, σ1)) (ho : o V σ1 = some (.ref (i + 1), σ2)) (hi : l V σ2 = some (.int j, σ3)) (hx : am σ3 (i + 1) = some xs) (hj : j < xs.length) (hb : xs.length ≤ 1000000) :
  km o l e V σ = some (none, V, σ3.set (i + 1) (xs.set j v)) := by
 unfold km
 rw [hv]; dsimp only; rw [ho]; dsimp only; rw [hi]; dsimp only; rw [hx]
 have e1 : decide (0 ≤ (j : Int)) = true := decide_eq_true (by lia)
 have e2 : Nat.blt (j : Int).toNat xs.length = true := by rw [Nat.blt_eq]; exact hj
 have e3 : Nat.ble xs.length 1000000 = true := Nat.ble_eq_true_of_le hb
 simp only [e1, e2, e3]
 rfl
theorem kr {its : List MV} (h : e V σ = some (v, σ1)) (h2 : cW v σ1 = some its) (h3 : eK v its x m its V σ1 = some (rr, V2, σ2)) : fe e x m V σ = some (rr, V2, σ2) := by unfold fe; rw [h]; dsimp only; rw [h2]; exact h3
theorem cP {its : List MV} (h : ck v its σ = true) : eK v its x m [] V σ = some (none, V, σ) := by unfold eK; rw [h]
theorem bE {its ts : List MV} (h : ck v its σ = true) (h2 : m (put V x a) σ = some (none, V1, σ1)) (h3 : eK v its x m ts V1 σ1 = some (rr, V2, σ2)) : eK v its x m (a :: ts) V σ = some (rr, V2, σ2) := by unfold eK; rw [h]; dsimp only; rw [h2]; exact h3
theorem BZ {its ts : List MV} {u : MV} (h : ck v its σ = true) (h2 : m (put V x a) σ = some (some u, V1, σ1)) : eK v its x m (a :: ts) V σ = some (some u, V1, σ1) := by unfold eK; rw [h]; dsimp only; rw [h2]
theorem im {n : Nat} (h : c V σ = some (false, σ1)) : dP c m (n + 1) V σ = some (none, V, σ1) := by unfold dP; rw [h]
theorem sx {n : Nat} (h : c V σ = some (true, σ1)) (h2 : m V σ1 = some (none, V1, σ2)) (h3 : dP c m n V1 σ2 = some (rr, V2, σ3)) : dP c m (n + 1) V σ = some (rr, V2, σ3) := by unfold dP; rw [h]; dsimp only; rw [h2]; exact h3
end
noncomputable def isA (c : Nat) : Bool := Nat.blt c 128
noncomputable def i9 (c d : Nat) : Nat := match Nat.beq c d with
 | true => 0
 | false => match Nat.beq (lo1 c) (lo1 d) with
  | true => 1
  | false => 2
theorem v8 {c d : Nat} {σ : ac} (h0 : 1 ≤ σ.length) (hc : isA c = true) (hd : isA d = true) : mW [.str [c], .str [d]] σ = some (.int (i9 c d), σ) := by
 unfold isA at hc hd
 have key : Ae ([nx, nw].zip [.str [c], .str [d]]) σ = some (some (.int (i9 c d)), [nx, nw].zip [.str [c], .str [d]], σ) := by
  have hl : ∀ x : Nat, Nat.blt x 128 = true → gv [.str [x]] σ = some (.str [lo1 x], σ) := fun x hx => by
   unfold gv
   simp only [List.all_cons, List.all_nil, hx]
   rfl
  unfold i9
  match q : Nat.beq c d with
  | true => exact rbR (bL (aU (rV rfl) (rV rfl) (by show some (leq [c] [d]) = some true; unfold leq; rw [q]; rfl)) (rbR (et rK)))
  | false =>
   refine rbC (aW (aU (rV rfl) (rV rfl) (by show some (leq [c] [d]) = some false; unfold leq; rw [q])) aM) ?_
   match q2 : Nat.beq (lo1 c) (lo1 d) with
   | true => exact rbR (bL (aU (jd (rV rfl) aD (hl c hc)) (jd (rV rfl) aD (hl d hd)) (by show some (leq [lo1 c] [lo1 d]) = some true; unfold leq; rw [q2]; rfl)) (rbR (et rK)))
   | false => exact rbC (aW (aU (jd (rV rfl) aD (hl c hc)) (jd (rV rfl) aD (hl d hd)) (by show some (leq [lo1 c] [lo1 d]) = some false; unfold leq; rw [q2])) aM) (rbR (et rK))
 exact bH rfl h0 key (bv rfl)
def rR : SM := (ab (aL cR (m2 cG (mV cg) (ag mW (aa (mV g8) (aa (m2 az (mV n_a) (mV dk)) ah)))))
 (ab (aL cg (m2 az (mV du) (mV dk)))
 (ab (aL bQ (m2 cG (ag k7 (aa (mV bA) (aa (mV cg) ah))) (mK (.int 2))))
 (ab (aL bA (ag k7 (aa (mV bQ) (aa (mV cR) ah))))
 (ab (km (mV du) (mV dk) (mV bA))
 (ab (sIf (aE cLt (mV bA) (mV bF)) (ab (aL bF (mV bA))
 ak) ak)
 ak))))))
def mS : SM := (ab (aL g8 (m2 az (mV n_b) (mV dh)))
 (ab (m6 cg bA (m2 dN (mV dh) (mK (.int 2))))
 (ab (aL bF (mK (.int 9223372036854775807)))
 (ab (fe (ag aZ (aa (ag bZ (aa (mV n_a) ah)) ah)) dk rR)
 (ab (sIf (aE cGt (mV bF) (mV aV)) (ab (bj (m2 cG (mV aV) (mK (.int 1))))
 ak) ak)
 ak)))))
def wc1 : CM := (cj (dT (bW (mV n_a) (bc (mV b8)) be)) (cj (dT (bW (mV n_b) (bc (mV b8)) be)) (cj (aE gEq (m2 az (mV n_a) (mV b8)) (m2 az (mV n_b) (mV b8))) (cK true))))
def wb1 : SM := (ab (m8 b8 o3 (mK (.int 1)))
 ak)
def wc2 : CM := (cj (dT (bW (mV n_a) be (bc (mOr (mV b7) (mK .none))))) (cj (dT (bW (mV n_b) be (bc (mOr (mV b7) (mK .none))))) (cj (aE gEq (m2 az (mV n_a) (m2 cD (mV b7) (mK (.int 1)))) (m2 az (mV n_b) (m2 cD (mV b7) (mK (.int 1))))) (cK true))))
def wb2 : SM := (ab (m8 b7 cD (mK (.int 1)))
 ak)
def IQ : SM := (ab (fe (ag aZ (aa (ag bZ (aa (mV n_b) ah)) ah)) dh mS)
 (ab (bj (mV bA))
 ak))
def BR : SM := (ab (sIf (aE cGt (m2 dN (m2 cD (ag bZ (aa (mV n_b) ah)) (ag bZ (aa (mV n_a) ah))) (mK (.int 2))) (mV aV)) (ab (bj (m2 cG (mV aV) (mK (.int 1))))
 ak) ak)
 (ab (aL du (ag jS (aa (ag aZ (aa (mK (.int 2)) (aa (m2 dN (mK (.int 2)) (m2 cG (ag bZ (aa (mV n_a) ah)) (mK (.int 1)))) (aa (mK (.int 2)) ah)))) ah)))
 (ab (aL bA (mK (.int 0)))
 IQ)))
def BS : SM := (ab (sIf (aE cLt (ag bZ (aa (mV n_b) ah)) (ag bZ (aa (mV n_a) ah))) (ab (m5 n_a n_b (b9 (aa (mV n_b) (aa (mV n_a) ah))))
 ak) ak)
 BR)
def IP : SM := (ab (sIf (cOr (ig (dT (mV n_a))) (cOr (ig (dT (mV n_b))) (cK false))) (ab (bj (m2 dN (mK (.int 2)) (m2 cG (ag bZ (aa (mV n_a) ah)) (ag bZ (aa (mV n_b) ah)))))
 ak) ak)
 (ab (sIf (cOr (aE cGt (ag bZ (aa (mV n_a) ah)) (mK (.int 40))) (cOr (aE cGt (ag bZ (aa (mV n_b) ah)) (mK (.int 40))) (cK false))) (ab (bj (m2 cG (mV aV) (mK (.int 1))))
 ak) ak)
 BS))
noncomputable def mnN (s t : Nat) : Nat := match Nat.blt s t with
 | true => s
 | false => t
def fq (c : Nat) : List Nat → List Nat → Nat → Nat → Nat → List Nat × Nat × Nat
 | x :: A, y :: R, d, r, mn => match mnN (d + i9 c x) (mnN y r + 2) with
  | r' => match fq c A R y r' (mnN r' mn) with
   | (R', q) => (r' :: R', q)
 | _, _, _, r, mn => ([], r, mn)
def nj (mx : Nat) (A : List Nat) : List Nat → Nat → List Nat → Nat → Nat
 | [], _, _, r => r
 | c :: B, k, R, _ => match fq c A R k k 9223372036854775807 with
  | (R', r', mn) => match Nat.blt mx mn with
   | true => mx + 1
   | false => nj mx A B (k + 2) R' r'
noncomputable def mis (l : List Nat) : List MV := l.map fun (n : Nat) => MV.int (n : Int)
theorem FS (s t : Nat) : (if (s : Int) < (t : Int) then (s : Int) else (t : Int)) = ((mnN s t : Nat) : Int) := by
 unfold mnN
 match q : Nat.blt s t with
 | true => rw [Nat.blt_eq] at q; rw [if_pos (by lia)]
 | false =>
  have : ¬ s < t := fun h => by rw [← Nat.blt_eq, q] at h; exact nB h
  rw [if_neg (by lia)]
def oG (e : ap) : Prop := e = [] ∨ ∃ x y z, e = [(dk, x), (cR, y), (bQ, z)]
def IV (a b : List Nat) (mx : Nat) (p q : Int) (ρ : Nat) (bi : Int) (c : Nat) (r d mn : Nat) (e : ap) : ap :=
 (n_a, .str a) :: (n_b, .str b) :: (aV, .int (mx : Nat)) :: (b8, .int p) :: (b7, .int q) :: (du, .ref (ρ + 1)) :: (bA, .int (r : Nat)) :: (dh, .int bi) :: (g8, .str [c]) :: (cg, .int (d : Nat)) :: (bF, .int (mn : Nat)) :: e
theorem lT {a b : Nat} : Nat.blt a b = decide (a < b) := by
 match q : Nat.blt a b with
 | true => rw [Nat.blt_eq] at q; simp [q]
 | false =>
  have : ¬ a < b := fun h => by rw [← Nat.blt_eq, q] at h; exact nB h
  simp [this]
theorem fH {a b : Nat} : Nat.ble a b = decide (a ≤ b) := by
 match q : Nat.ble a b with
 | true => simp [Nat.le_of_ble_eq_true q]
 | false =>
  have : ¬ a ≤ b := fun h => by rw [Nat.ble_eq_true_of_le h] at q; exact nT q
  simp [this]
theorem GY {n i : Nat} (h : i < n) : at? n (i : Int) = some i := by
 show (match Nat.blt i n with | true => some i | false => none) = _
 rw [lT, decide_eq_true h]
theorem eg {l : List Nat} {i : Nat} {x : Nat} {σ : ac} (h : l[i]? = some x) : az (.str l) (.int (i : Int)) σ = some (.str [x], σ) := by
 have hl := (List.getElem?_eq_some_iff.mp h).1
 unfold az
 simp only [GY hl, h]
theorem cC {σ : ac} {a i : Nat} {xs : List MV} {x : MV} (h : am σ a = some xs) (hi : xs[i]? = some x) (hb : xs.length ≤ 1000000) : az (.ref a) (.int (i : Int)) σ = some (x, σ) := by
 have hl := (List.getElem?_eq_some_iff.mp hi).1
 unfold az
 simp only [h, GY hl, Nat.ble_eq_true_of_le hb, hi]
theorem Ix {a b : List Nat} {mx : Nat} {p q : Int} {ρ : Nat} {bi : Int} {c r d mn i : Nat} {e : ap} {σ : ac} {row : List Nat} {x y : Nat} (he : oG e) (h0 : 1 ≤ σ.length) (hc : isA c = true) (hx : isA x = true) (ha : a[i]? = some x)
  (hr : am σ (ρ + 1) = some (mis row)) (hy : row[i]? = some y) (hb : row.length ≤ 1000) : ∃ e', oG e' ∧ rR (put (IV a b mx p q ρ bi c r d mn e) dk (.int (i : Nat))) σ =
   some (none, IV a b mx p q ρ bi c (mnN (d + i9 c x) (mnN y r + 2)) y (mnN (mnN (d + i9 c x) (mnN y r + 2)) mn) e', σ.set (ρ + 1) (mis (row.set i (mnN (d + i9 c x) (mnN y r + 2))))) := by
 have hyi : (mis row)[i]? = some (.int (y : Nat)) := by unfold mis; rw [List.getElem?_map, hy]; rfl
 have hlen : (mis row).length = row.length := by unfold mis; simp
 have hi : i < (mis row).length := (List.getElem?_eq_some_iff.mp hyi).1
 generalize hR : mnN (d + i9 c x) (mnN y r + 2) = R
 have min1 : k7 [.int (r : Nat), .int (y : Nat)] σ = some (.int ((mnN y r : Nat) : Int), σ) := by
  show some (MV.int (if (y : Int) < (r : Int) then (y : Int) else (r : Int)), σ) = _
  rw [FS]
 have min2 : k7 [.int (((mnN y r : Nat) : Int) + 2), .int ((d : Nat) + (i9 c x : Nat) : Int)] σ = some (.int (R : Nat), σ) := by
  show some (MV.int (if ((d : Int) + (i9 c x : Int)) < ((mnN y r : Nat) : Int) + 2 then ((d : Int) + (i9 c x : Int)) else ((mnN y r : Nat) : Int) + 2), σ) = _
  have := FS (d + i9 c x) (mnN y r + 2)
  rw [hR] at this
  rw [← this]
  simp
 have hset : (mis row).set i (.int (R : Nat)) = mis (row.set i R) := by unfold mis; rw [List.map_set]
 have last : ∀ (V : ap) (σ' : ac), lk V bA = some (.int (R : Nat)) → lk V bF = some (.int (mn : Nat)) → ab (sIf (aE cLt (mV bA) (mV bF)) (ab (aL bF (mV bA)) ak) ak) ak V σ' = some (none, (if R < mn then put V bF (.int (R : Nat)) else V), σ') := by
  intro V σ' h1 h2
  by_cases h : R < mn
  ·rw [if_pos h]
   exact rbC (bL (aU (rV h1) (rV h2) (congrArg some (decide_eq_true (by lia)))) (rbC (bp (rV h1)) aM)) aM
  ·rw [if_neg h]
   exact rbC (aW (aU (rV h1) (rV h2) (congrArg some (decide_eq_false (by lia)))) aM) aM
 have hmn : mnN R mn = if R < mn then R else mn := by
  unfold mnN; rw [lT]; by_cases h : R < mn <;> simp [h]
 have main : ∀ e, oG e → ∃ e' V', rR (put (IV a b mx p q ρ bi c r d mn e) dk (.int (i : Nat))) σ = some (none, V', σ.set (ρ + 1) (mis (row.set i R))) ∧ oG e' ∧ V' = IV a b mx p q ρ bi c R y (mnN R mn) e' := by
  intro e he
  refine ⟨[(dk, .int (i : Nat)), (cR, .int ((d : Nat) + (i9 c x : Nat) : Int)), (bQ, .int (((mnN y r : Nat) : Int) + 2))], (if R < mn then put (IV a b mx p q ρ bi c R y mn [(dk, .int (i : Nat)), (cR, .int ((d : Nat) + (i9 c x : Nat) : Int)), (bQ, .int (((mnN y r : Nat) : Int) + 2))]) bF (.int (R : Nat)) else (IV a b mx p q ρ bi c R y mn [(dk, .int (i : Nat)), (cR, .int ((d : Nat) + (i9 c x : Nat) : Int)), (bQ, .int (((mnN y r : Nat) : Int) + 2))])), ?_, .inr ⟨_, _, _, rfl⟩, ?_⟩
  ·rcases he with rfl | ⟨x1, y1, z1, rfl⟩ <;>
   ·refine rbC (bp (r2 (rV rfl) (aK (af (rV rfl) (af (r2 (rV rfl) (rV rfl) (eg ha)) aD)) (v8 h0 hc hx)) rfl)) ?_
    refine rbC (bp (r2 (rV rfl) (rV rfl) (cC hr hyi (by lia)))) ?_
    refine rbC (bp (r2 (aK (af (rV rfl) (af (rV rfl) aD)) min1) rK rfl)) ?_
    refine rbC (bp (aK (af (rV rfl) (af (rV rfl) aD)) min2)) ?_
    refine rbC (IU (rV rfl) (rV rfl) (rV rfl) hr hi (by lia)) ?_
    rw [hset]
    exact last _ _ rfl rfl
  ·rw [hmn]
   by_cases h : R < mn
   ·rw [if_pos h, if_pos h]; rfl
   ·rw [if_neg h, if_neg h]
 refine e23 (main e he) fun e' V' h1 h2 z4 => ?_; subst z4
 exact ⟨e', h2, h1⟩
theorem il {a c : Int} {n : Nat} {its : List MV} {σ : ac} : ck (.rng a c n) its σ = true := rfl
theorem jb {σ : ac} {i : Nat} {xs : List MV} (h : am σ i = some xs) : σ.set i xs = σ := by
 obtain ⟨hi, e⟩ := List.getElem?_eq_some_iff.mp h
 rw [← e]; exact List.set_getElem_self hi
theorem zL {a b : List Nat} {mx : Nat} {p q : Int} {ρ : Nat} {bi : Int} {c : Nat} (hc : isA c = true) (hlen : a.length ≤ 1000) {its : List MV} {nn : Nat} : ∀ (Ar Ad R Dn : List Nat) (r d mn : Nat) (e : ap) (σ : ac), a = Ad ++ Ar → Ar.all isA = true → Dn.length = Ad.length → R.length = Ar.length → oG e → 1 ≤ σ.length → am σ (ρ + 1) = some (mis (Dn ++ R)) →
  ∃ d' e', oG e' ∧ eK (.rng 0 1 nn) its dk rR (bu (Ad.length : Nat) 1 Ar.length) (IV a b mx p q ρ bi c r d mn e) σ = some (none, IV a b mx p q ρ bi c (fq c Ar R d r mn).2.1 d' (fq c Ar R d r mn).2.2 e', σ.set (ρ + 1) (mis (Dn ++ (fq c Ar R d r mn).1)))
 | [], Ad, R, Dn, r, d, mn, e, σ, hA, hAl, hD, hR, he, h0, hs => by
  have : R = [] := List.length_eq_zero_iff.mp hR
  subst this
  refine ⟨d, e, he, ?_⟩
  show eK _ _ _ _ [] _ _ = some (none, IV a b mx p q ρ bi c r d mn e, σ.set (ρ + 1) (mis (Dn ++ [])))
  rw [jb hs]
  exact cP il
 | x :: Ar, Ad, [], Dn, r, d, mn, e, σ, hA, hAl, hD, hR, he, h0, hs => by simp at hR
 | x :: Ar, Ad, y :: R, Dn, r, d, mn, e, σ, hA, hAl, hD, hR, he, h0, hs => by
  rw [List.all_cons, Bool.and_eq_true] at hAl
  have ha : a[Ad.length]? = some x := by rw [hA]; simp
  have hy : (Dn ++ y :: R)[Ad.length]? = some y := by rw [← hD]; simp
  have hb : (Dn ++ y :: R).length ≤ 1000 := by
   have : a.length = Ad.length + (Ar.length + 1) := by rw [hA]; simp
   simp at hR ⊢; lia
  refine e12 (Ix (mx := mx) (p := p) (q := q) (bi := bi) (r := r) (d := d) (mn := mn) (b := b) he h0 hc hAl.1 ha hs hy hb) fun e1 he1 run1 => ?_
  generalize hr' : mnN (d + i9 c x) (mnN y r + 2) = r' at run1
  have hrow : (Dn ++ y :: R).set Ad.length r' = (Dn ++ [r']) ++ R := by rw [← hD, List.set_append_right _ _ (Nat.le_refl _)]; simp
  rw [hrow] at run1
  obtain ⟨d2, e2, he2, run2⟩ := zL hc hlen (its := its) (nn := nn) Ar (Ad ++ [x]) R (Dn ++ [r']) r' y (mnN r' mn) e1 (σ.set (ρ + 1) (mis (Dn ++ [r'] ++ R))) (by rw [hA]; simp) hAl.2 (by simp [hD]) (by simpa using hR) he1 (by simpa using h0) (cA hs)
  have hin : fq c (x :: Ar) (y :: R) d r mn = (r' :: (fq c Ar R y r' (mnN r' mn)).1, (fq c Ar R y r' (mnN r' mn)).2) := by
   show (match mnN (d + i9 c x) (mnN y r + 2) with | r' => match fq c Ar R y r' (mnN r' mn) with | (R', q) => (r' :: R', q)) = _
   rw [hr']
  rw [hin]
  refine ⟨d2, e2, he2, ?_⟩
  refine bE il run1 ?_
  have hpos : ((Ad.length : Nat) : Int) + 1 = (((Ad ++ [x]).length : Nat) : Int) := by simp
  rw [hpos]
  rw [List.set_set] at run2
  have : Dn ++ r' :: (fq c Ar R y r' (mnN r' mn)).1 = Dn ++ [r'] ++ (fq c Ar R y r' (mnN r' mn)).1 := by simp
  rw [this]
  exact run2
def IN (e : ap) : Prop := e = [] ∨ ∃ x y z t f, oG f ∧ e = (dh, x) :: (g8, y) :: (cg, z) :: (bF, t) :: f
def OV (a b : List Nat) (mx : Nat) (p q : Int) (ρ : Nat) (r : Nat) (e : ap) : ap :=
 (n_a, .str a) :: (n_b, .str b) :: (aV, .int (mx : Nat)) :: (b8, .int p) :: (b7, .int q) :: (du, .ref (ρ + 1)) :: (bA, .int (r : Nat)) :: e
theorem rF {n : Nat} (h : n ≤ 18446744073709551615) : fit (n : Int) = true := by
 unfold fit; exact Nat.ble_eq_true_of_le (by simpa using h)
theorem len_str {l : List Nat} {σ : ac} : bZ [.str l] σ = some (.int l.length, σ) := rfl
theorem nf {n : Nat} {σ : ac} (h : n ≤ 1000000) : aZ [.int (n : Int)] σ = some (.rng 0 1 n, σ) := by
 unfold aZ
 have : Nat.ble (n : Int).natAbs 1000000 = true := Nat.ble_eq_true_of_le (by simpa using h)
 simp only [this, Int.toNat_natCast]
theorem oZ (c : Nat) : ∀ (A R : List Nat) (d r mn : Nat), R.length = A.length → (fq c A R d r mn).1.length = A.length
 | [], R, d, r, mn, h => rfl
 | x :: A, [], d, r, mn, h => by simp at h
 | x :: A, y :: R, d, r, mn, h => by
  show (_ :: (fq c A R y _ _).1).length = _
  rw [List.length_cons, oZ c A R _ _ _ (by simpa using h)]; rfl
theorem B5 {a b : List Nat} {mx : Nat} {p q : Int} {ρ r i c : Nat} {e : ap} {σ : ac} {row : List Nat} (he : IN e) (h0 : 1 ≤ σ.length) (hc : isA c = true) (hA : a.all isA = true) (hlen : a.length ≤ 1000) (hi : i ≤ 1000) (hb : b[i]? = some c) (hr : am σ (ρ + 1) = some (mis row)) (hrow : row.length = a.length) :
  ∃ V' f, mS (put (OV a b mx p q ρ r e) dh (.int (i : Nat))) σ = some (if mx < (fq c a row (2 * i) (2 * i) 9223372036854775807).2.2 then some (.int ((mx : Int) + 1)) else none, V', σ.set (ρ + 1) (mis (fq c a row (2 * i) (2 * i) 9223372036854775807).1)) ∧
   V' = OV a b mx p q ρ (fq c a row (2 * i) (2 * i) 9223372036854775807).2.1 f ∧ IN f := by
 have loop : ∀ f, oG f → ∃ d' e', oG e' ∧ _ := fun f hf => zL (a := a) (b := b) (mx := mx) (p := p) (q := q) (ρ := ρ) (bi := (i : Nat)) hc hlen (its := bu 0 1 a.length) (nn := a.length) a [] row [] (2 * i) (2 * i) 9223372036854775807 f σ rfl hA rfl hrow hf h0 hr
 have mul2 : dN (.int (i : Nat)) (.int 2) σ = some (.int ((2 * i : Nat) : Int), σ) := by
  unfold dN
  simp only [rF (n := i) (by lia)]
  rw [show ((i : Nat) : Int) * 2 = ((2 * i : Nat) : Int) by push_cast; lia]
 generalize hq : fq c a row (2 * i) (2 * i) 9223372036854775807 = qq at loop ⊢
 obtain ⟨R', r', mn⟩ := qq
 have big : ((9223372036854775807 : Nat) : Int) = 9223372036854775807 := rfl
 have fin : ∀ f, oG f → (e = [] ∧ f = [] ∨ ∃ x y z t, e = (dh, x) :: (g8, y) :: (cg, z) :: (bF, t) :: f) → ∃ V' f', IN f' ∧ (mS (put (OV a b mx p q ρ r e) dh (.int (i : Nat))) σ = some (if mx < mn then some (.int ((mx : Int) + 1)) else none, V', σ.set (ρ + 1) (mis R')) ∧ V' = OV a b mx p q ρ r' f') := by
  intro f hf hef
  refine e22 (loop f hf) fun d' e' he' run => ?_
  refine ⟨IV a b mx p q ρ (i : Nat) c r' d' mn e', (dh, .int (i : Nat)) :: (g8, .str [c]) :: (cg, .int (d' : Nat)) :: (bF, .int (mn : Nat)) :: e', .inr ⟨_, _, _, _, e', he', rfl⟩, ?_, rfl⟩
  have last : ∀ σ', ab (sIf (aE cGt (mV bF) (mV aV)) (ab (bj (m2 cG (mV aV) (mK (.int 1)))) ak) ak) ak (IV a b mx p q ρ (i : Nat) c r' d' mn e') σ' = some (if mx < mn then some (.int ((mx : Int) + 1)) else none, IV a b mx p q ρ (i : Nat) c r' d' mn e', σ') := by
   intro σ'
   by_cases h : mx < mn
   ·rw [if_pos h]
    exact rbR (bL (aU (rV rfl) (rV rfl) (congrArg some (decide_eq_true (by lia)))) (rbR (et (r2 (rV rfl) rK rfl))))
   ·rw [if_neg h]
    exact rbC (aW (aU (rV rfl) (rV rfl) (congrArg some (decide_eq_false (by lia)))) aM) aM
  rcases hef with ⟨rfl, rfl⟩ | ⟨x, y, z, t, rfl⟩ <;>
  ·refine rbC (bp (r2 (rV rfl) (rV rfl) (eg hb))) ?_
   refine rbC (Nl (r2 (rV rfl) rK mul2)) ?_
   refine rbC (bp rK) ?_
   refine rbC (kr (aK (af (aK (af (rV rfl) aD) len_str) aD) (nf (by lia))) rfl run) ?_
   exact last _
 rcases he with rfl | ⟨x, y, z, t, f, hf, rfl⟩
 ·refine e23 (fin [] (.inl rfl) (.inl ⟨rfl, rfl⟩)) fun V' f' h1 h2 h3 => ?_
  exact ⟨V', f', h2, h3, h1⟩
 ·refine e23 (fin f hf (.inr ⟨_, _, _, _, rfl⟩)) fun V' f' h1 h2 h3 => ?_
  exact ⟨V', f', h2, h3, h1⟩
theorem sJ {a b : List Nat} {mx : Nat} {p q : Int} {ρ : Nat} (hA : a.all isA = true) (hlen : a.length ≤ 1000) (hlb : b.length ≤ 1000) {its : List MV} {nn : Nat} : ∀ (Br Bd row : List Nat) (r : Nat) (e : ap) (σ : ac), b = Bd ++ Br → Br.all isA = true → row.length = a.length → IN e → 1 ≤ σ.length → am σ (ρ + 1) = some (mis row) →
  ∃ rr V' row' f, eK (.rng 0 1 nn) its dh mS (bu (Bd.length : Nat) 1 Br.length) (OV a b mx p q ρ r e) σ = some (rr, V', σ.set (ρ + 1) (mis row')) ∧
   (match rr with
    | some v => v = .int ((nj mx a Br (2 * Bd.length) row r : Nat) : Int)
    | none => V' = OV a b mx p q ρ (nj mx a Br (2 * Bd.length) row r) f)
 | [], Bd, row, r, e, σ, hB, hBl, hrow, he, h0, hs => by
  refine ⟨none, _, row, e, ?_, rfl⟩
  rw [jb hs]
  exact cP il
 | c :: Br, Bd, row, r, e, σ, hB, hBl, hrow, he, h0, hs => by
  rw [List.all_cons, Bool.and_eq_true] at hBl
  have hb : b[Bd.length]? = some c := by rw [hB]; simp
  have hi : Bd.length ≤ 1000 := by
   have : b.length = Bd.length + (Br.length + 1) := by rw [hB]; simp
   lia
  refine e23 (B5 (mx := mx) (p := p) (q := q) (r := r) he h0 hBl.1 hA hlen hi hb hs hrow) fun V' f run hV hf => ?_
  have hout : nj mx a (c :: Br) (2 * Bd.length) row r = match fq c a row (2 * Bd.length) (2 * Bd.length) 9223372036854775807 with
    | (R', r', mn) => match Nat.blt mx mn with
     | true => mx + 1
     | false => nj mx a Br (2 * Bd.length + 2) R' r' := rfl
  rw [hout]
  have hil := oZ c a row (2 * Bd.length) (2 * Bd.length) 9223372036854775807 hrow
  generalize fq c a row (2 * Bd.length) (2 * Bd.length) 9223372036854775807 = qq at run hV hil ⊢
  obtain ⟨R', r', mn⟩ := qq
  dsimp only at run hV hil ⊢
  rw [lT]
  by_cases h : mx < mn
  ·rw [if_pos h] at run
   rw [decide_eq_true h]
   exact ⟨_, V', R', f, BZ il run, by simp⟩
  ·rw [if_neg h] at run
   rw [decide_eq_false h]
   subst hV
   obtain ⟨rr, V2, row2, f2, run2, h2⟩ := sJ hA hlen hlb (its := its) (nn := nn) Br (Bd ++ [c]) R' r' f (σ.set (ρ + 1) (mis R')) (by rw [hB]; simp) hBl.2 hil hf (by simpa using h0) (cA hs)
   have hpos : ((Bd.length : Nat) : Int) + 1 = (((Bd ++ [c]).length : Nat) : Int) := by simp
   have hk : 2 * (Bd ++ [c]).length = 2 * Bd.length + 2 := by simp; lia
   rw [hk] at h2
   refine ⟨rr, V2, row2, f2, bE il run ?_, h2⟩
   rw [hpos]
   rw [List.set_set] at run2
   exact run2
noncomputable def cpl : List Nat → List Nat → Nat
 | x :: a, y :: b => match Nat.beq x y with
  | true => cpl a b + 1
  | false => 0
 | _, _ => 0
theorem kh {p : Nat} {l : List Nat} : cut (some (p : Int)) none l = l.drop p := by
 unfold cut
 show ((l.drop (match Nat.ble p l.length with | true => p | false => l.length)).take (l.length - (match Nat.ble p l.length with | true => p | false => l.length))) = l.drop p
 rw [fH]
 by_cases h : p ≤ l.length
 ·rw [decide_eq_true h]
  dsimp only
  rw [List.take_of_length_le (by simp)]
 ·rw [decide_eq_false h]
  dsimp only
  rw [List.drop_length, List.drop_of_length_le (by lia)]; simp
theorem MY {q : Nat} {l : List Nat} : cut none (some (Int.negSucc q)) l = l.take (l.length - (q + 1)) := by
 unfold cut
 show (l.drop 0).take (l.length - (q + 1) - 0) = _
 rfl
theorem ID {l : List Nat} : cut none none l = l := by
 unfold cut
 show (l.drop 0).take (l.length - 0) = _
 simp
def PV (a b : List Nat) (mx : Nat) (p : Nat) : ap := [(n_a, .str a), (n_b, .str b), (aV, .int (mx : Nat)), (b8, .int (p : Nat))]
def SV (a b : List Nat) (mx : Nat) (p : Nat) (q : Nat) : ap := [(n_a, .str a), (n_b, .str b), (aV, .int (mx : Nat)), (b8, .int (p : Nat)), (b7, .int (-(q : Int)))]
theorem wk {a b : List Nat} {mx : Nat} {σ : ac} : ∀ (Ar Br Ad Bd : List Nat) (n : Nat), a = Ad ++ Ar → b = Bd ++ Br → Ad.length = Bd.length → Ar.length < n → dP wc1 wb1 n (PV a b mx Ad.length) σ = some (none, PV a b mx (Ad.length + cpl Ar Br), σ)
 | [], Br, Ad, Bd, n + 1, hA, hB, hl, hn => by
  refine im (dj (fY (p := false) (by unfold bW bc be; rw [rV (V := PV a b mx Ad.length) (x := n_a) rfl]; dsimp only; rw [rV (V := PV a b mx Ad.length) (x := b8) rfl]) ?_))
  show some (Nat.ble 1 (cut (some (Ad.length : Int)) none a).length) = _
  rw [kh, hA]; simp; rfl
 | x :: Ar, [], Ad, Bd, n + 1, hA, hB, hl, hn => by
  refine im (bR (fY (p := true) (by unfold bW bc be; rw [rV (V := PV a b mx Ad.length) (x := n_a) rfl]; dsimp only; rw [rV (V := PV a b mx Ad.length) (x := b8) rfl]) ?_) (dj (fY (p := false) (by unfold bW bc be; rw [rV (V := PV a b mx Ad.length) (x := n_b) rfl]; dsimp only; rw [rV (V := PV a b mx Ad.length) (x := b8) rfl]) ?_)))
  ·show some (Nat.ble 1 (cut (some (Ad.length : Int)) none a).length) = _
   rw [kh, hA, fH]; simp
  ·show some (Nat.ble 1 (cut (some (Ad.length : Int)) none b).length) = _
   rw [kh, hB, hl]; simp; rfl
 | x :: Ar, y :: Br, Ad, Bd, n + 1, hA, hB, hl, hn => by
  have hx : a[Ad.length]? = some x := by rw [hA]; simp
  have hy : b[Ad.length]? = some y := by rw [hB, hl]; simp
  have hc : wc1 (PV a b mx Ad.length) σ = some (Nat.beq x y, σ) := by
   have e1 : ∀ V, lk V n_a = some (.str a) → lk V b8 = some (.int (Ad.length : Nat)) → dT (bW (mV n_a) (bc (mV b8)) be) V σ = some (true, σ) := fun V h1 h2 => by
    refine fY (by unfold bW bc be; rw [rV h1]; dsimp only; rw [rV h2]) ?_
    show some (Nat.ble 1 (cut (some (Ad.length : Int)) none a).length) = _
    rw [kh, hA, fH]; simp
   have e2 : ∀ V, lk V n_b = some (.str b) → lk V b8 = some (.int (Ad.length : Nat)) → dT (bW (mV n_b) (bc (mV b8)) be) V σ = some (true, σ) := fun V h1 h2 => by
    refine fY (by unfold bW bc be; rw [rV h1]; dsimp only; rw [rV h2]) ?_
    show some (Nat.ble 1 (cut (some (Ad.length : Int)) none b).length) = _
    rw [kh, hB, fH, hl]; simp
   have e3 : aE gEq (m2 az (mV n_a) (mV b8)) (m2 az (mV n_b) (mV b8)) (PV a b mx Ad.length) σ = some (Nat.beq x y, σ) := by
    refine aU (r2 (rV rfl) (rV rfl) (eg hx)) (r2 (rV rfl) (rV rfl) (eg hy)) ?_
    show some (leq [x] [y]) = _
    unfold leq
    cases Nat.beq x y <;> rfl
   refine bR (e1 _ rfl rfl) (bR (e2 _ rfl rfl) ?_)
   match h : Nat.beq x y with
   | true => rw [h] at e3; exact bR e3 rfl
   | false => rw [h] at e3; exact dj e3
  show _ = some (none, PV a b mx (Ad.length + (match Nat.beq x y with | true => cpl Ar Br + 1 | false => 0)), σ)
  match h : Nat.beq x y with
  | false => rw [h] at hc; exact im hc
  | true =>
   rw [h] at hc
   have ih := wk (a := a) (b := b) (mx := mx) (σ := σ) Ar Br (Ad ++ [x]) (Bd ++ [y]) n (by rw [hA]; simp) (by rw [hB]; simp) (by simp [hl]) (by simpa using hn)
   have e : (Ad ++ [x]).length = Ad.length + 1 := by simp
   rw [e] at ih
   refine sx hc (rbC (Mn (v := .int ((Ad.length + 1 : Nat) : Int)) rfl rK rfl) aM) ?_
   have e2 : Ad.length + 1 + cpl Ar Br = Ad.length + (cpl Ar Br + 1) := by lia
   rw [e2] at ih
   exact ih
theorem CV (q : Nat) : (-((q + 1 : Nat) : Int)) = Int.negSucc q := rfl
theorem gE {V : ap} {x : Nat} {l : List Nat} {q : Nat} {σ : ac} (h1 : lk V x = some (.str l)) (h2 : lk V b7 = some (.int (-(q : Int)))) : bW (mV x) be (bc (mOr (mV b7) (mK .none))) V σ = some (.str (l.take (l.length - q)), σ) := by
 unfold bW bc be mOr
 rw [rV h1]; dsimp only; rw [rV h2]
 cases q with
 | zero =>
  have : tM (.int (-((0 : Nat) : Int))) σ = some false := rfl
  simp only [this, mK, ID]
  simp
 | succ q =>
  have : tM (.int (-((q + 1 : Nat) : Int))) σ = some true := congrArg some (decide_eq_true (by lia))
  simp only [this]
  rw [CV, MY]
theorem tK {l : List Nat} {q x : Nat} {σ : ac} (h : l.reverse[q]? = some x) : az (.str l) (.int (-(q : Int) - 1)) σ = some (.str [x], σ) := by
 have hq : q < l.length := by simpa using (List.getElem?_eq_some_iff.mp h).1
 have e : (-(q : Int) - 1) = Int.negSucc q := by lia
 rw [e]
 unfold az
 have e1 : at? l.length (Int.negSucc q) = some (l.length - (q + 1)) := by
  show (match Nat.blt q l.length with | true => some (l.length - (q + 1)) | false => none) = _
  rw [lT, decide_eq_true hq]
 rw [List.getElem?_reverse hq] at h
 have e2 : l.length - (q + 1) = l.length - 1 - q := by lia
 simp only [e1, e2, h]
theorem wg {a b : List Nat} {mx p : Nat} {σ : ac} : ∀ (Ar Br Ad Bd : List Nat) (n : Nat), a.reverse = Ad ++ Ar → b.reverse = Bd ++ Br → Ad.length = Bd.length → Ar.length < n → dP wc2 wb2 n (SV a b mx p Ad.length) σ = some (none, SV a b mx p (Ad.length + cpl Ar Br), σ)
 | [], Br, Ad, Bd, n + 1, hA, hB, hl, hn => by
  have hal : a.length = Ad.length := by have := congrArg List.length hA; simpa using this
  refine im (dj (fY (p := false) (gE rfl rfl) ?_))
  show some (Nat.ble 1 (a.take (a.length - Ad.length)).length) = _
  rw [hal]; simp; rfl
 | x :: Ar, [], Ad, Bd, n + 1, hA, hB, hl, hn => by
  have hal : a.length = Ad.length + (Ar.length + 1) := by have := congrArg List.length hA; simpa using this
  have hbl : b.length = Ad.length := by have := congrArg List.length hB; simpa [hl] using this
  refine im (bR (fY (p := true) (gE rfl rfl) ?_) (dj (fY (p := false) (gE rfl rfl) ?_)))
  ·show some (Nat.ble 1 (a.take (a.length - Ad.length)).length) = _
   rw [fH, List.length_take]; simp; lia
  ·show some (Nat.ble 1 (b.take (b.length - Ad.length)).length) = _
   rw [hbl]; simp; rfl
 | x :: Ar, y :: Br, Ad, Bd, n + 1, hA, hB, hl, hn => by
  have hal : a.length = Ad.length + (Ar.length + 1) := by have := congrArg List.length hA; simpa using this
  have hbl : b.length = Ad.length + (Br.length + 1) := by have := congrArg List.length hB; simpa [hl] using this
  have hx : a.reverse[Ad.length]? = some x := by rw [hA]; simp
  have hy : b.reverse[Ad.length]? = some y := by rw [hB, hl]; simp
  have hc : wc2 (SV a b mx p Ad.length) σ = some (Nat.beq x y, σ) := by
   have e3 : aE gEq (m2 az (mV n_a) (m2 cD (mV b7) (mK (.int 1)))) (m2 az (mV n_b) (m2 cD (mV b7) (mK (.int 1)))) (SV a b mx p Ad.length) σ = some (Nat.beq x y, σ) := by
    refine aU (r2 (rV rfl) (r2 (rV rfl) rK rfl) (tK hx)) (r2 (rV rfl) (r2 (rV rfl) rK rfl) (tK hy)) ?_
    show some (leq [x] [y]) = _
    unfold leq
    cases Nat.beq x y <;> rfl
   refine bR (fY (gE rfl rfl) ?_) (bR (fY (gE rfl rfl) ?_) ?_)
   ·show some (Nat.ble 1 (a.take (a.length - Ad.length)).length) = _
    rw [fH, List.length_take]; simp; lia
   ·show some (Nat.ble 1 (b.take (b.length - Ad.length)).length) = _
    rw [fH, List.length_take]; simp; lia
   match h : Nat.beq x y with
   | true => rw [h] at e3; exact bR e3 rfl
   | false => rw [h] at e3; exact dj e3
  show _ = some (none, SV a b mx p (Ad.length + (match Nat.beq x y with | true => cpl Ar Br + 1 | false => 0)), σ)
  match h : Nat.beq x y with
  | false => rw [h] at hc; exact im hc
  | true =>
   rw [h] at hc
   have ih := wg (a := a) (b := b) (mx := mx) (p := p) (σ := σ) Ar Br (Ad ++ [x]) (Bd ++ [y]) n (by rw [hA]; simp) (by rw [hB]; simp) (by simp [hl]) (by simpa using hn)
   have e : (Ad ++ [x]).length = Ad.length + 1 := by simp
   rw [e] at ih
   have es : cD (.int (-(Ad.length : Int))) (.int 1) σ = some (.int (-((Ad.length + 1 : Nat) : Int)), σ) := by
    show some (MV.int (-(Ad.length : Int) - 1), σ) = _
    rw [show -(Ad.length : Int) - 1 = -((Ad.length + 1 : Nat) : Int) by lia]
   refine sx hc (rbC (Mn rfl rK es) aM) ?_
   have e2 : Ad.length + 1 + cpl Ar Br = Ad.length + (cpl Ar Br + 1) := by lia
   rw [e2] at ih
   exact ih
noncomputable def ko : Nat → Nat → List Nat
 | _, 0 => []
 | k, n + 1 => k :: ko (k + 2) n
theorem BP : ∀ (n k : Nat), bu (k : Int) 2 n = mis (ko k n) := by
 intro n
 induction n with
 | zero =>
  intro k
  exact rfl
 | succ n ih =>
  intro k
  show MV.int (k : Int) :: bu ((k : Int) + 2) 2 n = MV.int (k : Int) :: mis (ko (k + 2) n)
  have := ih (k + 2)
  rw [show ((k + 2 : Nat) : Int) = (k : Int) + 2 by simp] at this
  rw [this]
theorem BQ : ∀ (n k : Nat), (ko k n).length = n := by
 intro n
 induction n with
 | zero =>
  intro k
  exact rfl
 | succ n ih =>
  intro k
  rw [ko, List.length_cons, ih]
def AC (a b : List Nat) (mx : Nat) : Nat := match Nat.blt mx ((b.length - a.length) * 2) with
 | true => mx + 1
 | false => nj mx a b 0 (ko 2 a.length) 0
def MD (a b : List Nat) (mx : Nat) : Nat := match Nat.ble 1 a.length && Nat.ble 1 b.length with
 | false => 2 * (a.length + b.length)
 | true => match Nat.blt b.length a.length with
  | true => AC b a mx
  | false => AC a b mx
def fp (a b : List Nat) (mx : Nat) : Nat := match leq a b with
 | true => 0
 | false => match cpl a b with
  | p => match a.drop p, b.drop p with
   | a, b => match cpl a.reverse b.reverse with
    | s => MD (a.take (a.length - s)) (b.take (b.length - s)) mx
theorem BN (n : Nat) : Builtin.Range.rangeSize 2 (2 * ((n : Int) + 1)) 2 = (n : Int) := by
 unfold Builtin.Range.rangeSize
 rw [if_pos (by lia)]
 by_cases h : (2 : Int) < 2 * ((n : Int) + 1)
 ·rw [if_pos h]; lia
 ·rw [if_neg h]; lia
theorem O9 (n : Nat) : (Builtin.Range.rangeSize 2 (2 * ((n : Int) + 1)) 2).toNat = n := by rw [BN]; rfl
theorem k4 {i : Int} (h1 : -1000 ≤ i) (h2 : i ≤ 1000) : Builtin.Range.rangeFitsLong i = true := by
 have e1 : (-(2 ^ 63) : Int) ≤ -1000 := by decide
 have e2 : (1000 : Int) < 2 ^ 63 := by decide
 unfold Builtin.Range.rangeFitsLong
 rw [decide_eq_true (Int.le_trans e1 h1), decide_eq_true (Int.lt_of_le_of_lt h2 e2)]
 rfl
theorem H3 {a b c : Int} {n : Nat} {σ : ac} (e1 : Nat.ble 1 c.toNat = true) (e2 : Nat.ble c.natAbs 1000000 = true) (hs : Builtin.Range.small a b c = true) (h : (Builtin.Range.rangeSize a b c).toNat = n) : aZ [.int a, .int b, .int c] σ = some (.rng a c n, σ) := by
 subst h
 generalize hz : Builtin.Range.small a b c = z at hs
 subst hs
 unfold aZ
 simp only [e1, e2, hz]
theorem Mm {n : Nat} {σ : ac} (h : n ≤ 40) : aZ [.int 2, .int (2 * ((n : Int) + 1)), .int 2] σ = some (.rng 2 2 n, σ) := by
 generalize hm : 2 * ((n : Int) + 1) = m
 have e : Builtin.Range.rangeSize 2 m 2 = (n : Int) := by rw [← hm]; exact BN n
 refine H3 (Nat.ble_eq_true_of_le (by lia)) (Nat.ble_eq_true_of_le (by lia)) ?_ (by rw [e]; rfl)
 unfold Builtin.Range.small
 rw [e, k4 (i := 2) (by lia) (by lia), k4 (i := m) (by lia) (by lia), k4 (i := (n : Int)) (by lia) (by lia), if_pos (by lia), k4 (i := m + (2 - 1)) (by lia) (by lia)]
 simp
theorem qf {rr : Option MV} {V : ap} {σ : ac} {x : Option (Option MV × ap × ac)} (h : x = some (rr, V, σ)) : x = some (rr, V, σ ++ []) := by rw [List.append_nil]; exact h
theorem tF {a b : List Nat} {mx p : Nat} {q : Int} {σ : ac} (h0 : 1 ≤ σ.length) (hA : a.all isA = true) (hB : b.all isA = true) (ha : a.length ≤ 40) (hb : b.length ≤ 40) (hab : a.length ≤ b.length) :
  ∃ V' τ, BR [(n_a, .str a), (n_b, .str b), (aV, .int (mx : Nat)), (b8, .int (p : Nat)), (b7, .int q)] σ = some (some (.int ((AC a b mx : Nat) : Int)), V', σ ++ τ) := by
 have mul2 : dN (.int ((b.length : Int) - (a.length : Int))) (.int 2) σ = some (.int (((b.length - a.length) * 2 : Nat) : Int), σ) := by
  unfold dN
  have e : (b.length : Int) - (a.length : Int) = ((b.length - a.length : Nat) : Int) := by lia
  rw [e]
  simp only [rF (n := b.length - a.length) (by lia)]
  push_cast
  rfl
 unfold AC
 rw [lT]
 by_cases h : mx < (b.length - a.length) * 2
 ·rw [decide_eq_true h]
  exact ⟨_, [], qf (rbR (bL (aU (r2 (r2 (aK (af (rV rfl) aD) len_str) (aK (af (rV rfl) aD) len_str) rfl) rK mul2) (rV rfl) (congrArg some (decide_eq_true (by lia)))) (rbR (et (r2 (rV rfl) rK rfl)))))⟩
 ·rw [decide_eq_false h]
  have hrowlen : am (σ ++ [mis (ko 2 a.length)]) (σ.length - 1 + 1) = some (mis ([] ++ ko 2 a.length)) := by
   rw [Nat.sub_add_cancel h0]; exact aN σ _
  refine e42 (sJ (a := a) (b := b) (mx := mx) (p := (p : Nat)) (q := q) (ρ := σ.length - 1) hA (by lia) (by lia) (its := bu 0 1 b.length) (nn := b.length) b [] (ko 2 a.length) 0 [] (σ ++ [mis (ko 2 a.length)]) rfl hB (BQ _ _) (.inl rfl) (by simp) hrowlen) fun rr V' row' f run hrr => ?_
  rw [Nat.sub_add_cancel h0] at run
  rw [iJ, show [mis (ko 2 a.length)].set 0 (mis row') = [mis row'] from rfl] at run
  rw [show 2 * ([] : List Nat).length = 0 from rfl] at hrr
  show ∃ V' τ, _ = some (some (MV.int ((nj mx a b 0 (ko 2 a.length) 0 : Nat) : Int)), V', σ ++ τ)
  have mulr : dN (.int 2) (.int ((a.length : Int) + 1)) σ = some (.int (2 * ((a.length : Int) + 1)), σ) := rfl
  have tl : jS [.rng 2 2 a.length] σ = some (.ref σ.length, σ ++ [mis (ko 2 a.length)]) := by
   have e := BP a.length 2
   show (match Nat.ble a.length 1000000 with | true => some (MV.ref σ.length, σ ++ [bu ((2 : Nat) : Int) 2 a.length]) | false => none) = _
   rw [e, fH, decide_eq_true (by lia)]
  have hOV : put (put [(n_a, MV.str a), (n_b, .str b), (aV, .int (mx : Nat)), (b8, .int (p : Nat)), (b7, .int q)] du (.ref σ.length)) bA (.int 0) = OV a b mx (p : Nat) q (σ.length - 1) 0 [] := by
   unfold OV; rw [Nat.sub_add_cancel h0]; rfl
  have pre : ∀ {rr : Option MV} {V' : ap} {τ : ac}, IQ (OV a b mx (p : Nat) q (σ.length - 1) 0 []) (σ ++ [mis (ko 2 a.length)]) = some (rr, V', τ) → BR [(n_a, .str a), (n_b, .str b), (aV, .int (mx : Nat)), (b8, .int (p : Nat)), (b7, .int q)] σ = some (rr, V', τ) := fun hh => by
   refine rbC (aW (aU (r2 (r2 (aK (af (rV rfl) aD) len_str) (aK (af (rV rfl) aD) len_str) rfl) rK mul2) (rV rfl) (congrArg some (decide_eq_false (by lia)))) aM) ?_
   refine rbC (bp (aK (af (aK (af rK (af (r2 rK (r2 (aK (af (rV rfl) aD) len_str) rK rfl) mulr) (af rK aD))) (Mm ha)) aD) tl)) ?_
   refine rbC (bp rK) ?_
   rw [hOV]
   exact hh
  cases rr with
  | some v =>
   dsimp only at hrr
   subst hrr
   exact ⟨_, _, pre (rbR (kr (aK (af (aK (af (rV rfl) aD) len_str) aD) (nf (by lia))) rfl run))⟩
  | none =>
   dsimp only at hrr
   subst hrr
   exact ⟨_, _, pre (rbC (kr (aK (af (aK (af (rV rfl) aD) len_str) aD) (nf (by lia))) rfl run) (rbR (et (rV rfl))))⟩
theorem us {a : List Nat} (h : a.all isA = true) (n : Nat) : (a.drop n).all isA = true := List.all_eq_true.mpr fun x hx => List.all_eq_true.mp h x (List.mem_of_mem_drop hx)
theorem uq {a : List Nat} (h : a.all isA = true) (n : Nat) : (a.take n).all isA = true := List.all_eq_true.mpr fun x hx => List.all_eq_true.mp h x (List.mem_of_mem_take hx)
theorem Gb {a b : List Nat} {mx p : Nat} {q : Int} {σ : ac} (h0 : 1 ≤ σ.length) (hA : a.all isA = true) (hB : b.all isA = true) (ha : a.length ≤ 40) (hb : b.length ≤ 40) :
  ∃ V' τ, IP [(n_a, .str a), (n_b, .str b), (aV, .int (mx : Nat)), (b8, .int (p : Nat)), (b7, .int q)] σ = some (some (.int ((MD a b mx : Nat) : Int)), V', σ ++ τ) := by
 unfold MD
 have ret : ∀ (V : ap), lk V n_a = some (.str a) → lk V n_b = some (.str b) → ab (bj (m2 dN (mK (.int 2)) (m2 cG (ag bZ (aa (mV n_a) ah)) (ag bZ (aa (mV n_b) ah))))) ak V σ = some (some (.int ((2 * (a.length + b.length) : Nat) : Int)), V, σ) := fun V h1 h2 => by
  refine rbR (et (r2 rK (r2 (aK (af (rV h1) aD) len_str) (aK (af (rV h2) aD) len_str) rfl) ?_))
  show some (MV.int (2 * ((a.length : Int) + (b.length : Int))), σ) = _
  push_cast; rfl
 match h1 : Nat.ble 1 a.length with
 | false =>
  exact ⟨_, [], qf (rbR (bL (IT (ox (p := false) (fY (rV rfl) (congrArg some h1)))) (ret _ rfl rfl)))⟩
 | true => match h2 : Nat.ble 1 b.length with
  | false =>
   exact ⟨_, [], qf (rbR (bL (gC (ox (p := true) (fY (rV rfl) (congrArg some h1))) (IT (ox (p := false) (fY (rV rfl) (congrArg some h2))))) (ret _ rfl rfl)))⟩
  | true =>
   have skip : ∀ {V' : ap} {τ : ac} {rr : Option MV}, BS [(n_a, .str a), (n_b, .str b), (aV, .int (mx : Nat)), (b8, .int (p : Nat)), (b7, .int q)] σ = some (rr, V', σ ++ τ) → IP [(n_a, .str a), (n_b, .str b), (aV, .int (mx : Nat)), (b8, .int (p : Nat)), (b7, .int q)] σ = some (rr, V', σ ++ τ) := fun hq => by
    refine rbC (aW (gC (ox (p := true) (fY (rV rfl) (congrArg some h1))) (gC (ox (p := true) (fY (rV rfl) (congrArg some h2))) rfl)) aM) ?_
    refine rbC (aW (gC (aU (aK (af (rV rfl) aD) len_str) rK (congrArg some (decide_eq_false (by lia)))) (gC (aU (aK (af (rV rfl) aD) len_str) rK (congrArg some (decide_eq_false (by lia)))) rfl)) aM) ?_
    exact hq
   show ∃ V' τ, _ = some (some (MV.int (((match Nat.blt b.length a.length with | true => AC b a mx | false => AC a b mx) : Nat) : Int)), V', σ ++ τ)
   rw [lT]
   by_cases h : b.length < a.length
   ·rw [decide_eq_true h]
    obtain ⟨V', τ, run⟩ := tF (mx := mx) (p := p) (q := q) h0 hB hA hb ha (by lia)
    exact ⟨V', τ, skip (rbC (bL (aU (aK (af (rV rfl) aD) len_str) (aK (af (rV rfl) aD) len_str) (congrArg some (decide_eq_true (by lia)))) (rbC (Nk (dY (af (rV rfl) (af (rV rfl) aD)))) aM)) run)⟩
   ·rw [decide_eq_false h]
    obtain ⟨V', τ, run⟩ := tF (mx := mx) (p := p) (q := q) h0 hA hB ha hb (by lia)
    exact ⟨V', τ, skip (rbC (aW (aU (aK (af (rV rfl) aD) len_str) (aK (af (rV rfl) aD) len_str) (congrArg some (decide_eq_false (by lia)))) aM) run)⟩
theorem iG {a b : List Nat} {mx : Nat} {σ : ac} (h0 : 1 ≤ σ.length) (hA : a.all isA = true) (hB : b.all isA = true) (ha : a.length ≤ 40) (hb : b.length ≤ 40) : e9 [.str a, .str b, .int (mx : Nat)] σ = some (.int ((fp a b mx : Nat) : Int), σ) := by
 have main : ∃ V' τ, L7 ([n_a, n_b, aV].zip [.str a, .str b, .int (mx : Nat)]) σ = some (some (.int ((fp a b mx : Nat) : Int)), V', σ ++ τ) := by
  unfold fp
  match h : leq a b with
  | true =>
   exact ⟨_, [], qf (rbR (bL (aU (rV rfl) (rV rfl) (congrArg some h)) (rbR (et rK))))⟩
  | false =>
   have w1 := wk (a := a) (b := b) (mx := mx) (σ := σ) a b [] [] 50 rfl rfl rfl (by lia)
   have w2 := wg (a := a.drop (cpl a b)) (b := b.drop (cpl a b)) (mx := mx) (p := cpl a b) (σ := σ) (a.drop (cpl a b)).reverse (b.drop (cpl a b)).reverse [] [] 50 rfl rfl rfl (by simp; lia)
   have n1 : ([] : List Nat).length = 0 := rfl
   rw [n1, Nat.zero_add] at w1 w2
   generalize cpl a b = p at w1 w2 ⊢
   generalize hs : cpl (a.drop p).reverse (b.drop p).reverse = s at w2
   obtain ⟨V', τ, run⟩ := Gb (mx := mx) (p := p) (q := -(s : Int)) h0 (uq (us hA p) ((a.drop p).length - s)) (uq (us hB p) ((b.drop p).length - s)) (by simp; lia) (by simp; lia)
   dsimp only
   rw [hs]
   refine ⟨V', τ, ?_⟩
   have ecut : ∀ (V : ap) (x : Nat) (l : List Nat), lk V x = some (.str l) → lk V b8 = some (.int (p : Nat)) → bW (mV x) (bc (mV b8)) be V σ = some (.str (l.drop p), σ) := fun V x l h1 h2 => by
    unfold bW bc be; rw [rV h1]; dsimp only; rw [rV h2]; dsimp only; rw [kh]
   refine rbC (aW (aU (rV rfl) (rV rfl) (congrArg some h)) aM) ?_
   refine rbC (bp rK) ?_
   refine rbC w1 ?_
   refine rbC (bp (ecut _ _ _ rfl rfl)) ?_
   refine rbC (bp (ecut _ _ _ rfl rfl)) ?_
   refine rbC (bp rK) ?_
   refine rbC w2 ?_
   refine rbC (bp (gE rfl rfl)) ?_
   refine rbC (bp (gE rfl rfl)) ?_
   exact run
 refine e21 main fun V' τ run => ?_
 exact bH rfl h0 run (io rfl)
def Ob : SM := (ab (sIf (aE gEq (m2 bS (m2 cZ (mV au) (m2 gS (mK (.int 2)) (mV n_k))) (mK (.int 2))) (mK (.int 1))) (ab (dt (br (mV a5) bf (aa (mV aP) ah)))
 ak) (ab (dt (br (mV a5) bf (aa (ag jR (aa (m2 cD (ag jQ (aa (m2 az (mV bg) (mV n_k)) ah)) (m2 dN (mK (.int 32)) (m2 bS (m2 cZ (mV a6) (m2 gS (mK (.int 2)) (mV n_k))) (mK (.int 2))))) ah)) ah)))
 ak))
 ak)
theorem vT {v : MV} {its : List MV} {x : Nat} {c : CM} {e : EM} {V : ap} {σ1 : ac} {p : MV → Bool} {f : MV → MV} (st : ∀ τ, ck v its (σ1 ++ τ) = true) : ∀ (r acc : List MV) (τ : ac), (∀ a ∈ r, ∀ τ, ∃ τ', c (put V x a) (σ1 ++ τ) = some (p a, σ1 ++ (τ ++ τ'))) → (∀ a ∈ r, p a = true → ∀ τ, ∃ τ', e (put V x a) (σ1 ++ τ) = some (f a, σ1 ++ (τ ++ τ'))) → acc.length + r.length ≤ 1000000 → ∃ τ', di v its (bd1 x) σ1.length c e V r (σ1 ++ (acc :: τ)) = some (σ1 ++ ((acc ++ (r.filter p).map f) :: τ')) := by
 intro r
 induction r with
 | nil =>
  intro acc τ hc he hl
  refine ⟨τ, ?_⟩
  unfold di
  rw [st]
  simp
 | cons a r ih =>
  intro acc τ hc he hl
  obtain ⟨τ1, h1⟩ := hc a List.mem_cons_self (acc :: τ)
  have hl' : acc.length + (r.length + 1) ≤ 1000000 := by simpa using hl
  match hp : p a with
  | false =>
   obtain ⟨τ', ih⟩ := ih acc (τ ++ τ1) (fun b hb => hc b (List.mem_cons_of_mem _ hb)) (fun b hb => he b (List.mem_cons_of_mem _ hb)) (by lia)
   refine ⟨τ', ?_⟩
   unfold di
   rw [st]
   show (match c (put V x a) (σ1 ++ (acc :: τ)) with
    | none => none
    | some (false, σ1') => di v its (bd1 x) σ1.length c e V r σ1'
    | some (true, σ1') => _) = _
   rw [h1, hp]
   dsimp only
   rw [List.filter_cons, hp]
   exact ih
  | true =>
   obtain ⟨τ2, h2⟩ := he a List.mem_cons_self hp (acc :: τ ++ τ1)
   have hget : am (σ1 ++ (acc :: τ ++ τ1 ++ τ2)) σ1.length = some acc := by simp [am]
   have hset : (σ1 ++ (acc :: τ ++ τ1 ++ τ2)).set σ1.length (acc ++ [f a]) = σ1 ++ ((acc ++ [f a]) :: (τ ++ τ1 ++ τ2)) := by
    rw [iJ]; rfl
   obtain ⟨τ', ih⟩ := ih (acc ++ [f a]) (τ ++ τ1 ++ τ2) (fun b hb => hc b (List.mem_cons_of_mem _ hb)) (fun b hb => he b (List.mem_cons_of_mem _ hb)) (by simp; lia)
   refine ⟨τ', ?_⟩
   unfold di
   rw [st]
   show (match c (put V x a) (σ1 ++ (acc :: τ)) with
    | none => none
    | some (false, σ1') => di v its (bd1 x) σ1.length c e V r σ1'
    | some (true, σ1') => match e (put V x a) σ1' with
     | none => none
     | some (y, σ2) => match am σ2 σ1.length with
      | none => none
      | some acc => match Nat.ble acc.length 1000000 with
       | false => none
       | true => di v its (bd1 x) σ1.length c e V r (σ2.set σ1.length (acc ++ [y]))) = _
   rw [h1, hp]
   dsimp only
   rw [h2]
   dsimp only
   rw [hget]
   dsimp only
   rw [Nat.ble_eq_true_of_le (show acc.length ≤ 1000000 by lia)]
   dsimp only
   rw [hset, List.filter_cons, hp]
   rw [ih]
   simp
theorem bP {it : EM} {v : MV} {its : List MV} {x : Nat} {c : CM} {e : EM} {V : ap} {σ σ1 : ac} (p : MV → Bool) (f : MV → MV) (hi : it V σ = some (v, σ1)) (h2 : cW v σ1 = some its) (h0 : lk V c0 = none) (hl : 1 ≤ σ1.length) (st : ∀ τ, ck v its (σ1 ++ τ) = true)
  (hb : its.length ≤ 1000000) (hc : ∀ a ∈ its, ∀ τ, ∃ τ', c (put V x a) (σ1 ++ τ) = some (p a, σ1 ++ (τ ++ τ'))) (he : ∀ a ∈ its, p a = true → ∀ τ, ∃ τ', e (put V x a) (σ1 ++ τ) = some (f a, σ1 ++ (τ ++ τ'))) :
  ∃ τ, aX it (bd1 x) c e V σ = some (.ref σ1.length, σ1 ++ (((its.filter p).map f) :: τ)) := by
 obtain ⟨τ', run⟩ := vT (V := V) st its [] [] hc he (by simpa using hb)
 refine ⟨τ', ?_⟩
 unfold aX
 rw [h0, hi]
 dsimp only
 rw [h2, Nat.ble_eq_true_of_le hl]
 dsimp only
 rw [run]
 simp
theorem aY {α : Type} {x : Option (α × ac)} {a : α} {σ τ : ac} (h : x = some (a, σ ++ τ)) : ∃ τ', x = some (a, σ ++ (τ ++ τ')) := ⟨[], by rw [List.append_nil]; exact h⟩
theorem cy {i : Nat} {its : List MV} {σ : ac} (h : am σ i = some its) : ∀ τ, ck (.ref i) its (σ ++ τ) = true := fun τ => lh (aj h)
theorem jJ {l : List Nat} {its : List MV} {σ : ac} : ∀ τ, ck (.str l) its (σ ++ τ) = true := fun _ => rfl
theorem fE {a c : Int} {n : Nat} {its : List MV} {σ : ac} : ∀ τ, ck (.rng a c n) its (σ ++ τ) = true := fun _ => rfl
theorem k5 {a b : Nat} {σ : ac} (h1 : 1 ≤ b) (h2 : b ≤ 1000000000) : cZ (.int (a : Nat)) (.int (b : Nat)) σ = some (.int ((a / b : Nat) : Int), σ) := by
 unfold cZ
 have e : (Nat.ble 1 ((b : Nat) : Int).toNat && Nat.ble ((b : Nat) : Int).natAbs 1000000000) = true := by
  rw [Int.toNat_natCast, Int.natAbs_natCast, Nat.ble_eq_true_of_le h1, Nat.ble_eq_true_of_le h2]; rfl
 simp only [e]
 rw [Int.fdiv_eq_ediv_of_nonneg _ (by lia)]
 rfl
theorem gf {a b : Nat} {σ : ac} (h1 : 1 ≤ b) : bS (.int (a : Nat)) (.int (b : Nat)) σ = some (.int ((a % b : Nat) : Int), σ) := by
 unfold bS
 have e : Nat.ble 1 ((b : Nat) : Int).toNat = true := by rw [Int.toNat_natCast, Nat.ble_eq_true_of_le h1]
 simp only [e]
 rw [Int.fmod_eq_emod_of_nonneg _ (by lia)]
 rfl
theorem jN {n : Nat} {i : Int} {σ : ac} (h : i = (n : Nat)) (hn : n ≤ 1114111) : jR [.int i] σ = some (.str [n], σ) := by
 subst h
 unfold jR
 have e1 : decide (0 ≤ ((n : Nat) : Int)) = true := decide_eq_true (by lia)
 simp only [e1, Int.toNat_natCast, Nat.ble_eq_true_of_le hn]
theorem pO {k : Nat} {σ : ac} (h : k ≤ 1000) : gS (.int 2) (.int (k : Nat)) σ = some (.int ((2 ^ k : Nat) : Int), σ) := by
 unfold gS
 have e1 : fit 2 = true := rfl
 have e2 : decide (0 ≤ ((k : Nat) : Int)) = true := decide_eq_true (by lia)
 simp only [e1, e2, Int.toNat_natCast, Nat.ble_eq_true_of_le h]
 push_cast
 rfl
theorem B2 {k : Nat} (h : k ≤ 3) : 1 ≤ 2 ^ k ∧ 2 ^ k ≤ 1000000000 := by
 have : k = 0 ∨ k = 1 ∨ k = 2 ∨ k = 3 := by lia
 rcases this with rfl | rfl | rfl | rfl <;> decide
noncomputable def fI (n k : Nat) : Nat := n / 2 ^ k % 2
theorem mT {V : ap} {x y : Nat} {n k : Nat} {σ : ac} (h1 : lk V x = some (.int (n : Nat))) (h2 : lk V y = some (.int (k : Nat))) (hk : k ≤ 3) : m2 bS (m2 cZ (mV x) (m2 gS (mK (.int 2)) (mV y))) (mK (.int 2)) V σ = some (.int ((fI n k : Nat) : Int), σ) :=
 r2 (r2 (rV h1) (r2 rK (rV h2) (pO (by lia))) (k5 (B2 hk).1 (B2 hk).2)) rK (gf (by decide))
def wSg (c low dashes dash k : Nat) : Nat := match Nat.beq (fI dashes k) 1 with
 | true => dash
 | false => c - 32 * fI low k
def WV (nm : List Nat) (low d dash r : Nat) (e : ap) : ap := (bg, .str nm) :: (a6, .int (low : Nat)) :: (au, .int (d : Nat)) :: (aP, .str [dash]) :: (a5, .ref (r + 1)) :: e
theorem fv {σ : ac} {r : Nat} {acc : List MV} {x : MV} (h : am σ (r + 1) = some acc) (hl : acc.length ≤ 1000000) : bf [.ref (r + 1), x] σ = some (.none, σ.set (r + 1) (acc ++ [x])) := by
 unfold bf
 simp only [h, Nat.ble_eq_true_of_le hl]
theorem uC {nm : List Nat} {low d dash r k c : Nat} {e : ap} {σ : ac} {acc : List MV} (he : e = [] ∨ ∃ z, e = [(n_k, z)]) (hk : k ≤ 3) (hr : am σ (r + 1) = some acc) (hl : acc.length ≤ 1000) (hc : nm[k]? = some c) (h32 : 32 ≤ c) (hc2 : c ≤ 1114111) :
  Ob (put (WV nm low d dash r e) n_k (.int (k : Nat))) σ = some (none, WV nm low d dash r [(n_k, .int (k : Nat))], σ.set (r + 1) (acc ++ [.str [wSg c low d dash k]])) := by
 have hV : put (WV nm low d dash r e) n_k (.int (k : Nat)) = WV nm low d dash r [(n_k, .int (k : Nat))] := by
  rcases he with rfl | ⟨z, rfl⟩ <;> rfl
 rw [hV]
 have hb : fI low k ≤ 1 := by unfold fI; lia
 unfold wSg
 have cond : aE gEq (m2 bS (m2 cZ (mV au) (m2 gS (mK (.int 2)) (mV n_k))) (mK (.int 2))) (mK (.int 1)) (WV nm low d dash r [(n_k, .int (k : Nat))]) σ = some (Nat.beq (fI d k) 1, σ) := by
  refine aU (mT rfl rfl hk) rK ?_
  show some (decide (((fI d k : Nat) : Int) = 1)) = _
  rw [dU]
  congr 1
  exact decide_eq_decide.mpr (by lia)
 match q : Nat.beq (fI d k) 1 with
 | true =>
  rw [q] at cond
  refine rbC (bL cond (rbC (j9 (fh (rV rfl) hr (af (rV rfl) aD) (fv hr (by lia)))) aM)) aM
 | false =>
  rw [q] at cond
  refine rbC (aW cond (rbC (j9 (fh (rV rfl) hr (af (aK (af (r2 (aK (af (r2 (rV rfl) (rV rfl) (eg hc)) aD) rfl) (r2 rK (mT rfl rfl hk) rfl) rfl) aD) (jN ?_ ?_)) aD) (fv hr (by lia)))) aM)) aM
  ·show (c : Int) - 32 * ((fI low k : Nat) : Int) = ((c - 32 * fI low k : Nat) : Int)
   lia
  ·show c - 32 * fI low k ≤ 1114111
   lia
def b0 (nm : List Nat) (low d dash : Nat) : List Nat := match nm with
 | [x, y, z] => [wSg x low d dash 0, wSg y low d dash 1, wSg z low d dash 2]
 | _ => []
def eZ (c : Nat) : Prop := 32 ≤ c ∧ c ≤ 1114111
theorem zI : ∀ l : List Nat, jn (l.map fun c => MV.str [c]) = some l
 | [] => rfl
 | c :: r => by
  show (match jn (r.map fun c => MV.str [c]) with | some t => some ([c] ++ t) | none => none) = _
  rw [zI r]; rfl
noncomputable def aC (l : List Nat) : List MV := l.map fun c => MV.str [c]
theorem tJ {σ : ac} {i : Nat} {l : List Nat} (h : am σ i = some (aC l)) (hl : l.length ≤ 1000) : cO [.str [], .ref i] σ = some (.str l, σ) := by
 have hj := zI l
 have hl2 : (aC l).length ≤ 1000 := by simpa [aC] using hl
 unfold cO
 cases l with
 | nil => simp only [h]; rfl
 | cons c r =>
  have : aC (c :: r) = MV.str [c] :: aC r := rfl
  rw [this] at h hl2
  have hj : jn (MV.str [c] :: aC r) = some (c :: r) := hj
  simp only [h, hj, Nat.ble_eq_true_of_le hl, Nat.ble_eq_true_of_le hl2]
theorem pG {x y z low d dash : Nat} {σ : ac} (h0 : 1 ≤ σ.length) (hx : eZ x) (hy : eZ y) (hz : eZ z) : f0 [.str [x, y, z], .int (low : Nat), .int (d : Nat), .str [dash]] σ = some (.str (b0 [x, y, z] low d dash), σ) := by
 obtain ⟨r, hr⟩ : ∃ r, σ.length = r + 1 := ⟨σ.length - 1, by lia⟩
 have hnew : am (σ ++ [[]]) (r + 1) = some [] := by rw [← hr]; exact aN σ _
 have s1 := uC (nm := [x, y, z]) (low := low) (d := d) (dash := dash) (k := 0) (.inl rfl) (by lia) hnew (by simp) rfl hx.1 hx.2
 have e1 := cA (ys := [] ++ [MV.str [wSg x low d dash 0]]) hnew
 have s2 := uC (nm := [x, y, z]) (low := low) (d := d) (dash := dash) (k := 1) (.inr ⟨_, rfl⟩) (e := [(n_k, .int ((0 : Nat) : Int))]) (by lia) e1 (by simp) rfl hy.1 hy.2
 have e2 := cA (ys := [] ++ [MV.str [wSg x low d dash 0]] ++ [MV.str [wSg y low d dash 1]]) e1
 have s3 := uC (nm := [x, y, z]) (low := low) (d := d) (dash := dash) (k := 2) (.inr ⟨_, rfl⟩) (e := [(n_k, .int ((1 : Nat) : Int))]) (by lia) e2 (by simp) rfl hz.1 hz.2
 have e3 := cA (ys := [] ++ [MV.str [wSg x low d dash 0]] ++ [MV.str [wSg y low d dash 1]] ++ [MV.str [wSg z low d dash 2]]) e2
 have hV : put ([bg, a6, au, aP].zip [.str [x, y, z], .int (low : Nat), .int (d : Nat), .str [dash]]) a5 (.ref σ.length) = WV [x, y, z] low d dash r [] := by rw [hr]; rfl
 have fin : ∀ S, am S (r + 1) = some (aC (b0 [x, y, z] low d dash)) → ab (bj (cz (mK (.str [])) cO (aa (mV a5) ah))) ak (WV [x, y, z] low d dash r [(n_k, .int ((2 : Nat) : Int))]) S = some (some (.str (b0 [x, y, z] low d dash)), WV [x, y, z] low d dash r [(n_k, .int ((2 : Nat) : Int))], S) := fun S hS =>
  rbR (et (jd rK (af (rV rfl) aD) (tJ hS (by simp [b0]))))
 rw [List.set_set] at s2 s3 e2 e3
 rw [List.set_set] at s3 e3
 have hset : (σ ++ [[]]).set (r + 1) ([] ++ [MV.str [wSg x low d dash 0]] ++ [MV.str [wSg y low d dash 1]] ++ [MV.str [wSg z low d dash 2]]) = σ ++ [aC (b0 [x, y, z] low d dash)] := by
  rw [← hr, iJ]; rfl
 rw [hset] at s3 e3
 have run : HH ([bg, a6, au, aP].zip [.str [x, y, z], .int (low : Nat), .int (d : Nat), .str [dash]]) σ = some (some (.str (b0 [x, y, z] low d dash)), WV [x, y, z] low d dash r [(n_k, .int ((2 : Nat) : Int))], σ ++ [aC (b0 [x, y, z] low d dash)]) := by
  refine rbC (bp (c7 aD rfl)) ?_
  rw [hV]
  refine rbC (kr (aK (af rK aD) rfl) rfl (bE rfl s1 (bE rfl s2 (bE rfl s3 (cP rfl))))) ?_
  exact fin _ e3
 exact bH rfl h0 run (io rfl)
def L3 : SM := (ab (sIf (jY n_i n_b) (ab (m8 fk o3 (mK (.int 1)))
 ak) ak) ak)
def iZ : SM := (ab (sIf (jY n_j n_b) (ab (bj (mV n_i))
 ak) ak) ak)
def GQ : SM := (ab (sIf (aE ii (ag fK (aa (mV iO) (aa (ag fb (aa (m2 cG (mV bg) (mV bg)) (aa (mV aI) ah))) (aa (m2 cD (ag jQ (aa (mV aI) ah)) (mV dE)) ah)))) (mK .none)) (ab (bj (mK (.str [])))
 ak) ak)
 ak)
def Od : SM := (ab (sIf (ig (dT (ag jF (aa (mV ar) ah)))) (ab (aL cv (ag gn (aa (mV ar) ah)))
 (ab (aL bT (ag oD (aa (mV cv) (aa (mV ar) ah))))
 (ab (aL dE (mK (.int 0)))
 (ab (sIf (cj (aE gEq (ag bZ (aa (mV cv) ah)) (mK (.int 1))) (cj (aE cIs (ag dI (aa (mV bT) ah)) (mK (.typ "bool"))) (cj (dT (mV bT)) (cK true)))) (ab (aL dE (mK (.int 32)))
 ak) ak)
 (ab (fe (mV cv) aI GQ)
 ak))))) ak)
 ak)
theorem gQ : c0 = 52363360 := by kernel_rfl
section
variable {σ : ac}
theorem HX {a b : List Nat} (h0 : 1 ≤ σ.length) : HY [.str a, .str b] σ = some (.bool (leq a b), σ) :=
 bH rfl h0 (rbR (et (pN (rV rfl) (rV rfl) rfl))) (bv rfl)
theorem HP {a b : List Nat} (h0 : 1 ≤ σ.length) : oD [.str a, .str b] σ = some (.bool (!leq a b), σ) :=
 bH rfl h0 (rbR (et (pN (rV rfl) (rV rfl) rfl))) (bv rfl)
theorem HO {a b : List Nat} (h0 : 1 ≤ σ.length) : oD [.txt a, .str b] σ = some (.bool (!leq a b), σ) :=
 bH rfl h0 (rbR (et (pN (rV rfl) (rV rfl) rfl))) (bv rfl)
theorem By {a b : Int} (h0 : 1 ≤ σ.length) : ux [.int a, .int b] σ = some (.int (a - b), σ) :=
 bH rfl h0 (rbR (et (r2 (rV rfl) (rV rfl) rfl))) (bv rfl)
theorem BA {a b : Int} (h0 : 1 ≤ σ.length) (ha : fit a = true) : uy [.int a, .int b] σ = some (.int (a * b), σ) :=
 bH rfl h0 (rbR (et (r2 (rV rfl) (rV rfl) (by unfold dN; simp only [ha])))) (bv rfl)
theorem v9 {a : Int} {b : Nat} (h0 : 1 ≤ σ.length) (h1 : 1 ≤ b) (h2 : b ≤ 1000000000) : ot [.int a, .int (b : Nat)] σ = some (.int (a.fdiv b), σ) := by
 refine bH rfl h0 (rbR (et (r2 (rV rfl) (rV rfl) ?_))) (bv rfl)
 unfold cZ
 have e : (Nat.ble 1 ((b : Nat) : Int).toNat && Nat.ble ((b : Nat) : Int).natAbs 1000000000) = true := by
  rw [Int.toNat_natCast, Int.natAbs_natCast, Nat.ble_eq_true_of_le h1, Nat.ble_eq_true_of_le h2]; rfl
 simp only [e]
theorem ri {x : MV} {j : Nat} : cIn x (.ref j) σ = match am σ j with
  | some ys => f4 ys x
  | none => none := rfl
def gM : List (List Nat) → List Nat → Bool
 | [], _ => false
 | y :: ys, x => leq y x || gM ys x
theorem AY : ∀ (L : List (List Nat)) (w : List Nat), f4 (sL L) (.str w) = some (gM L w) := by
 intro L
 induction L with
 | nil =>
  intro w
  exact rfl
 | cons y ys ih =>
  intro w
  show (match fEq (.str y) (.str w), f4 (sL ys) (.str w) with | some p, some q => some (p || q) | _, _ => none) = _
  rw [ih w]; rfl
theorem ij {i : Nat} {L : List (List Nat)} {w : List Nat} (h0 : 1 ≤ σ.length) (h : am σ i = some (sL L)) : cI [.ref i, .str w] σ = some (.bool (gM L w), σ) :=
 bH rfl h0 (rbR (et (pN (rV rfl) (rV rfl) (by rw [ri, h]; exact AY L w)))) (bv rfl)
noncomputable def fU (d : Nat) : List Nat → Nat
 | [] => 0
 | c :: r => match Nat.beq c d with
  | true => fU d r + 1
  | false => fU d r
theorem qZ (c d : Nat) : leq [c] [d] = Nat.beq c d := by
 unfold leq
 cases Nat.beq c d <;> rfl
theorem ki {w its : List Nat} {d : Nat} {mi : List MV} : ∀ (r : List Nat) (n : Nat) (e : ap), (e = [] ∨ ∃ z, e = [(n_i, z)]) → ∃ e', eK (.str w) mi n_i L3 (aC r) ((n_a, .str w) :: (n_b, .str [d]) :: (fk, .int (n : Nat)) :: e) σ = some (none, (n_a, .str w) :: (n_b, .str [d]) :: (fk, .int ((n + fU d r : Nat) : Int)) :: e', σ)
 | [], n, e, he => ⟨e, cP rfl⟩
 | c :: r, n, e, he => by
  have hV : put ((n_a, .str w) :: (n_b, .str [d]) :: (fk, .int (n : Nat)) :: e) n_i (.str [c]) = (n_a, .str w) :: (n_b, .str [d]) :: (fk, .int (n : Nat)) :: [(n_i, .str [c])] := by
   rcases he with rfl | ⟨z, rfl⟩ <;> rfl
  have hc : jY n_i n_b ((n_a, .str w) :: (n_b, .str [d]) :: (fk, .int (n : Nat)) :: [(n_i, .str [c])]) σ = some (Nat.beq c d, σ) := by
   show some (leq [c] [d], σ) = _
   rw [qZ]
  match q : Nat.beq c d with
  | true =>
   rw [q] at hc
   obtain ⟨e', ih⟩ := ki (w := w) (its := its) (d := d) (mi := mi) r (n + 1) [(n_i, .str [c])] (.inr ⟨_, rfl⟩)
   refine ⟨e', ?_⟩
   have hcnt : fU d (c :: r) = fU d r + 1 := by show (match Nat.beq c d with | true => fU d r + 1 | false => fU d r) = _; rw [q]
   rw [hcnt, show n + (fU d r + 1) = n + 1 + fU d r by lia]
   refine bE rfl ?_ ih
   rw [hV]
   exact rbC (bL hc (rbC (Mn (v := .int ((n + 1 : Nat) : Int)) rfl rK rfl) aM)) aM
  | false =>
   rw [q] at hc
   obtain ⟨e', ih⟩ := ki (w := w) (its := its) (d := d) (mi := mi) r n [(n_i, .str [c])] (.inr ⟨_, rfl⟩)
   refine ⟨e', ?_⟩
   have hcnt : fU d (c :: r) = fU d r := by show (match Nat.beq c d with | true => fU d r + 1 | false => fU d r) = _; rw [q]
   rw [hcnt]
   refine bE rfl ?_ ih
   rw [hV]
   exact rbC (aW hc aM) aM
theorem r8 {w : List Nat} {d : Nat} (h0 : 1 ≤ σ.length) : iH [.str w, .str [d]] σ = some (.int ((fU d w : Nat) : Int), σ) := by
 obtain ⟨e', loop⟩ := ki (σ := σ) (w := w) (its := w) (d := d) (mi := aC w) w 0 [] (.inl rfl)
 rw [Nat.zero_add] at loop
 have hf : m7 (mV n_a) n_i L3 [(n_a, .str w), (n_b, .str [d]), (fk, .int (0 : Nat))] σ = some (none, (n_a, .str w) :: (n_b, .str [d]) :: (fk, .int ((fU d w : Nat) : Int)) :: e', σ) := by
  unfold m7
  rw [rV (x := n_a) rfl]
  exact loop
 exact bH rfl h0 (rbC (bp rK) (rbC hf (rbR (et (rV rfl))))) (bv rfl)
noncomputable def vF : List Nat → Nat → Option Nat
 | [], _ => none
 | a :: l, c => match Nat.beq a c with
  | true => some 0
  | false => match vF l c with
   | some i => some (i + 1)
   | none => none
theorem tR {w : List Nat} {d : Nat} {mi : List MV} : ∀ (r : List Nat) (n k : Nat) (e : ap), (e = [] ∨ ∃ y z, e = [(n_i, y), (n_j, z)]) → vF r d = some k → ∃ V', ia (.str w) mi n_i n_j iZ n (aC r) ((n_a, .str w) :: (n_b, .str [d]) :: e) σ = some (some (.int ((n + k : Nat) : Int)), V', σ)
 | [], n, k, e, he, hk => by exact nS hk
 | c :: r, n, k, e, he, hk => by
  have hV : put (put ((n_a, .str w) :: (n_b, .str [d]) :: e) n_i (.int (n : Nat))) n_j (.str [c]) = [(n_a, .str w), (n_b, .str [d]), (n_i, .int (n : Nat)), (n_j, .str [c])] := by
   rcases he with rfl | ⟨y, z, rfl⟩ <;> rfl
  have hc : jY n_j n_b [(n_a, .str w), (n_b, .str [d]), (n_i, .int (n : Nat)), (n_j, .str [c])] σ = some (Nat.beq c d, σ) := by
   show some (leq [c] [d], σ) = _
   rw [qZ]
  unfold vF at hk
  cases q : Nat.beq c d with
  | true =>
   rw [q] at hk hc; cases hk
   refine ⟨[(n_a, .str w), (n_b, .str [d]), (n_i, .int (n : Nat)), (n_j, .str [c])], ?_⟩
   show (match iZ (put (put ((n_a, .str w) :: (n_b, .str [d]) :: e) n_i (.int (n : Nat))) n_j (.str [c])) σ with
    | none => none
    | some (some r, V', σ') => some (some r, V', σ')
    | some (none, V', σ') => ia (.str w) mi n_i n_j iZ (n + 1) (aC r) V' σ') = _
   rw [hV, show iZ _ σ = _ from rbR (bL hc (rbR (et (rV rfl))))]
   rfl
  | false =>
   rw [q] at hk hc
   cases q2 : vF r d with
   | none => rw [q2] at hk; exact nS hk
   | some j =>
    rw [q2] at hk; cases hk
    obtain ⟨V', ih⟩ := tR (w := w) (mi := mi) r (n + 1) j [(n_i, .int (n : Nat)), (n_j, .str [c])] (.inr ⟨_, _, rfl⟩) q2
    refine ⟨V', ?_⟩
    show (match iZ (put (put ((n_a, .str w) :: (n_b, .str [d]) :: e) n_i (.int (n : Nat))) n_j (.str [c])) σ with
     | none => none
     | some (some r, V', σ') => some (some r, V', σ')
     | some (none, V', σ') => ia (.str w) mi n_i n_j iZ (n + 1) (aC r) V' σ') = _
    rw [hV, show iZ _ σ = _ from rbC (aW hc aM) aM]
    dsimp only
    rw [ih, show n + 1 + j = n + (j + 1) by lia]
theorem oE {w : List Nat} {d k : Nat} (h0 : 1 ≤ σ.length) (hk : vF w d = some k) : fb [.str w, .str [d]] σ = some (.int (k : Nat), σ) := by
 obtain ⟨V', loop⟩ := tR (σ := σ) (w := w) (d := d) (mi := aC w) w 0 k [] (.inl rfl) hk
 rw [Nat.zero_add] at loop
 have hf : kn (mV n_a) n_i n_j iZ [(n_a, .str w), (n_b, .str [d])] σ = some (some (.int (k : Nat)), V', σ) := by
  unfold kn
  rw [rV (x := n_a) rfl]
  exact loop
 exact bH rfl h0 (rbR hf) (bv rfl)
noncomputable def mbs (l : List Bool) : List MV := l.map .bool
noncomputable def nH : List Bool → Option Nat
 | [] => none
 | true :: _ => some 0
 | false :: l => match nH l with
  | some i => some (i + 1)
  | none => none
theorem AE {ρ : Nat} {mi : List MV} (hs : ck (.ref ρ) mi σ = true) : ∀ (r : List Bool) (n k : Nat) (e : ap), (e = [] ∨ ∃ y z, e = [(n_i, y), (n_j, z)]) → nH r = some k → ∃ V', ia (.ref ρ) mi n_i n_j iZ n (mbs r) ((n_a, .ref ρ) :: (n_b, .bool true) :: e) σ = some (some (.int ((n + k : Nat) : Int)), V', σ) := by
 intro r
 induction r with
 | nil =>
  intro n k e he hk
  exact nS hk
 | cons c r ih =>
  intro n k e he hk
  have hV : put (put ((n_a, .ref ρ) :: (n_b, .bool true) :: e) n_i (.int (n : Nat))) n_j (.bool c) = [(n_a, .ref ρ), (n_b, .bool true), (n_i, .int (n : Nat)), (n_j, .bool c)] := by
   rcases he with rfl | ⟨y, z, rfl⟩ <;> rfl
  have hc : jY n_j n_b [(n_a, .ref ρ), (n_b, .bool true), (n_i, .int (n : Nat)), (n_j, .bool c)] σ = some (c, σ) := by
   show some (c == true, σ) = _
   cases c <;> rfl
  cases c with
  | true =>
   unfold nH at hk
   cases hk
   refine ⟨[(n_a, .ref ρ), (n_b, .bool true), (n_i, .int (n : Nat)), (n_j, .bool true)], ?_⟩
   unfold mbs
   rw [List.map_cons]
   unfold ia
   rw [hs]
   dsimp only
   rw [hV, show iZ _ σ = _ from rbR (bL hc (rbR (et (rV rfl))))]
   rfl
  | false =>
   unfold nH at hk
   cases q2 : nH r with
   | none => rw [q2] at hk; exact nS hk
   | some j =>
    rw [q2] at hk; cases hk
    obtain ⟨V', ih⟩ := ih (n + 1) j [(n_i, .int (n : Nat)), (n_j, .bool false)] (.inr ⟨_, _, rfl⟩) q2
    refine ⟨V', ?_⟩
    unfold mbs
    rw [List.map_cons]
    unfold ia
    rw [hs]
    dsimp only
    rw [hV, show iZ _ σ = _ from rbC (aW hc aM) aM]
    dsimp only
    rw [show n + (j + 1) = n + 1 + j by lia]
    exact ih
theorem oq {ρ : Nat} {l : List Bool} {k : Nat} (h0 : 1 ≤ σ.length) (h : am σ ρ = some (mbs l)) (hk : nH l = some k) : fb [.ref ρ, .bool true] σ = some (.int (k : Nat), σ) := by
 obtain ⟨V', loop⟩ := AE (σ := σ) (ρ := ρ) (mi := mbs l) (lh h) l 0 k [] (.inl rfl) hk
 rw [Nat.zero_add] at loop
 have hb : (mbs l).all Gn = true := by
  unfold mbs
  rw [List.all_map]
  exact List.all_eq_true.mpr fun _ _ => rfl
 have hf : kn (mV n_a) n_i n_j iZ [(n_a, .ref ρ), (n_b, .bool true)] σ = some (some (.int (k : Nat)), V', σ) := by
  unfold kn
  rw [rV (x := n_a) rfl]
  have : lQ (.ref ρ) σ = some (mbs l) := by unfold lQ; simp only [h, hb]
  dsimp only
  rw [this]
  exact loop
 exact bH rfl h0 (rbR hf) (bv rfl)
theorem nE : ∀ (σ : ac) (i : Nat) (ys : List MV), ys.all ft = true → eJ σ (σ.set i ys) = true
 | [], i, ys, h => rfl
 | x :: r, 0, ys, h => by
  show eJ (x :: r) (ys :: r) = true
  unfold eJ
  rw [h, hZ]; simp
 | x :: r, i + 1, ys, h => by
  show eJ (x :: r) (x :: r.set i ys) = true
  unfold eJ
  rw [nE r i ys h]; simp
theorem ld {i j : Nat} {xs : List MV} {v : MV} (h : am σ (i + 1) = some xs) (hj : j < xs.length) (hb : xs.length ≤ 1000000) (hf : (xs.set j v).all ft = true) : fK [.ref (i + 1), .int (j : Nat), v] σ = some (.none, σ.set (i + 1) (xs.set j v)) := by
 have h0 : 1 ≤ σ.length := by have := bx h; lia
 refine FY rfl h0 (rbC (IU (rV rfl) (rV rfl) (rV rfl) h hj hb) aM) ?_
 unfold pack
 have e : (σ.set (i + 1) (xs.set j v)).take σ.length = σ.set (i + 1) (xs.set j v) := List.take_of_length_le (by simp)
 rw [e, nE σ _ _ hf]
 rfl
theorem pH {c : Nat} (h0 : 1 ≤ σ.length) : jF [.str [c]] σ = some (.bool (iE (c : Int)), σ) := by
 refine bH (V := [(dG, .str [c])]) rfl h0 (rbR (et ?_)) (bv rfl)
 unfold mB1
 rw [show ag jQ (aa (mV dG) ah) ([dG].zip [.str [c]]) σ = some (.int (c : Nat), σ) from aK (af (rV rfl) aD) rfl]
def iY (c : Nat) : Option (List Nat) := match oa (c : Int) with
 | some l => some l
 | none => match isA c with
  | true => some [lo1 c]
  | false => none
theorem oo {c : Nat} {l : List Nat} (h0 : 1 ≤ σ.length) (h : iY c = some l) : gn [.str [c]] σ = some (.str l, σ) := by
 have ho : ag jQ (aa (mV dG) ah) [(dG, .str [c])] σ = some (.int (c : Nat), σ) := aK (af (rV rfl) aD) rfl
 unfold iY at h
 cases q : oa (c : Int) with
 | some l' =>
  rw [q] at h; cases h
  have e : mB3 (ag jQ (aa (mV dG) ah)) [(dG, .str [c])] σ = some (.str l, σ) := by unfold mB3; rw [ho]; dsimp only; rw [q]
  exact bH rfl h0 (rbC (bp e) (rbR (bL (aU (rV rfl) rK rfl) (rbR (et (rV rfl)))))) (bv rfl)
 | none =>
  rw [q] at h
  have e : mB3 (ag jQ (aa (mV dG) ah)) [(dG, .str [c])] σ = some (.none, σ) := by unfold mB3; rw [ho]; dsimp only; rw [q]
  cases q2 : isA c with
  | false => rw [q2] at h; exact nS h
  | true =>
   rw [q2] at h; cases h
   have hl : gv [.str [c]] σ = some (.str [lo1 c], σ) := by
    unfold isA at q2
    unfold gv
    simp only [List.all_cons, List.all_nil, q2]
    rfl
   exact bH rfl h0 (rbC (bp e) (rbC (aW (aU (rV rfl) rK rfl) aM) (rbR (et (jd (rV rfl) aD hl))))) (bv rfl)
def sj (nn : List Nat) (less : Nat) : List Nat → List Nat → Option (List Nat)
 | [], codes => some codes
 | l :: ls, codes => match vF nn l with
  | none => none
  | some i => match Nat.blt i codes.length && Nat.ble less l with
   | true => sj nn less ls (codes.set i (l - less))
   | false => none
def gI (f : List Nat) (c : Nat) : Nat := match Nat.beq f.length 1 && !leq f [c] with
 | true => 32
 | false => 0
def fg (nn : List Nat) : List Nat → List Nat → Option (List Nat)
 | [], codes => some codes
 | s :: ss, codes => match iE (s : Int) with
  | true => fg nn ss codes
  | false => match iY s with
   | none => none
   | some f => match sj nn (gI f s) f codes with
    | none => none
    | some codes => fg nn ss codes
def RV (nm : List Nat) (t r : Nat) (e : ap) : ap := (bg, .str nm) :: (aQ, .ref t) :: (iO, .ref (r + 1)) :: e
def M8 (e : ap) : Prop := (∃ s, e = [(ar, s)]) ∨ ∃ s f u l g, (g = [] ∨ ∃ z, g = [(aI, z)]) ∧ e = (ar, s) :: (cv, f) :: (bT, u) :: (dE, l) :: g
theorem tC (l : List Nat) : (mis l).all ft = true := by
 unfold mis
 rw [List.all_map]
 exact List.all_eq_true.mpr fun _ _ => rfl
theorem tG {nm : List Nat} {t r : Nat} {s u : MV} {w f : List Nat} {less : Nat} {mi : List MV} : ∀ (ls codes codes' : List Nat) (g : ap) (σ : ac), (g = [] ∨ ∃ z, g = [(aI, z)]) → codes.length ≤ 1000 → (nm ++ nm).length ≤ 1000 → am σ (r + 1) = some (mis codes) → sj (nm ++ nm) less ls codes = some codes' →
  ∃ g', (g' = [] ∨ ∃ z, g' = [(aI, z)]) ∧ codes'.length = codes.length ∧ eK (.str f) mi aI GQ (aC ls) (RV nm t r ((ar, s) :: (cv, .str f) :: (bT, u) :: (dE, .int (less : Nat)) :: g)) σ = some (none, RV nm t r ((ar, s) :: (cv, .str f) :: (bT, u) :: (dE, .int (less : Nat)) :: g'), σ.set (r + 1) (mis codes'))
 | [], codes, codes', g, σ, hg, hl, hn, hs, h => by
  cases h
  refine ⟨g, hg, rfl, ?_⟩
  rw [jb hs]
  exact cP rfl
 | l :: ls, codes, codes', g, σ, hg, hl, hn, hs, h => by
  unfold sj at h
  match q : vF (nm ++ nm) l with
  | none => rw [q] at h; exact nS h
  | some i =>
   rw [q] at h; dsimp only at h
   match q2 : Nat.blt i codes.length && Nat.ble less l with
   | false => rw [q2] at h; exact nS h
   | true =>
    rw [q2] at h; dsimp only at h
    rw [Bool.and_eq_true, Nat.blt_eq] at q2
    have hle := Nat.le_of_ble_eq_true q2.2
    have h0 : 1 ≤ σ.length := by have := bx hs; lia
    have hV : put (RV nm t r ((ar, s) :: (cv, .str f) :: (bT, u) :: (dE, .int (less : Nat)) :: g)) aI (.str [l]) = RV nm t r [(ar, s), (cv, .str f), (bT, u), (dE, .int (less : Nat)), (aI, .str [l])] := by
     rcases hg with rfl | ⟨z, rfl⟩ <;> rfl
    have hset : (mis codes).set i (.int ((l : Int) - (less : Int))) = mis (codes.set i (l - less)) := by
     unfold mis
     rw [List.map_set, show ((l - less : Nat) : Int) = (l : Int) - (less : Int) by lia]
    have hadd : cG (.str nm) (.str nm) σ = some (.str (nm ++ nm), σ) := by
     unfold cG
     simp only [Nat.ble_eq_true_of_le hn]
    refine e13 (tG (nm := nm) (t := t) (r := r) (s := s) (u := u) (w := w) (f := f) (less := less) (mi := mi) ls (codes.set i (l - less)) codes' [(aI, .str [l])] (σ.set (r + 1) (mis (codes.set i (l - less)))) (.inr ⟨_, rfl⟩) (by simpa using hl) hn (cA hs) h) fun g' hg' hlen ih => ?_
    rw [List.set_set] at ih
    refine ⟨g', hg', by simpa using hlen, bE rfl ?_ ih⟩
    rw [hV]
    have st := ld (σ := σ) (i := r) (j := i) (xs := mis codes) (v := .int ((l : Int) - (less : Int))) hs (by simpa [mis] using q2.1) (by simp [mis]; lia) (by rw [hset]; exact tC _)
    rw [hset] at st
    refine rbC (aW (aU (aK (af (rV rfl) (af (aK (af (r2 (rV rfl) (rV rfl) hadd) (af (rV rfl) aD)) (oE h0 q)) (af (r2 (aK (af (rV rfl) aD) rfl) (rV rfl) rfl) aD))) st) rK rfl) aM) aM
theorem As {nm : List Nat} {t r : Nat} {mi : List MV} {β : ac} (hst : ∀ codes, ck (.ref t) mi (β ++ [codes]) = true) (hr : β.length = r + 1) (hn : (nm ++ nm).length ≤ 1000) : ∀ (ss codes codes' : List Nat) (e : ap), (e = [] ∨ M8 e) → codes.length ≤ 1000 → fg (nm ++ nm) ss codes = some codes' → ∃ e', eK (.ref t) mi ar Od (aC ss) (RV nm t r e) (β ++ [mis codes]) = some (none, RV nm t r e', β ++ [mis codes']) ∧ codes'.length = codes.length ∧ (e' = [] ∨ M8 e') := by
 intro ss
 induction ss with
 | nil =>
  intro codes codes' e he hl h
  cases h
  exact ⟨e, cP (hst _), rfl, he⟩
 | cons c ss ih =>
  intro codes codes' e he hl h
  have hput : ∃ e1, put (RV nm t r e) ar (.str [c]) = RV nm t r ((ar, .str [c]) :: e1) ∧ (e1 = [] ∨ ∃ f u l g, (g = [] ∨ ∃ z, g = [(aI, z)]) ∧ e1 = (cv, f) :: (bT, u) :: (dE, l) :: g) := by
   rcases he with rfl | ⟨s, rfl⟩ | ⟨s, f, u, l, g, hg, rfl⟩
   ·exact ⟨[], rfl, .inl rfl⟩
   ·exact ⟨[], rfl, .inl rfl⟩
   ·exact ⟨_, rfl, .inr ⟨f, u, l, g, hg, rfl⟩⟩
  refine e12 hput fun e1 hV he1 => ?_
  have h0 : 1 ≤ (β ++ [mis codes]).length := by simp
  have hget : am (β ++ [mis codes]) (r + 1) = some (mis codes) := by rw [← hr]; exact aN _ _
  have hE : M8 ((ar, .str [c]) :: e1) := by
   rcases he1 with rfl | ⟨f, u, l, g, hg, rfl⟩
   ·exact .inl ⟨_, rfl⟩
   ·exact .inr ⟨_, _, _, _, _, hg, rfl⟩
  unfold fg at h
  have cond : ig (dT (ag jF (aa (mV ar) ah))) (RV nm t r ((ar, .str [c]) :: e1)) (β ++ [mis codes]) = some (!iE (c : Int), β ++ [mis codes]) :=
   ox (fY (aK (af (rV rfl) aD) (pH h0)) rfl)
  match q : iE (c : Int) with
  | true =>
   rw [q] at h cond
   refine e13 (ih codes codes' _ (.inr hE) hl h) fun e' ih hlen hx => ?_
   refine ⟨e', bE (hst _) ?_ ih, hlen, hx⟩
   rw [hV]
   exact rbC (aW cond aM) aM
  | false =>
   rw [q] at h cond
   dsimp only at h
   match q2 : iY c with
   | none => rw [q2] at h; exact nS h
   | some f =>
    rw [q2] at h; dsimp only at h
    match q3 : sj (nm ++ nm) (gI f c) f codes with
    | none => rw [q3] at h; exact nS h
    | some codes1 =>
     rw [q3] at h; dsimp only at h
     have hfold : ag gn (aa (mV ar) ah) (RV nm t r ((ar, .str [c]) :: e1)) (β ++ [mis codes]) = some (.str f, β ++ [mis codes]) := aK (af (rV rfl) aD) (oo h0 q2)
     have hg1 : ∃ g, (g = [] ∨ ∃ z, g = [(aI, z)]) ∧ put (put (put (RV nm t r ((ar, .str [c]) :: e1)) cv (.str f)) bT (.bool (!leq f [c]))) dE (.int (0 : Nat)) = RV nm t r ((ar, .str [c]) :: (cv, .str f) :: (bT, .bool (!leq f [c])) :: (dE, .int (0 : Nat)) :: g) := by
      rcases he1 with rfl | ⟨f1, u, l, g, hg, rfl⟩
      ·exact ⟨[], .inl rfl, rfl⟩
      ·exact ⟨g, hg, rfl⟩
     refine e12 hg1 fun g hg hV2 => ?_
     refine e13 (tG (nm := nm) (t := t) (r := r) (s := .str [c]) (u := .bool (!leq f [c])) (w := f) (f := f) (less := gI f c) (mi := aC f) f codes codes1 g (β ++ [mis codes]) hg hl hn hget q3) fun g' hg' hlen1 run => ?_
     rw [← hr, iJ] at run
     refine e13 (ih codes1 codes' ((ar, .str [c]) :: (cv, .str f) :: (bT, .bool (!leq f [c])) :: (dE, .int (gI f c : Nat)) :: g') (.inr (.inr ⟨_, _, _, _, _, hg', rfl⟩)) (by lia) h) fun e' ih hlen hx => ?_
     refine ⟨e', bE (hst _) ?_ ih, by lia, hx⟩
     rw [hV]
     have u1 : ∀ V, lk V cv = some (.str f) → lk V ar = some (.str [c]) → ag oD (aa (mV cv) (aa (mV ar) ah)) V (β ++ [mis codes]) = some (.bool (!leq f [c]), β ++ [mis codes]) := fun V a b => aK (af (rV a) (af (rV b) aD)) (HP h0)
     refine rbC (bL cond (rbC (bp hfold) (rbC (bp (u1 _ (by rw [ch, if_pos rfl]) (by rw [ch, if_neg (by decide)]; rfl))) (rbC (bp rK) ?_)))) aM
     have hz : (MV.int 0) = .int ((0 : Nat) : Int) := rfl
     rw [hz, hV2]
     have c1 : aE gEq (ag bZ (aa (mV cv) ah)) (mK (.int 1)) (RV nm t r ((ar, .str [c]) :: (cv, .str f) :: (bT, .bool (!leq f [c])) :: (dE, .int (0 : Nat)) :: g)) (β ++ [mis codes]) = some (Nat.beq f.length 1, β ++ [mis codes]) := by
      refine aU (aK (af (rV rfl) aD) len_str) rK ?_
      show some (decide ((f.length : Int) = 1)) = _
      rw [dU]
      congr 1
      exact decide_eq_decide.mpr (by lia)
     have step : ∀ V, V = RV nm t r ((ar, .str [c]) :: (cv, .str f) :: (bT, .bool (!leq f [c])) :: (dE, .int (gI f c : Nat)) :: g) → ab (fe (mV cv) aI GQ) ak V (β ++ [mis codes]) = some (none, RV nm t r ((ar, .str [c]) :: (cv, .str f) :: (bT, .bool (!leq f [c])) :: (dE, .int (gI f c : Nat)) :: g'), β ++ [mis codes].set 0 (mis codes1)) := fun V hv => by
      subst hv
      exact rbC (kr (rV rfl) rfl run) aM
     match p1 : Nat.beq f.length 1 with
     | false =>
      rw [p1] at c1
      have hz2 : gI f c = 0 := by unfold gI; rw [p1]; rfl
      refine rbC (aW (dj c1) aM) ?_
      exact step _ (by rw [hz2])
     | true =>
      rw [p1] at c1
      match p2 : (!leq f [c]) with
      | false =>
       have hz2 : gI f c = 0 := by unfold gI; rw [p1, p2]; rfl
       rw [p2] at c1 step
       refine rbC (aW (bR c1 (bR (aU (aK (af (rV rfl) aD) rfl) rK rfl) (dj (fY (rV rfl) rfl)))) aM) ?_
       exact step _ (by rw [hz2])
      | true =>
       have hz2 : gI f c = 32 := by unfold gI; rw [p1, p2]; rfl
       rw [p2] at c1 step
       refine rbC (bL (bR c1 (bR (aU (aK (af (rV rfl) aD) rfl) rK rfl) (bR (fY (rV rfl) rfl) rfl))) (rbC (bp rK) aM)) ?_
       exact step _ (by rw [hz2]; rfl)
theorem Bz {nm ty codes : List Nat} {t : Nat} (h0 : 1 ≤ σ.length) (hn : (nm ++ nm).length ≤ 1000) (ht : am σ t = some (aC ty)) (h : fg (nm ++ nm) ty [0, 0, 0] = some codes) (hc : ∀ c ∈ codes, c ≤ 1114111) : on [.str nm, .ref t] σ = some (.str codes, σ) := by
 obtain ⟨r, hr⟩ : ∃ r, σ.length = r + 1 := ⟨σ.length - 1, by lia⟩
 refine e13 (As (nm := nm) (t := t) (r := r) (mi := aC ty) (β := σ) (fun codes => cy ht [codes]) hr hn ty [0, 0, 0] codes [] (.inl rfl) (by decide) h) fun e' run hlen hx => ?_
 have hget : am (σ ++ [mis codes]) (r + 1) = some (mis codes) := by rw [← hr]; exact aN _ _
 have h00 : lk (RV nm t r e') c0 = none := by
  rw [gQ]
  rcases hx with rfl | ⟨s, rfl⟩ | ⟨s, f, u, l, g, rfl | ⟨z, rfl⟩, rfl⟩ <;> rfl
 obtain ⟨τ, comp⟩ := bP (it := mV iO) (x := dG) (c := cK true) (e := ag jR (aa (mV dG) ah)) (V := RV nm t r e') (σ := σ ++ [mis codes]) (fun _ => true) (fun v => match v with | .int i => .str [i.toNat] | _ => .none) (rV rfl) (show cW (.ref (r + 1)) _ = some (mis codes) from hget) h00 (by simp) (cy hget) (by simp [mis, hlen]) (fun a ha τ => ⟨[], by rw [List.append_nil]; rfl⟩) (fun a ha _ τ => by
   refine e12 (List.mem_map.mp ha) fun c hcm z2 => ?_; subst z2
   refine aY ?_
   exact aK (af (rV (v := .int (c : Nat)) (by rw [ch, if_pos rfl])) aD) (jN rfl (hc c hcm)))
 have hmap : (((mis codes).filter fun _ => true).map fun v => match v with | .int i => MV.str [i.toNat] | _ => .none) = aC codes := by
  rw [List.filter_eq_self.mpr (fun _ _ => rfl)]
  unfold mis aC
  rw [List.map_map]
  rfl
 rw [hmap] at comp
 have hz : put ([bg, aQ].zip [MV.str nm, .ref t]) iO (.ref σ.length) = RV nm t r [] := by rw [hr]; rfl
 refine bH rfl h0 (V := RV nm t r e') (σ' := σ ++ (mis codes :: aC codes :: τ)) ?_ (io rfl)
 refine rbC (bp (c7 (af rK (af rK (af rK aD))) rfl)) ?_
 rw [hz]
 refine rbC (kr (rV rfl) (aj ht) run) ?_
 refine rbR (et ?_)
 have hjoin : am (σ ++ [mis codes] ++ (aC codes :: τ)) (σ ++ [mis codes]).length = some (aC codes) := by simp [am]
 have hS : σ ++ (mis codes :: aC codes :: τ) = σ ++ [mis codes] ++ (aC codes :: τ) := by simp
 rw [hS]
 exact jd rK (af comp aD) (tJ hjoin (by simp [hlen]))
end
noncomputable def gU : List Nat := [64, 5, 32, 25, 3, 26, 486]
def n9 (xs : List Int) (k : Nat) : Nat := match xs[k]? with
 | some x => (x.fmod 1000000).toNat
 | none => gU.getD k 0
def iU (xs : List Int) : List Nat := (List.range' 0 7).map (n9 xs)
theorem fF : ∀ (n a : Nat), bu (a : Int) 1 n = mis (List.range' a n) := by
 intro n
 induction n with
 | zero =>
  intro a
  exact rfl
 | succ n ih =>
  intro a
  show MV.int (a : Int) :: bu ((a : Int) + 1) 1 n = MV.int (a : Int) :: mis (List.range' (a + 1) n)
  have := ih (a + 1)
  rw [show ((a + 1 : Nat) : Int) = (a : Int) + 1 by simp] at this
  rw [this]
noncomputable def miz (l : List Int) : List MV := l.map .int
theorem wc {t : Nat} {xs : List Int} {σ : ac} (h0 : 1 ≤ σ.length) (ht : am σ t = some (miz xs)) (hl : xs.length ≤ 1000) : r9 [.ref t] σ = some (.ref σ.length, σ ++ [mis (iU xs)]) := by
 have hV : ∀ (a : Nat) (k : Nat), put [(b5, MV.ref t), (jj, .ref a)] n_k (.int (k : Nat)) = [(b5, .ref t), (jj, .ref a), (n_k, .int (k : Nat))] := fun _ _ => rfl
 have hlen : (miz xs).length = xs.length := by simp [miz]
 obtain ⟨τ, comp⟩ := bP (it := ag aZ (aa (mK (.int 7)) ah)) (x := n_k) (c := cK true) (e := mIf (aE cLt (mV n_k) (ag bZ (aa (mV b5) ah))) (m2 bS (m2 az (mV b5) (mV n_k)) (mK (.int 1000000))) (m2 az (mV jj) (mV n_k)))
  (V := [(b5, MV.ref t), (jj, .ref σ.length)]) (σ := σ ++ [mis gU]) (fun _ => true) (fun v => match v with | .int i => .int (n9 xs i.toNat : Nat) | _ => .none) (aK (af rK aD) rfl) (its := mis (List.range' 0 7)) (by show some (bu ((0 : Nat) : Int) 1 7) = _; rw [fF]) (by rw [gQ]; rfl) (by simp) fE (by decide) (fun a ha τ => aY rfl) (fun a ha _ τ => by
   refine e12 (List.mem_map.mp ha) fun k hk z2 => ?_; subst z2
   have hk7 : k < 7 := by have := List.mem_range'_1.mp hk; lia
   rw [hV]
   refine aY ?_
   have hs : am (σ ++ [mis gU] ++ τ) t = some (miz xs) := aj (aj ht)
   have hr : am (σ ++ [mis gU] ++ τ) σ.length = some (mis gU) := aj (aN _ _)
   have hc : aE cLt (mV n_k) (ag bZ (aa (mV b5) ah)) [(b5, .ref t), (jj, .ref σ.length), (n_k, .int (k : Nat))] (σ ++ [mis gU] ++ τ) = some (decide (k < xs.length), σ ++ [mis gU] ++ τ) := by
    have hlen2 : bZ [.ref t] (σ ++ [mis gU] ++ τ) = some (.int xs.length, σ ++ [mis gU] ++ τ) := by
     unfold bZ
     simp only [hs, hlen, Nat.ble_eq_true_of_le (show xs.length ≤ 1000000 by lia)]
    refine aU (rV rfl) (aK (af (rV rfl) aD) hlen2) ?_
    show some (decide (((k : Nat) : Int) < (xs.length : Int))) = _
    congr 1
    exact decide_eq_decide.mpr (by lia)
   show _ = some (MV.int (n9 xs ((k : Nat) : Int).toNat : Nat), _)
   rw [Int.toNat_natCast]
   unfold n9
   by_cases h : k < xs.length
   ·rw [decide_eq_true h] at hc
    have hx : xs[k]? = some xs[k] := List.getElem?_eq_getElem h
    rw [hx]
    refine BW hc (r2 (r2 (rV rfl) (rV rfl) (cC hs (x := .int xs[k]) (by unfold miz; rw [List.getElem?_map, hx]; rfl) (by lia))) rK ?_)
    show some (MV.int (xs[k].fmod 1000000), _) = some (MV.int (((xs[k].fmod 1000000).toNat : Nat) : Int), _)
    have := Int.fmod_nonneg_of_pos xs[k] (show (0 : Int) < 1000000 by decide)
    rw [Int.toNat_of_nonneg this]
   ·rw [decide_eq_false h] at hc
    have hx : xs[k]? = none := List.getElem?_eq_none (by lia)
    rw [hx]
    refine BX hc (r2 (rV rfl) (rV rfl) (cC hr (x := .int (gU.getD k 0 : Nat)) ?_ (by decide)))
    have : k = 0 ∨ k = 1 ∨ k = 2 ∨ k = 3 ∨ k = 4 ∨ k = 5 ∨ k = 6 := by lia
    rcases this with rfl | rfl | rfl | rfl | rfl | rfl | rfl <;> rfl)
 have hmap : (((mis (List.range' 0 7)).filter fun _ => true).map fun v => match v with | .int i => MV.int (n9 xs i.toNat : Nat) | _ => .none) = mis (iU xs) := by
  rw [List.filter_eq_self.mpr (fun _ _ => rfl)]
  unfold mis iU
  rw [List.map_map, List.map_map]
  rfl
 rw [hmap] at comp
 refine bH rfl h0 (V := [(b5, MV.ref t), (jj, .ref σ.length)]) (σ' := σ ++ (mis gU :: mis (iU xs) :: τ)) ?_ (ni (i := (σ ++ [mis gU]).length) (xs := mis (iU xs)) (by simp) (by simp [am]) (tC _))
 refine rbC (bp (c7 (af rK (af rK (af rK (af rK (af rK (af rK (af rK aD))))))) rfl)) ?_
 refine rbR (et ?_)
 have hS : σ ++ (mis gU :: mis (iU xs) :: τ) = σ ++ [mis gU] ++ (mis (iU xs) :: τ) := by simp
 rw [hS]
 exact comp
noncomputable def Gi : List (List Nat × List Nat) := [([13], [38, 35, 120, 68, 59]), ([10], [38, 35, 120, 65, 59]), ([9], [38, 35, 120, 57, 59])]
noncomputable def LU : List (List Nat × List Nat) := [([13], [38, 35, 49, 51, 59]), ([10], [38, 35, 49, 48, 59]), ([9], [38, 35, 48, 57, 59])]
noncomputable def zT : List (List Nat × List Nat) := [([38], [38, 97, 109, 112, 59]), ([60], [38, 108, 116, 59]), ([62], [38, 103, 116, 59]), ([34], [38, 113, 117, 111, 116, 59])]
def ln (way c : Nat) : Option (List Nat) := match dl (match Nat.beq way 1 with | true => LU | false => Gi) [c] with
 | some l => some l
 | none => dl zT [c]
theorem ol {way c : Nat} {l : List Nat} {σ : ac} (h0 : 1 ≤ σ.length) (h : ln way c = some l) : jP [.int (way : Nat), .str [c]] σ = some (.str l, σ) := by
 have cond : aE gEq (mV g7) (mK (.int 1)) [(g7, .int (way : Nat)), (ar, .str [c]), (jl, .dct Gi)] σ = some (Nat.beq way 1, σ) := by
  refine aU (rV rfl) rK ?_
  show some (decide ((way : Int) = 1)) = _
  rw [dU]
  congr 1
  exact decide_eq_decide.mpr (by lia)
 have fin : ∀ es, (match dl es [c] with | some l => some l | none => dl zT [c]) = some l → ∃ V', ab (sIf (aE cIn (mV ar) (mV jl)) (ab (bj (m2 az (mV jl) (mV ar))) ak) ak) (ab (bj (m2 az (mK (.dct [([38], [38, 97, 109, 112, 59]), ([60], [38, 108, 116, 59]), ([62], [38, 103, 116, 59]), ([34], [38, 113, 117, 111, 116, 59])])) (mV ar))) ak) [(g7, .int (way : Nat)), (ar, .str [c]), (jl, .dct es)] σ = some (some (.str l), V', σ) := fun es h => by
  have hin : cIn (.str [c]) (.dct es) σ = some (dl es [c]).isSome := rfl
  cases q : dl es [c] with
  | some l' =>
   rw [q] at h hin; cases h
   exact ⟨_, rbR (bL (aU (rV rfl) (rV rfl) hin) (rbR (et (r2 (rV rfl) (rV rfl) (by unfold az; simp only [q])))))⟩
  | none =>
   rw [q] at h hin
   exact ⟨_, rbC (aW (aU (rV rfl) (rV rfl) hin) aM) (rbR (et (r2 rK (rV rfl) (by
    have h : dl zT [c] = some l := h
    show (match dl zT [c] with | some l => some (MV.str l, σ) | none => none) = _
    rw [h]))))⟩
 unfold ln at h
 match q : Nat.beq way 1 with
 | true =>
  rw [q] at h cond
  obtain ⟨V', run⟩ := fin LU h
  exact bH rfl h0 (rbC (bp rK) (rbC (bL cond (rbC (bp rK) aM)) run)) (bv rfl)
 | false =>
  rw [q] at h cond
  obtain ⟨V', run⟩ := fin Gi h
  exact bH rfl h0 (rbC (bp rK) (rbC (aW cond aM) run)) (bv rfl)
def oA : List (Nat × List Nat) → List Nat → Option (List Nat)
 | [], l => some l
 | (c, z) :: r, l => match bI l c with
  | false => oA r l
  | true => match Nat.ble (fx c z l).length 1000 with
   | true => oA r (fx c z l)
   | false => none
def MS : List (Nat × List Nat) → SM
 | [] => ab (bj (mV aG)) ak
 | (c, z) :: r => ab (sIf (aE cIn (mK (.str [c])) (mV aG)) (ab (aL aG (c8 (mV aG) c z)) ak) ak) (MS r)
theorem GH {σ : ac} : ∀ (tab : List (Nat × List Nat)) (l l' : List Nat), oA tab l = some l' → MS tab [(aG, .str l)] σ = some (some (.str l'), [(aG, .str l')], σ) := by
 intro tab
 induction tab with
 | nil =>
  intro l l' h
  cases h; exact rbR (et (rV rfl))
 | cons hd0 r ih =>
  obtain ⟨c, z⟩ := hd0
  intro l l' h
  unfold oA at h
  have hin : cIn (.str [c]) (.str l) σ = some (bI l c) := rfl
  match q : bI l c with
  | false =>
   rw [q] at h hin
   exact rbC (aW (aU rK (rV rfl) hin) aM) (ih l l' h)
  | true =>
   rw [q] at h hin
   dsimp only at h
   match q2 : Nat.ble (fx c z l).length 1000 with
   | false => rw [q2] at h; exact nS h
   | true =>
    rw [q2] at h
    refine rbC (bL (aU rK (rV rfl) hin) (rbC (bp (v := .str (fx c z l)) ?_) aM)) (ih (fx c z l) l' h)
    unfold c8
    rw [rV (x := aG) rfl]
    dsimp only
    rw [q2]
noncomputable def nU : Nat → List (Nat × List Nat)
 | 0 => [(38, [38, 97, 109, 112, 59]), (60, [38, 108, 116, 59]), (62, [38, 103, 116, 59])]
 | 1 => [(38, [38, 97, 109, 112, 59]), (60, [38, 108, 116, 59]), (62, [38, 103, 116, 59]), (34, [38, 113, 117, 111, 116, 59]), (13, [38, 35, 49, 51, 59]), (10, [38, 35, 49, 48, 59]), (9, [38, 35, 48, 57, 59])]
 | 2 => [(38, [38, 97, 109, 112, 59]), (62, [38, 103, 116, 59]), (34, [38, 113, 117, 111, 116, 59])]
 | 3 => [(38, [38, 97, 109, 112, 59]), (60, [38, 108, 116, 59]), (62, [38, 103, 116, 59]), (13, [38, 35, 120, 68, 59])]
 | _ => [(38, [38, 97, 109, 112, 59]), (60, [38, 108, 116, 59]), (34, [38, 113, 117, 111, 116, 59]), (9, [38, 35, 120, 57, 59]), (10, [38, 35, 120, 65, 59]), (13, [38, 35, 120, 68, 59])]
noncomputable def tT : Nat → Nat
 | 0 => 169
 | 1 => 176
 | 2 => 183
 | 3 => 190
 | _ => 197
theorem pD {way : Nat} {l l' : List Nat} {σ : ac} (h0 : 1 ≤ σ.length) (h : oA (nU way) l = some l') : ∃ g, oh (tT way) = some g ∧ g [.str l] σ = some (.str l', σ) := by
 have key : ∀ (M : SM) (tab : List (Nat × List Nat)), oA tab l = some l' → M = ab (MS tab) ak → mFn [aG] M [.str l] σ = some (.str l', σ) := fun M tab h e => by
  subst e
  exact bH rfl h0 (rbR (GH tab l l' h)) (bv rfl)
 match way, h with
 | 0, h => exact ⟨_, rfl, key HN _ h rfl⟩
 | 1, h => exact ⟨_, rfl, key HM _ h rfl⟩
 | 2, h => exact ⟨_, rfl, key HL _ h rfl⟩
 | 3, h => exact ⟨_, rfl, key HK _ h rfl⟩
 | n + 4, h => exact ⟨_, rfl, key HJ _ h rfl⟩
def GP : SM := (ab (sIf (cj (aE cIn (mV aI) (mV dJ)) (cj (aE gEq (m2 bS (m2 cZ (mV aR) (mK (.int 40))) (mK (.int 11))) (mK (.int 0))) (cK true))) (ab (dt (br (mV aQ) bf (aa (ag jR (aa (m2 cD (ag jQ (aa (mV aI) ah)) (mK (.int 32))) ah)) ah)))
 ak) (ab (sIf (aE cIn (mV aI) (mV dJ)) (ab (dt (br (mV aQ) bf (aa (ag jR (aa (m2 cD (m2 cG (m2 az (mV ji) (m2 cD (m2 bS (m2 cZ (mV aR) (mK (.int 40))) (mK (.int 11))) (mK (.int 1)))) (ag jQ (aa (mV aI) ah))) (mK (.int 97))) ah)) ah)))
 ak) (ab (sIf (aE rQ (mV aI) (mV db)) (ab (dt (br (mV aQ) bf (aa (mV aI) ah)))
 ak) ak)
 ak))
 ak))
 ak)
def IR : SM := (ab (aL dg (m2 bS (m2 cZ (mV aR) (mK (.int 440))) (mK (.int 3))))
 (ab (aL aQ (m2 cG (bW (mV aQ) (bc (mV dg)) be) (bW (mV aQ) be (bc (mV dg)))))
 (ab (dt (br (mV aQ) gi (aa (m2 bS (m2 cZ (mV aR) (mK (.int 35640))) (m2 cG (ag bZ (aa (mV aQ) ah)) (mK (.int 1)))) (aa (ag jR (aa (m2 az (mV jo) (m2 bS (m2 cZ (mV aR) (mK (.int 1320))) (mK (.int 27)))) ah)) ah))))
 (ab (bj (mV aQ))
 ak))))
def IS : SM := (ab (fe (mV bg) aI GP)
 IR)
def BU : SM := (ab (sIf (aE cGt (m2 bS (m2 cZ (mV aR) (mK (.int 8))) (mK (.int 5))) (mK (.int 0))) (ab (jU ar db (m2 az (mV jm) (m2 cD (m2 bS (m2 cZ (mV aR) (mK (.int 8))) (mK (.int 5))) (mK (.int 1)))))
 (ab (sIf (aE gEq (aX (mV dJ) (bd1 aI) (aE cIn (mV aI) (mV db)) (mV aI)) (ba ah)) (ab (dt (br (mV aQ) bf (aa (ag jR (aa (mV ar) ah)) ah)))
 ak) (ab (aL db (mK (.str [])))
 ak))
 ak)) ak)
 IS)
def Qq : SM := (ab (aL dJ (aX (ag aZ (aa (mK (.int 3)) ah)) (bd1 n_k) (aE gEq (m2 bS (m2 cZ (mV aR) (m2 gS (mK (.int 2)) (mV n_k))) (mK (.int 2))) (mK (.int 1))) (m2 az (mV bg) (mV n_k))))
 (ab (aL db (mK (.str [])))
 (ab (aL aQ (ba ah))
 BU)))
noncomputable def NM : Nat → List Nat
 | 0 => [107, 112, 97]
 | 1 => [109, 112, 97]
 | 2 => [104, 112, 97]
 | _ => [107, 104, 122]
noncomputable def JN : Nat → List (Nat × List Nat)
 | 0 => [(13188, [107, 97]), (13184, [112, 97]), (13225, [112, 97]), (13226, [107, 112, 97])]
 | 1 => [(13187, [109, 97]), (13184, [112, 97]), (13225, [112, 97]), (13227, [109, 112, 97])]
 | 2 => [(13259, [104, 112]), (13184, [112, 97]), (13271, [112, 104]), (13169, [104, 112, 97])]
 | _ => [(13200, [104, 122]), (13201, [107, 104, 122]), (13200, [104, 122]), (13201, [107, 104, 122])]
noncomputable def ej : List Nat := [119808, 119860, 119912, 120016, 120172, 120224, 120276, 120328, 120380, 120432]
noncomputable def fs : List Nat := [173, 847, 6150, 6155, 6156, 6157, 8203, 8204, 8205, 8288, 65279, 65024, 65025, 65026, 65027, 65028, 65029, 65030, 65031, 65032, 65033, 65034, 65035, 65036, 65037, 65038, 65039]
def gr3 (g : Nat) : List Nat → List Nat
 | [x, y, z] => (match fI g 0 with | 1 => [x] | _ => []) ++ ((match fI g 1 with | 1 => [y] | _ => []) ++ (match fI g 2 with | 1 => [z] | _ => []))
 | _ => []
def mE (great meant : List Nat) : Bool := great.any fun l => bI meant l
def lX (great : List Nat) (J : List (Nat × List Nat)) (j : Nat) : List Nat × List Nat := match j with
 | 0 => ([], [])
 | i + 1 => match J[i]? with
  | some (s, m) => match mE great m with
   | true => ([], [])
   | false => ([s], m)
  | none => ([], [])
def lF (great meant : List Nat) (v : Nat) (l : Nat) : List Nat := match bI great l with
 | true => match v with
  | 0 => [l - 32]
  | i + 1 => [ej.getD i 0 + l - 97]
 | false => match bI meant l with
  | true => []
  | false => [l]
def jW (w g j v : Nat) : List Nat := match lX (gr3 g (NM w)) (JN w) j with
 | (s, m) => s ++ (NM w).flatMap (lF (gr3 g (NM w)) m v)
noncomputable def eP (t : Nat) (l : List Nat) : List Nat := l.drop t ++ l.take t
def eo (w c : Nat) : List Nat := match eP (c / 440 % 3) (jW w c (c / 8 % 5) (c / 40 % 11)) with
 | l => l.take (c / 35640 % (l.length + 1)) ++ fs.getD (c / 1320 % 27) 0 :: l.drop (c / 35640 % (l.length + 1))
def TV (w c : Nat) (nm : List Nat) (a b d g : Nat) (m : List Nat) (t : Nat) (e : ap) : ap :=
 (c9, .int (w : Nat)) :: (aR, .int (c : Nat)) :: (bg, .str nm) :: (jm, .ref a) :: (ji, .ref b) :: (jo, .ref d) :: (dJ, .ref g) :: (db, .str m) :: (aQ, .ref (t + 1)) :: e
def wf (e : ap) : Prop := e = [] ∨ (∃ s, e = [(ar, s)]) ∨ (∃ z, e = [(aI, z)]) ∨ (∃ s z, e = [(ar, s), (aI, z)])
theorem G0 : ∀ (L : List Nat) (x : Nat), f4 (aC L) (.str [x]) = some (bI L x) := by
 intro L
 induction L with
 | nil =>
  intro x
  exact rfl
 | cons y ys ih =>
  intro x
  show (match fEq (.str [y]) (.str [x]), f4 (aC ys) (.str [x]) with | some p, some q => some (p || q) | _, _ => none) = some (match Nat.beq y x with | true => true | false => bI ys x)
  rw [ih x]
  show some (leq [y] [x] || bI ys x) = _
  rw [qZ]
  cases Nat.beq y x <;> rfl
section
variable {σ : ac} {w c : Nat} {nm m great : List Nat} {a b d g t : Nat}
theorem gl {x y : Nat} : decide ((x : Int) = (y : Int)) = Nat.beq x y := by
 rw [dU]; exact decide_eq_decide.mpr (by lia)
theorem jA {V : ap} {k n : Nat} (h : lk V aR = some (.int (c : Nat))) (h1 : 1 ≤ k) (h2 : k ≤ 1000000000) (h3 : 1 ≤ n) : m2 bS (m2 cZ (mV aR) (mK (.int (k : Nat)))) (mK (.int (n : Nat))) V σ = some (.int ((c / k % n : Nat) : Int), σ) :=
 r2 (r2 (rV h) rK (k5 h1 h2)) rK (gf h3)
theorem Mf {l v : Nat} {e : ap} {acc : List Nat} (he : wf e) (hg : am σ g = some (aC great)) (hb : am σ b = some (mis ej)) (ht : am σ (t + 1) = some (aC acc)) (hl : acc.length ≤ 1000) (hv : c / 40 % 11 = v) (hlo : 97 ≤ l) (hhi : l ≤ 122) :
  ∃ e', wf e' ∧ GP (put (TV w c nm a b d g m t e) aI (.str [l])) σ = some (none, TV w c nm a b d g m t e', σ.set (t + 1) (aC (acc ++ lF great m v l))) := by
 obtain ⟨e', he', hle, hV⟩ : ∃ e', wf e' ∧ (∃ pre, (pre = [] ∨ ∃ s, pre = [(ar, s)]) ∧ e' = pre ++ [(aI, .str [l])]) ∧ put (TV w c nm a b d g m t e) aI (.str [l]) = TV w c nm a b d g m t e' := by
  rcases he with rfl | ⟨s, rfl⟩ | ⟨z, rfl⟩ | ⟨s, z, rfl⟩
  ·exact ⟨[(aI, .str [l])], .inr (.inr (.inl ⟨_, rfl⟩)), ⟨[], .inl rfl, rfl⟩, rfl⟩
  ·exact ⟨[(ar, s), (aI, .str [l])], .inr (.inr (.inr ⟨_, _, rfl⟩)), ⟨[(ar, s)], .inr ⟨_, rfl⟩, rfl⟩, rfl⟩
  ·exact ⟨[(aI, .str [l])], .inr (.inr (.inl ⟨_, rfl⟩)), ⟨[], .inl rfl, rfl⟩, rfl⟩
  ·exact ⟨[(ar, s), (aI, .str [l])], .inr (.inr (.inr ⟨_, _, rfl⟩)), ⟨[(ar, s)], .inr ⟨_, rfl⟩, rfl⟩, rfl⟩
 refine ⟨e', he', ?_⟩
 rw [hV]
 have hll : lk (TV w c nm a b d g m t e') aI = some (.str [l]) := by
  obtain ⟨pre, hp, rfl⟩ := hle
  rcases hp with rfl | ⟨s, rfl⟩ <;> rfl
 have hapl : (aC acc).length ≤ 1000000 := by simp [aC]; lia
 have happ : ∀ x, aC acc ++ [.str [x]] = aC (acc ++ [x]) := fun x => by simp [aC]
 have cin : aE cIn (mV aI) (mV dJ) (TV w c nm a b d g m t e') σ = some (bI great l, σ) :=
  aU (rV hll) (rV rfl) (by rw [ri, hg]; exact G0 great l)
 have c0 : aE gEq (m2 bS (m2 cZ (mV aR) (mK (.int 40))) (mK (.int 11))) (mK (.int 0)) (TV w c nm a b d g m t e') σ = some (Nat.beq v 0, σ) := by
  refine aU (jA (k := 40) (n := 11) rfl (by decide) (by decide) (by decide)) rK ?_
  rw [hv]
  exact congrArg some gl
 unfold lF
 match q : bI great l with
 | true =>
  rw [q] at cin
  cases v with
  | zero =>
   refine rbC (bL (bR cin (bR c0 rfl)) (rbC (j9 (fh (rV rfl) ht (af (aK (af (r2 (aK (af (rV hll) aD) rfl) rK rfl) aD) (jN (n := l - 32) (by lia) (by lia))) aD) ?_)) aM)) aM
   rw [← happ]
   exact fv ht hapl
  | succ i =>
   have hi : i < 10 := by lia
   have hst : ej[i]? = some (ej.getD i 0) := by
    have : i = 0 ∨ i = 1 ∨ i = 2 ∨ i = 3 ∨ i = 4 ∨ i = 5 ∨ i = 6 ∨ i = 7 ∨ i = 8 ∨ i = 9 := by lia
    rcases this with rfl | rfl | rfl | rfl | rfl | rfl | rfl | rfl | rfl | rfl <;> rfl
   have hsm : ej.getD i 0 ≤ 120432 := by
    have : i = 0 ∨ i = 1 ∨ i = 2 ∨ i = 3 ∨ i = 4 ∨ i = 5 ∨ i = 6 ∨ i = 7 ∨ i = 8 ∨ i = 9 := by lia
    rcases this with rfl | rfl | rfl | rfl | rfl | rfl | rfl | rfl | rfl | rfl <;> decide
   have hsub : cD (.int ((c / 40 % 11 : Nat) : Int)) (.int 1) σ = some (.int (i : Nat), σ) := by
    show some (MV.int (((c / 40 % 11 : Nat) : Int) - 1), σ) = _
    rw [hv, show ((i + 1 : Nat) : Int) - 1 = (i : Int) by lia]
   refine rbC (aW (bR cin (dj c0)) (rbC (bL cin (rbC (j9 (fh (rV rfl) ht (af (aK (af (r2 (r2 (r2 (rV rfl) (r2 (jA (k := 40) (n := 11) rfl (by decide) (by decide) (by decide)) rK hsub) (cC hb (x := .int (ej.getD i 0 : Nat)) (by unfold mis; rw [List.getElem?_map, hst]; rfl) (by decide))) (aK (af (rV hll) aD) rfl) rfl) rK rfl) aD) (jN (n := ej.getD i 0 + l - 97) (by lia) (by lia))) aD) ?_)) aM)) aM)) aM
   rw [← happ]
   exact fv ht hapl
 | false =>
  rw [q] at cin
  have cnin : aE rQ (mV aI) (mV db) (TV w c nm a b d g m t e') σ = some (!bI m l, σ) := aU (rV hll) (rV rfl) rfl
  match q2 : bI m l with
  | true =>
   rw [q2] at cnin
   refine rbC (aW (dj cin) (rbC (aW cin (rbC (aW cnin aM) aM)) aM)) ?_
   show some (none, TV w c nm a b d g m t e', σ) = _
   rw [List.append_nil, jb ht]
  | false =>
   rw [q2] at cnin
   refine rbC (aW (dj cin) (rbC (aW cin (rbC (bL cnin (rbC (j9 (fh (rV rfl) ht (af (rV hll) aD) ?_)) aM)) aM)) aM)) aM
   rw [← happ]
   exact fv ht hapl
theorem BF {v : Nat} {mi : List MV} (hb0 : b ≠ t + 1) (hg0 : g ≠ t + 1) (hv : c / 40 % 11 = v) : ∀ (r acc : List Nat) (e : ap) (σ : ac), (∀ l ∈ r, 97 ≤ l ∧ l ≤ 122) → wf e → am σ g = some (aC great) → am σ b = some (mis ej) → am σ (t + 1) = some (aC acc) → acc.length + r.length ≤ 1000 →
  ∃ e', wf e' ∧ eK (.str nm) mi aI GP (aC r) (TV w c nm a b d g m t e) σ = some (none, TV w c nm a b d g m t e', σ.set (t + 1) (aC (acc ++ r.flatMap (lF great m v))))
 | [], acc, e, σ, hr, he, hg, hb, ht, hl => by
  refine ⟨e, he, ?_⟩
  rw [List.flatMap_nil, List.append_nil, jb ht]
  exact cP rfl
 | l :: r, acc, e, σ, hr, he, hg, hb, ht, hl => by
  have hl' : acc.length + (r.length + 1) ≤ 1000 := hl
  have hll := hr l List.mem_cons_self
  obtain ⟨e1, he1, run1⟩ := Mf (w := w) (c := c) (nm := nm) (m := m) (a := a) (d := d) he hg hb ht (by lia) hv hll.1 hll.2
  have hlen : (lF great m v l).length ≤ 1 := by
   unfold lF
   cases bI great l
   ·cases bI m l <;> simp
   ·cases v <;> simp
  obtain ⟨e2, he2, run2⟩ := BF (mi := mi) hb0 hg0 hv r (acc ++ lF great m v l) e1 (σ.set (t + 1) (aC (acc ++ lF great m v l))) (fun x hx => hr x (List.mem_cons_of_mem _ hx)) he1 (by rw [bo (Ne.symm hg0)]; exact hg) (by rw [bo (Ne.symm hb0)]; exact hb) (cA ht) (by rw [List.length_append]; lia)
  rw [List.set_set] at run2
  refine ⟨e2, he2, bE rfl run1 ?_⟩
  rw [List.flatMap_cons, ← List.append_assoc]
  exact run2
theorem rJ {p : Nat} {l : List MV} : cut (some (p : Int)) none l = l.drop p := by
 unfold cut
 show ((l.drop (match Nat.ble p l.length with | true => p | false => l.length)).take (l.length - (match Nat.ble p l.length with | true => p | false => l.length))) = l.drop p
 rw [fH]
 by_cases h : p ≤ l.length
 ·rw [decide_eq_true h]
  dsimp only
  rw [List.take_of_length_le (by simp)]
 ·rw [decide_eq_false h]
  dsimp only
  rw [List.drop_length, List.drop_of_length_le (by lia)]; simp
theorem zU {α : Type} {p : Nat} {l : List α} : cut none (some (p : Int)) l = l.take p := by
 unfold cut
 show (l.drop 0).take ((match Nat.ble p l.length with | true => p | false => l.length) - 0) = _
 rw [fH]
 by_cases h : p ≤ l.length
 ·rw [decide_eq_true h]; simp
 ·rw [decide_eq_false h]
  show (l.drop 0).take (l.length - 0) = _
  rw [List.take_of_length_le (by simp), List.take_of_length_le (by lia)]; rfl
theorem dz (l : List Nat) : (aC l).length = l.length := by simp [aC]
theorem uD (l : List Nat) : (aC l).all ft = true := by
 unfold aC
 rw [List.all_map]
 exact List.all_eq_true.mpr fun _ _ => rfl
theorem vP {V : ap} {x y i p : Nat} {xs : List MV} {S : ac} (h1 : lk V x = some (.ref i)) (h2 : lk V y = some (.int (p : Nat))) (hs : am S i = some xs) (hl : xs.length ≤ 1000000) : bW (mV x) (bc (mV y)) be V S = some (.ref S.length, S ++ [xs.drop p]) := by
 unfold bW bc be
 rw [rV h1]; dsimp only; rw [rV h2]; dsimp only; rw [hs]; dsimp only; rw [Nat.ble_eq_true_of_le hl]; dsimp only
 rw [rJ]
theorem vQ {V : ap} {x y i p : Nat} {xs : List MV} {S : ac} (h1 : lk V x = some (.ref i)) (h2 : lk V y = some (.int (p : Nat))) (hs : am S i = some xs) (hl : xs.length ≤ 1000000) : bW (mV x) be (bc (mV y)) V S = some (.ref S.length, S ++ [xs.take p]) := by
 unfold bW bc be
 rw [rV h1]; dsimp only; rw [rV h2]; dsimp only; rw [hs]; dsimp only; rw [Nat.ble_eq_true_of_le hl]; dsimp only
 rw [zU]
theorem zM {h : Nat} (hh : h < 27) : (mis fs)[h]? = some (.int (fs.getD h 0 : Nat)) ∧ fs.getD h 0 ≤ 1114111 := by
 have key : ∀ h : Fin 27, fs[h.1]? = some (fs.getD h.1 0) ∧ fs.getD h.1 0 ≤ 1114111 := by decide +kernel
 have := key ⟨h, hh⟩
 refine ⟨?_, this.2⟩
 unfold mis
 rw [List.getElem?_map, this.1]
 rfl
theorem Iw {r q : Nat} {xs : List MV} {x : MV} {S : ac} (h : am S (r + 1) = some xs) (hl : xs.length ≤ 1000000) (hq : q ≤ xs.length) : gi [.ref (r + 1), .int (q : Nat), x] S = some (.none, S.set (r + 1) (xs.take q ++ x :: xs.drop q)) := by
 unfold gi
 have hq2 : decide (0 ≤ ((q : Nat) : Int)) = true := decide_eq_true (by lia)
 simp only [h, Int.toNat_natCast, hq2, Nat.ble_eq_true_of_le hl, Nat.ble_eq_true_of_le hq]
theorem Am {e : ap} {l : List Nat} (he : wf e) (hd : am σ d = some (mis fs)) (ht : am σ (t + 1) = some (aC l)) (hl : l.length ≤ 100) :
  ∃ V' τ i, IR (TV w c nm a b d g m t e) σ = some (some (.ref i), V', σ ++ τ) ∧ σ.length ≤ i ∧ am (σ ++ τ) i = some (aC ((eP (c / 440 % 3) l).take (c / 35640 % ((eP (c / 440 % 3) l).length + 1)) ++ fs.getD (c / 1320 % 27) 0 :: (eP (c / 440 % 3) l).drop (c / 35640 % ((eP (c / 440 % 3) l).length + 1)))) := by
 generalize htn : c / 440 % 3 = tn
 generalize hL : eP tn l = L
 have hLl : L.length ≤ 200 := by rw [← hL]; unfold eP; rw [List.length_append, Nat.add_comm, ← List.length_append, List.take_append_drop]; exact Nat.le_trans hl (by decide)
 obtain ⟨e1, he1, hV⟩ : ∃ e1, (lk (TV w c nm a b d g m t e1) dg = some (.int (tn : Nat)) ∧ ∀ i, put (TV w c nm a b d g m t e1) aQ (.ref (i + 1)) = TV w c nm a b d g m i e1) ∧ put (TV w c nm a b d g m t e) dg (.int (tn : Nat)) = TV w c nm a b d g m t e1 := by
  rcases he with rfl | ⟨s, rfl⟩ | ⟨z, rfl⟩ | ⟨s, z, rfl⟩
  ·exact ⟨[(dg, .int (tn : Nat))], ⟨rfl, fun _ => rfl⟩, rfl⟩
  ·exact ⟨[(ar, s), (dg, .int (tn : Nat))], ⟨rfl, fun _ => rfl⟩, rfl⟩
  ·exact ⟨[(aI, z), (dg, .int (tn : Nat))], ⟨rfl, fun _ => rfl⟩, rfl⟩
  ·exact ⟨[(ar, s), (aI, z), (dg, .int (tn : Nat))], ⟨rfl, fun _ => rfl⟩, rfl⟩
 have hpos : 1 ≤ σ.length := by have := bx ht; lia
 have t1 : m2 bS (m2 cZ (mV aR) (mK (.int 440))) (mK (.int 3)) (TV w c nm a b d g m t e) σ = some (.int (tn : Nat), σ) := by
  have := jA (σ := σ) (c := c) (V := TV w c nm a b d g m t e) (k := 440) (n := 3) rfl (by decide) (by decide) (by decide)
  rw [htn] at this
  exact this
 have hsl : (aC l).length ≤ 1000000 := by rw [dz]; lia
 let S1 := σ ++ [(aC l).drop tn]
 let S2 := S1 ++ [(aC l).take tn]
 have g1 : am S2 σ.length = some ((aC l).drop tn) := aj (aN _ _)
 have g2 : am S2 S1.length = some ((aC l).take tn) := aN _ _
 have happ : (aC l).drop tn ++ (aC l).take tn = aC L := by
  rw [← hL]; unfold eP aC; simp
 have add : cG (.ref σ.length) (.ref S1.length) S2 = some (.ref S2.length, S2 ++ [aC L]) := by
  unfold cG
  simp only [g1, g2, happ]
  rw [Nat.ble_eq_true_of_le (show (aC L).length ≤ 100000 by rw [dz]; lia)]
 let S3 := S2 ++ [aC L]
 have g3 : am S3 S2.length = some (aC L) := aN _ _
 have hS2 : S2.length = S1.length + 1 := by simp [S2]
 have glen : bZ [.ref S2.length] S3 = some (.int ((L.length : Nat) : Int), S3) := by
  unfold bZ
  simp only [g3]
  rw [Nat.ble_eq_true_of_le (show (aC L).length ≤ 1000000 by rw [dz]; lia), dz]
 have gh : am S3 d = some (mis fs) := aj (aj (aj hd))
 generalize hq : c / 35640 % (L.length + 1) = q
 have hqL : q ≤ L.length := by have := Nat.mod_lt (c / 35640) (show 0 < L.length + 1 by lia); lia
 have hh : c / 1320 % 27 < 27 := Nat.mod_lt _ (by decide)
 have ins : gi [.ref S2.length, .int (q : Nat), .str [fs.getD (c / 1320 % 27) 0]] S3 = some (.none, S3.set S2.length ((aC L).take q ++ .str [fs.getD (c / 1320 % 27) 0] :: (aC L).drop q)) := by
  have g3' := g3
  rw [hS2] at g3' ⊢
  exact Iw g3' (by rw [dz]; lia) (by rw [dz]; exact hqL)
 have hins : (aC L).take q ++ .str [fs.getD (c / 1320 % 27) 0] :: (aC L).drop q = aC (L.take q ++ fs.getD (c / 1320 % 27) 0 :: L.drop q) := by
  unfold aC; simp
 rw [hins] at ins
 refine ⟨TV w c nm a b d g m S1.length e1, [(aC l).drop tn, (aC l).take tn, aC (L.take q ++ fs.getD (c / 1320 % 27) 0 :: L.drop q)], S2.length, ?_, ?_, ?_⟩
 ·have hS : S3.set S2.length (aC (L.take q ++ fs.getD (c / 1320 % 27) 0 :: L.drop q)) = σ ++ [(aC l).drop tn, (aC l).take tn, aC (L.take q ++ fs.getD (c / 1320 % 27) 0 :: L.drop q)] := by
   show (S2 ++ [aC L]).set S2.length _ = _
   rw [iJ]
   simp [S2, S1]
  rw [← hS]
  refine rbC (bp t1) ?_
  rw [hV]
  refine rbC (bp (r2 (vP rfl he1.1 ht hsl) (vQ rfl he1.1 (aj ht) hsl) add)) ?_
  rw [hS2, he1.2]
  rw [← hS2]
  have hty : lk (TV w c nm a b d g m S1.length e1) aQ = some (.ref S2.length) := by rw [hS2]; rfl
  have hmod : m2 bS (m2 cZ (mV aR) (mK (.int 35640))) (m2 cG (ag bZ (aa (mV aQ) ah)) (mK (.int 1))) (TV w c nm a b d g m S1.length e1) S3 = some (.int (q : Nat), S3) := by
   have hm : bS (.int ((c / 35640 : Nat) : Int)) (.int ((L.length + 1 : Nat) : Int)) S3 = some (.int ((c / 35640 % (L.length + 1) : Nat) : Int), S3) := gf (by lia)
   rw [hq] at hm
   exact r2 (r2 (rV rfl) rK (k5 (b := 35640) (by decide) (by decide))) (r2 (aK (af (rV hty) aD) glen) rK rfl) hm
  refine rbC (j9 (fh (rV hty) g3 (af hmod (af (aK (af (r2 (rV rfl) (jA (k := 1320) (n := 27) rfl (by decide) (by decide) (by decide)) (cC gh (zM hh).1 (by decide))) aD) (jN rfl (zM hh).2)) aD)) ins)) ?_
  exact rbR (et (rV hty))
 ·simp [S2, S1]
 ·simp [am, S2, S1]
end
section
variable {w c : Nat} {nm : List Nat} {a b d g t : Nat} {great : List Nat} {β σ : ac}
theorem gu {i : Nat} {ys : List MV} (h : β.length ≤ i) : (β ++ σ).set i ys = β ++ σ.set (i - β.length) ys := List.set_append_right _ _ h
theorem lj {m : List Nat} {e : ap} {acc : List Nat} (he : wf e) (hb0 : b ≠ t + 1) (hg0 : g ≠ t + 1) (hd0 : d ≠ t + 1) (hbase : β.length ≤ t + 1) (hg : am (β ++ σ) g = some (aC great)) (hb : am (β ++ σ) b = some (mis ej)) (hd : am (β ++ σ) d = some (mis fs)) (ht : am (β ++ σ) (t + 1) = some (aC acc))
  (hr : ∀ l ∈ nm, 97 ≤ l ∧ l ≤ 122) (hn : nm.length ≤ 10) (hacc : acc.length ≤ 10) {L : List Nat} (hL : acc ++ nm.flatMap (lF great m (c / 40 % 11)) = L) (hLl : L.length ≤ 100) :
  ∃ V' τ i, IS (TV w c nm a b d g m t e) (β ++ σ) = some (some (.ref i), V', β ++ τ) ∧ β.length ≤ i ∧ am (β ++ τ) i = some (aC ((eP (c / 440 % 3) L).take (c / 35640 % ((eP (c / 440 % 3) L).length + 1)) ++ fs.getD (c / 1320 % 27) 0 :: (eP (c / 440 % 3) L).drop (c / 35640 % ((eP (c / 440 % 3) L).length + 1)))) := by
 refine e12 (BF (w := w) (c := c) (nm := nm) (m := m) (a := a) (d := d) (mi := aC nm) hb0 hg0 rfl nm acc e (β ++ σ) hr he hg hb ht (by lia)) fun e1 he1 run1 => ?_
 rw [hL, gu hbase] at run1
 have hd' : am (β ++ σ.set (t + 1 - β.length) (aC L)) d = some (mis fs) := by rw [← gu hbase, bo (Ne.symm hd0)]; exact hd
 have ht' : am (β ++ σ.set (t + 1 - β.length) (aC L)) (t + 1) = some (aC L) := by rw [← gu hbase]; exact cA ht
 refine e33 (Am (w := w) (c := c) (nm := nm) (m := m) (a := a) (b := b) (g := g) he1 hd' ht' hLl) fun V' τ i run2 hi hlg => ?_
 refine ⟨V', σ.set (t + 1 - β.length) (aC L) ++ τ, i, ?_, ?_, ?_⟩
 ·rw [← List.append_assoc]
  exact rbC (kr (rV rfl) rfl run1) run2
 ·rw [List.length_append] at hi; lia
 ·rw [← List.append_assoc]; exact hlg
noncomputable def JP (J : List (Nat × List Nat)) : List MV := J.map fun p => .pair (.int (p.1 : Nat)) (.str p.2)
def inP (m : List Nat) (v : MV) : Bool := match v with
 | .str [x] => bI m x
 | _ => false
theorem MW (great me : List Nat) : (((aC great).filter (inP me)).map fun v => v).isEmpty = !mE great me := by
 rw [List.map_id']
 unfold mE aC
 induction great with
 | nil => rfl
 | cons x r ih =>
  rw [List.map_cons, List.filter_cons, List.any_cons]
  have e : inP me (.str [x]) = bI me x := rfl
  rw [e]
  match q : bI me x with
  | true => rfl
  | false => simp only [Bool.false_or]; exact ih
theorem rc (xs : List MV) : lEq xs [] = some xs.isEmpty := by cases xs <;> rfl
def RG (X : Option (Option MV × ap × ac)) (β : ac) (l : List MV) : Prop := ∃ V' τ i, X = some (some (.ref i), V', β ++ τ) ∧ β.length ≤ i ∧ am (β ++ τ) i = some l
theorem An {J : List (Nat × List Nat)} (hb0 : b ≠ t + 1) (hg0 : g ≠ t + 1) (hd0 : d ≠ t + 1) (hbase : β.length ≤ t + 1) (h0 : 1 ≤ β.length) (hg : am (β ++ σ) g = some (aC great)) (hb : am (β ++ σ) b = some (mis ej)) (hd : am (β ++ σ) d = some (mis fs)) (ht : am (β ++ σ) (t + 1) = some (aC [])) (ha : am (β ++ σ) a = some (JP J))
  (hJ : J.length = 4) (hJs : ∀ p ∈ J, p.1 ≤ 1114111) (hgl : great.length ≤ 100) (hr : ∀ l ∈ nm, 97 ≤ l ∧ l ≤ 122) (hn : nm.length ≤ 3) {s m : List Nat} (hs : lX great J (c / 8 % 5) = (s, m)) {L : List Nat} (hL : s ++ nm.flatMap (lF great m (c / 40 % 11)) = L) (hLl : L.length ≤ 100) :
  RG (BU (TV w c nm a b d g [] t []) (β ++ σ)) β (aC ((eP (c / 440 % 3) L).take (c / 35640 % ((eP (c / 440 % 3) L).length + 1)) ++ fs.getD (c / 1320 % 27) 0 :: (eP (c / 440 % 3) L).drop (c / 35640 % ((eP (c / 440 % 3) L).length + 1)))) := by
 have hv : ∀ V, lk V aR = some (.int (c : Nat)) → m2 bS (m2 cZ (mV aR) (mK (.int 8))) (mK (.int 5)) V (β ++ σ) = some (.int ((c / 8 % 5 : Nat) : Int), β ++ σ) := fun V h => jA (k := 8) (n := 5) h (by decide) (by decide) (by decide)
 have hj5 : c / 8 % 5 < 5 := Nat.mod_lt _ (by decide)
 generalize c / 8 % 5 = j at hs hv hj5
 cases j with
 | zero =>
  cases hs
  refine e33 (lj (w := w) (c := c) (nm := nm) (a := a) (m := []) (e := []) (acc := []) (.inl rfl) hb0 hg0 hd0 hbase hg hb hd ht hr (by lia) (by simp) hL hLl) fun V' τ i run h1 h2 => ?_
  exact ⟨V', τ, i, rbC (aW (aU (hv _ rfl) rK rfl) aM) run, h1, h2⟩
 | succ j =>
  have hjl : j < J.length := by lia
  have hJj : J[j]? = some J[j] := List.getElem?_eq_getElem hjl
  obtain ⟨sg, me, hp⟩ : ∃ sg me, J[j] = (sg, me) := ⟨_, _, rfl⟩
  have hsgl : sg ≤ 1114111 := by have := hJs _ (List.getElem_mem hjl); rw [hp] at this; exact this
  unfold lX at hs
  dsimp only at hs
  rw [hJj, hp] at hs
  dsimp only at hs
  have cgt : aE cGt (m2 bS (m2 cZ (mV aR) (mK (.int 8))) (mK (.int 5))) (mK (.int 0)) (TV w c nm a b d g [] t []) (β ++ σ) = some (true, β ++ σ) :=
   aU (hv _ rfl) rK (congrArg some (decide_eq_true (by lia)))
  have hidx : m2 cD (m2 bS (m2 cZ (mV aR) (mK (.int 8))) (mK (.int 5))) (mK (.int 1)) (TV w c nm a b d g [] t []) (β ++ σ) = some (.int (j : Nat), β ++ σ) := by
   refine r2 (hv _ rfl) rK ?_
   show some (MV.int (((j + 1 : Nat) : Int) - 1), β ++ σ) = _
   rw [show ((j + 1 : Nat) : Int) - 1 = (j : Int) by lia]
  have hit : az (.ref a) (.int (j : Nat)) (β ++ σ) = some (.pair (.int (sg : Nat)) (.str me), β ++ σ) := cC ha (by unfold JP; rw [List.getElem?_map, hJj, hp]; rfl) (by simp [JP]; lia)
  have hpos : 1 ≤ (β ++ σ).length := by rw [List.length_append]; lia
  obtain ⟨τc, comp⟩ := bP (it := mV dJ) (x := aI) (c := aE cIn (mV aI) (mV db)) (e := mV aI) (V := TV w c nm a b d g me t [(ar, .int (sg : Nat))]) (σ := β ++ σ) (inP me) (fun v => v) (rV rfl) (show cW (.ref g) _ = some (aC great) from hg) (by rw [gQ]; rfl) hpos (cy hg) (by rw [dz]; lia)
   (fun x hx τ => by
    refine e12 (List.mem_map.mp hx) fun y hy z2 => ?_; subst z2
    exact aY (aU (rV (v := .str [y]) (by rw [ch, if_pos rfl])) (rV (v := .str me) (by rw [ch, if_neg (by decide)]; rfl)) rfl))
   (fun x hx _ τ => aY (rV (by rw [ch, if_pos rfl])))
  have hemp : (((aC great).filter (inP me)).map fun v => v).isEmpty = !mE great me := MW great me
  generalize (((aC great).filter (inP me)).map fun v => v) = fl at comp hemp
  have ceq : aE gEq (aX (mV dJ) (bd1 aI) (aE cIn (mV aI) (mV db)) (mV aI)) (ba ah) (TV w c nm a b d g me t [(ar, .int (sg : Nat))]) (β ++ σ) = some (!mE great me, β ++ (σ ++ (fl :: τc) ++ [[]])) := by
   have e : gEq (.ref (β ++ σ).length) (.ref (β ++ σ ++ (fl :: τc)).length) (β ++ σ ++ (fl :: τc) ++ [[]]) = some (!mE great me) := by
    show (match am (β ++ σ ++ (fl :: τc) ++ [[]]) (β ++ σ).length, am (β ++ σ ++ (fl :: τc) ++ [[]]) (β ++ σ ++ (fl :: τc)).length with
     | some xs, some ys => lEq xs ys
     | _, _ => none) = _
    rw [aN, show am (β ++ σ ++ (fl :: τc) ++ [[]]) (β ++ σ).length = some fl from aj (by simp [am])]
    dsimp only
    rw [rc, hemp]
   have := aU comp (c7 aD rfl) e
   rw [this]
   simp
  have keep : ∀ {i : Nat} {xs : List MV}, am (β ++ σ) i = some xs → am (β ++ (σ ++ (fl :: τc) ++ [[]])) i = some xs := fun h => by
   have : β ++ (σ ++ (fl :: τc) ++ [[]]) = β ++ σ ++ ((fl :: τc) ++ [[]]) := by simp
   rw [this]; exact aj h
  generalize σ ++ (fl :: τc) ++ [[]] = σ2 at ceq keep
  cases q : mE great me with
  | true =>
   rw [q] at hs ceq
   cases hs
   refine e33 (lj (w := w) (c := c) (nm := nm) (a := a) (m := []) (e := [(ar, .int (sg : Nat))]) (acc := []) (.inr (.inl ⟨_, rfl⟩)) hb0 hg0 hd0 hbase (keep hg) (keep hb) (keep hd) (keep ht) hr (by lia) (by simp) hL hLl) fun V' τ i run h1 h2 => ?_
   exact ⟨V', τ, i, rbC (bL cgt (rbC (pI (r2 (rV rfl) hidx hit)) (rbC (aW ceq (rbC (bp rK) aM)) aM))) run, h1, h2⟩
  | false =>
   rw [q] at hs ceq
   cases hs
   have hset := cA (ys := aC [] ++ [.str [sg]]) (keep ht)
   have hS : (β ++ σ2).set (t + 1) (aC [] ++ [.str [sg]]) = β ++ σ2.set (t + 1 - β.length) (aC [sg]) := gu hbase
   rw [hS] at hset
   have keep2 : ∀ {i : Nat} {xs : List MV}, i ≠ t + 1 → am (β ++ σ) i = some xs → am (β ++ σ2.set (t + 1 - β.length) (aC [sg])) i = some xs := fun hi h => by
    rw [← hS, bo (Ne.symm hi)]; exact keep h
   refine e33 (lj (w := w) (c := c) (nm := nm) (a := a) (m := _) (e := [(ar, .int (sg : Nat))]) (acc := [sg]) (.inr (.inl ⟨_, rfl⟩)) hb0 hg0 hd0 hbase (keep2 hg0 hg) (keep2 hb0 hb) (keep2 hd0 hd) hset hr (by lia) (by simp) hL hLl) fun V' τ i run h1 h2 => ?_
   refine ⟨V', τ, i, rbC (bL cgt (rbC (pI (r2 (rV rfl) hidx hit)) (rbC (bL ceq (rbC (j9 (fh (rV rfl) (keep ht) (af (aK (af (rV rfl) aD) (jN rfl hsgl)) aD) (fv (keep ht) (by simp [aC])))) aM)) aM))) ?_, h1, h2⟩
   rw [hS]
   exact run
end
theorem L6 (w : Nat) : (∀ l ∈ NM w, 97 ≤ l ∧ l ≤ 122) ∧ (NM w).length = 3 := by
 match w with
 | 0 => decide
 | 1 => decide
 | 2 => decide
 | n + 3 => exact (by decide : (∀ l ∈ NM 3, 97 ≤ l ∧ l ≤ 122) ∧ (NM 3).length = 3)
theorem Oo (w : Nat) : (JN w).length = 4 ∧ ∀ p ∈ JN w, p.1 ≤ 1114111 := by
 match w with
 | 0 => decide
 | 1 => decide
 | 2 => decide
 | n + 3 => exact (by decide : (JN 3).length = 4 ∧ ∀ p ∈ JN 3, p.1 ≤ 1114111)
theorem gq (n k : Nat) : fI n k = 0 ∨ fI n k = 1 := by unfold fI; lia
theorem MK (c x y z : Nat) : ((mis [0, 1, 2]).filter fun v => match v with | .int i => Nat.beq (fI c i.toNat) 1 | _ => false).map (fun v => match v with | .int i => MV.str [[x, y, z].getD i.toNat 0] | _ => .none) = aC (gr3 c [x, y, z]) := by
 unfold gr3
 rcases gq c 0 with h0 | h0 <;> rcases gq c 1 with h1 | h1 <;> rcases gq c 2 with h2 | h2 <;> simp [mis, aC, h0, h1, h2, List.filter_cons]
theorem uc (w g j v : Nat) : (jW w g j v).length ≤ 4 := by
 have h1 : ∀ great m l, (lF great m v l).length ≤ 1 := fun great m l => by
  unfold lF
  cases bI great l
  ·cases bI m l <;> simp
  ·cases v <;> simp
 have h2 : ∀ great m (r : List Nat), (r.flatMap (lF great m v)).length ≤ r.length := fun great m r => by
  induction r with
  | nil => simp
  | cons l r ih => rw [List.flatMap_cons, List.length_append, List.length_cons]; have := h1 great m l; lia
 have h3 : (lX (gr3 g (NM w)) (JN w) j).1.length ≤ 1 := by
  unfold lX
  cases j with
  | zero => simp
  | succ i =>
   dsimp only
   cases (JN w)[i]? with
   | none => simp
   | some p =>
    dsimp only
    cases mE (gr3 g (NM w)) p.2 <;> simp
 unfold jW
 have := h2 (gr3 g (NM w)) (lX (gr3 g (NM w)) (JN w) j).2 (NM w)
 have := (L6 w).2
 rw [List.length_append]
 lia
theorem v7 {w c : Nat} {σ : ac} (h0 : 1 ≤ σ.length) (hw : w < 4) : k9 [.int (w : Nat), .int (c : Nat)] σ = some (.ref σ.length, σ ++ [aC (eo w c)]) := by
 have main : ∃ V' τ i, Ac ([c9, aR].zip [.int (w : Nat), .int (c : Nat)]) σ = some (some (.ref i), V', σ ++ τ) ∧ σ.length ≤ i ∧ am (σ ++ τ) i = some (aC (eo w c)) := by
  obtain ⟨x, y, z, hnm⟩ : ∃ x y z, NM w = [x, y, z] := by
   match w with
   | 0 => exact ⟨_, _, _, rfl⟩
   | 1 => exact ⟨_, _, _, rfl⟩
   | 2 => exact ⟨_, _, _, rfl⟩
   | n + 3 => exact ⟨_, _, _, rfl⟩
  let names : List MV := [.str [107, 112, 97], .str [109, 112, 97], .str [104, 112, 97], .str [107, 104, 122]]
  let s0 := σ ++ [names]
  let s1 := s0 ++ [JP (JN 0)]
  let s2 := s1 ++ [JP (JN 1)]
  let s3 := s2 ++ [JP (JN 2)]
  let s4 := s3 ++ [JP (JN 3)]
  let s5 := s4 ++ [[.ref s0.length, .ref s1.length, .ref s2.length, .ref s3.length]]
  obtain ⟨a, ja1, ja2⟩ : ∃ a, ([MV.ref s0.length, .ref s1.length, .ref s2.length, .ref s3.length] : List MV)[w]? = some (.ref a) ∧ am s5 a = some (JP (JN w)) := by
   have : w = 0 ∨ w = 1 ∨ w = 2 ∨ w = 3 := by lia
   rcases this with rfl | rfl | rfl | rfl
   ·exact ⟨_, rfl, aj (aj (aj (aj (aN _ _))))⟩
   ·exact ⟨_, rfl, aj (aj (aj (aN _ _)))⟩
   ·exact ⟨_, rfl, aj (aj (aN _ _))⟩
   ·exact ⟨_, rfl, aj (aN _ _)⟩
  let s6 := s5 ++ [mis ej]
  let hid1 : List Nat := [173, 847, 6150, 6155, 6156, 6157, 8203, 8204, 8205, 8288, 65279]
  let s7 := s6 ++ [mis hid1]
  let s8 := s7 ++ [mis (List.range' 65024 16)]
  let s9 := s8 ++ [mis fs]
  have nameR : az (.ref σ.length) (.int (w : Nat)) s0 = some (.str (NM w), s0) := by
   refine cC (aN _ _) ?_ (by decide)
   have : w = 0 ∨ w = 1 ∨ w = 2 ∨ w = 3 := by lia
   rcases this with rfl | rfl | rfl | rfl <;> rfl
  have joinR : az (.ref s4.length) (.int (w : Nat)) s5 = some (.ref a, s5) := cC (aN _ _) ja1 (by simp)
  have rngR : jS [.rng 65024 1 16] s7 = some (.ref s7.length, s8) := by
   show some (MV.ref s7.length, s7 ++ [bu ((65024 : Nat) : Int) 1 16]) = _
   rw [fF]
  have hidR : cG (.ref s6.length) (.ref s7.length) s8 = some (.ref s8.length, s9) := by
   have g1 : am s8 s6.length = some (mis hid1) := aj (aN _ _)
   have g2 : am s8 s7.length = some (mis (List.range' 65024 16)) := aN _ _
   unfold cG
   simp only [g1, g2]
   rfl
  let V7 : ap := [(c9, .int (w : Nat)), (aR, .int (c : Nat)), (bg, .str (NM w)), (jm, .ref a), (ji, .ref s5.length), (jo, .ref s8.length)]
  obtain ⟨τ, comp⟩ := bP (it := ag aZ (aa (mK (.int 3)) ah)) (x := n_k) (c := aE gEq (m2 bS (m2 cZ (mV aR) (m2 gS (mK (.int 2)) (mV n_k))) (mK (.int 2))) (mK (.int 1))) (e := m2 az (mV bg) (mV n_k)) (V := V7) (σ := s9)
   (fun v => match v with | .int i => Nat.beq (fI c i.toNat) 1 | _ => false) (fun v => match v with | .int i => .str [[x, y, z].getD i.toNat 0] | _ => .none) (aK (af rK aD) rfl) (its := mis [0, 1, 2]) rfl (by rw [gQ]; rfl) (by simp [s9]) fE (by decide)
   (fun v hv τ => by
    refine e12 (List.mem_map.mp hv) fun k hk z2 => ?_; subst z2
    have hk3 : k ≤ 3 := by simp at hk; lia
    refine aY (aU (mT (n := c) (k := k) (by rw [ch, if_neg (by decide)]; rfl) (by rw [ch, if_pos rfl]) hk3) rK ?_)
    exact congrArg some (gl (y := 1)))
   (fun v hv _ τ => by
    refine e12 (List.mem_map.mp hv) fun k hk z2 => ?_; subst z2
    have hk3 : k = 0 ∨ k = 1 ∨ k = 2 := by simpa using hk
    refine aY (r2 (rV (v := .str (NM w)) (by rw [ch, if_neg (by decide)]; rfl)) (rV (v := .int (k : Nat)) (by rw [ch, if_pos rfl])) (eg ?_))
    rw [hnm]
    rcases hk3 with rfl | rfl | rfl <;> rfl)
  rw [MK, ← hnm] at comp
  have len9 : σ.length + 9 = s9.length - 1 := by simp [s9, s8, s7, s6, s5, s4, s3, s2, s1, s0]
  have l5 : s5.length = σ.length + 6 := by simp [s5, s4, s3, s2, s1, s0]
  have l8 : s8.length = σ.length + 9 := by simp [s8, s7, s6, s5, s4, s3, s2, s1, s0]
  have l9 : s9.length = σ.length + 10 := by simp [s9, s8, s7, s6, s5, s4, s3, s2, s1, s0]
  let sA := s9 ++ (aC (gr3 c (NM w)) :: τ)
  have lA : σ.length + 11 ≤ sA.length := by simp [sA, l9]; lia
  let sB := sA ++ [aC []]
  obtain ⟨σx, hσx⟩ : ∃ σx, sB = σ ++ σx := ⟨_, by simp [sB, sA, s9, s8, s7, s6, s5, s4, s3, s2, s1, s0]; rfl⟩
  have hpred : sA.length - 1 + 1 = sA.length := by lia
  have gA : am sB s9.length = some (aC (gr3 c (NM w))) := aj (by simp [sA, am])
  have gB : am sB s5.length = some (mis ej) := aj (aj (aj (aj (aj (aN _ _)))))
  have gD : am sB s8.length = some (mis fs) := aj (aj (aN _ _))
  have gT : am sB (sA.length - 1 + 1) = some (aC []) := by rw [hpred]; exact aN _ _
  have gJ : am sB a = some (JP (JN w)) := aj (aj (aj (aj (aj (aj ja2)))))
  have ok := L6 w
  have okj := Oo w
  have hgl : (gr3 c (NM w)).length ≤ 100 := by
   rw [hnm]; unfold gr3
   rcases gq c 0 with h0 | h0 <;> rcases gq c 1 with h1 | h1 <;> rcases gq c 2 with h2 | h2 <;> simp [h0, h1, h2]
  have hcl := uc w c (c / 8 % 5) (c / 40 % 11)
  rw [hσx] at gA gB gD gT gJ
  refine e33 (An (w := w) (c := c) (nm := NM w) (β := σ) (σ := σx) (a := a) (b := s5.length) (d := s8.length) (g := s9.length) (t := sA.length - 1) (J := JN w) (by lia) (by lia) (by lia) (by lia) h0 gA gB gD gT gJ okj.1 okj.2 hgl ok.1 (by lia) (s := (lX (gr3 c (NM w)) (JN w) (c / 8 % 5)).1) (m := (lX (gr3 c (NM w)) (JN w) (c / 8 % 5)).2) rfl (L := jW w c (c / 8 % 5) (c / 40 % 11)) rfl (by lia)) fun V' τ' i run hi hl => ?_
  refine ⟨V', τ', i, ?_, hi, hl⟩
  refine rbC (bp (r2 (c7 (af rK (af rK (af rK (af rK aD)))) rfl) (rV rfl) nameR)) ?_
  refine rbC (bp (r2 (c7 (af (c7 (af (dY (af rK (af rK aD))) (af (dY (af rK (af rK aD))) (af (dY (af rK (af rK aD))) (af (dY (af rK (af rK aD))) aD)))) rfl) (af (c7 (af (dY (af rK (af rK aD))) (af (dY (af rK (af rK aD))) (af (dY (af rK (af rK aD))) (af (dY (af rK (af rK aD))) aD)))) rfl) (af (c7 (af (dY (af rK (af rK aD))) (af (dY (af rK (af rK aD))) (af (dY (af rK (af rK aD))) (af (dY (af rK (af rK aD))) aD)))) rfl) (af (c7 (af (dY (af rK (af rK aD))) (af (dY (af rK (af rK aD))) (af (dY (af rK (af rK aD))) (af (dY (af rK (af rK aD))) aD)))) rfl) aD)))) rfl) (rV rfl) joinR)) ?_
  refine rbC (bp (c7 (af rK (af rK (af rK (af rK (af rK (af rK (af rK (af rK (af rK (af rK aD)))))))))) rfl)) ?_
  refine rbC (bp (r2 (c7 (af rK (af rK (af rK (af rK (af rK (af rK (af rK (af rK (af rK (af rK (af rK aD))))))))))) rfl) (aK (af (aK (af rK (af rK aD)) rfl) aD) rngR) hidR)) ?_
  refine rbC (bp comp) ?_
  refine rbC (bp rK) ?_
  refine rbC (bp (c7 aD rfl)) ?_
  have hV : put (put (put V7 dJ (.ref s9.length)) db (.str [])) aQ (.ref sA.length) = TV w c (NM w) a s5.length s8.length s9.length [] (sA.length - 1) [] := by
   unfold TV; rw [hpred]; rfl
  show BU (put (put (put V7 dJ (.ref s9.length)) db (.str [])) aQ (.ref sA.length)) sB = _
  rw [hV, hσx]
  exact run
 refine e33 main fun V' τ i run hi hl => ?_
 exact bH rfl h0 run (ni hi hl (uD _))
def GR : SM := (ab (sIf (cj (aE gEq (m2 lI (mV a6) (mV au)) (mK (.int 0))) (cj (aE gEq (aX (ag aZ (aa (mK (.int 8)) ah)) (bd1 du) (cj (aE gEq (m2 lI (mV du) (m2 cD (mK (.int 7)) (mV au))) (mV a6)) (cj (aE rQ (mV du) (mV iN)) (cK true))) (mV du)) (ba ah)) (cK true))) (ab (dt (br (mV gG) bf (aa (b9 (aa (mV a6) (aa (mV au) ah))) ah)))
 ak) ak)
 ak)
def L1 : SM := (ab (fe (ag aZ (aa (mK (.int 8)) ah)) a6 GR)
 ak)
def rS : SM := (ab (aL fj (aX (ag aZ (aa (mK (.int 3)) ah)) (bd1 n_k) (aE gEq (m2 bS (m2 cZ (mV au) (m2 gS (mK (.int 2)) (mV n_k))) (mK (.int 2))) (mK (.int 0))) (b9 (aa (m2 lI (mV a6) (m2 cD (mK (.int 7)) (m2 gS (mK (.int 2)) (mV n_k)))) (aa (m2 cG (mV au) (m2 gS (mK (.int 2)) (mV n_k))) ah)))))
 (ab (sIf (aE gEq (aX (mV fj) (bd1 kT) (aE cIn (mV kT) (mV gG)) (mV kT)) (ba ah)) (ab (dt (br (mV cu) bf (aa (b9 (aa (mV a6) (aa (mV au) ah))) ah)))
 ak) ak)
 ak))
theorem nV {l : EM} {V : ap} {S : ac} {fl : List MV} {τ : ac} (h : l V S = some (.ref S.length, S ++ (fl :: τ))) : ∃ τ', aE gEq l (ba ah) V S = some (fl.isEmpty, S ++ τ') := by
 refine ⟨(fl :: τ) ++ [[]], ?_⟩
 have e : gEq (.ref S.length) (.ref (S ++ (fl :: τ)).length) (S ++ (fl :: τ) ++ [[]]) = some fl.isEmpty := by
  show (match am (S ++ (fl :: τ) ++ [[]]) S.length, am (S ++ (fl :: τ) ++ [[]]) (S ++ (fl :: τ)).length with
   | some xs, some ys => lEq xs ys
   | _, _ => none) = _
  rw [aN, show am (S ++ (fl :: τ) ++ [[]]) S.length = some fl from aj (by simp [am])]
  dsimp only
  rw [rc]
 rw [aU h (c7 aD rfl) e, List.append_assoc]
theorem rY (a b : Nat) {σ : ac} : lI (.int (a : Nat)) (.int (b : Nat)) σ = some (.int ((a &&& b : Nat) : Int), σ) := rfl
theorem AZ : ∀ (L : List Nat) (x : Nat), f4 (mis L) (.int (x : Nat)) = some (bI L x) := by
 intro L
 induction L with
 | nil =>
  intro x
  exact rfl
 | cons y ys ih =>
  intro x
  show (match fEq (.int (y : Nat)) (.int (x : Nat)), f4 (mis ys) (.int (x : Nat)) with | some p, some q => some (p || q) | _, _ => none) = some (match Nat.beq y x with | true => true | false => bI ys x)
  rw [ih x]
  show some (decide ((y : Int) = (x : Int)) || bI ys x) = _
  rw [gl]
  cases Nat.beq y x <;> rfl
def uK (rows : List Nat) (low d row : Nat) : Bool := Nat.beq (row &&& (7 - d)) low && !bI rows row
def kZ (rows : List Nat) (low d : Nat) : Bool := match Nat.beq (low &&& d) 0 with
 | true => !(List.range' 0 8).any (uK rows low d)
 | false => false
noncomputable def PP (l : List (Nat × Nat)) : List MV := l.map fun p => .pair (.int (p.1 : Nat)) (.int (p.2 : Nat))
def d0 (rows : List Nat) (d : Nat) (ls : List Nat) : List (Nat × Nat) := (ls.filter fun low => kZ rows low d).map fun low => (low, d)
def gL (rows : List Nat) : List (Nat × Nat) := (List.range' 0 8).flatMap fun d => d0 rows d (List.range' 0 8)
noncomputable def oy : List (Nat × Nat) → Nat × Nat → Bool
 | [], _ => false
 | p :: r, q => (Nat.beq p.1 q.1 && Nat.beq p.2 q.2) || oy r q
def eb (low d : Nat) : List (Nat × Nat) := ([0, 1, 2].filter fun k => Nat.beq (fI d k) 0).map fun k => (low &&& (7 - 2 ^ k), d + 2 ^ k)
def a8 (rows : List Nat) : List (Nat × Nat) := (gL rows).filter fun p => !(eb p.1 p.2).any (oy (gL rows))
noncomputable def rh (p : Nat → Bool) (v : MV) : Bool := match v with
 | .int i => p i.toNat
 | _ => false
theorem iT (p : Nat → Bool) : ∀ l : List Nat, (mis l).filter (rh p) = mis (l.filter p)
 | [] => rfl
 | x :: r => by
  show (MV.int (x : Nat) :: mis r).filter (rh p) = _
  rw [List.filter_cons, List.filter_cons, iT p r]
  have e : rh p (.int (x : Nat)) = p x := by show p ((x : Int).toNat) = p x; rw [Int.toNat_natCast]
  rw [e]
  cases p x <;> rfl
theorem Il (l : List Nat) (p : Nat → Bool) : (mis (l.filter p)).isEmpty = !l.any p := by
 induction l with
 | nil => rfl
 | cons x r ih =>
  rw [List.filter_cons, List.any_cons]
  match q : p x with
  | true => simp [mis]
  | false => simpa using ih
section
variable {rows : List Nat} {r : Nat} {σ : ac}
def GV (r h : Nat) (d : Nat) (e : ap) : ap := (iN, .ref r) :: (gG, .ref h) :: (au, .int (d : Nat)) :: e
theorem uN {S : ac} {V : ap} : ag aZ (aa (mK (.int 8)) ah) V S = some (.rng 0 1 8, S) := aK (af rK aD) rfl
theorem pM {S : ac} {V : ap} : ag aZ (aa (mK (.int 3)) ah) V S = some (.rng 0 1 3, S) := aK (af rK aD) rfl
theorem HG (acc : List (Nat × Nat)) (a b : Nat) : PP acc ++ [.pair (.int (a : Nat)) (.int (b : Nat))] = PP (acc ++ [(a, b)]) := by simp [PP]
theorem r7 (l : List (Nat × Nat)) : (PP l).length = l.length := by simp [PP]
theorem wo {σ τ : ac} {x y : List MV} : (σ ++ (x :: τ)).set σ.length y = σ ++ (y :: τ) := by rw [iJ]; rfl
theorem cw {σ τ : ac} {x : List MV} : am (σ ++ (x :: τ)) σ.length = some x := by simp [am]
theorem ML {d low : Nat} {e : ap} {acc : List (Nat × Nat)} {τ : ac} (h0 : 1 ≤ σ.length) (hr : am σ r = some (mis rows)) (hd : d ≤ 7) (he : e = [] ∨ ∃ z, e = [(a6, z)]) (hacc : acc.length ≤ 1000) :
  ∃ τ', GR (put (GV r σ.length d e) a6 (.int (low : Nat))) (σ ++ (PP acc :: τ)) = some (none, GV r σ.length d [(a6, .int (low : Nat))], σ ++ (PP (acc ++ d0 rows d [low]) :: τ')) := by
 have hV : put (GV r σ.length d e) a6 (.int (low : Nat)) = GV r σ.length d [(a6, .int (low : Nat))] := by
  rcases he with rfl | ⟨z, rfl⟩ <;> rfl
 rw [hV]
 have c1 : ∀ S, aE gEq (m2 lI (mV a6) (mV au)) (mK (.int 0)) (GV r σ.length d [(a6, .int (low : Nat))]) S = some (Nat.beq (low &&& d) 0, S) := fun S =>
  aU (r2 (rV rfl) (rV rfl) (rY low d)) rK (congrArg some (gl (y := 0)))
 unfold d0
 rw [List.filter_cons, List.filter_nil]
 unfold kZ
 match q : Nat.beq (low &&& d) 0 with
 | false =>
  rw [q] at c1
  refine ⟨τ, rbC (aW (dj (c1 _)) aM) ?_⟩
  show some (none, _, _) = some (none, _, σ ++ (PP (acc ++ []) :: τ))
  rw [List.append_nil]
 | true =>
  rw [q] at c1
  obtain ⟨τc, comp⟩ := bP (it := ag aZ (aa (mK (.int 8)) ah)) (x := du) (c := cj (aE gEq (m2 lI (mV du) (m2 cD (mK (.int 7)) (mV au))) (mV a6)) (cj (aE rQ (mV du) (mV iN)) (cK true))) (e := mV du) (V := GV r σ.length d [(a6, .int (low : Nat))]) (σ := σ ++ (PP acc :: τ))
   (rh (uK rows low d)) (fun v => v) uN (its := mis (List.range' 0 8)) (by show some (bu ((0 : Nat) : Int) 1 8) = _; rw [fF]) (by rw [gQ]; rfl) (by simp; lia) fE (by decide)
   (fun v hv τ2 => by
    refine e12 (List.mem_map.mp hv) fun k hk z2 => ?_; subst z2
    have e7 : cD (.int 7) (.int (d : Nat)) (σ ++ (PP acc :: τ) ++ τ2) = some (.int ((7 - d : Nat) : Int), σ ++ (PP acc :: τ) ++ τ2) := by
     show some (MV.int (7 - (d : Int)), _) = _
     rw [show (7 : Int) - (d : Int) = ((7 - d : Nat) : Int) by lia]
    have g1 : aE gEq (m2 lI (mV du) (m2 cD (mK (.int 7)) (mV au))) (mV a6) (put (GV r σ.length d [(a6, .int (low : Nat))]) du (.int (k : Nat))) (σ ++ (PP acc :: τ) ++ τ2) = some (Nat.beq (k &&& (7 - d)) low, σ ++ (PP acc :: τ) ++ τ2) :=
     aU (r2 (rV rfl) (r2 rK (rV rfl) e7) (rY k (7 - d))) (rV rfl) (congrArg some gl)
    have g2 : aE rQ (mV du) (mV iN) (put (GV r σ.length d [(a6, .int (low : Nat))]) du (.int (k : Nat))) (σ ++ (PP acc :: τ) ++ τ2) = some (!bI rows k, σ ++ (PP acc :: τ) ++ τ2) := by
     refine aU (rV rfl) (rV rfl) ?_
     show (match cIn (.int (k : Nat)) (.ref r) _ with | some p => some (!p) | none => none) = _
     rw [ri, aj (aj hr)]
     dsimp only
     rw [AZ]
    have hi : rh (uK rows low d) (.int (k : Nat)) = (Nat.beq (k &&& (7 - d)) low && !bI rows k) := rfl
    rw [hi]
    refine aY ?_
    match q1 : Nat.beq (k &&& (7 - d)) low with
    | false => rw [q1] at g1; exact dj g1
    | true =>
     rw [q1] at g1
     match q2 : !bI rows k with
     | false => rw [q2] at g2; exact bR g1 (dj g2)
     | true => rw [q2] at g2; exact bR g1 (bR g2 rfl))
   (fun v hv _ τ2 => aY (rV (by rw [ch, if_pos rfl])))
  obtain ⟨τ3, ceq⟩ := nV comp
  rw [List.map_id', iT, Il] at ceq
  dsimp only
  match q2 : !(List.range' 0 8).any (uK rows low d) with
  | false =>
   rw [q2] at ceq
   refine ⟨τ ++ τ3, rbC (aW (bR (c1 _) (dj ceq)) aM) ?_⟩
   show some (none, _, _) = some (none, _, σ ++ (PP (acc ++ []) :: (τ ++ τ3)))
   rw [List.append_nil, List.append_assoc]; rfl
  | true =>
   rw [q2] at ceq
   have hS : σ ++ (PP acc :: τ) ++ τ3 = σ ++ (PP acc :: (τ ++ τ3)) := by simp
   rw [hS] at ceq
   obtain ⟨n, hn⟩ : ∃ n, σ.length = n + 1 := ⟨σ.length - 1, by lia⟩
   have hget : am (σ ++ (PP acc :: (τ ++ τ3))) (n + 1) = some (PP acc) := by rw [← hn]; exact cw
   have app := fv (x := .pair (.int (low : Nat)) (.int (d : Nat))) hget (by rw [r7]; lia)
   rw [← hn, wo, HG] at app
   have hget' : am (σ ++ (PP acc :: (τ ++ τ3))) σ.length = some (PP acc) := cw
   exact ⟨τ ++ τ3, rbC (bL (bR (c1 _) (bR ceq rfl)) (rbC (j9 (fh (rV rfl) hget' (af (dY (af (rV rfl) (af (rV rfl) aD))) aD) app)) aM)) aM⟩
theorem GA {d : Nat} {mi : List MV} (h0 : 1 ≤ σ.length) (hr : am σ r = some (mis rows)) (hd : d ≤ 7) : ∀ (ls : List Nat) (e : ap) (acc : List (Nat × Nat)) (τ : ac), (e = [] ∨ ∃ z, e = [(a6, z)]) → acc.length + ls.length ≤ 1000 →
  ∃ e' τ', ((e' = [] ∨ ∃ z, e' = [(a6, z)]) ∧ (((∃ z, e = [(a6, z)]) ∨ ls ≠ []) → ∃ z, e' = [(a6, z)])) ∧ eK (.rng 0 1 8) mi a6 GR (mis ls) (GV r σ.length d e) (σ ++ (PP acc :: τ)) = some (none, GV r σ.length d e', σ ++ (PP (acc ++ d0 rows d ls) :: τ'))
 | [], e, acc, τ, he, hl => ⟨e, τ, ⟨he, fun h => h.elim id fun h => absurd rfl h⟩, by
  show _ = some (none, _, σ ++ (PP (acc ++ []) :: τ))
  rw [List.append_nil]; exact cP rfl⟩
 | low :: ls, e, acc, τ, he, hl => by
  have hl' : acc.length + (ls.length + 1) ≤ 1000 := hl
  obtain ⟨τ1, run1⟩ := ML (low := low) (τ := τ) h0 hr hd he (show acc.length ≤ 1000 by lia)
  have hone : (d0 rows d [low]).length ≤ 1 := by unfold d0; rw [List.length_map]; exact List.length_filter_le _ _
  obtain ⟨e', τ', he', run2⟩ := GA (mi := mi) h0 hr hd ls [(a6, .int (low : Nat))] (acc ++ d0 rows d [low]) τ1 (.inr ⟨_, rfl⟩) (by rw [List.length_append]; lia)
  refine ⟨e', τ', ⟨he'.1, fun _ => he'.2 (.inl ⟨_, rfl⟩)⟩, bE rfl run1 ?_⟩
  have : d0 rows d (low :: ls) = d0 rows d [low] ++ d0 rows d ls := by
   unfold d0
   rw [← List.map_append, ← List.filter_append]; rfl
  rw [this, ← List.append_assoc]
  exact run2
theorem tS (d : Nat) (ls : List Nat) : (d0 rows d ls).length ≤ ls.length := by unfold d0; rw [List.length_map]; exact List.length_filter_le _ _
theorem Gr {mi : List MV} (h0 : 1 ≤ σ.length) (hr : am σ r = some (mis rows)) : ∀ (ds : List Nat) (V : ap) (acc : List (Nat × Nat)) (τ : ac), (∀ d ∈ ds, d ≤ 7) → (V = [(iN, .ref r), (gG, .ref σ.length)] ∨ ∃ d e, (e = [] ∨ ∃ z, e = [(a6, z)]) ∧ V = GV r σ.length d e) → acc.length + 8 * ds.length ≤ 900 →
  ∃ V' τ', (((∃ d z, V = GV r σ.length d [(a6, z)]) ∨ ds ≠ []) → ∃ d z, V' = GV r σ.length d [(a6, z)]) ∧ eK (.rng 0 1 8) mi au L1 (mis ds) V (σ ++ (PP acc :: τ)) = some (none, V', σ ++ (PP (acc ++ ds.flatMap fun d => d0 rows d (List.range' 0 8)) :: τ'))
 | [], V, acc, τ, hd, hV, hl => ⟨V, τ, fun h => h.elim id fun h => absurd rfl h, by
  rw [List.flatMap_nil, List.append_nil]; exact cP rfl⟩
 | d :: ds, V, acc, τ, hd, hV, hl => by
  have hl' : acc.length + 8 * (ds.length + 1) ≤ 900 := hl
  obtain ⟨e, he, hp⟩ : ∃ e, (e = [] ∨ ∃ z, e = [(a6, z)]) ∧ put V au (.int (d : Nat)) = GV r σ.length d e := by
   rcases hV with rfl | ⟨d', e, he, rfl⟩
   ·exact ⟨[], .inl rfl, rfl⟩
   ·exact ⟨e, he, rfl⟩
  have h8 : (List.range' 0 8).length = 8 := rfl
  obtain ⟨e', τ1, he', run1⟩ := GA (mi := mis (List.range' 0 8)) h0 hr (hd d List.mem_cons_self) (List.range' 0 8) e acc τ he (by rw [h8]; lia)
  have hl1 := tS (rows := rows) d (List.range' 0 8)
  obtain ⟨V', τ', hV', run2⟩ := Gr (mi := mi) h0 hr ds (GV r σ.length d e') (acc ++ d0 rows d (List.range' 0 8)) τ1 (fun x hx => hd x (List.mem_cons_of_mem _ hx)) (.inr ⟨d, e', he'.1, rfl⟩) (by rw [List.length_append]; lia)
  have body1 : L1 (put V au (.int (d : Nat))) (σ ++ (PP acc :: τ)) = some (none, GV r σ.length d e', σ ++ (PP (acc ++ d0 rows d (List.range' 0 8)) :: τ1)) := by
   rw [hp]
   exact rbC (kr uN (its := mis (List.range' 0 8)) (by show some (bu ((0 : Nat) : Int) 1 8) = _; rw [fF]) run1) aM
  obtain ⟨z', hz'⟩ := he'.2 (.inr (by decide))
  refine ⟨V', τ', fun _ => hV' (.inl ⟨d, z', by rw [hz']⟩), bE rfl body1 ?_⟩
  rw [List.flatMap_cons, ← List.append_assoc]
  exact run2
def FV (r h : Nat) (d low : MV) (f : Nat) (e : ap) : ap := (iN, .ref r) :: (gG, .ref h) :: (au, d) :: (a6, low) :: (cu, .ref f) :: e
theorem v3 : ∀ (L : List (Nat × Nat)) (q : Nat × Nat), f4 (PP L) (.pair (.int (q.1 : Nat)) (.int (q.2 : Nat))) = some (oy L q) := by
 intro L
 induction L with
 | nil =>
  intro q
  exact rfl
 | cons p r ih =>
  intro q
  show (match fEq (.pair (.int (p.1 : Nat)) (.int (p.2 : Nat))) (.pair (.int (q.1 : Nat)) (.int (q.2 : Nat))), f4 (PP r) (.pair (.int (q.1 : Nat)) (.int (q.2 : Nat))) with | some p, some q => some (p || q) | _, _ => none) = _
  rw [ih q]
  show some ((decide ((p.1 : Int) = (q.1 : Int)) && decide ((p.2 : Int) = (q.2 : Int))) || oy r q) = _
  rw [gl, gl]; rfl
noncomputable def sG (p : Nat × Nat → Bool) (v : MV) : Bool := match v with
 | .pair (.int a) (.int b) => p (a.toNat, b.toNat)
 | _ => false
theorem po (p : Nat × Nat → Bool) : ∀ l : List (Nat × Nat), (PP l).filter (sG p) = PP (l.filter p)
 | [] => rfl
 | x :: r => by
  show (MV.pair (.int (x.1 : Nat)) (.int (x.2 : Nat)) :: PP r).filter (sG p) = _
  rw [List.filter_cons, List.filter_cons, po p r]
  have e : sG p (.pair (.int (x.1 : Nat)) (.int (x.2 : Nat))) = p x := by unfold sG; simp only [Int.toNat_natCast]
  rw [e]
  cases p x <;> rfl
theorem M4 (l : List (Nat × Nat)) (p : Nat × Nat → Bool) : (PP (l.filter p)).isEmpty = !l.any p := by
 induction l with
 | nil => rfl
 | cons x r ih =>
  rw [List.filter_cons, List.any_cons]
  match q : p x with
  | true => simp [PP]
  | false => simpa using ih
theorem MO {held acc : List (Nat × Nat)} {f : Nat} {σ0 : ac} {d low : Nat} {d' low' : MV} {e : ap} (hf : σ0.length = f + 1) (hh : am σ0 h = some (PP held)) (he : e = [] ∨ ∃ z, e = [(fj, z)]) (hacc : acc.length ≤ 1000) (τ : ac) :
  ∃ τ', rS (put (put (FV r h d' low' (f + 1) e) a6 (.int (low : Nat))) au (.int (d : Nat))) (σ0 ++ (PP acc :: τ)) = some (none, FV r h (.int (d : Nat)) (.int (low : Nat)) (f + 1) [(fj, .ref (σ0 ++ (PP acc :: τ)).length)], σ0 ++ (PP (acc ++ [(low, d)].filter fun p => !(eb p.1 p.2).any (oy held)) :: τ')) := by
 have h3 : ∀ k, k ∈ [0, 1, 2] → k ≤ 3 ∧ 2 ^ k ≤ 7 := by decide
 obtain ⟨V, hVd, hV, hVw, hVl⟩ : ∃ V, V = put (put (FV r h d' low' (f + 1) e) a6 (.int (low : Nat))) au (.int (d : Nat)) ∧ (lk V au = some (.int (d : Nat)) ∧ lk V a6 = some (.int (low : Nat)) ∧ lk V c0 = none) ∧ (∀ i, put V fj (.ref i) = FV r h (.int (d : Nat)) (.int (low : Nat)) (f + 1) [(fj, .ref i)]) ∧ (∀ k, lk (put V n_k (.int (k : Nat))) au = some (.int (d : Nat)) ∧ lk (put V n_k (.int (k : Nat))) a6 = some (.int (low : Nat)) ∧ lk (put V n_k (.int (k : Nat))) n_k = some (.int (k : Nat))) := by
  rw [gQ]
  rcases he with rfl | ⟨z, rfl⟩
  ·exact ⟨_, rfl, ⟨rfl, rfl, rfl⟩, fun _ => rfl, fun _ => ⟨rfl, rfl, rfl⟩⟩
  ·exact ⟨_, rfl, ⟨rfl, rfl, rfl⟩, fun _ => rfl, fun _ => ⟨rfl, rfl, rfl⟩⟩
 rw [← hVd]
 obtain ⟨τ1, comp1⟩ := bP (it := ag aZ (aa (mK (.int 3)) ah)) (x := n_k) (c := aE gEq (m2 bS (m2 cZ (mV au) (m2 gS (mK (.int 2)) (mV n_k))) (mK (.int 2))) (mK (.int 0))) (e := b9 (aa (m2 lI (mV a6) (m2 cD (mK (.int 7)) (m2 gS (mK (.int 2)) (mV n_k)))) (aa (m2 cG (mV au) (m2 gS (mK (.int 2)) (mV n_k))) ah))) (V := V) (σ := σ0 ++ (PP acc :: τ))
  (rh fun k => Nat.beq (fI d k) 0) (fun v => match v with | .int i => .pair (.int (low &&& (7 - 2 ^ i.toNat) : Nat)) (.int (d + 2 ^ i.toNat : Nat)) | _ => .none) pM (its := mis [0, 1, 2]) rfl hV.2.2 (by simp; lia) fE (by decide)
  (fun v hv τ2 => by
   refine e12 (List.mem_map.mp hv) fun k hk z2 => ?_; subst z2
   exact aY (aU (mT (hVl k).1 (hVl k).2.2 (h3 k hk).1) rK (congrArg some (gl (y := 0)))))
  (fun v hv _ τ2 => by
   refine e12 (List.mem_map.mp hv) fun k hk z2 => ?_; subst z2
   have hk3 := h3 k hk
   have e7 : cD (.int 7) (.int ((2 ^ k : Nat) : Int)) (σ0 ++ (PP acc :: τ) ++ τ2) = some (.int ((7 - 2 ^ k : Nat) : Int), σ0 ++ (PP acc :: τ) ++ τ2) := by
    show some (MV.int (7 - ((2 ^ k : Nat) : Int)), _) = _
    rw [show (7 : Int) - ((2 ^ k : Nat) : Int) = ((7 - 2 ^ k : Nat) : Int) by lia]
   have e8 : cG (.int (d : Nat)) (.int ((2 ^ k : Nat) : Int)) (σ0 ++ (PP acc :: τ) ++ τ2) = some (.int ((d + 2 ^ k : Nat) : Int), σ0 ++ (PP acc :: τ) ++ τ2) := rfl
   exact aY (dY (af (r2 (rV (hVl k).2.1) (r2 rK (r2 rK (rV (hVl k).2.2) (pO (by lia))) e7) (rY low (7 - 2 ^ k))) (af (r2 (rV (hVl k).1) (r2 rK (rV (hVl k).2.2) (pO (by lia))) e8) aD))))
 have hw : ((mis [0, 1, 2]).filter (rh fun k => Nat.beq (fI d k) 0)).map (fun v => match v with | .int i => MV.pair (.int (low &&& (7 - 2 ^ i.toNat) : Nat)) (.int (d + 2 ^ i.toNat : Nat)) | _ => .none) = PP (eb low d) := by
  rw [iT]
  unfold eb PP mis
  rw [List.map_map, List.map_map]
  rfl
 rw [hw] at comp1
 have hwl : (eb low d).length ≤ 3 := by unfold eb; rw [List.length_map]; exact List.length_filter_le _ _
 let S1 := σ0 ++ (PP acc :: τ)
 let S2 := S1 ++ (PP (eb low d) :: τ1)
 have gw : am S2 S1.length = some (PP (eb low d)) := cw
 have gh : ∀ τ2, am (S2 ++ τ2) h = some (PP held) := fun τ2 => aj (aj (aj hh))
 obtain ⟨τ3, comp2⟩ := bP (it := mV fj) (x := kT) (c := aE cIn (mV kT) (mV gG)) (e := mV kT) (V := FV r h (.int (d : Nat)) (.int (low : Nat)) (f + 1) [(fj, .ref S1.length)]) (σ := S2) (sG (oy held)) (fun v => v) (rV rfl) (show cW (.ref S1.length) S2 = some (PP (eb low d)) from gw) (by rw [gQ]; rfl) (by simp [S2, S1]; lia) (cy gw) (by rw [r7]; lia)
  (fun v hv τ2 => by
   refine e12 (List.mem_map.mp hv) fun p hp z2 => ?_; subst z2
   refine aY (aU (rV rfl) (rV rfl) ?_)
   rw [ri, gh]
   exact v3 held p)
  (fun v hv _ τ2 => aY (rV (by rw [ch, if_pos rfl])))
 obtain ⟨τ4, ceq⟩ := nV comp2
 rw [List.map_id', po, M4] at ceq
 rw [List.filter_cons, List.filter_nil]
 have hS : S2 ++ τ4 = σ0 ++ (PP acc :: (τ ++ (PP (eb low d) :: τ1) ++ τ4)) := by simp [S2, S1]
 dsimp only
 match q : !(eb low d).any (oy held) with
 | false =>
  rw [q] at ceq
  refine ⟨τ ++ (PP (eb low d) :: τ1) ++ τ4, rbC (bp comp1) ?_⟩
  rw [hVw]
  refine rbC (aW ceq aM) ?_
  rw [hS]
  show some (none, _, _) = some (none, _, σ0 ++ (PP (acc ++ []) :: _))
  rw [List.append_nil]
 | true =>
  rw [q] at ceq
  have hget : am (S2 ++ τ4) (f + 1) = some (PP acc) := by rw [hS, ← hf]; exact cw
  have app := fv (x := .pair (.int (low : Nat)) (.int (d : Nat))) hget (by rw [r7]; lia)
  rw [HG, hS, ← hf, wo] at app
  rw [hS] at ceq hget
  refine ⟨τ ++ (PP (eb low d) :: τ1) ++ τ4, rbC (bp comp1) ?_⟩
  rw [hVw]
  refine rbC (bL ceq (rbC (j9 (fh (i := f + 1) (rV rfl) hget (af (dY (af (rV rfl) (af (rV rfl) aD))) aD) ?_)) aM)) aM
  rw [← hf]
  exact app
theorem MP {held : List (Nat × Nat)} {f : Nat} {σ0 : ac} (hf : σ0.length = f + 1) (hh : am σ0 h = some (PP held)) : ∀ (ps acc : List (Nat × Nat)) (d' low' : MV) (e : ap) (τ : ac), (e = [] ∨ ∃ z, e = [(fj, z)]) → acc.length + ps.length ≤ 1000 → ∃ V' τ', lk V' cu = some (.ref (f + 1)) ∧ k0 (.ref h) (PP held) a6 au rS (PP ps) (FV r h d' low' (f + 1) e) (σ0 ++ (PP acc :: τ)) = some (none, V', σ0 ++ (PP (acc ++ ps.filter fun p => !(eb p.1 p.2).any (oy held)) :: τ')) := by
 intro ps
 induction ps with
 | nil =>
  intro acc d' low' e τ he hl
  exact ⟨_, τ, rfl, by
  rw [List.filter_nil, List.append_nil]
  show (match ck (.ref h) (PP held) (σ0 ++ (PP acc :: τ)) with | true => _ | false => none) = _
  rw [cy hh]⟩
 | cons hd0 ps ih =>
  obtain ⟨low, d⟩ := hd0
  intro acc d' low' e τ he hl
  have hl' : acc.length + (ps.length + 1) ≤ 1000 := hl
  obtain ⟨τ1, run1⟩ := MO (r := r) (h := h) (held := held) (acc := acc) (d := d) (low := low) (d' := d') (low' := low') hf hh he (by lia) τ
  have hone : ([(low, d)].filter fun p => !(eb p.1 p.2).any (oy held)).length ≤ 1 := List.length_filter_le _ _
  obtain ⟨V', τ', hV', run2⟩ := ih (acc ++ [(low, d)].filter fun p => !(eb p.1 p.2).any (oy held)) (.int (d : Nat)) (.int (low : Nat)) _ τ1 (.inr ⟨_, rfl⟩) (by rw [List.length_append]; lia)
  refine ⟨V', τ', hV', ?_⟩
  show (match ck (.ref h) (PP held) (σ0 ++ (PP acc :: τ)) with
   | false => none
   | true => match rS (put (put (FV r h d' low' (f + 1) e) a6 (.int (low : Nat))) au (.int (d : Nat))) (σ0 ++ (PP acc :: τ)) with
    | none => none
    | some (some r, V', σ') => some (some r, V', σ')
    | some (none, V', σ') => k0 (.ref h) (PP held) a6 au rS (PP ps) V' σ') = _
  rw [cy hh]
  dsimp only
  rw [run1]
  dsimp only
  rw [run2]
  have : (low, d) :: ps = [(low, d)] ++ ps := rfl
  rw [this, List.filter_append, ← List.append_assoc]
theorem II (l : List (Nat × Nat)) : (PP l).all ft = true := by
 unfold PP
 rw [List.all_map]
 exact List.all_eq_true.mpr fun _ _ => rfl
theorem oF (h0 : 1 ≤ σ.length) (hr : am σ r = some (mis rows)) : fL [.ref r] σ = some (.ref σ.length, σ ++ [PP (a8 rows)]) := by
 refine cps fun _ Kz => ?_
 refine e22 (Gr (mi := mis (List.range' 0 8)) h0 hr (List.range' 0 8) [(iN, .ref r), (gG, .ref σ.length)] [] [] (by decide) (.inl rfl) (by decide)) fun V1 τ1 hV1 run1 => ?_
 refine e21 (hV1 (.inr (by decide))) fun d z z2 => ?_; subst z2
 rw [List.nil_append] at run1
 have hheld : (List.range' 0 8).flatMap (fun d => d0 rows d (List.range' 0 8)) = gL rows := rfl
 rw [hheld] at run1
 have hlen : (gL rows).length ≤ 64 := by
  have : ∀ ds : List Nat, (ds.flatMap fun d => d0 rows d (List.range' 0 8)).length ≤ 8 * ds.length := fun ds => by
   induction ds with
   | nil => simp
   | cons d ds ih =>
    have := tS (rows := rows) d (List.range' 0 8)
    have h8 : (List.range' 0 8).length = 8 := rfl
    rw [List.flatMap_cons, List.length_append, List.length_cons]; lia
  exact this (List.range' 0 8)
 let σ0 := σ ++ (PP (gL rows) :: τ1)
 have hh : am σ0 σ.length = some (PP (gL rows)) := cw
 have hf1 : 1 ≤ σ0.length := by simp [σ0]; lia
 have hf : σ0.length = (σ0.length - 1) + 1 := by lia
 obtain ⟨V2, τ2, hV2, run2⟩ := MP (r := r) (h := σ.length) (held := gL rows) hf hh (gL rows) [] (.int (d : Nat)) z [] [] (.inl rfl) (by simp; lia)
 rw [List.nil_append, ← hf] at run2
 rw [← hf] at hV2
 have hS : σ0 ++ (PP (a8 rows) :: τ2) = σ ++ (PP (gL rows) :: τ1 ++ (PP (a8 rows) :: τ2)) := by simp [σ0]
 refine Kz <| bH rfl h0 (V := V2) (σ' := σ ++ (PP (gL rows) :: τ1 ++ (PP (a8 rows) :: τ2))) ?_ (ni (i := σ0.length) (xs := PP (a8 rows)) (by simp [σ0]) (by rw [← hS]; exact cw) (II _))
 rw [← hS]
 refine rbC (bp (c7 aD rfl)) ?_
 refine rbC (kr uN (its := mis (List.range' 0 8)) (by show some (bu ((0 : Nat) : Int) 1 8) = _; rw [fF]) run1) ?_
 refine rbC (bp (c7 aD rfl)) ?_
 refine rbC (V1 := V2) (σ1 := σ0 ++ (PP (a8 rows) :: τ2)) ?_ (rbR (et (rV hV2)))
 unfold oO
 rw [rV (v := .ref σ.length) rfl]
 dsimp only
 rw [show am (σ0 ++ [[]]) σ.length = some (PP (gL rows)) from aj hh]
 exact run2
end
theorem vS {v : MV} {its : List MV} {x x' : Nat} {B : MV → ap} {c : CM} {e : EM} {V : ap} {σ1 : ac} {p : MV → Bool} {f : MV → MV} (st : ∀ τ, ck v its (σ1 ++ τ) = true) : ∀ (r acc : List MV) (τ : ac), (∀ a ∈ r, bd2 x x' V a = some (B a)) → (∀ a ∈ r, ∀ τ, ∃ τ', c (B a) (σ1 ++ τ) = some (p a, σ1 ++ (τ ++ τ'))) → (∀ a ∈ r, p a = true → ∀ τ, ∃ τ', e (B a) (σ1 ++ τ) = some (f a, σ1 ++ (τ ++ τ'))) → acc.length + r.length ≤ 1000000 → ∃ τ', di v its (bd2 x x') σ1.length c e V r (σ1 ++ (acc :: τ)) = some (σ1 ++ ((acc ++ (r.filter p).map f) :: τ')) := by
 intro r
 induction r with
 | nil =>
  intro acc τ hB hc he hl
  refine ⟨τ, ?_⟩
  unfold di
  rw [st]
  simp
 | cons a r ih =>
  intro acc τ hB hc he hl
  obtain ⟨τ1, h1⟩ := hc a List.mem_cons_self (acc :: τ)
  have hl' : acc.length + (r.length + 1) ≤ 1000000 := by simpa using hl
  match hp : p a with
  | false =>
   obtain ⟨τ', ih⟩ := ih acc (τ ++ τ1) (fun b hb => hB b (List.mem_cons_of_mem _ hb)) (fun b hb => hc b (List.mem_cons_of_mem _ hb)) (fun b hb => he b (List.mem_cons_of_mem _ hb)) (by lia)
   refine ⟨τ', ?_⟩
   unfold di
   rw [st, hB a List.mem_cons_self]
   show (match c (B a) (σ1 ++ (acc :: τ)) with
    | none => none
    | some (false, σ1') => di v its (bd2 x x') σ1.length c e V r σ1'
    | some (true, σ1') => _) = _
   rw [h1, hp]
   dsimp only
   rw [List.filter_cons, hp]
   exact ih
  | true =>
   obtain ⟨τ2, h2⟩ := he a List.mem_cons_self hp (acc :: τ ++ τ1)
   have hget : am (σ1 ++ (acc :: τ ++ τ1 ++ τ2)) σ1.length = some acc := by simp [am]
   have hset : (σ1 ++ (acc :: τ ++ τ1 ++ τ2)).set σ1.length (acc ++ [f a]) = σ1 ++ ((acc ++ [f a]) :: (τ ++ τ1 ++ τ2)) := by
    rw [iJ]; rfl
   obtain ⟨τ', ih⟩ := ih (acc ++ [f a]) (τ ++ τ1 ++ τ2) (fun b hb => hB b (List.mem_cons_of_mem _ hb)) (fun b hb => hc b (List.mem_cons_of_mem _ hb)) (fun b hb => he b (List.mem_cons_of_mem _ hb)) (by simp; lia)
   refine ⟨τ', ?_⟩
   unfold di
   rw [st, hB a List.mem_cons_self]
   show (match c (B a) (σ1 ++ (acc :: τ)) with
    | none => none
    | some (false, σ1') => di v its (bd2 x x') σ1.length c e V r σ1'
    | some (true, σ1') => match e (B a) σ1' with
     | none => none
     | some (y, σ2) => match am σ2 σ1.length with
      | none => none
      | some acc => match Nat.ble acc.length 1000000 with
       | false => none
       | true => di v its (bd2 x x') σ1.length c e V r (σ2.set σ1.length (acc ++ [y]))) = _
   rw [h1, hp]
   dsimp only
   rw [h2]
   dsimp only
   rw [hget]
   dsimp only
   rw [Nat.ble_eq_true_of_le (show acc.length ≤ 1000000 by lia)]
   dsimp only
   rw [hset, List.filter_cons, hp]
   rw [ih]
   simp
theorem AN {it : EM} {v : MV} {its : List MV} {x x' : Nat} {B : MV → ap} {c : CM} {e : EM} {V : ap} {σ σ1 : ac} (p : MV → Bool) (f : MV → MV) (hi : it V σ = some (v, σ1)) (h2 : cW v σ1 = some its) (h0 : lk V c0 = none) (hl : 1 ≤ σ1.length) (st : ∀ τ, ck v its (σ1 ++ τ) = true)
  (hb : its.length ≤ 1000000) (hB : ∀ a ∈ its, bd2 x x' V a = some (B a)) (hc : ∀ a ∈ its, ∀ τ, ∃ τ', c (B a) (σ1 ++ τ) = some (p a, σ1 ++ (τ ++ τ'))) (he : ∀ a ∈ its, p a = true → ∀ τ, ∃ τ', e (B a) (σ1 ++ τ) = some (f a, σ1 ++ (τ ++ τ'))) :
  ∃ τ, aX it (bd2 x x') c e V σ = some (.ref σ1.length, σ1 ++ (((its.filter p).map f) :: τ)) := by
 obtain ⟨τ', run⟩ := vS (V := V) st its [] [] hB hc he (by simpa using hb)
 refine ⟨τ', ?_⟩
 unfold aX
 rw [h0, hi]
 dsimp only
 rw [h2, Nat.ble_eq_true_of_le hl]
 dsimp only
 rw [run]
 simp
def Oc : SM := (ab (aL a5 (ag jS (aa (m2 az (mV aF) (mV n_i)) ah)))
 (ab (dt (ag fK (aa (mV a5) (aa (ag fb (aa (aX (ag aZ (aa (mK (.int 3)) ah)) (bd1 n_k) (cK true) (ag oD (aa (m2 az (mV a5) (mV n_k)) (aa (m2 az (m2 az (mV aF) (mV n_j)) (mV n_k)) ah)))) (aa (mK (.bool true)) ah))) (aa (mV aP) ah)))))
 (ab (sIf (ig (dT (ag cI (aa (mV dw) (aa (cz (mK (.str [])) cO (aa (mV a5) ah)) ah))))) (ab (dt (br (mV dw) bf (aa (cz (mK (.str [])) cO (aa (mV a5) ah)) ah)))
 ak) ak)
 (ab (dt (br (mV jh) ek (aa (ba (aa (m2 az (mV aF) (mV n_i)) (aa (m2 az (mV aF) (mV n_j)) ah))) ah)))
 ak))))
def LZ : SM := (ab (sIf (cj (dT (mV bY)) (cj (aE gEq (ag e9 (aa (m2 az (mV aF) (mV n_j)) (aa (m2 az (mV aF) (mV n_i)) (aa (mK (.int 1)) ah)))) (mK (.int 1))) (cK true))) Oc ak)
 ak)
def zW : SM := (ab (aL bY (ag HY (aa (m2 az (mV fM) (mV n_i)) (aa (m2 az (mV fM) (mV n_j)) ah))))
 (ab (aL fz (eE gEq (aX (m2 az (mV aF) (mV n_i)) (bd1 ar) (cK true) (eE gEq (mV ar) (mV aP))) (aX (m2 az (mV aF) (mV n_j)) (bd1 ar) (cK true) (eE gEq (mV ar) (mV aP)))))
 (ab (sIf (cOr (aE ii (ag dI (aa (mV bY) ah)) (mK (.typ "bool"))) (cOr (aE gNe (mV bY) (mV fz)) (cK false))) (ab (bj (b9 (aa (ba ah) (aa (ba ah) ah))))
 ak) ak)
 LZ)))
def Oe : SM := (ab (fe (ag aZ (aa (mV n_i) ah)) n_j zW)
 ak)
theorem lkp {V : ap} {x : Nat} {v : MV} : lk (put V x v) x = some v := by rw [ch, if_pos rfl]
theorem lkn {V : ap} {x y : Nat} {v : MV} (h : Nat.beq y x = false) : lk (put V x v) y = lk V y := by
 rw [ch, if_neg]
 intro e
 rw [dU, decide_eq_true e] at h
 exact nT h
structure MF (V : ap) (a dash b m u : Nat) : Prop where
 l : lk V aF = some (.ref a)
 d : lk V aP = some (.str [dash])
 r : lk V fM = some (.ref b)
 m : lk V dw = some (.ref m)
 u : lk V jh = some (.ref u)
 z : lk V c0 = none
theorem MF.put {V : ap} {a dash b m u x : Nat} {v : MV} (h : MF V a dash b m u) (hx : (Nat.beq aF x || Nat.beq aP x || Nat.beq fM x || Nat.beq dw x || Nat.beq jh x || Nat.beq 52363360 x) = false) : MF (put V x v) a dash b m u := by
 simp only [Bool.or_eq_false_iff] at hx
 obtain ⟨⟨⟨⟨⟨h1, h2⟩, h3⟩, h4⟩, h5⟩, h6⟩ := hx
 exact ⟨(lkn h1).trans h.l, (lkn h2).trans h.d, (lkn h3).trans h.r, (lkn h4).trans h.m, (lkn h5).trans h.u, by rw [gQ] at *; exact (lkn h6).trans (by have := h.z; rwa [gQ] at this)⟩
structure SF (β S : ac) (a b m u : Nat) (L R M U : List (List Nat)) : Prop where
 base : ∃ σ, S = β ++ σ
 la : am S a = some (sL L)
 lb : am S b = some (sL R)
 lm : am S m = some (sL M)
 lu : am S u = some (sL U)
section
variable {β S : ac} {a b m u : Nat} {L R M U : List (List Nat)}
theorem SF.app (h : SF β S a b m u L R M U) (τ : ac) : SF β (S ++ τ) a b m u L R M U :=
 ⟨let ⟨σ, e⟩ := h.base; ⟨σ ++ τ, by rw [e, List.append_assoc]⟩, aj h.la, aj h.lb, aj h.lm, aj h.lu⟩
theorem SF.setM (h : SF β S a b m u L R M U) (hm : β.length ≤ m) (h1 : m ≠ a) (h2 : m ≠ b) (h3 : m ≠ u) (M' : List (List Nat)) : SF β (S.set m (sL M')) a b m u L R M' U :=
 ⟨let ⟨σ, e⟩ := h.base; ⟨_, by rw [e]; exact gu hm⟩, by rw [bo h1]; exact h.la, by rw [bo h2]; exact h.lb, cA h.lm, by rw [bo h3]; exact h.lu⟩
theorem SF.setU (h : SF β S a b m u L R M U) (hm : β.length ≤ u) (h1 : u ≠ a) (h2 : u ≠ b) (h3 : u ≠ m) (U' : List (List Nat)) : SF β (S.set u (sL U')) a b m u L R M U' :=
 ⟨let ⟨σ, e⟩ := h.base; ⟨_, by rw [e]; exact gu hm⟩, by rw [bo h1]; exact h.la, by rw [bo h2]; exact h.lb, by rw [bo h3]; exact h.lm, cA h.lu⟩
theorem SF.pos (h : SF β S a b m u L R M U) : 1 ≤ S.length := by have := bx h.la; lia
end
def iD (c : Nat) : List Nat := (iY c).getD []
def rdW (w : List Nat) : List Nat := w.flatMap iD
noncomputable def eqB : List Bool → List Bool → Bool
 | [], [] => true
 | x :: a, y :: b => (x == y) && eqB a b
 | _, _ => false
noncomputable def eh (dash : Nat) (w : List Nat) : List Bool := w.map fun c => Nat.beq c dash
noncomputable def neL (v w : List Nat) : List Bool := [!Nat.beq (v.getD 0 0) (w.getD 0 0), !Nat.beq (v.getD 1 0) (w.getD 1 0), !Nat.beq (v.getD 2 0) (w.getD 2 0)]
def sH (dash : Nat) (wi wj : List Nat) : Option (Option (List Nat)) := match leq (rdW wi) (rdW wj) == eqB (eh dash wi) (eh dash wj) with
 | false => none
 | true => match leq (rdW wi) (rdW wj) && Nat.beq (fp wj wi 1) 1 with
  | false => some none
  | true => match nH (neL wi wj) with
   | some k => some (some (wi.set k dash))
   | none => none
def jC (M : List (List Nat)) (s : List Nat) : List (List Nat) := match gM M s with
 | true => M
 | false => M ++ [s]
abbrev MU := List (List Nat) × List (List Nat)
def lV (dash : Nat) (wi wj : List Nat) (q : MU) : Option MU := match sH dash wi wj with
 | none => none
 | some none => some q
 | some (some s) => some (jC q.1 s, q.2 ++ [wi, wj])
def uJ (dash : Nat) (wi : List Nat) : List (List Nat) → MU → Option MU
 | [], q => some q
 | wj :: r, q => match lV dash wi wj q with
  | none => none
  | some q => uJ dash wi r q
def ut (dash : Nat) : List (List Nat) → List (List Nat) → MU → Option MU
 | _, [], q => some q
 | done, w :: r, q => match uJ dash w done q with
  | none => none
  | some q => ut dash (done ++ [w]) r q
def fN (dash : Nat) (L : List (List Nat)) : Option MU := match ut dash [] L ([], []) with
 | some q => some (q.1, L.filter fun w => !gM q.2 w)
 | none => none
def okW (w : List Nat) : Prop := (∃ x y z, w = [x, y, z]) ∧ (w.all isA = true) ∧ ∀ c ∈ w, ∃ l, iY c = some l ∧ l.length ≤ 10
theorem zF : ∀ a b : List Bool, lEq (mbs a) (mbs b) = some (eqB a b)
 | [], [] => rfl
 | [], _ :: _ => rfl
 | _ :: _, [] => rfl
 | x :: a, y :: b => by
  show (match fEq (.bool x) (.bool y), lEq (mbs a) (mbs b) with | some p, some q => some (p && q) | _, _ => none) = _
  rw [zF a b]; rfl
section
variable {V : ap} {β S : ac} {a dash b m u : Nat} {L M U : List (List Nat)}
theorem pq {e : EM} {w : List Nat} (he : e V S = some (.str w, S)) (hz : lk V c0 = none) (hd : lk V aP = some (.str [dash])) (h1 : 1 ≤ S.length) (hw : w.length ≤ 1000) :
  ∃ τ, aX e (bd1 ar) (cK true) (eE gEq (mV ar) (mV aP)) V S = some (.ref S.length, S ++ (mbs (eh dash w) :: τ)) := by
 obtain ⟨τ, comp⟩ := bP (it := e) (x := ar) (c := cK true) (e := eE gEq (mV ar) (mV aP)) (V := V) (σ := S) (fun _ => true) (fun v => match v with | .str [c] => .bool (Nat.beq c dash) | _ => .none) he (its := aC w) rfl hz h1 jJ (by rw [dz]; lia) (fun v hv τ => aY rfl)
  (fun v hv _ τ => by
   refine e12 (List.mem_map.mp hv) fun c hc z2 => ?_; subst z2
   refine aY (pN (rV lkp) (rV ((lkn (by decide)).trans hd)) ?_)
   show some (leq [c] [dash]) = _
   rw [qZ])
 refine ⟨τ, ?_⟩
 rw [comp, List.filter_eq_self.mpr (fun _ _ => rfl)]
 unfold aC mbs eh
 rw [List.map_map, List.map_map]
 rfl
theorem Mk {i : Nat} {w : List Nat} (h : L[i]? = some w) : (sL L)[i]? = some (.str w) := by unfold sL; rw [List.getElem?_map, h]; rfl
theorem fX : (sL L).length = L.length := by simp [sL]
theorem BM (w : List Nat) : sL L ++ [.str w] = sL (L ++ [w]) := by simp [sL]
theorem ee {r i : Nat} {x y : Nat} {R : List (List Nat)} {w : List Nat} (hx : lk V x = some (.ref r)) (hy : lk V y = some (.int (i : Nat))) (hr : am S r = some (sL R)) (hi : R[i]? = some w) (hl : R.length ≤ 1000) : m2 az (mV x) (mV y) V S = some (.str w, S) :=
 r2 (rV hx) (rV hy) (cC hr (Mk hi) (by rw [fX]; lia))
theorem vy (w : List Nat) (k : Nat) (d : Nat) : ((w.map fun c => MV.txt [c]).set k (.str [d])).all ft = true := by
 refine List.all_eq_true.mpr fun v hv => ?_
 rcases List.mem_or_eq_of_mem_set hv with h | h
 ·refine e12 (List.mem_map.mp h) fun c _ z2 => ?_; subst z2; rfl
 ·subst h; rfl
theorem MG {v w : List Nat} {k : Nat} (h : nH (neL v w) = some k) : k < 3 := by
 unfold neL at h
 cases q1 : !Nat.beq (v.getD 0 0) (w.getD 0 0) <;> cases q2 : !Nat.beq (v.getD 1 0) (w.getD 1 0) <;> cases q3 : !Nat.beq (v.getD 2 0) (w.getD 2 0) <;> rw [q1, q2, q3] at h <;> simp [nH] at h <;> lia
def JG (β : ac) (X : Option (Option MV × ap × ac)) (a dash b m u i : Nat) (L M U : List (List Nat)) : Prop :=
 ∃ V' S', X = some (none, V', S') ∧ MF V' a dash b m u ∧ lk V' n_i = some (.int (i : Nat)) ∧ SF β S' a b m u L (L.map rdW) M U
theorem MB {i j : Nat} {wi wj : List Nat} {q : MU} (hF : MF V a dash b m u) (hS : SF β S a b m u L (L.map rdW) M U) (h0 : 1 ≤ β.length) (hm : β.length ≤ m) (hu : β.length ≤ u) (n1 : m ≠ a) (n2 : m ≠ b) (n3 : m ≠ u) (n4 : u ≠ a) (n5 : u ≠ b) (hi : L[i]? = some wi) (hj : L[j]? = some wj) (ok1 : okW wi) (ok2 : okW wj) (hL : L.length ≤ 100)
  (hM : M.length ≤ 1000) (hU : U.length ≤ 1000) (hVi : lk V n_i = some (.int (i : Nat))) (hstep : lV dash wi wj (M, U) = some q) :
  JG β (zW (put V n_j (.int (j : Nat))) S) a dash b m u i L q.1 q.2 := by
 refine e03 ok1 fun z0 hA1 hf1 => ?_; obtain ⟨x, y, z, rfl⟩ := z0
 refine e03 ok2 fun z0 hA2 hf2 => ?_; obtain ⟨x', y', z', rfl⟩ := z0
 have hp := hS.pos
 have F1 : MF (put V n_j (.int (j : Nat))) a dash b m u := hF.put (by decide)
 have i1 : lk (put V n_j (.int (j : Nat))) n_i = some (.int (i : Nat)) := (lkn (by decide)).trans hVi
 have j1 : lk (put V n_j (.int (j : Nat))) n_j = some (.int (j : Nat)) := lkp
 generalize put V n_j (.int (j : Nat)) = V1 at F1 i1 j1
 have hRi : (L.map rdW)[i]? = some (rdW [x, y, z]) := by rw [List.getElem?_map, hi]; rfl
 have hRj : (L.map rdW)[j]? = some (rdW [x', y', z']) := by rw [List.getElem?_map, hj]; rfl
 have hRl : (L.map rdW).length ≤ 1000 := by rw [List.length_map]; lia
 have al : ag HY (aa (m2 az (mV fM) (mV n_i)) (aa (m2 az (mV fM) (mV n_j)) ah)) V1 S = some (.bool (leq (rdW [x, y, z]) (rdW [x', y', z'])), S) :=
  aK (af (ee F1.r i1 hS.lb hRi hRl) (af (ee F1.r j1 hS.lb hRj hRl) aD)) (HX hp)
 generalize hal : leq (rdW [x, y, z]) (rdW [x', y', z']) = A at al
 have F2 : MF (put V1 bY (.bool A)) a dash b m u := F1.put (by decide)
 have i2 : lk (put V1 bY (.bool A)) n_i = some (.int (i : Nat)) := (lkn (by decide)).trans i1
 have j2 : lk (put V1 bY (.bool A)) n_j = some (.int (j : Nat)) := (lkn (by decide)).trans j1
 have a2 : lk (put V1 bY (.bool A)) bY = some (.bool A) := lkp
 have lL : L.length ≤ 1000 := by lia
 obtain ⟨τ1, c1⟩ := pq (ee F2.l i2 hS.la hi lL) F2.z F2.d hp (by simp)
 have hS1 := hS.app (mbs (eh dash [x, y, z]) :: τ1)
 obtain ⟨τ2, c2⟩ := pq (ee F2.l j2 hS1.la hj lL) F2.z F2.d hS1.pos (by simp)
 have hS2 := hS1.app (mbs (eh dash [x', y', z']) :: τ2)
 have due : eE gEq (aX (m2 az (mV aF) (mV n_i)) (bd1 ar) (cK true) (eE gEq (mV ar) (mV aP))) (aX (m2 az (mV aF) (mV n_j)) (bd1 ar) (cK true) (eE gEq (mV ar) (mV aP))) (put V1 bY (.bool A)) S = some (.bool (eqB (eh dash [x, y, z]) (eh dash [x', y', z'])), S ++ (mbs (eh dash [x, y, z]) :: τ1) ++ (mbs (eh dash [x', y', z']) :: τ2)) := by
  refine pN c1 c2 ?_
  show (match am (S ++ (mbs (eh dash [x, y, z]) :: τ1) ++ (mbs (eh dash [x', y', z']) :: τ2)) S.length, am (S ++ (mbs (eh dash [x, y, z]) :: τ1) ++ (mbs (eh dash [x', y', z']) :: τ2)) (S ++ (mbs (eh dash [x, y, z]) :: τ1)).length with
   | some xs, some ys => lEq xs ys
   | _, _ => none) = _
  rw [aj cw, cw]
  exact zF _ _
 generalize S ++ (mbs (eh dash [x, y, z]) :: τ1) ++ (mbs (eh dash [x', y', z']) :: τ2) = S2 at hS2 due
 generalize hdu : eqB (eh dash [x, y, z]) (eh dash [x', y', z']) = D at due
 have F3 : MF (put (put V1 bY (.bool A)) fz (.bool D)) a dash b m u := F2.put (by decide)
 have i3 : lk (put (put V1 bY (.bool A)) fz (.bool D)) n_i = some (.int (i : Nat)) := (lkn (by decide)).trans i2
 have j3 : lk (put (put V1 bY (.bool A)) fz (.bool D)) n_j = some (.int (j : Nat)) := (lkn (by decide)).trans j2
 have a3 : lk (put (put V1 bY (.bool A)) fz (.bool D)) bY = some (.bool A) := (lkn (by decide)).trans a2
 have d3 : lk (put (put V1 bY (.bool A)) fz (.bool D)) fz = some (.bool D) := lkp
 unfold lV sH at hstep
 rw [hal, hdu] at hstep
 cases hAD : (A == D) with
 | false => rw [hAD] at hstep; exact nS hstep
 | true =>
 rw [hAD] at hstep
 dsimp only at hstep
 generalize hV3 : put (put V1 bY (.bool A)) fz (.bool D) = V3 at F3 i3 j3 a3 d3
 have pre : ∀ {V' S'}, LZ V3 S2 = some (none, V', S') → zW V1 S = some (none, V', S') := fun h => by
  refine rbC (bp al) (rbC (bp due) ?_)
  rw [hV3]
  refine rbC (aW (gC (aU (aK (af (rV a3) aD) rfl) rK rfl) (gC (aU (p := false) (rV a3) (rV d3) ?_) rfl)) aM) h
  show some (!(A == D)) = _
  rw [hAD]; rfl
 have lev : aE gEq (ag e9 (aa (m2 az (mV aF) (mV n_j)) (aa (m2 az (mV aF) (mV n_i)) (aa (mK (.int 1)) ah)))) (mK (.int 1)) V3 S2 = some (Nat.beq (fp [x', y', z'] [x, y, z] 1) 1, S2) := by
  refine aU (aK (af (ee F3.l j3 hS2.la hj lL) (af (ee F3.l i3 hS2.la hi lL) (af rK aD))) (iG (mx := 1) hS2.pos hA2 hA1 (by simp) (by simp))) rK ?_
  exact congrArg some (gl (y := 1))
 cases A with
 | false =>
  rw [Bool.false_and] at hstep
  cases hstep
  exact ⟨V3, S2, pre (rbC (aW (dj (fY (rV a3) rfl)) aM) aM), F3, i3, hS2⟩
 | true =>
  rw [Bool.true_and] at hstep
  cases hlv : Nat.beq (fp [x', y', z'] [x, y, z] 1) 1 with
  | false =>
   rw [hlv] at hstep lev
   cases hstep
   exact ⟨V3, S2, pre (rbC (aW (bR (fY (rV a3) rfl) (dj lev)) aM) aM), F3, i3, hS2⟩
  | true =>
   rw [hlv] at hstep lev
   dsimp only at hstep
   cases hk : nH (neL [x, y, z] [x', y', z']) with
   | none => rw [hk] at hstep; exact nS hstep
   | some k =>
    rw [hk] at hstep
    dsimp only at hstep
    cases hstep
    have hk3 := MG hk
    let S3 := S2 ++ [[x, y, z].map fun c => MV.txt [c]]
    have hS3 : SF β S3 a b m u L (L.map rdW) M U := hS2.app _
    have F4 : MF (put V3 a5 (.ref S2.length)) a dash b m u := F3.put (by decide)
    have i4 : lk (put V3 a5 (.ref S2.length)) n_i = some (.int (i : Nat)) := (lkn (by decide)).trans i3
    have j4 : lk (put V3 a5 (.ref S2.length)) n_j = some (.int (j : Nat)) := (lkn (by decide)).trans j3
    have s4 : lk (put V3 a5 (.ref S2.length)) a5 = some (.ref S2.length) := lkp
    have g3 : am S3 S2.length = some ([x, y, z].map fun c => MV.txt [c]) := aN _ _
    obtain ⟨τ3, c3⟩ := bP (it := ag aZ (aa (mK (.int 3)) ah)) (x := n_k) (c := cK true) (e := ag oD (aa (m2 az (mV a5) (mV n_k)) (aa (m2 az (m2 az (mV aF) (mV n_j)) (mV n_k)) ah))) (V := put V3 a5 (.ref S2.length)) (σ := S3) (fun _ => true)
     (fun v => match v with | .int t => .bool (!Nat.beq ([x, y, z].getD t.toNat 0) ([x', y', z'].getD t.toNat 0)) | _ => .none) pM (its := mis [0, 1, 2]) rfl F4.z hS3.pos fE (by decide) (fun v hv τ => aY rfl)
     (fun v hv _ τ => by
      refine e12 (List.mem_map.mp hv) fun t ht z2 => ?_; subst z2
      have ht3 : t = 0 ∨ t = 1 ∨ t = 2 := by simpa using ht
      have hlen : 1 ≤ (S3 ++ τ).length := by rw [List.length_append]; have := hS3.pos; lia
      have gg : az (.ref S2.length) (.int (t : Nat)) (S3 ++ τ) = some (.txt [[x, y, z].getD t 0], S3 ++ τ) := by
       refine cC (aj g3) ?_ (by simp)
       rcases ht3 with rfl | rfl | rfl <;> rfl
      have gg2 : az (.str [x', y', z']) (.int (t : Nat)) (S3 ++ τ) = some (.str [[x', y', z'].getD t 0], S3 ++ τ) := by
       refine eg ?_
       rcases ht3 with rfl | rfl | rfl <;> rfl
      have hne := HO (σ := S3 ++ τ) (a := [[x, y, z].getD t 0]) (b := [[x', y', z'].getD t 0]) hlen
      rw [qZ] at hne
      exact aY (aK (af (r2 (rV ((lkn (by decide)).trans s4)) (rV lkp) gg) (af (r2 (ee ((lkn (by decide)).trans F4.l) ((lkn (by decide)).trans j4) (aj hS3.la) hj lL) (rV lkp) gg2) aD)) hne))
    have hmp : ((mis [0, 1, 2]).filter fun _ => true).map (fun v => match v with | .int t => MV.bool (!Nat.beq ([x, y, z].getD t.toNat 0) ([x', y', z'].getD t.toNat 0)) | _ => .none) = mbs (neL [x, y, z] [x', y', z']) := rfl
    rw [hmp] at c3
    let S4 := S3 ++ (mbs (neL [x, y, z] [x', y', z']) :: τ3)
    have hS4 : SF β S4 a b m u L (L.map rdW) M U := hS3.app _
    have g4 : am S4 S3.length = some (mbs (neL [x, y, z] [x', y', z'])) := cw
    have g4s : am S4 S2.length = some ([x, y, z].map fun c => MV.txt [c]) := aj g3
    obtain ⟨n, hn⟩ : ∃ n, S2.length = n + 1 := ⟨S2.length - 1, by have := hS2.pos; lia⟩
    have hset := ld (σ := S4) (i := n) (j := k) (xs := [x, y, z].map fun c => MV.txt [c]) (v := .str [dash]) (by rw [← hn]; exact g4s) (by simpa using hk3) (by simp) (vy _ _ _)
    rw [← hn] at hset
    let W : List MV := ([x, y, z].map fun c => MV.txt [c]).set k (.str [dash])
    let S5 := S4.set S2.length W
    have s2a : S2.length ≠ a := fun e => by have := bx hS2.la; lia
    have s2b : S2.length ≠ b := fun e => by have := bx hS2.lb; lia
    have s2m : S2.length ≠ m := fun e => by have := bx hS2.lm; lia
    have s2u : S2.length ≠ u := fun e => by have := bx hS2.lu; lia
    have hbS2 : β.length ≤ S2.length := by obtain ⟨σ', e⟩ := hS2.base; rw [e, List.length_append]; lia
    have hS5 : SF β S5 a b m u L (L.map rdW) M U :=
     ⟨let ⟨σ', e⟩ := hS4.base; ⟨_, by show S4.set S2.length W = _; rw [e]; exact gu hbS2⟩, (bo s2a).trans hS4.la, (bo s2b).trans hS4.lb, (bo s2m).trans hS4.lm, (bo s2u).trans hS4.lu⟩
    have g5 : am S5 S2.length = some W := cA g4s
    have join : ∀ T, am T S2.length = some W → cO [.str [], .ref S2.length] T = some (.str ([x, y, z].set k dash), T) := fun T hT => by
     unfold cO
     have : k = 0 ∨ k = 1 ∨ k = 2 := by lia
     rcases this with rfl | rfl | rfl <;> simp only [hT] <;> rfl
    have setrun : dt (ag fK (aa (mV a5) (aa (ag fb (aa (aX (ag aZ (aa (mK (.int 3)) ah)) (bd1 n_k) (cK true) (ag oD (aa (m2 az (mV a5) (mV n_k)) (aa (m2 az (m2 az (mV aF) (mV n_j)) (mV n_k)) ah)))) (aa (mK (.bool true)) ah))) (aa (mV aP) ah)))) (put V3 a5 (.ref S2.length)) S3 = some (none, put V3 a5 (.ref S2.length), S5) :=
     j9 (aK (af (rV s4) (af (aK (af c3 (af rK aD)) (oq hS4.pos g4 hk)) (af (rV F4.d) aD))) hset)
    have listrun : ag jS (aa (m2 az (mV aF) (mV n_i)) ah) V3 S2 = some (.ref S2.length, S3) := aK (af (ee F3.l i3 hS2.la hi lL) aD) rfl
    generalize hV4 : put V3 a5 (.ref S2.length) = V4 at F4 i4 j4 s4 setrun
    have joinrun : ∀ T, am T S2.length = some W → cz (mK (.str [])) cO (aa (mV a5) ah) V4 T = some (.str ([x, y, z].set k dash), T) := fun T hT => jd rK (af (rV s4) aD) (join T hT)
    have cont : ig (dT (ag cI (aa (mV dw) (aa (cz (mK (.str [])) cO (aa (mV a5) ah)) ah)))) V4 S5 = some (!gM M ([x, y, z].set k dash), S5) :=
     ox (fY (aK (af (rV F4.m) (af (joinrun S5 g5) aD)) (ij hS5.pos hS5.lm)) rfl)
    obtain ⟨n6, hn6⟩ : ∃ n6, m = n6 + 1 := ⟨m - 1, by lia⟩
    obtain ⟨S6, run6, hS6⟩ : ∃ S6, sIf (ig (dT (ag cI (aa (mV dw) (aa (cz (mK (.str [])) cO (aa (mV a5) ah)) ah))))) (ab (dt (br (mV dw) bf (aa (cz (mK (.str [])) cO (aa (mV a5) ah)) ah))) ak) ak V4 S5 = some (none, V4, S6) ∧ SF β S6 a b m u L (L.map rdW) (jC M ([x, y, z].set k dash)) U := by
     unfold jC
     match hc : gM M ([x, y, z].set k dash) with
     | true => rw [hc] at cont; exact ⟨S5, aW cont aM, hS5⟩
     | false =>
      rw [hc] at cont
      have app := fv (x := .str ([x, y, z].set k dash)) (r := n6) (by rw [← hn6]; exact hS5.lm) (by rw [fX]; lia)
      rw [← hn6, BM] at app
      exact ⟨_, bL cont (rbC (j9 (fh (rV F4.m) hS5.lm (af (joinrun S5 g5) aD) app)) aM), hS5.setM hm n1 n2 n3 _⟩
    have hS7 := hS6.app [[MV.str [x, y, z], MV.str [x', y', z']]]
    have ext : ek [.ref u, .ref S6.length] (S6 ++ [[MV.str [x, y, z], MV.str [x', y', z']]]) = some (.none, (S6 ++ [[MV.str [x, y, z], MV.str [x', y', z']]]).set u (sL (U ++ [[x, y, z], [x', y', z']]))) := by
     obtain ⟨n7, hn7⟩ : ∃ n7, u = n7 + 1 := ⟨u - 1, by lia⟩
     subst hn7
     unfold ek
     simp only [hS7.lu, aN]
     rw [Nat.ble_eq_true_of_le (show (sL U ++ [MV.str [x, y, z], .str [x', y', z']]).length ≤ 1000000 by rw [List.length_append, fX]; simp; lia)]
     simp [sL]
    refine ⟨V4, _, pre (rbC (bL (bR (fY (rV a3) rfl) (bR lev rfl)) (rbC (bp listrun) ?_)) aM), F4, i4, hS7.setU hu n4 n5 (Ne.symm n3) _⟩
    rw [hV4]
    exact rbC setrun (rbC run6 (rbC (j9 (fh (rV F4.u) hS6.lu (af (c7 (af (ee F4.l i4 hS6.la hi lL) (af (ee F4.l j4 hS6.la hj lL) aD)) rfl) aD) ext)) aM))
end
section
variable {β : ac} {a dash b m u : Nat} {L : List (List Nat)}
structure Hc (β : ac) (a b m u : Nat) : Prop where
 h0 : 1 ≤ β.length
 hm : β.length ≤ m
 hu : β.length ≤ u
 n1 : m ≠ a
 n2 : m ≠ b
 n3 : m ≠ u
 n4 : u ≠ a
 n5 : u ≠ b
theorem BJ {dash : Nat} {wi wj : List Nat} {q q' : MU} (h : lV dash wi wj q = some q') : q'.1.length ≤ q.1.length + 1 ∧ q'.2.length ≤ q.2.length + 2 := by
 unfold lV at h
 split at h
 ·exact nS h
 ·cases h; lia
 ·cases h
  constructor
  ·show (jC q.1 _).length ≤ _
   unfold jC
   split <;> simp
  ·simp
theorem so (sd : Hc β a b m u) (hL : L.length ≤ 100) {i : Nat} {wi : List Nat} (hi : L[i]? = some wi) (ok1 : okW wi) (okA : ∀ w ∈ L, okW w) {mi : List MV} {nn : Nat} : ∀ (r pre : List (List Nat)) (V : ap) (S : ac) (q q' : MU), pre ++ r <+: L → MF V a dash b m u → SF β S a b m u L (L.map rdW) q.1 q.2 → q.1.length + r.length ≤ 1000 → q.2.length + 2 * r.length ≤ 1000 → lk V n_i = some (.int (i : Nat)) → uJ dash wi r q = some q' →
  ∃ V' S', eK (.rng 0 1 nn) mi n_j zW (mis (List.range' pre.length r.length)) V S = some (none, V', S') ∧ MF V' a dash b m u ∧ SF β S' a b m u L (L.map rdW) q'.1 q'.2 ∧ q'.1.length ≤ q.1.length + r.length ∧ q'.2.length ≤ q.2.length + 2 * r.length
 | [], pre, V, S, q, q', hp, hF, hS, h1, h2, hVi, h => by
  cases h
  exact ⟨V, S, cP rfl, hF, hS, Nat.le_refl _, Nat.le_refl _⟩
 | wj :: r, pre, V, S, q, q', hp, hF, hS, h1, h2, hVi, h => by
  unfold uJ at h
  match hs : lV dash wi wj q with
  | none => rw [hs] at h; exact nS h
  | some q1 =>
   rw [hs] at h
   dsimp only at h
   have hl := BJ hs
   rw [List.length_cons] at h1 h2
   have hj : L[pre.length]? = some wj := by
    obtain ⟨t, ht⟩ := hp
    rw [← ht]; simp
   have ok2 : okW wj := okA wj (List.mem_of_getElem? hj)
   refine e24 (MB (q := q1) (M := q.1) (U := q.2) hF hS sd.h0 sd.hm sd.hu sd.n1 sd.n2 sd.n3 sd.n4 sd.n5 hi hj ok1 ok2 hL (by lia) (by lia) hVi hs) fun V1 S1 run1 F1 i1 hS1 => ?_
   have hp2 : pre ++ [wj] ++ r <+: L := by simpa using hp
   refine e25 (so sd hL hi ok1 okA (mi := mi) (nn := nn) r (pre ++ [wj]) V1 S1 q1 q' hp2 F1 hS1 (by lia) (by lia) i1 h) fun V' S' run2 F2 hS2 l1 l2 => ?_
   have e : (pre ++ [wj]).length = pre.length + 1 := by simp
   rw [e] at run2
   exact ⟨V', S', bE rfl run1 run2, F2, hS2, by rw [List.length_cons]; lia, by rw [List.length_cons]; lia⟩
theorem ur (sd : Hc β a b m u) (hL : L.length ≤ 10) (okA : ∀ w ∈ L, okW w) {mi : List MV} {nn : Nat} : ∀ (r pre : List (List Nat)) (V : ap) (S : ac) (q q' : MU), L = pre ++ r → MF V a dash b m u → SF β S a b m u L (L.map rdW) q.1 q.2 → q.1.length + 10 * r.length ≤ 500 → q.2.length + 20 * r.length ≤ 500 → ut dash pre r q = some q' →
  ∃ V' S', eK (.rng 0 1 nn) mi n_i Oe (mis (List.range' pre.length r.length)) V S = some (none, V', S') ∧ MF V' a dash b m u ∧ SF β S' a b m u L (L.map rdW) q'.1 q'.2 ∧ q'.1.length ≤ q.1.length + 10 * r.length ∧ q'.2.length ≤ q.2.length + 20 * r.length
 | [], pre, V, S, q, q', hp, hF, hS, h1, h2, h => by
  cases h
  exact ⟨V, S, cP rfl, hF, hS, Nat.le_refl _, Nat.le_refl _⟩
 | w :: r, pre, V, S, q, q', hp, hF, hS, h1, h2, h => by
  unfold ut at h
  match hs : uJ dash w pre q with
  | none => rw [hs] at h; exact nS h
  | some q1 =>
   rw [hs] at h
   dsimp only at h
   rw [List.length_cons] at h1 h2
   have hi : L[pre.length]? = some w := by rw [hp]; simp
   have hpl : pre.length ≤ 9 := by rw [hp] at hL; simp at hL; lia
   have F0 : MF (put V n_i (.int (pre.length : Nat))) a dash b m u := hF.put (by decide)
   obtain ⟨V1, S1, run1, F1, hS1, l1, l2⟩ := so sd (by lia) hi (okA w (List.mem_of_getElem? hi)) okA (mi := mis (List.range' 0 pre.length)) (nn := pre.length) pre [] (put V n_i (.int (pre.length : Nat))) S q q1 (by rw [hp]; exact List.prefix_append _ _) F0 hS (by lia) (by lia) lkp hs
   obtain ⟨V', S', run2, F2, hS2, k1, k2⟩ := ur sd hL okA (mi := mi) (nn := nn) r (pre ++ [w]) V1 S1 q1 q' (by rw [hp]; simp) F1 hS1 (by lia) (by lia) h
   have e : (pre ++ [w]).length = pre.length + 1 := by simp
   rw [e] at run2
   refine ⟨V', S', bE rfl (rbC (kr (aK (af (rV lkp) aD) (nf (by lia))) (its := mis (List.range' 0 pre.length)) ?_ run1) aM) run2, F2, hS2, by rw [List.length_cons]; lia, by rw [List.length_cons]; lia⟩
   show some (bu ((0 : Nat) : Int) 1 pre.length) = _
   rw [fF]
theorem LV : ∀ Ls : List (List Nat), jn (sL Ls) = some Ls.flatten
 | [] => rfl
 | x :: r => by
  show (match jn (sL r) with | some t => some (x ++ t) | none => none) = _
  rw [LV r]; rfl
theorem rf {S : ac} {i : Nat} {Ls : List (List Nat)} (h : am S i = some (sL Ls)) (h1 : Ls.flatten.length ≤ 1000) (h2 : Ls.length ≤ 1000) : cO [.str [], .ref i] S = some (.str Ls.flatten, S) := by
 have hj := LV Ls
 have hl2 : (sL Ls).length ≤ 1000 := by rw [fX]; exact h2
 unfold cO
 cases Ls with
 | nil => simp only [h]; rfl
 | cons c r =>
  have : sL (c :: r) = MV.str c :: sL r := rfl
  rw [this] at h hl2 hj
  simp only [h, hj, Nat.ble_eq_true_of_le h1, Nat.ble_eq_true_of_le hl2]
theorem jz {c : Nat} {l : List Nat} (h : iY c = some l) : iD c = l := by unfold iD; rw [h]; rfl
theorem Ap {V : ap} {σ : ac} (h0 : 1 ≤ σ.length) (hl : lk V aF = some (.ref a)) (hz : lk V c0 = none) (ha : am σ a = some (sL L)) (hL : L.length ≤ 10) (okA : ∀ w ∈ L, okW w) :
  ∃ τ, aX (mV aF) (bd1 ay) (cK true) (cz (mK (.str [])) cO (aa (aX (mV ay) (bd1 ar) (cK true) (ag gn (aa (mV ar) ah))) ah)) V σ = some (.ref σ.length, σ ++ (sL (L.map rdW) :: τ)) := by
 obtain ⟨τ, comp⟩ := bP (it := mV aF) (x := ay) (c := cK true) (e := cz (mK (.str [])) cO (aa (aX (mV ay) (bd1 ar) (cK true) (ag gn (aa (mV ar) ah))) ah)) (V := V) (σ := σ) (fun _ => true) (fun v => match v with | .str w => .str (rdW w) | _ => .none) (rV hl) (show cW (.ref a) σ = some (sL L) from ha) hz h0 (cy ha) (by rw [fX]; lia) (fun v hv τ => aY rfl)
  (fun v hv _ τ => by
   refine e12 (List.mem_map.mp hv) fun w hw z2 => ?_; subst z2
   refine e03 (okA w hw) fun z0 hA hf => ?_; obtain ⟨x, y, z, rfl⟩ := z0
   have hp : 1 ≤ (σ ++ τ).length := by rw [List.length_append]; lia
   obtain ⟨τ2, c2⟩ := bP (it := mV ay) (x := ar) (c := cK true) (e := ag gn (aa (mV ar) ah)) (V := put V ay (.str [x, y, z])) (σ := σ ++ τ) (fun _ => true) (fun v => match v with | .str [c] => .str (iD c) | _ => .none) (rV lkp) (its := aC [x, y, z]) rfl (by rw [gQ] at *; rw [lkn (by decide)]; exact hz) hp jJ (by simp [aC]) (fun v hv τ => aY rfl)
    (fun v hv _ τ => by
     refine e12 (List.mem_map.mp hv) fun c hc z2 => ?_; subst z2
     refine e12 (hf c hc) fun l hl _ => ?_
     have hp : 1 ≤ (σ ++ τ).length := by rw [List.length_append]; lia
     refine aY (aK (af (rV lkp) aD) ?_)
     show _ = some (MV.str (iD c), _)
     rw [jz hl]
     exact oo (by rw [List.length_append, List.length_append]; lia) hl)
   have hmap : ((aC [x, y, z]).filter fun _ => true).map (fun v => match v with | .str [c] => MV.str (iD c) | _ => .none) = sL ([x, y, z].map iD) := rfl
   rw [hmap] at c2
   refine ⟨sL ([x, y, z].map iD) :: τ2, ?_⟩
   have e1 : σ ++ (τ ++ (sL ([x, y, z].map iD) :: τ2)) = σ ++ τ ++ (sL ([x, y, z].map iD) :: τ2) := by simp
   rw [e1]
   have hflat : ([x, y, z].map iD).flatten = rdW [x, y, z] := by unfold rdW; rw [List.flatMap_def]
   have hlen : ([x, y, z].map iD).flatten.length ≤ 1000 := by
    refine e12 (hf x (by simp)) fun l1 e1 b1 => ?_
    refine e12 (hf y (by simp)) fun l2 e2 b2 => ?_
    refine e12 (hf z (by simp)) fun l3 e3 b3 => ?_
    simp [jz e1, jz e2, jz e3]; lia
   have := rf (S := σ ++ τ ++ (sL ([x, y, z].map iD) :: τ2)) (i := (σ ++ τ).length) cw hlen (by simp)
   rw [hflat] at this
   exact jd rK (af c2 aD) this)
 refine ⟨τ, ?_⟩
 rw [comp, List.filter_eq_self.mpr (fun _ _ => rfl)]
 unfold sL
 rw [List.map_map, List.map_map]
 rfl
theorem wp (l : List (List Nat)) : (sL l).all ft = true := by
 unfold sL
 rw [List.all_map]
 exact List.all_eq_true.mpr fun _ _ => rfl
noncomputable def H4 (p : List Nat → Bool) (v : MV) : Bool := match v with
 | .str w => p w
 | _ => false
theorem pn (p : List Nat → Bool) : ∀ l : List (List Nat), (sL l).filter (H4 p) = sL (l.filter p)
 | [] => rfl
 | x :: r => by
  show (MV.str x :: sL r).filter (H4 p) = _
  rw [List.filter_cons, List.filter_cons, pn p r]
  have e : H4 p (.str x) = p x := rfl
  rw [e]
  cases p x <;> rfl
theorem uz {σ : ac} {q : MU} (h0 : 1 ≤ σ.length) (ha : am σ a = some (sL L)) (hL : L.length ≤ 10) (okA : ∀ w ∈ L, okW w) (h : fN dash L = some q) :
  jE [.ref a, .str [dash]] σ = some (.pair (.ref σ.length) (.ref (σ.length + 1)), σ ++ [sL q.1, sL q.2]) := by
 refine cps fun _ Kz => ?_
 unfold fN at h
 cases hall : ut dash [] L ([], []) with
 | none => rw [hall] at h; exact nS h
 | some MUq =>
  rw [hall] at h
  cases h
  have hz : lk ([aF, aP].zip [.ref a, .str [dash]]) c0 = none := by rw [gQ]; rfl
  obtain ⟨τ, ready⟩ := Ap (V := [aF, aP].zip [.ref a, .str [dash]]) h0 rfl hz ha hL okA
  let S1 := σ ++ (sL (L.map rdW) :: τ)
  let S2 := S1 ++ [[]] ++ [[]]
  have l1 : σ.length + 1 ≤ S1.length := by simp [S1]
  have l2 : (S1 ++ [[]]).length = S1.length + 1 := by simp
  have hal : a < σ.length := bx ha
  let V2 : ap := put (put (put ([aF, aP].zip [.ref a, .str [dash]]) fM (.ref σ.length)) dw (.ref S1.length)) jh (.ref (S1 ++ [[]]).length)
  have F2 : MF V2 a dash σ.length S1.length (S1 ++ [[]]).length := ⟨rfl, rfl, rfl, rfl, rfl, by rw [gQ]; rfl⟩
  have SF2 : SF σ S2 a σ.length S1.length (S1 ++ [[]]).length L (L.map rdW) [] [] :=
   ⟨⟨sL (L.map rdW) :: τ ++ ([[]] ++ [[]]), by show S1 ++ [[]] ++ [[]] = _; simp only [S1, List.append_assoc]⟩, aj (aj (aj ha)), aj (aj cw), aj (aN _ _), aN _ _⟩
  have sd : Hc σ a σ.length S1.length (S1 ++ [[]]).length := ⟨h0, by lia, by lia, by lia, by lia, by lia, by lia, by lia⟩
  obtain ⟨V3, S3, run3, F3, SF3, k1, k2⟩ := ur sd hL okA (mi := mis (List.range' 0 L.length)) (nn := L.length) L [] V2 S2 ([], []) MUq rfl F2 SF2 (by simp; lia) (by simp; lia) hall
  obtain ⟨τ4, lone⟩ := bP (it := mV aF) (x := ay) (c := ig (dT (ag cI (aa (mV jh) (aa (mV ay) ah))))) (e := mV ay) (V := V3) (σ := S3) (H4 fun w => !gM MUq.2 w) (fun v => v) (rV F3.l) (show cW (.ref a) S3 = some (sL L) from SF3.la) F3.z SF3.pos (cy SF3.la) (by rw [fX]; lia)
   (fun v hv τ => by
    refine e12 (List.mem_map.mp hv) fun w hw z2 => ?_; subst z2
    exact aY (ox (fY (aK (af (rV ((lkn (by decide)).trans F3.u)) (af (rV lkp) aD)) (ij (by rw [List.length_append]; have := SF3.pos; lia) (aj SF3.lu))) rfl)))
   (fun v hv _ τ => aY (rV lkp))
  rw [List.map_id', pn] at lone
  obtain ⟨σx, hσx⟩ := SF3.base
  have hS4 : S3 ++ (sL (L.filter fun w => !gM MUq.2 w) :: τ4) = σ ++ (σx ++ (sL (L.filter fun w => !gM MUq.2 w) :: τ4)) := by rw [hσx]; simp
  have hml : S1.length < S3.length := bx SF3.lm
  refine Kz <| bH rfl h0 (V := V3) (σ' := σ ++ (σx ++ (sL (L.filter fun w => !gM MUq.2 w) :: τ4))) ?_ (Au (i := S1.length) (j := S3.length) (xs := sL MUq.1) (ys := sL (L.filter fun w => !gM MUq.2 w)) (by lia) (by lia) (by lia) (by rw [← hS4]; exact aj SF3.lm) (by rw [← hS4]; exact cw) (wp _) (wp _))
  rw [← hS4]
  refine rbC (bp ready) ?_
  refine rbC (pI (dY (af (c7 aD rfl) (af (c7 aD rfl) aD)))) ?_
  have hlen : bZ [.ref a] S2 = some (.int ((L.length : Nat) : Int), S2) := by
   unfold bZ
   simp only [SF2.la, fX]
   rw [Nat.ble_eq_true_of_le (show L.length ≤ 1000000 by lia)]
  refine rbC (V1 := V3) (σ1 := S3) (kr (aK (af (aK (af (rV F2.l) aD) hlen) aD) (nf (by lia))) (its := mis (List.range' 0 L.length)) ?_ run3) ?_
  ·show some (bu ((0 : Nat) : Int) 1 L.length) = _
   rw [fF]
  ·exact rbR (et (dY (af (rV F3.m) (af lone aD))))
end
def Pt : SM := (ab (aL fZ (ag AW (aa (mV cS) ah)))
 (ab (bj (vA (eE cIs (ag dI (aa (mV fZ) ah)) (mK (.typ "int"))) (eE gEq (mV fZ) (m1 ke (ag k7 (aa (mV bB) ah))))))
 ak))
def NK : SM := (ab (aL cQ (ag ot (aa (m2 cD (m1 ke (mK (.int 1))) (mV bX)) (aa (mV eA) ah))))
 (ab (sIf (cOr (aE ii (ag dI (aa (mV cQ) ah)) (mK (.typ "int"))) (cOr (aE gNe (mV cQ) (m2 cD (m1 ke (mK (.int 1))) (mV au))) (cK false))) (ab (bj (mK (.bool false)))
 ak) ak)
 (ab (dt (br (mV cS) bf (aa (ag ux (aa (ag uy (aa (m1 ke (mK (.int 2))) (aa (mV cQ) ah))) (aa (m2 cG (mV dZ) (mK (.int 2))) ah))) ah)))
 ak)))
def NL : SM := (ab (aL bU (m2 cG (bW (mV ay) (bc (mK (.int 1))) be) (bW (mV ay) be (bc (mK (.int 1))))))
 (ab (aL cU (ba (aa (ag e9 (aa (mV ay) (aa (mV bU) (aa (mK (.int 4)) ah)))) (aa (ag e9 (aa (mV bU) (aa (mV ay) (aa (mK (.int 4)) ah)))) ah))))
 (ab (sIf (cOr (aE gNe (mV cU) (ba (aa (mK (.int 4)) (aa (mK (.int 4)) ah)))) (cOr (aE gNe (aX (mV cU) (bd1 iL) (aE ii (ag dI (aa (mV iL) ah)) (mK (.typ "int"))) (mV iL)) (ba ah)) (cK false))) (ab (bj (mK (.bool false)))
 ak) ak)
 NK)))
def NN : SM := (ab (aL bJ (m2 cG (m2 dN (mK (.int 2)) (mV au)) (ag bZ (aa (aX (ag aZ (aa (mK (.int 3)) ah)) (bd1 n_k) (cj (aE gNe (m2 az (mV ay) (mV n_k)) (mV aP)) (cj (aE gNe (m2 az (mV ay) (mV n_k)) (m2 az (mV bK) (mV n_k))) (cK true))) (mV n_k)) ah))))
 (ab (aL dZ (ag e9 (aa (mV bK) (aa (mV ay) (aa (mV bJ) ah)))))
 (ab (sIf (cOr (aE ii (ag dI (aa (mV dZ) ah)) (mK (.typ "int"))) (cOr (aE gNe (mV dZ) (mV bJ)) (cK false))) (ab (bj (mK (.bool false)))
 ak) ak)
 NL)))
def NO : SM := (ab (aL au (ag iH (aa (mV ay) (aa (mV aP) ah))))
 (ab (aL bX (ag e9 (aa (mV ay) (aa (mV ey) (aa (m2 dN (mV eA) (mV au)) ah)))))
 (ab (sIf (cOr (aE ii (ag dI (aa (mV bX) ah)) (mK (.typ "int"))) (cOr (aE gNe (mV bX) (m2 dN (mV eA) (mV au))) (cK false))) (ab (bj (mK (.bool false)))
 ak) ak)
 NN)))
def vY : SM := (ab (aL ey (ie ic oh (aa (mV ay) ah)))
 (ab (sIf (aE gNe (mV ey) (cz (mK (.str [])) cO (aa (aX (mV ay) (bd1 ar) (cK true) (mIf (aE gEq (mV ar) (mV aP)) (mV b6) (mV ar))) ah))) (ab (bj (mK (.bool false)))
 ak) ak)
 NO))
def NP : SM := (ab (aL eA (m2 cD (m2 dN (mK (.int 2)) (ag bZ (aa (mV b6) ah))) (m2 dN (mK (.int 2)) (ag BG (aa (eE gEq (mV aP) (mK (.str [38]))) ah)))))
 (ab (aL cS (ba ah))
 (ab (fe (mV dF) ay vY)
 Pt)))
def NQ : SM := (ab (aL fz (aX (ag fL (aa (aX (bW (mV bG) (bc (mK (.int 2))) be) (bd1 aR) (cK true) (m2 bS (mV aR) (mK (.int 8)))) ah)) (bd2 a6 au) (cK true) (ag f0 (aa (mV bg) (aa (mV a6) (aa (mV au) (aa (mV aP) ah)))))))
 (ab (sIf (aE gNe (ag fO (aa (mV dF) ah)) (ag fO (aa (mV fz) ah))) (ab (bj (mK (.bool false)))
 ak) ak)
 NP))
def GO : SM := (ab (jU aF jk (ag jE (aa (mV aF) (aa (mV aP) ah))))
 (ab (dt (br (mV dF) ek (aa (mV jk) ah)))
 ak))
def NR : SM := (ab (aL dF (ba ah))
 (ab (fe (ag aZ (aa (mK (.int 4)) ah)) dg GO)
 NQ))
def NS : SM := (ab (aL bK (ag f0 (aa (mV bg) (aa (m2 bS (m2 az (mV bG) (mK (.int 1))) (mK (.int 8))) (aa (mK (.int 0)) (aa (mV aP) ah))))))
 (ab (aL bB (aX (mV aF) (bd1 ay) (cK true) (ag e9 (aa (mV bK) (aa (mV ay) (aa (mK (.int 3)) ah))))))
 NR))
def rT : SM := (ab (aL aQ (ag k9 (aa (mV c9) (aa (mV aR) ah))))
 (ab (sIf (aE gNe (aX (mV aQ) (bd1 ar) (aE ii (ag dI (aa (ag jF (aa (mV ar) ah)) ah)) (mK (.typ "bool"))) (mV ar)) (ba ah)) (ab (bj (mK (.bool false)))
 ak) ak)
 (ab (aL ay (ag on (aa (mV bg) (aa (mV aQ) ah))))
 (ab (sIf (aE gNe (mV ay) (ag f0 (aa (mV bg) (aa (m2 bS (mV aR) (mK (.int 8))) (aa (mK (.int 0)) (aa (mV aP) ah)))))) (ab (bj (mK (.bool false)))
 ak) ak)
 (ab (aL cu (ag cI (aa (mV aF) (aa (mV ay) ah))))
 (ab (sIf (aE ii (ag dI (aa (mV cu) ah)) (mK (.typ "bool"))) (ab (bj (mK (.bool false)))
 ak) ak)
 (ab (sIf (ig (dT (mV cu))) (ab (dt (br (mV aF) bf (aa (mV ay) ah)))
 ak) ak)
 ak)))))))
def Pu : SM := (ab (fe (bW (mV bG) (bc (mK (.int 2))) be) aR rT)
 NS)
def Pv : SM := (ab (aL aF (ba ah))
 Pu)
structure LF (V : ap) (ci w way dash : Nat) (nm ref : List Nat) : Prop where
 ce : lk V bG = some (.ref ci)
 wh : lk V c9 = some (.int (w : Nat))
 nm : lk V bg = some (.str nm)
 ha : lk V ic = some (.fn (tT way))
 da : lk V aP = some (.str [dash])
 re : lk V b6 = some (.str ref)
 z : lk V c0 = none
theorem LF.put {V : ap} {ci w way dash x : Nat} {nm ref : List Nat} {v : MV} (h : LF V ci w way dash nm ref) (hx : (Nat.beq bG x || Nat.beq c9 x || Nat.beq bg x || Nat.beq ic x || Nat.beq aP x || Nat.beq b6 x || Nat.beq 52363360 x) = false) : LF (put V x v) ci w way dash nm ref := by
 simp only [Bool.or_eq_false_iff] at hx
 obtain ⟨⟨⟨⟨⟨⟨h1, h2⟩, h3⟩, h4⟩, h5⟩, h6⟩, h7⟩ := hx
 exact ⟨(lkn h1).trans h.ce, (lkn h2).trans h.wh, (lkn h3).trans h.nm, (lkn h4).trans h.ha, (lkn h5).trans h.da, (lkn h6).trans h.re, by rw [gQ] at *; exact (lkn h7).trans (by have := h.z; rwa [gQ] at this)⟩
def KS (l : Nat) (S S' : ac) : Prop := ∀ i xs, i ≠ l → am S i = some xs → am S' i = some xs
theorem KS.app (l : Nat) (S τ : ac) : KS l S (S ++ τ) := fun _ _ _ h => aj h
theorem KS.set (l : Nat) (S : ac) (ys : List MV) : KS l S (S.set l ys) := fun _ _ n h => by rw [bo (Ne.symm n)]; exact h
theorem KS.trans {l : Nat} {S S' S'' : ac} (a : KS l S S') (b : KS l S' S'') : KS l S S'' := fun i xs n h => b i xs n (a i xs n h)
theorem KS.refl (l : Nat) (S : ac) : KS l S S := fun _ _ _ h => h
theorem Gj : ∀ a : List (List Nat), lEq (sL a) (sL a) = some true
 | [] => rfl
 | x :: a => by
  show (match fEq (.str x) (.str x), lEq (sL a) (sL a) with | some p, some q => some (p && q) | _, _ => none) = _
  rw [Gj a]
  show some (leq x x && true) = _
  rw [eF]; simp
section
variable {ci w way dash : Nat} {nm ref : List Nat}
theorem nu {l : EM} {V : ap} {S : ac} {fl : List MV} {τ : ac} (h : l V S = some (.ref S.length, S ++ (fl :: τ))) : ∃ τ', aE gNe l (ba ah) V S = some (!fl.isEmpty, S ++ τ') := by
 refine ⟨(fl :: τ) ++ [[]], ?_⟩
 have e : gNe (.ref S.length) (.ref (S ++ (fl :: τ)).length) (S ++ (fl :: τ) ++ [[]]) = some (!fl.isEmpty) := by
  show (match (match am (S ++ (fl :: τ) ++ [[]]) S.length, am (S ++ (fl :: τ) ++ [[]]) (S ++ (fl :: τ)).length with
   | some xs, some ys => lEq xs ys
   | _, _ => none) with
   | some p => some (!p)
   | none => none) = _
  rw [aN, show am (S ++ (fl :: τ) ++ [[]]) S.length = some fl from aj (by simp [am])]
  dsimp only
  rw [rc]
 rw [aU h (c7 aD rfl) e, List.append_assoc]
theorem AS {V : ap} {S : ac} {l c : Nat} {Lw : List (List Nat)} {W : List Nat} (hF : LF V ci w way dash nm ref) (hl : lk V aF = some (.ref (l + 1))) (hS : am S (l + 1) = some (sL Lw)) (hL : Lw.length ≤ 1000) (hw : w < 4) (hnm : ∃ x y z, nm = [x, y, z] ∧ eZ x ∧ eZ y ∧ eZ z)
  (hW : b0 nm (c % 8) 0 dash = W) (hr : fg (nm ++ nm) (eo w c) [0, 0, 0] = some W) (hc : ∀ x ∈ W, x ≤ 1114111) (hty : (eo w c).length ≤ 1000) :
  ∃ V' S', rT (put V aR (.int (c : Nat))) S = some (none, V', S') ∧ LF V' ci w way dash nm ref ∧ lk V' aF = some (.ref (l + 1)) ∧ am S' (l + 1) = some (sL (jC Lw W)) ∧ KS (l + 1) S S' := by
 refine e34 hnm fun x y z z3 gx gy gz => ?_; subst z3
 have hp : 1 ≤ S.length := by have := bx hS; lia
 have F1 : LF (put V aR (.int (c : Nat))) ci w way dash [x, y, z] ref := hF.put (by decide)
 have l1 : lk (put V aR (.int (c : Nat))) aF = some (.ref (l + 1)) := (lkn (by decide)).trans hl
 have c1 : lk (put V aR (.int (c : Nat))) aR = some (.int (c : Nat)) := lkp
 generalize put V aR (.int (c : Nat)) = V1 at F1 l1 c1
 let S2 := S ++ [aC (eo w c)]
 have ty : ag k9 (aa (mV c9) (aa (mV aR) ah)) V1 S = some (.ref S.length, S2) := aK (af (rV F1.wh) (af (rV c1) aD)) (v7 hp hw)
 have gt : am S2 S.length = some (aC (eo w c)) := aN _ _
 have F2 : LF (put V1 aQ (.ref S.length)) ci w way dash [x, y, z] ref := F1.put (by decide)
 have l2 : lk (put V1 aQ (.ref S.length)) aF = some (.ref (l + 1)) := (lkn (by decide)).trans l1
 have c2 : lk (put V1 aQ (.ref S.length)) aR = some (.int (c : Nat)) := (lkn (by decide)).trans c1
 have t2 : lk (put V1 aQ (.ref S.length)) aQ = some (.ref S.length) := lkp
 generalize hV2 : put V1 aQ (.ref S.length) = V2 at F2 l2 c2 t2
 have hp2 : 1 ≤ S2.length := by simp [S2]
 obtain ⟨τ, comp⟩ := bP (it := mV aQ) (x := ar) (c := aE ii (ag dI (aa (ag jF (aa (mV ar) ah)) ah)) (mK (.typ "bool"))) (e := mV ar) (V := V2) (σ := S2) (fun _ => false) (fun v => v) (rV t2) (show cW (.ref S.length) S2 = some (aC (eo w c)) from gt) F2.z hp2 (cy gt) (by rw [dz]; lia)
  (fun v hv τ => by
   refine e12 (List.mem_map.mp hv) fun c' hc' z2 => ?_; subst z2
   exact aY (aU (aK (af (aK (af (rV lkp) aD) (pH (by rw [List.length_append]; lia))) aD) rfl) rK rfl))
  (fun v hv h _ => by exact nB h)
 rw [List.filter_eq_nil_iff.mpr (fun _ _ h => by exact nB h), List.map_nil] at comp
 obtain ⟨τ3, ne⟩ := nu comp
 let S3 := S2 ++ τ3
 have hp3 : 1 ≤ S3.length := by simp [S3, S2]; lia
 have g3 : am S3 S.length = some (aC (eo w c)) := aj gt
 have s3 : am S3 (l + 1) = some (sL Lw) := aj (aj hS)
 have rd : ag on (aa (mV bg) (aa (mV aQ) ah)) V2 S3 = some (.str W, S3) := aK (af (rV F2.nm) (af (rV t2) aD)) (Bz hp3 (by simp) g3 hr hc)
 have F4 : LF (put V2 ay (.str W)) ci w way dash [x, y, z] ref := F2.put (by decide)
 have l4 : lk (put V2 ay (.str W)) aF = some (.ref (l + 1)) := (lkn (by decide)).trans l2
 have c4 : lk (put V2 ay (.str W)) aR = some (.int (c : Nat)) := (lkn (by decide)).trans c2
 have w4 : lk (put V2 ay (.str W)) ay = some (.str W) := lkp
 generalize hV4 : put V2 ay (.str W) = V4 at F4 l4 c4 w4
 have wd : aE gNe (mV ay) (ag f0 (aa (mV bg) (aa (m2 bS (mV aR) (mK (.int 8))) (aa (mK (.int 0)) (aa (mV aP) ah))))) V4 S3 = some (false, S3) := by
  have := pG (σ := S3) (low := c % 8) (d := 0) (dash := dash) hp3 gx gy gz
  rw [hW] at this
  refine aU (rV w4) (aK (af (rV F4.nm) (af (r2 (rV c4) rK (gf (b := 8) (by decide))) (af rK (af (rV F4.da) aD)))) this) ?_
  show some (!leq W W) = _
  rw [eF]; simp
 have fo : ag cI (aa (mV aF) (aa (mV ay) ah)) V4 S3 = some (.bool (gM Lw W), S3) := aK (af (rV l4) (af (rV w4) aD)) (ij hp3 s3)
 have F5 : LF (put V4 cu (.bool (gM Lw W))) ci w way dash [x, y, z] ref := F4.put (by decide)
 have l5 : lk (put V4 cu (.bool (gM Lw W))) aF = some (.ref (l + 1)) := (lkn (by decide)).trans l4
 have w5 : lk (put V4 cu (.bool (gM Lw W))) ay = some (.str W) := (lkn (by decide)).trans w4
 have f5 : lk (put V4 cu (.bool (gM Lw W))) cu = some (.bool (gM Lw W)) := lkp
 generalize hV5 : put V4 cu (.bool (gM Lw W)) = V5 at F5 l5 w5 f5
 have pre : ∀ {V' S'}, ab (sIf (ig (dT (mV cu))) (ab (dt (br (mV aF) bf (aa (mV ay) ah))) ak) ak) ak V5 S3 = some (none, V', S') → rT V1 S = some (none, V', S') := fun h => by
  refine rbC (bp ty) ?_
  rw [hV2]
  refine rbC (aW ne aM) ?_
  refine rbC (bp rd) ?_
  rw [hV4]
  refine rbC (aW wd aM) ?_
  refine rbC (bp fo) ?_
  rw [hV5]
  exact rbC (aW (aU (aK (af (rV f5) aD) rfl) rK rfl) aM) h
 have k3 : KS (l + 1) S S3 := (KS.app _ _ _).trans (KS.app _ _ _)
 unfold jC
 match hh : gM Lw W with
 | true =>
  rw [hh] at f5
  exact ⟨V5, S3, pre (rbC (aW (ox (p := true) (fY (rV f5) rfl)) aM) aM), F5, l5, s3, k3⟩
 | false =>
  rw [hh] at f5
  have app := fv (x := .str W) s3 (by rw [fX]; lia)
  rw [BM] at app
  exact ⟨V5, _, pre (rbC (bL (ox (p := false) (fY (rV f5) rfl)) (rbC (j9 (fh (rV l5) s3 (af (rV w5) aD) app)) aM)) aM), F5, l5, cA s3, k3.trans (KS.set _ _ _)⟩
theorem pv {l q : Nat} {items : List MV} {Wf : Nat → List Nat} (hw : w < 4) (hnm : ∃ x y z, nm = [x, y, z] ∧ eZ x ∧ eZ y ∧ eZ z) (hq : q ≠ l + 1)
  (hW : ∀ r, b0 nm r 0 dash = Wf r) (hc : ∀ r, ∀ x ∈ Wf r, x ≤ 1114111) : ∀ (cs : List Nat) (V : ap) (S : ac) (Lw : List (List Nat)), LF V ci w way dash nm ref → lk V aF = some (.ref (l + 1)) → am S (l + 1) = some (sL Lw) → am S q = some items → Lw.length + cs.length ≤ 1000 →
   (∀ c ∈ cs, fg (nm ++ nm) (eo w c) [0, 0, 0] = some (Wf (c % 8)) ∧ (eo w c).length ≤ 1000) →
  ∃ V' S', eK (.ref q) items aR rT (mis cs) V S = some (none, V', S') ∧ LF V' ci w way dash nm ref ∧ lk V' aF = some (.ref (l + 1)) ∧ am S' (l + 1) = some (sL (cs.foldl (fun L c => jC L (Wf (c % 8))) Lw)) ∧ KS (l + 1) S S'
 | [], V, S, Lw, hF, hl, hS, hi, hL, hcs => ⟨V, S, cP (lh hi), hF, hl, hS, KS.refl _ _⟩
 | c :: cs, V, S, Lw, hF, hl, hS, hi, hL, hcs => by
  refine cps fun _ Kz => ?_
  rw [List.length_cons] at hL
  have h1 := hcs c List.mem_cons_self
  refine e25 (AS hF hl hS (by lia) hw hnm (hW (c % 8)) h1.1 (hc _) h1.2) fun V1 S1 run1 F1 l1 s1 k1 => ?_
  have hal : (jC Lw (Wf (c % 8))).length ≤ Lw.length + 1 := by unfold jC; split <;> simp
  refine e25 (pv (l := l) (q := q) (items := items) hw hnm hq hW hc cs V1 S1 (jC Lw (Wf (c % 8))) F1 l1 s1 (k1 q items hq hi) (by lia) (fun c' h => hcs c' (List.mem_cons_of_mem _ h))) fun V' S' run2 F2 l2 s2 k2 => ?_
  exact Kz <| ⟨V', S', bE (lh hi) run1 run2, F2, l2, s2, k1.trans k2⟩
def jK (dash : Nat) : Nat → List (List Nat) → List (List Nat) → Option (List (List Nat))
 | 0, _, bD => some bD
 | n + 1, L, bD => match fN dash L with
  | none => none
  | some q => jK dash n q.1 (bD ++ q.2)
def kq (dash : Nat) : Nat → List (List Nat) → Prop
 | 0, _ => True
 | n + 1, L => L.length ≤ 10 ∧ (∀ w ∈ L, okW w) ∧ ∀ q, fN dash L = some q → kq dash n q.1
theorem lY {e : Nat} {mi : List MV} {nn : Nat} : ∀ (ts : List Nat) (V : ap) (S : ac) (a : Nat) (L bD left' : List (List Nat)), LF V ci w way dash nm ref → lk V aF = some (.ref a) → lk V dF = some (.ref (e + 1)) → a ≠ e + 1 → am S a = some (sL L) → am S (e + 1) = some (sL bD) → kq dash ts.length L → bD.length + 10 * ts.length ≤ 1000 → jK dash ts.length L bD = some left' →
  ∃ V' S', eK (.rng 0 1 nn) mi dg GO (mis ts) V S = some (none, V', S') ∧ LF V' ci w way dash nm ref ∧ lk V' dF = some (.ref (e + 1)) ∧ (∀ y, Nat.beq y dg = false → Nat.beq y aF = false → Nat.beq y jk = false → lk V' y = lk V y) ∧ am S' (e + 1) = some (sL left') ∧ KS (e + 1) S S'
 | [], V, S, a, L, bD, left', hF, hl, he, hae, hS, hSl, hK, hlen, h => by
  cases h
  exact ⟨V, S, cP rfl, hF, he, fun _ _ _ _ => rfl, hSl, KS.refl _ _⟩
 | t :: ts, V, S, a, L, bD, left', hF, hl, he, hae, hS, hSl, hK, hlen, h => by
  have h : (match fN dash L with | none => none | some q => jK dash ts.length q.1 (bD ++ q.2)) = some left' := h
  obtain ⟨hL, okA, hK2⟩ : L.length ≤ 10 ∧ (∀ w ∈ L, okW w) ∧ ∀ q, fN dash L = some q → kq dash ts.length q.1 := hK
  rw [List.length_cons] at hlen
  match hm : fN dash L with
  | none => rw [hm] at h; exact nS h
  | some q =>
   rw [hm] at h
   dsimp only at h
   have hp : 1 ≤ S.length := by have := bx hSl; lia
   have F1 : LF (put V dg (.int (t : Nat))) ci w way dash nm ref := hF.put (by decide)
   have mrun : ag jE (aa (mV aF) (aa (mV aP) ah)) (put V dg (.int (t : Nat))) S = some (.pair (.ref S.length) (.ref (S.length + 1)), S ++ [sL q.1, sL q.2]) :=
    aK (af (rV ((lkn (by decide)).trans hl)) (af (rV F1.da) aD)) (uz hp hS hL okA hm)
   let V2 := put (put (put V dg (.int (t : Nat))) aF (.ref S.length)) jk (.ref (S.length + 1))
   have F2 : LF V2 ci w way dash nm ref := (F1.put (by decide)).put (by decide)
   have l2 : lk V2 aF = some (.ref S.length) := (lkn (by decide)).trans lkp
   have lo2 : lk V2 jk = some (.ref (S.length + 1)) := lkp
   have e2 : lk V2 dF = some (.ref (e + 1)) := (lkn (by decide)).trans ((lkn (by decide)).trans ((lkn (by decide)).trans he))
   have o2 : ∀ y, Nat.beq y dg = false → Nat.beq y aF = false → Nat.beq y jk = false → lk V2 y = lk V y := fun y a b c => (lkn c).trans ((lkn b).trans (lkn a))
   let S2 := S ++ [sL q.1, sL q.2]
   have ga : am S2 S.length = some (sL q.1) := cw
   have gb : am S2 (S.length + 1) = some (sL q.2) := by simp [S2, am]
   have ge : am S2 (e + 1) = some (sL bD) := aj hSl
   have hq2 : q.2.length ≤ 10 := by
    unfold fN at hm
    split at hm
    ·cases hm; exact Nat.le_trans (List.length_filter_le _ _) hL
    ·exact nS hm
   have ext : ek [.ref (e + 1), .ref (S.length + 1)] S2 = some (.none, S2.set (e + 1) (sL (bD ++ q.2))) := by
    unfold ek
    simp only [ge, gb]
    rw [Nat.ble_eq_true_of_le (show (sL bD ++ sL q.2).length ≤ 1000000 by rw [List.length_append, fX, fX]; lia)]
    simp [sL]
   have hne : S.length ≠ e + 1 := fun x => by have := bx hSl; lia
   obtain ⟨V', S', run, F', e', o', s', k'⟩ := lY (mi := mi) (nn := nn) ts V2 (S2.set (e + 1) (sL (bD ++ q.2))) S.length q.1 (bD ++ q.2) left' F2 l2 e2 hne (by rw [bo (Ne.symm hne)]; exact ga) (cA ge) (hK2 q hm) (by rw [List.length_append]; lia) h
   refine ⟨V', S', bE rfl (rbC (pI mrun) (rbC (j9 (fh (rV e2) ge (af (rV lo2) aD) ext)) aM)) run, F', e', fun y a b c => (o' y a b c).trans (o2 y a b c), s', ((KS.app _ _ _).trans (KS.set _ _ _)).trans k'⟩
end
noncomputable def f3 (ref : List Nat) (dash : Nat) (w : List Nat) : List Nat := (w.map fun c => match Nat.beq c dash with | true => ref | false => [c]).flatten
noncomputable def vw (asked w : List Nat) (dash k : Nat) : Bool := !Nat.beq (w.getD k 0) dash && !Nat.beq (w.getD k 0) (asked.getD k 0)
def mH (asked w : List Nat) (dash : Nat) : Nat := ([0, 1, 2].filter (vw asked w dash)).length
noncomputable def wm : List Nat → List Nat
 | [x, y, z] => [y, z, x]
 | w => w
structure WOk (way dash each : Nat) (ref asked w : List Nat) : Prop where
 sh : ∃ x y z, w = [x, y, z]
 a : w.all isA = true
 esc : oA (nU way) w = some (f3 ref dash w)
 pa : (f3 ref dash w).all isA = true
 pl : (f3 ref dash w).length ≤ 40
 pr : fp w (f3 ref dash w) (each * fU dash w) = each * fU dash w
 far : fp asked w (2 * fU dash w + mH asked w dash) = 2 * fU dash w + mH asked w dash
 ap1 : fp w (wm w) 4 = 4
 ap2 : fp (wm w) w 4 = 4
theorem B0 {V : ap} {x f : Nat} {T : Nat → Option FM} {lm : LM} {g : FM} {as : List MV} {σ σ1 σ2 : ac} {v : MV} (h : lk V x = some (.fn f)) (hT : T f = some g) (ha : lm V σ = some (as, σ1)) (hg : g as σ1 = some (v, σ2)) : ie x T lm V σ = some (v, σ2) := by
 unfold ie; rw [h]; dsimp only; rw [hT]; exact aK ha hg
structure LG (V : ap) (each e : Nat) (asked : List Nat) : Prop where
 as : lk V bK = some (.str asked)
 ea : lk V eA = some (.int (each : Nat))
 co : lk V cS = some (.ref (e + 1))
theorem LG.put {V : ap} {each e x : Nat} {asked : List Nat} {v : MV} (h : LG V each e asked) (hx : (Nat.beq bK x || Nat.beq eA x || Nat.beq cS x) = false) : LG (put V x v) each e asked := by
 simp only [Bool.or_eq_false_iff] at hx
 obtain ⟨⟨h1, h2⟩, h3⟩ := hx
 exact ⟨(lkn h1).trans h.as, (lkn h2).trans h.ea, (lkn h3).trans h.co⟩
theorem PK (w : List Nat) : cut (some 1) none w = w.drop 1 := kh (p := 1)
theorem PJ (w : List Nat) : cut none (some 1) w = w.take 1 := zU (p := 1)
section
variable {ci w way dash each e : Nat} {nm ref asked : List Nat}
theorem At {V : ap} {S : ac} {wd : List Nat} (hw : lk V ay = some (.str wd)) (hF : LF V ci w way dash nm ref) (hp : 1 ≤ S.length) (hl : wd.length ≤ 100) (hpl : (f3 ref dash wd).length ≤ 1000) :
  ∃ τ, cz (mK (.str [])) cO (aa (aX (mV ay) (bd1 ar) (cK true) (mIf (aE gEq (mV ar) (mV aP)) (mV b6) (mV ar))) ah) V S = some (.str (f3 ref dash wd), S ++ τ) := by
 obtain ⟨τ, comp⟩ := bP (it := mV ay) (x := ar) (c := cK true) (e := mIf (aE gEq (mV ar) (mV aP)) (mV b6) (mV ar)) (V := V) (σ := S) (fun _ => true) (fun v => match v with | .str [c] => .str (match Nat.beq c dash with | true => ref | false => [c]) | _ => .none) (rV hw) (its := aC wd) rfl hF.z hp jJ (by rw [dz]; lia) (fun v hv τ => aY rfl)
  (fun v hv _ τ => by
   refine e12 (List.mem_map.mp hv) fun c hc z2 => ?_; subst z2
   have F : LF (put V ar (.str [c])) ci w way dash nm ref := hF.put (by decide)
   have cc : aE gEq (mV ar) (mV aP) (put V ar (.str [c])) (S ++ τ) = some (Nat.beq c dash, S ++ τ) := by
    refine aU (rV lkp) (rV F.da) ?_
    show some (leq [c] [dash]) = _
    rw [qZ]
   refine aY ?_
   show _ = some (MV.str (match Nat.beq c dash with | true => ref | false => [c]), _)
   match q : Nat.beq c dash with
   | true => rw [q] at cc; exact BW cc (rV F.re)
   | false => rw [q] at cc; exact BX cc (rV lkp))
 have hmap : ((aC wd).filter fun _ => true).map (fun v => match v with | .str [c] => MV.str (match Nat.beq c dash with | true => ref | false => [c]) | _ => .none) = sL (wd.map fun c => match Nat.beq c dash with | true => ref | false => [c]) := by
  rw [List.filter_eq_self.mpr (fun _ _ => rfl)]
  unfold aC sL
  rw [List.map_map, List.map_map]
  rfl
 rw [hmap] at comp
 exact ⟨_, jd rK (af comp aD) (rf (cw (x := sL (wd.map fun c => match Nat.beq c dash with | true => ref | false => [c]))) hpl (by simp; lia))⟩
theorem ne_int {a b : Nat} {σ : ac} (h : a = b) : gNe (.int (a : Nat)) (.int (b : Nat)) σ = some false := by
 subst h
 show some (!decide ((a : Int) = (a : Int))) = _
 simp
theorem ne_str {a : List Nat} {σ : ac} : gNe (.str a) (.str a) σ = some false := by
 show some (!leq a a) = _
 rw [eF]; simp
theorem vL (e c : Nat) (h : 1 ≤ e) : (-1 - ((e * c : Nat) : Int)).fdiv (e : Int) = -1 - (c : Int) := by
 rw [Int.fdiv_eq_ediv_of_nonneg _ (by lia)]
 have : (-1 - ((e * c : Nat) : Int)) = -1 + (e : Int) * (-(c : Int)) := by push_cast; rw [Int.mul_neg]; lia
 rw [this, Int.add_mul_ediv_left _ _ (by lia)]
 have : (-1 : Int) / (e : Int) = -1 := by
  rw [Int.neg_one_ediv, Int.sign_eq_one_of_pos (by lia)]
 rw [this]; lia
def WG (X : Option (Option MV × ap × ac)) (V : ap) (S : ac) (ci w way dash each e : Nat) (nm ref asked : List Nat) (v : List MV) : Prop :=
 ∃ V' S', X = some (none, V', S') ∧ LF V' ci w way dash nm ref ∧ LG V' each e asked ∧ (∀ y, Nat.beq y bB = true → lk V' y = lk V y) ∧ am S' (e + 1) = some v ∧ KS (e + 1) S S'
theorem Ag {V : ap} {S : ac} {wd : List Nat} {cf : List Int} (hF : LF V ci w way dash nm ref) (hG : LG V each e asked) (hc : am S (e + 1) = some (miz cf)) (hcl : cf.length ≤ 1000) (he1 : 1 ≤ each) (he2 : each ≤ 1000) (ok : WOk way dash each ref asked wd) (hask : ∃ x y z, asked = [x, y, z]) (haA : asked.all isA = true) :
  WG (vY (put V ay (.str wd)) S) V S ci w way dash each e nm ref asked (miz (cf ++ [-(mH asked wd dash : Int)])) := by
 obtain ⟨⟨x, y, z, rfl⟩, okA, esc, pA, pL, pr, far, ap1, ap2⟩ := ok
 refine e31 hask fun x' y' z' z3 => ?_; subst z3
 have hp : 1 ≤ S.length := by have := bx hc; lia
 generalize hcn : fU dash [x, y, z] = cn at pr far
 have hcn3 : cn ≤ 3 := by
  rw [← hcn]; unfold fU fU fU fU
  cases Nat.beq x dash <;> cases Nat.beq y dash <;> cases Nat.beq z dash <;> simp
 have F1 : LF (put V ay (.str [x, y, z])) ci w way dash nm ref := hF.put (by decide)
 have G1 : LG (put V ay (.str [x, y, z])) each e [x', y', z'] := hG.put (by decide)
 have w1 : lk (put V ay (.str [x, y, z])) ay = some (.str [x, y, z]) := lkp
 have o1 : lk (put V ay (.str [x, y, z])) bB = lk V bB := lkn (by decide)
 generalize put V ay (.str [x, y, z]) = V1 at F1 G1 w1 o1
 refine e12 (pD (way := way) (σ := S) hp esc) fun g hT hg => ?_
 have pgr : ie ic oh (aa (mV ay) ah) V1 S = some (.str (f3 ref dash [x, y, z]), S) := B0 F1.ha hT (af (rV w1) aD) hg
 have F2 : LF (put V1 ey (.str (f3 ref dash [x, y, z]))) ci w way dash nm ref := F1.put (by decide)
 have G2 : LG (put V1 ey (.str (f3 ref dash [x, y, z]))) each e [x', y', z'] := G1.put (by decide)
 have w2 : lk (put V1 ey (.str (f3 ref dash [x, y, z]))) ay = some (.str [x, y, z]) := (lkn (by decide)).trans w1
 have p2 : lk (put V1 ey (.str (f3 ref dash [x, y, z]))) ey = some (.str (f3 ref dash [x, y, z])) := lkp
 have o2 : lk (put V1 ey (.str (f3 ref dash [x, y, z]))) bB = lk V bB := (lkn (by decide)).trans o1
 generalize hV2 : put V1 ey (.str (f3 ref dash [x, y, z])) = V2 at F2 G2 w2 p2 o2
 obtain ⟨τ, pj⟩ := At w2 F2 hp (by simp) (by lia)
 generalize hPg : f3 ref dash [x, y, z] = pg at *
 have hp3 : 1 ≤ (S ++ τ).length := by rw [List.length_append]; lia
 have hc3 : am (S ++ τ) (e + 1) = some (miz cf) := aj hc
 have k3 : KS (e + 1) S (S ++ τ) := KS.app _ _ _
 generalize S ++ τ = S3 at pj hp3 hc3 k3
 have co : ag iH (aa (mV ay) (aa (mV aP) ah)) V2 S3 = some (.int ((cn : Nat) : Int), S3) := by
  rw [← hcn]; exact aK (af (rV w2) (af (rV F2.da) aD)) (r8 hp3)
 have F4 : LF (put V2 au (.int (cn : Nat))) ci w way dash nm ref := F2.put (by decide)
 have G4 : LG (put V2 au (.int (cn : Nat))) each e [x', y', z'] := G2.put (by decide)
 have w4 : lk (put V2 au (.int (cn : Nat))) ay = some (.str [x, y, z]) := (lkn (by decide)).trans w2
 have p4 : lk (put V2 au (.int (cn : Nat))) ey = some (.str pg) := (lkn (by decide)).trans p2
 have d4 : lk (put V2 au (.int (cn : Nat))) au = some (.int (cn : Nat)) := lkp
 have o4 : lk (put V2 au (.int (cn : Nat))) bB = lk V bB := (lkn (by decide)).trans o2
 generalize hV4 : put V2 au (.int (cn : Nat)) = V4 at F4 G4 w4 p4 d4 o4
 have mul4 : ∀ {V : ap}, lk V eA = some (.int (each : Nat)) → lk V au = some (.int (cn : Nat)) → m2 dN (mV eA) (mV au) V S3 = some (.int ((each * cn : Nat) : Int), S3) := fun a b => by
  refine r2 (rV a) (rV b) ?_
  unfold dN
  simp only [rF (n := each) (by lia)]
  push_cast; rfl
 have prr : ag e9 (aa (mV ay) (aa (mV ey) (aa (m2 dN (mV eA) (mV au)) ah))) V4 S3 = some (.int ((each * cn : Nat) : Int), S3) := by
  have := iG (σ := S3) (mx := each * cn) hp3 okA pA (by simp) pL
  rw [pr] at this
  exact aK (af (rV w4) (af (rV p4) (af (mul4 G4.ea d4) aD))) this
 have F5 : LF (put V4 bX (.int ((each * cn : Nat) : Int))) ci w way dash nm ref := F4.put (by decide)
 have G5 : LG (put V4 bX (.int ((each * cn : Nat) : Int))) each e [x', y', z'] := G4.put (by decide)
 have w5 : lk (put V4 bX (.int ((each * cn : Nat) : Int))) ay = some (.str [x, y, z]) := (lkn (by decide)).trans w4
 have d5 : lk (put V4 bX (.int ((each * cn : Nat) : Int))) au = some (.int (cn : Nat)) := (lkn (by decide)).trans d4
 have q5 : lk (put V4 bX (.int ((each * cn : Nat) : Int))) bX = some (.int ((each * cn : Nat) : Int)) := lkp
 have o5 : lk (put V4 bX (.int ((each * cn : Nat) : Int))) bB = lk V bB := (lkn (by decide)).trans o4
 generalize hV5 : put V4 bX (.int ((each * cn : Nat) : Int)) = V5 at F5 G5 w5 d5 q5 o5
 obtain ⟨τ5, comp5⟩ := bP (it := ag aZ (aa (mK (.int 3)) ah)) (x := n_k) (c := cj (aE gNe (m2 az (mV ay) (mV n_k)) (mV aP)) (cj (aE gNe (m2 az (mV ay) (mV n_k)) (m2 az (mV bK) (mV n_k))) (cK true))) (e := mV n_k) (V := V5) (σ := S3) (rh (vw [x', y', z'] [x, y, z] dash)) (fun v => v) pM (its := mis [0, 1, 2]) rfl F5.z hp3 fE (by decide)
  (fun v hv τ => by
   refine e12 (List.mem_map.mp hv) fun k hk z2 => ?_; subst z2
   have hk3 : k = 0 ∨ k = 1 ∨ k = 2 := by simpa using hk
   have F := F5.put (x := n_k) (v := .int (k : Nat)) (by decide)
   have G := G5.put (x := n_k) (v := .int (k : Nat)) (by decide)
   have gw : m2 az (mV ay) (mV n_k) (put V5 n_k (.int (k : Nat))) (S3 ++ τ) = some (.str [[x, y, z].getD k 0], S3 ++ τ) := by
    refine r2 (rV ((lkn (by decide)).trans w5)) (rV lkp) (eg ?_)
    rcases hk3 with rfl | rfl | rfl <;> rfl
   have ga : m2 az (mV bK) (mV n_k) (put V5 n_k (.int (k : Nat))) (S3 ++ τ) = some (.str [[x', y', z'].getD k 0], S3 ++ τ) := by
    refine r2 (rV G.as) (rV lkp) (eg ?_)
    rcases hk3 with rfl | rfl | rfl <;> rfl
   have c1 : aE gNe (m2 az (mV ay) (mV n_k)) (mV aP) (put V5 n_k (.int (k : Nat))) (S3 ++ τ) = some (!Nat.beq ([x, y, z].getD k 0) dash, S3 ++ τ) := by
    refine aU gw (rV F.da) ?_
    show some (!leq [[x, y, z].getD k 0] [dash]) = _
    rw [qZ]
   have c2 : aE gNe (m2 az (mV ay) (mV n_k)) (m2 az (mV bK) (mV n_k)) (put V5 n_k (.int (k : Nat))) (S3 ++ τ) = some (!Nat.beq ([x, y, z].getD k 0) ([x', y', z'].getD k 0), S3 ++ τ) := by
    refine aU gw ga ?_
    show some (!leq [[x, y, z].getD k 0] [[x', y', z'].getD k 0]) = _
    rw [qZ]
   have hi : rh (vw [x', y', z'] [x, y, z] dash) (.int (k : Nat)) = (!Nat.beq ([x, y, z].getD k 0) dash && !Nat.beq ([x, y, z].getD k 0) ([x', y', z'].getD k 0)) := rfl
   rw [hi]
   refine aY ?_
   match q1 : !Nat.beq ([x, y, z].getD k 0) dash with
   | false => rw [q1] at c1; exact dj c1
   | true =>
    rw [q1] at c1
    match q2 : !Nat.beq ([x, y, z].getD k 0) ([x', y', z'].getD k 0) with
    | false => rw [q2] at c2; exact bR c1 (dj c2)
    | true => rw [q2] at c2; exact bR c1 (bR c2 rfl))
  (fun v hv _ τ => aY (rV lkp))
 rw [List.map_id', iT] at comp5
 generalize hms : mH [x', y', z'] [x, y, z] dash = ms at far ⊢
 have hmsl : ([0, 1, 2].filter (vw [x', y', z'] [x, y, z] dash)).length = ms := hms
 have hms3 : ms ≤ 3 := by rw [← hmsl]; exact List.length_filter_le _ _
 let S6 := S3 ++ (mis ([0, 1, 2].filter (vw [x', y', z'] [x, y, z] dash)) :: τ5)
 have hp6 : 1 ≤ S6.length := by simp [S6]; lia
 have hc6 : am S6 (e + 1) = some (miz cf) := aj hc3
 have k6 : KS (e + 1) S S6 := k3.trans (KS.app _ _ _)
 have df : m2 cG (m2 dN (mK (.int 2)) (mV au)) (ag bZ (aa (aX (ag aZ (aa (mK (.int 3)) ah)) (bd1 n_k) (cj (aE gNe (m2 az (mV ay) (mV n_k)) (mV aP)) (cj (aE gNe (m2 az (mV ay) (mV n_k)) (m2 az (mV bK) (mV n_k))) (cK true))) (mV n_k)) ah)) V5 S3 = some (.int ((2 * cn + ms : Nat) : Int), S6) := by
  have hb : bZ [.ref S3.length] S6 = some (.int ((ms : Nat) : Int), S6) := by
   have gg : am S6 S3.length = some (mis ([0, 1, 2].filter (vw [x', y', z'] [x, y, z] dash))) := cw
   have hl : (mis ([0, 1, 2].filter (vw [x', y', z'] [x, y, z] dash))).length = ms := by unfold mis; rw [List.length_map]; exact hmsl
   unfold bZ
   simp only [gg, hl, Nat.ble_eq_true_of_le (show ms ≤ 1000000 by lia)]
  refine r2 (r2 rK (rV d5) rfl) (aK (af comp5 aD) hb) ?_
  show some (MV.int (2 * (cn : Int) + (ms : Int)), S6) = _
  push_cast; rfl
 have F6 : LF (put V5 bJ (.int ((2 * cn + ms : Nat) : Int))) ci w way dash nm ref := F5.put (by decide)
 have G6 : LG (put V5 bJ (.int ((2 * cn + ms : Nat) : Int))) each e [x', y', z'] := G5.put (by decide)
 have w6 : lk (put V5 bJ (.int ((2 * cn + ms : Nat) : Int))) ay = some (.str [x, y, z]) := (lkn (by decide)).trans w5
 have d6 : lk (put V5 bJ (.int ((2 * cn + ms : Nat) : Int))) au = some (.int (cn : Nat)) := (lkn (by decide)).trans d5
 have q6 : lk (put V5 bJ (.int ((2 * cn + ms : Nat) : Int))) bX = some (.int ((each * cn : Nat) : Int)) := (lkn (by decide)).trans q5
 have u6 : lk (put V5 bJ (.int ((2 * cn + ms : Nat) : Int))) bJ = some (.int ((2 * cn + ms : Nat) : Int)) := lkp
 have o6 : lk (put V5 bJ (.int ((2 * cn + ms : Nat) : Int))) bB = lk V bB := (lkn (by decide)).trans o5
 generalize hV6 : put V5 bJ (.int ((2 * cn + ms : Nat) : Int)) = V6 at F6 G6 w6 d6 q6 u6 o6
 have fr : ag e9 (aa (mV bK) (aa (mV ay) (aa (mV bJ) ah))) V6 S6 = some (.int ((2 * cn + ms : Nat) : Int), S6) := by
  have := iG (σ := S6) (mx := 2 * cn + ms) hp6 haA okA (by simp) (by simp)
  rw [far] at this
  exact aK (af (rV G6.as) (af (rV w6) (af (rV u6) aD))) this
 have F7 : LF (put V6 dZ (.int ((2 * cn + ms : Nat) : Int))) ci w way dash nm ref := F6.put (by decide)
 have G7 : LG (put V6 dZ (.int ((2 * cn + ms : Nat) : Int))) each e [x', y', z'] := G6.put (by decide)
 have w7 : lk (put V6 dZ (.int ((2 * cn + ms : Nat) : Int))) ay = some (.str [x, y, z]) := (lkn (by decide)).trans w6
 have d7 : lk (put V6 dZ (.int ((2 * cn + ms : Nat) : Int))) au = some (.int (cn : Nat)) := (lkn (by decide)).trans d6
 have q7 : lk (put V6 dZ (.int ((2 * cn + ms : Nat) : Int))) bX = some (.int ((each * cn : Nat) : Int)) := (lkn (by decide)).trans q6
 have u7 : lk (put V6 dZ (.int ((2 * cn + ms : Nat) : Int))) bJ = some (.int ((2 * cn + ms : Nat) : Int)) := (lkn (by decide)).trans u6
 have f7 : lk (put V6 dZ (.int ((2 * cn + ms : Nat) : Int))) dZ = some (.int ((2 * cn + ms : Nat) : Int)) := lkp
 have o7 : lk (put V6 dZ (.int ((2 * cn + ms : Nat) : Int))) bB = lk V bB := (lkn (by decide)).trans o6
 generalize hV7 : put V6 dZ (.int ((2 * cn + ms : Nat) : Int)) = V7 at F7 G7 w7 d7 q7 u7 f7 o7
 have tr : m2 cG (bW (mV ay) (bc (mK (.int 1))) be) (bW (mV ay) be (bc (mK (.int 1)))) V7 S6 = some (.str [y, z, x], S6) := by
  have e1 : bW (mV ay) (bc (mK (.int 1))) be V7 S6 = some (.str [y, z], S6) := by
   unfold bW bc be mK
   rw [rV w7]
   dsimp only
   rw [PK]; rfl
  have e2 : bW (mV ay) be (bc (mK (.int 1))) V7 S6 = some (.str [x], S6) := by
   unfold bW bc be mK
   rw [rV w7]
   dsimp only
   rw [PJ]; rfl
  exact r2 e1 e2 rfl
 have F8 : LF (put V7 bU (.str [y, z, x])) ci w way dash nm ref := F7.put (by decide)
 have G8 : LG (put V7 bU (.str [y, z, x])) each e [x', y', z'] := G7.put (by decide)
 have w8 : lk (put V7 bU (.str [y, z, x])) ay = some (.str [x, y, z]) := (lkn (by decide)).trans w7
 have d8 : lk (put V7 bU (.str [y, z, x])) au = some (.int (cn : Nat)) := (lkn (by decide)).trans d7
 have q8 : lk (put V7 bU (.str [y, z, x])) bX = some (.int ((each * cn : Nat) : Int)) := (lkn (by decide)).trans q7
 have f8 : lk (put V7 bU (.str [y, z, x])) dZ = some (.int ((2 * cn + ms : Nat) : Int)) := (lkn (by decide)).trans f7
 have t8 : lk (put V7 bU (.str [y, z, x])) bU = some (.str [y, z, x]) := lkp
 have o8 : lk (put V7 bU (.str [y, z, x])) bB = lk V bB := (lkn (by decide)).trans o7
 generalize hV8 : put V7 bU (.str [y, z, x]) = V8 at F8 G8 w8 d8 q8 f8 t8 o8
 have tA : ([y, z, x] : List Nat).all isA = true := by
  simp only [List.all_cons, List.all_nil, Bool.and_eq_true] at okA ⊢
  exact ⟨okA.2.1, okA.2.2.1, okA.1, trivial⟩
 have l1 := iG (σ := S6) (mx := 4) hp6 okA tA (by simp) (by simp)
 have l2 := iG (σ := S6) (mx := 4) hp6 tA okA (by simp) (by simp)
 rw [show fp [x, y, z] [y, z, x] 4 = 4 from ap1] at l1
 rw [show fp [y, z, x] [x, y, z] 4 = 4 from ap2] at l2
 let S9 := S6 ++ [[MV.int 4, MV.int 4]]
 have aprun : ba (aa (ag e9 (aa (mV ay) (aa (mV bU) (aa (mK (.int 4)) ah)))) (aa (ag e9 (aa (mV bU) (aa (mV ay) (aa (mK (.int 4)) ah)))) ah)) V8 S6 = some (.ref S6.length, S9) :=
  c7 (af (aK (af (rV w8) (af (rV t8) (af rK aD))) l1) (af (aK (af (rV t8) (af (rV w8) (af rK aD))) l2) aD)) rfl
 have g9 : am S9 S6.length = some [MV.int 4, MV.int 4] := aN _ _
 have F9 : LF (put V8 cU (.ref S6.length)) ci w way dash nm ref := F8.put (by decide)
 have G9 : LG (put V8 cU (.ref S6.length)) each e [x', y', z'] := G8.put (by decide)
 have d9 : lk (put V8 cU (.ref S6.length)) au = some (.int (cn : Nat)) := (lkn (by decide)).trans d8
 have q9 : lk (put V8 cU (.ref S6.length)) bX = some (.int ((each * cn : Nat) : Int)) := (lkn (by decide)).trans q8
 have f9 : lk (put V8 cU (.ref S6.length)) dZ = some (.int ((2 * cn + ms : Nat) : Int)) := (lkn (by decide)).trans f8
 have a9 : lk (put V8 cU (.ref S6.length)) cU = some (.ref S6.length) := lkp
 have o9 : lk (put V8 cU (.ref S6.length)) bB = lk V bB := (lkn (by decide)).trans o8
 generalize hV9 : put V8 cU (.ref S6.length) = V9 at F9 G9 d9 q9 f9 a9 o9
 let SA := S9 ++ [[MV.int 4, MV.int 4]]
 have gA : am SA S6.length = some [MV.int 4, MV.int 4] := aj g9
 have ca : aE gNe (mV cU) (ba (aa (mK (.int 4)) (aa (mK (.int 4)) ah))) V9 S9 = some (false, SA) := by
  refine aU (rV a9) (c7 (af rK (af rK aD)) rfl) ?_
  show (match (match am SA S6.length, am SA S9.length with
   | some xs, some ys => lEq xs ys
   | _, _ => none) with
   | some p => some (!p)
   | none => none) = _
  rw [gA, show am SA S9.length = some [MV.int 4, MV.int 4] from aN _ _]
  rfl
 have hpA : 1 ≤ SA.length := by simp [SA]
 obtain ⟨τA, compA⟩ := bP (it := mV cU) (x := iL) (c := aE ii (ag dI (aa (mV iL) ah)) (mK (.typ "int"))) (e := mV iL) (V := V9) (σ := SA) (fun _ => false) (fun v => v) (rV a9) (show cW (.ref S6.length) SA = some [MV.int 4, MV.int 4] from gA) F9.z hpA (cy gA) (by decide)
  (fun v hv τ => by
   have hv4 : v = .int 4 := by simpa using hv
   subst hv4
   exact aY (aU (aK (af (rV lkp) aD) rfl) rK rfl))
  (fun v hv h _ => by exact nB h)
 rw [List.filter_eq_nil_iff.mpr (fun _ _ h => by exact nB h), List.map_nil] at compA
 obtain ⟨τB, neA⟩ := nu compA
 let SB := SA ++ τB
 have hpB : 1 ≤ SB.length := by simp [SB, SA]; lia
 have hcB : am SB (e + 1) = some (miz cf) := aj (aj (aj hc6))
 have kB : KS (e + 1) S SB := ((k6.trans (KS.app _ _ _)).trans (KS.app _ _ _)).trans (KS.app _ _ _)
 have neg1 : ∀ {V : ap} {S : ac}, m1 ke (mK (.int 1)) V S = some (.int (-1), S) := r1 rK rfl
 have who : ag ot (aa (m2 cD (m1 ke (mK (.int 1))) (mV bX)) (aa (mV eA) ah)) V9 SB = some (.int (-1 - (cn : Int)), SB) := by
  have := v9 (σ := SB) (a := -1 - ((each * cn : Nat) : Int)) (b := each) hpB he1 (by lia)
  rw [vL each cn he1] at this
  exact aK (af (r2 neg1 (rV q9) rfl) (af (rV G9.ea) aD)) this
 have FC : LF (put V9 cQ (.int (-1 - (cn : Int)))) ci w way dash nm ref := F9.put (by decide)
 have GC : LG (put V9 cQ (.int (-1 - (cn : Int)))) each e [x', y', z'] := G9.put (by decide)
 have dC : lk (put V9 cQ (.int (-1 - (cn : Int)))) au = some (.int (cn : Nat)) := (lkn (by decide)).trans d9
 have fC : lk (put V9 cQ (.int (-1 - (cn : Int)))) dZ = some (.int ((2 * cn + ms : Nat) : Int)) := (lkn (by decide)).trans f9
 have hC : lk (put V9 cQ (.int (-1 - (cn : Int)))) cQ = some (.int (-1 - (cn : Int))) := lkp
 have oC : lk (put V9 cQ (.int (-1 - (cn : Int)))) bB = lk V bB := (lkn (by decide)).trans o9
 generalize hVC : put V9 cQ (.int (-1 - (cn : Int))) = VC at FC GC dC fC hC oC
 have conf : ag ux (aa (ag uy (aa (m1 ke (mK (.int 2))) (aa (mV cQ) ah))) (aa (m2 cG (mV dZ) (mK (.int 2))) ah)) VC SB = some (.int (-(ms : Int)), SB) := by
  have h1 := BA (σ := SB) (a := -2) (b := -1 - (cn : Int)) hpB rfl
  have h2 := By (σ := SB) (a := -2 * (-1 - (cn : Int))) (b := ((2 * cn + ms : Nat) : Int) + 2) hpB
  rw [show -2 * (-1 - (cn : Int)) - (((2 * cn + ms : Nat) : Int) + 2) = -(ms : Int) by push_cast; lia] at h2
  exact aK (af (aK (af (r1 rK rfl) (af (rV hC) aD)) h1) (af (r2 (rV fC) rK rfl) aD)) h2
 have app := fv (x := .int (-(ms : Int))) hcB (by simp [miz]; lia)
 have hmiz : miz cf ++ [.int (-(ms : Int))] = miz (cf ++ [-(ms : Int)]) := by simp [miz]
 rw [hmiz] at app
 refine ⟨VC, SB.set (e + 1) (miz (cf ++ [-(ms : Int)])), ?_, FC, GC, fun y hy => ?_, cA hcB, kB.trans (KS.set _ _ _)⟩
 ·refine rbC (bp pgr) ?_
  rw [hV2]
  refine rbC (aW (aU (rV p2) pj ne_str) aM) ?_
  refine rbC (bp co) ?_
  rw [hV4]
  refine rbC (bp prr) ?_
  rw [hV5]
  refine rbC (aW (gC (aU (aK (af (rV q5) aD) rfl) rK rfl) (gC (aU (rV q5) (mul4 G5.ea d5) (ne_int rfl)) rfl)) aM) ?_
  refine rbC (bp df) ?_
  rw [hV6]
  refine rbC (bp fr) ?_
  rw [hV7]
  refine rbC (aW (gC (aU (aK (af (rV f7) aD) rfl) rK rfl) (gC (aU (rV f7) (rV u7) (ne_int rfl)) rfl)) aM) ?_
  refine rbC (bp tr) ?_
  rw [hV8]
  refine rbC (bp aprun) ?_
  rw [hV9]
  refine rbC (aW (gC ca (gC neA rfl)) aM) ?_
  refine rbC (bp who) ?_
  rw [hVC]
  refine rbC (aW (gC (aU (aK (af (rV hC) aD) rfl) rK rfl) (gC (aU (p := false) (rV hC) (r2 neg1 (rV dC) rfl) ?_) rfl)) aM) ?_
  ·show some (!decide (-1 - (cn : Int) = -1 - (cn : Int))) = _
   simp
  ·exact rbC (j9 (fh (rV GC.co) hcB (af conf aD) app)) aM
 ·rw [dU] at hy
  rw [of_decide_eq_true hy]; exact oC
theorem oI {q : Nat} {items : List MV} (hq : q ≠ e + 1) (he1 : 1 ≤ each) (he2 : each ≤ 1000) (hask : ∃ x y z, asked = [x, y, z]) (haA : asked.all isA = true) : ∀ (ws : List (List Nat)) (V : ap) (S : ac) (cf : List Int), LF V ci w way dash nm ref → LG V each e asked → am S (e + 1) = some (miz cf) → am S q = some items → cf.length + ws.length ≤ 1000 → (∀ wd ∈ ws, WOk way dash each ref asked wd) →
  ∃ V' S', eK (.ref q) items ay vY (sL ws) V S = some (none, V', S') ∧ LG V' each e asked ∧ lk V' bB = lk V bB ∧ am S' (e + 1) = some (miz (cf ++ ws.map fun wd => -(mH asked wd dash : Int))) ∧ KS (e + 1) S S'
 | [], V, S, cf, hF, hG, hc, hi, hl, ok => ⟨V, S, cP (lh hi), hG, rfl, by rw [List.map_nil, List.append_nil]; exact hc, KS.refl _ _⟩
 | wd :: ws, V, S, cf, hF, hG, hc, hi, hl, ok => by
  rw [List.length_cons] at hl
  refine e26 (Ag hF hG hc (by lia) he1 he2 (ok wd List.mem_cons_self) hask haA) fun V1 S1 run1 F1 G1 o1 c1 k1 => ?_
  obtain ⟨V', S', run2, G2, o2, c2, k2⟩ := oI (q := q) (items := items) hq he1 he2 hask haA ws V1 S1 (cf ++ [-(mH asked wd dash : Int)]) F1 G1 c1 (k1 q items hq hi) (by rw [List.length_append]; simp; lia) (fun x hx => ok x (List.mem_cons_of_mem _ hx))
  refine ⟨V', S', bE (lh hi) run1 run2, G2, o2.trans (o1 _ (by decide)), ?_, k1.trans k2⟩
  rw [List.map_cons]
  rw [List.append_assoc] at c2
  exact c2
end
noncomputable def WR : Nat → List Nat
 | 0 => [38, 60, 62]
 | 1 => [38, 60, 62, 34, 13, 10, 9]
 | 2 => [38, 62, 34]
 | 3 => [38, 60, 62, 13]
 | _ => [38, 60, 34, 13, 10, 9]
noncomputable def jT : List Nat := [38, 60, 62, 34, 13, 10, 9]
def fW (way : Nat) : List (List Nat) := jT.map fun s => match bI (WR way) s with
 | true => (ln way s).getD []
 | false => [s]
theorem IJ (w : Nat) (hw : w < 4) : ([.str [107, 112, 97], .str [109, 112, 97], .str [104, 112, 97], .str [107, 104, 122]] : List MV)[w]? = some (.str (NM w)) := by
 have : w = 0 ∨ w = 1 ∨ w = 2 ∨ w = 3 := by lia
 rcases this with rfl | rfl | rfl | rfl <;> rfl
theorem IG (v : Nat) (hv : v < 5) : ([.str [38, 60, 62], .str [38, 60, 62, 34, 13, 10, 9], .str [38, 62, 34], .str [38, 60, 62, 13], .str [38, 60, 34, 13, 10, 9]] : List MV)[v]? = some (.str (WR v)) ∧ ([.fn 169, .fn 176, .fn 183, .fn 190, .fn 197] : List MV)[v]? = some (.fn (tT v)) := by
 have : v = 0 ∨ v = 1 ∨ v = 2 ∨ v = 3 ∨ v = 4 := by lia
 rcases this with rfl | rfl | rfl | rfl | rfl <;> exact ⟨rfl, rfl⟩
structure oj (c0 c1 : Nat) (rest : List Nat) (w way dash each : Nat) (ref asked : List Nat) (L0 bD : List (List Nat)) : Prop where
 hw : c0 % 4 = w
 hway : c0 / 4 % 5 = way
 hd : (WR way)[c0 / 20 % (WR way).length]? = some dash
 hr : ln way dash = some ref
 sv : oA (nU way) jT = some (fW way).flatten
 svr : ∀ s ∈ jT, bI (WR way) s = true → ∃ l, ln way s = some l
 svl : (fW way).flatten.length ≤ 1000
 rd : ∀ c ∈ rest, fg (NM w ++ NM w) (eo w c) [0, 0, 0] = some (b0 (NM w) (c % 8) 0 dash)
 small : ∀ r, ∀ x ∈ b0 (NM w) r 0 dash, x ≤ 1114111
 ask : b0 (NM w) (c1 % 8) 0 dash = asked
 askA : asked.all isA = true
 l0 : rest.foldl (fun L c => jC L (b0 (NM w) (c % 8) 0 dash)) [] = L0
 rk : kq dash 4 L0
 ro : jK dash 4 L0 [] = some bD
 ll : bD.length ≤ 63
 lne : bD.Perm ((a8 (rest.map (· % 8))).map fun p => b0 (NM w) p.1 p.2 dash)
 ea : 2 * (ref.length : Int) - 2 * (if Nat.beq dash 38 = true then 1 else 0) = (each : Int)
 e1 : 1 ≤ each
 e2 : each ≤ 1000
 wok : ∀ wd ∈ bD, WOk way dash each ref asked wd
 fin : kW (miz (bD.map fun wd => -(mH asked wd dash : Int))) = (kc (mis (L0.map fun wd => fp asked wd 3))).map fun n => -n
 some : (kc (mis (L0.map fun wd => fp asked wd 3))).isSome = true
theorem iW (w : Nat) : ∃ x y z, NM w = [x, y, z] ∧ eZ x ∧ eZ y ∧ eZ z := by
 unfold eZ
 match w with
 | 0 => exact ⟨_, _, _, rfl, by decide, by decide, by decide⟩
 | 1 => exact ⟨_, _, _, rfl, by decide, by decide, by decide⟩
 | 2 => exact ⟨_, _, _, rfl, by decide, by decide, by decide⟩
 | n + 3 => exact ⟨_, _, _, rfl, by decide, by decide, by decide⟩
theorem j5 {nm : List Nat} {r d dash : Nat} (h : ∃ x y z, nm = [x, y, z] ∧ eZ x ∧ eZ y ∧ eZ z) : ∃ x y z, b0 nm r d dash = [x, y, z] := by
 refine e32 h fun x y z z3 _ => ?_; subst z3
 exact ⟨_, _, _, rfl⟩
theorem pF {nm : List Nat} {low d dash : Nat} {σ : ac} (h0 : 1 ≤ σ.length) (h : ∃ x y z, nm = [x, y, z] ∧ eZ x ∧ eZ y ∧ eZ z) : f0 [.str nm, .int (low : Nat), .int (d : Nat), .str [dash]] σ = some (.str (b0 nm low d dash), σ) := by
 refine e34 h fun x y z z3 a b c => ?_; subst z3
 exact pG h0 a b c
theorem Aj (w c : Nat) : (eo w c).length ≤ 1000 := by
 have h := uc w c (c / 8 % 5) (c / 40 % 11)
 have ins : ∀ (l : List Nat) (k x : Nat), (l.take k ++ x :: l.drop k).length = l.length + 1 := fun l k x => by rw [List.length_append, List.length_cons, ← Nat.add_assoc, ← List.length_append, List.take_append_drop]
 have tn : ∀ (t : Nat) (l : List Nat), (eP t l).length = l.length := fun t l => by unfold eP; rw [List.length_append, Nat.add_comm, ← List.length_append, List.take_append_drop]
 have e : (eo w c).length = (jW w c (c / 8 % 5) (c / 40 % 11)).length + 1 := (ins _ _ _).trans (congrArg (· + 1) (tn _ _))
 rw [e]
 exact Nat.le_trans (Nat.succ_le_succ h) (by decide)
theorem mZ {V : ap} {S : ac} {x i : Nat} {L : List (List Nat)} (hx : lk V x = some (.ref i)) (hS : am S i = some (sL L)) (hl : L.length ≤ 63) : ag fO (aa (mV x) ah) V S = some (.ref S.length, S ++ [sL (eW L)]) := by
 refine aK (af (rV hx) aD) ?_
 have h2 : strsOf? (sL L) = some L := by
  clear hS hl
  induction L with
  | nil => rfl
  | cons x r ih => show (match strsOf? (sL r) with | some ls => some (x :: ls) | none => none) = _; rw [ih]
 unfold fO
 simp only [hS, h2]
 rw [Nat.ble_eq_true_of_le (show (sL L).length ≤ 63 by rw [fX]; exact hl)]
theorem NE : ∀ (l : List Nat) (n : Int), kc (mis l) = some n → True := fun _ _ _ => trivial
section
variable {c0' c1 w way dash each : Nat} {rest ref asked : List Nat} {L0 bD : List (List Nat)} {xs : List Int}
theorem Gd {V : ap} {S : ac} {ci nr le : Nat} (f : oj c0' c1 rest w way dash each ref asked L0 bD) (hF : LF V ci w way dash (NM w) ref) (ha : lk V bK = some (.str asked)) (hn : lk V bB = some (.ref nr)) (hle : lk V dF = some (.ref le)) (hS0 : am S 0 = some (miz xs)) (hSn : am S nr = some (mis (L0.map fun wd => fp asked wd 3))) (hSl : am S le = some (sL bD)) :
  ∃ V' S', NP V S = some (some (.bool true), V', S') ∧ am S' 0 = some (miz xs) := by
 have hp : 1 ≤ S.length := by have := bx hS0; omega
 have rlen : bZ [.str ref] S = some (.int (ref.length : Nat), S) := rfl
 have hcmp : eE gEq (mV aP) (mK (.str [38])) V S = some (.bool (Nat.beq dash 38), S) := by
  refine pN (rV hF.da) rK ?_
  show some (leq [dash] [38]) = _
  rw [qZ]
 have each1 : m2 cD (m2 dN (mK (.int 2)) (ag bZ (aa (mV b6) ah))) (m2 dN (mK (.int 2)) (ag BG (aa (eE gEq (mV aP) (mK (.str [38]))) ah))) V S = some (.int (each : Nat), S) := by
  refine r2 (r2 rK (aK (af (rV hF.re) aD) rlen) rfl) (r2 rK (aK (af hcmp aD) rfl) rfl) ?_
  show some (MV.int (2 * (ref.length : Int) - 2 * (if Nat.beq dash 38 = true then 1 else 0)), S) = _
  rw [f.ea]
 let S1 := S ++ [miz []]
 let V2 := put (put V eA (.int (each : Nat))) cS (.ref S.length)
 obtain ⟨e, he⟩ : ∃ e, S.length = e + 1 := ⟨S.length - 1, by omega⟩
 have F2 : LF V2 ci w way dash (NM w) ref := (hF.put (by decide)).put (by decide)
 have G2 : LG V2 each e asked := ⟨(lkn (by decide)).trans ((lkn (by decide)).trans ha), (lkn (by decide)).trans lkp, by rw [← he]; exact lkp⟩
 have l2 : lk V2 dF = some (.ref le) := (lkn (by decide)).trans ((lkn (by decide)).trans hle)
 have n2 : lk V2 bB = some (.ref nr) := (lkn (by decide)).trans ((lkn (by decide)).trans hn)
 have c2 : am S1 (e + 1) = some (miz []) := by rw [← he]; exact aN _ _
 have hlt := bx hSl
 have hlt2 := bx hSn
 have askf : ∃ x y z, asked = [x, y, z] := by rw [← f.ask]; exact j5 (iW w)
 obtain ⟨V3, S3, run3, G3, n3, s3, k3⟩ := oI (q := le) (items := sL bD) (by omega) f.e1 f.e2 askf f.askA bD V2 S1 [] F2 G2 c2 (aj hSl) (by have := f.ll; simp; omega) f.wok
 rw [List.nil_append] at s3
 have s0 : am S3 0 = some (miz xs) := k3 0 _ (by omega) (aj hS0)
 have sn : am S3 nr = some (mis (L0.map fun wd => fp asked wd 3)) := k3 nr _ (by omega) (aj hSn)
 obtain ⟨n, hmin⟩ := Option.isSome_iff_exists.mp f.some
 have hmax := f.fin
 rw [hmin] at hmax
 have hmax : kW (miz (bD.map fun wd => -(mH asked wd dash : Int))) = some (-n) := hmax
 have bm : AW [.ref (e + 1)] S3 = some (.int (-n), S3) := by
  unfold AW
  simp only [s3, hmax]
 have bn : k7 [.ref nr] S3 = some (.int n, S3) := by
  unfold k7
  simp only [sn, hmin]
 let V4 := put V3 fZ (.int (-n))
 have m4 : lk V4 fZ = some (.int (-n)) := lkp
 have n4 : lk V4 bB = some (.ref nr) := (lkn (by decide)).trans (n3.trans n2)
 have andr : vA (eE cIs (ag dI (aa (mV fZ) ah)) (mK (.typ "int"))) (eE gEq (mV fZ) (m1 ke (ag k7 (aa (mV bB) ah)))) V4 S3 = some (.bool true, S3) := by
  have a1 : eE cIs (ag dI (aa (mV fZ) ah)) (mK (.typ "int")) V4 S3 = some (.bool true, S3) := pN (aK (af (rV m4) aD) rfl) rK rfl
  have a2 : eE gEq (mV fZ) (m1 ke (ag k7 (aa (mV bB) ah))) V4 S3 = some (.bool true, S3) := by
   refine pN (rV m4) (r1 (aK (af (rV n4) aD) bn) rfl) ?_
   show some (decide (-n = -n)) = _
   simp
  unfold vA
  rw [a1]
  exact a2
 refine ⟨V4, S3, ?_, s0⟩
 refine rbC (bp each1) ?_
 refine rbC (bp (c7 aD rfl)) ?_
 refine rbC (kr (rV l2) (aj hSl) run3) ?_
 refine rbC (bp (aK (af (rV G3.co) aD) bm)) ?_
 exact rbR (et andr)
theorem M3 (l : List Nat) : mis (l.map (· % 8)) = (mis l).map fun v => match v with | .int i => .int ((i.toNat % 8 : Nat) : Int) | _ => .none := by
 unfold mis
 rw [List.map_map, List.map_map]
 rfl
theorem Ge {V : ap} {S : ac} {ci nr le : Nat} {cs : List Nat} (f : oj c0' c1 rest w way dash each ref asked L0 bD) (hF : LF V ci w way dash (NM w) ref) (ha : lk V bK = some (.str asked)) (hn : lk V bB = some (.ref nr)) (hle : lk V dF = some (.ref le)) (hS0 : am S 0 = some (miz xs)) (hSn : am S nr = some (mis (L0.map fun wd => fp asked wd 3))) (hSl : am S le = some (sL bD)) (hSc : am S ci = some (mis cs)) (hcs : cs.drop 2 = rest) (hcl : cs.length = 7) :
  ∃ V' S', NQ V S = some (some (.bool true), V', S') ∧ am S' 0 = some (miz xs) := by
 have hp : 1 ≤ S.length := by have := bx hS0; omega
 let S1 := S ++ [(mis cs).drop 2]
 have hdrop : (mis cs).drop 2 = mis rest := by unfold mis; rw [← List.map_drop, hcs]
 have g1 : am S1 S.length = some (mis rest) := by rw [← hdrop]; exact aN _ _
 have hrl : rest.length = 5 := by rw [← hcs, List.length_drop, hcl]
 have cutr : bW (mV bG) (bc (mK (.int 2))) be V S = some (.ref S.length, S1) := by
  unfold bW bc be mK
  rw [rV hF.ce]
  dsimp only
  rw [hSc]
  dsimp only
  rw [Nat.ble_eq_true_of_le (show (mis cs).length ≤ 1000000 by simp [mis]; omega)]
  dsimp only
  rw [show cut (some 2) none (mis cs) = (mis cs).drop 2 from rJ (p := 2)]
 obtain ⟨τ1, comp1⟩ := bP (it := bW (mV bG) (bc (mK (.int 2))) be) (x := aR) (c := cK true) (e := m2 bS (mV aR) (mK (.int 8))) (V := V) (σ1 := S1) (fun _ => true) (fun v => match v with | .int i => .int ((i.toNat % 8 : Nat) : Int) | _ => .none) cutr (its := mis rest) g1 hF.z (by simp [S1]) (cy g1) (by simp [mis]; omega) (fun v hv τ => aY rfl)
  (fun v hv _ τ => by
   refine e12 (List.mem_map.mp hv) fun k hk z2 => ?_; subst z2
   exact aY (r2 (rV lkp) rK (gf (b := 8) (by decide))))
 rw [List.filter_eq_self.mpr (fun _ _ => rfl), ← M3] at comp1
 let S2 := S1 ++ (mis (rest.map (· % 8)) :: τ1)
 have g2 : am S2 S1.length = some (mis (rest.map (· % 8))) := cw
 have hp2 : 1 ≤ S2.length := by simp [S2]; omega
 let S3 := S2 ++ [PP (a8 (rest.map (· % 8)))]
 have gre : ag fL (aa (aX (bW (mV bG) (bc (mK (.int 2))) be) (bd1 aR) (cK true) (m2 bS (mV aR) (mK (.int 8)))) ah) V S = some (.ref S2.length, S3) := aK (af comp1 aD) (oF hp2 g2)
 have g3 : am S3 S2.length = some (PP (a8 (rest.map (· % 8)))) := aN _ _
 have hperm := f.lne
 have hgl : (a8 (rest.map (· % 8))).length ≤ 63 := by have := hperm.length_eq; rw [List.length_map] at this; have := f.ll; omega
 obtain ⟨τ3, comp3⟩ := AN (x := a6) (x' := au) (B := fun v => match v with | .pair p q => put (put V a6 p) au q | _ => V) (it := ag fL (aa (aX (bW (mV bG) (bc (mK (.int 2))) be) (bd1 aR) (cK true) (m2 bS (mV aR) (mK (.int 8)))) ah)) (c := cK true) (e := ag f0 (aa (mV bg) (aa (mV a6) (aa (mV au) (aa (mV aP) ah))))) (V := V) (σ := S) (σ1 := S3) (fun _ => true)
  (fun v => match v with | .pair (.int a) (.int b) => .str (b0 (NM w) a.toNat b.toNat dash) | _ => .none) gre (its := PP (a8 (rest.map (· % 8)))) g3 hF.z (by simp [S3]) (cy g3) (by rw [r7]; omega)
  (fun v hv => by refine e12 (List.mem_map.mp hv) fun p hp z2 => ?_; subst z2; rfl)
  (fun v hv τ => aY rfl)
  (fun v hv _ τ => by
   refine e12 (List.mem_map.mp hv) fun p hp z2 => ?_; subst z2
   have F := (hF.put (x := a6) (v := .int (p.1 : Nat)) (by decide)).put (x := au) (v := .int (p.2 : Nat)) (by decide)
   exact aY (aK (af (rV F.nm) (af (rV ((lkn (by decide)).trans lkp)) (af (rV lkp) (af (rV F.da) aD)))) (pF (by rw [List.length_append]; simp [S3]; omega) (iW w))))
 have hmap : ((PP (a8 (rest.map (· % 8)))).filter fun _ => true).map (fun v => match v with | .pair (.int a) (.int b) => MV.str (b0 (NM w) a.toNat b.toNat dash) | _ => .none) = sL ((a8 (rest.map (· % 8))).map fun p => b0 (NM w) p.1 p.2 dash) := by
  rw [List.filter_eq_self.mpr (fun _ _ => rfl)]
  unfold PP sL
  rw [List.map_map, List.map_map]
  rfl
 rw [hmap] at comp3
 generalize hdue : (a8 (rest.map (· % 8))).map (fun p => b0 (NM w) p.1 p.2 dash) = due at comp3 hperm
 let S4 := S3 ++ (sL due :: τ3)
 let V4 := put V fz (.ref S3.length)
 have F4 : LF V4 ci w way dash (NM w) ref := hF.put (by decide)
 have le4 : lk V4 dF = some (.ref le) := (lkn (by decide)).trans hle
 have gl4 : am S4 le = some (sL bD) := aj (aj (aj (aj hSl)))
 have gd4 : am S4 S3.length = some (sL due) := cw
 have so1 := mZ le4 gl4 f.ll
 have so2 := mZ (V := V4) (S := S4 ++ [sL (eW bD)]) (x := fz) (L := due) lkp (aj gd4) (by have := hperm.length_eq; have := f.ll; omega)
 have cmp : aE gNe (ag fO (aa (mV dF) ah)) (ag fO (aa (mV fz) ah)) V4 S4 = some (false, S4 ++ [sL (eW bD)] ++ [sL (eW due)]) := by
  refine aU so1 so2 ?_
  show (match (match am (S4 ++ [sL (eW bD)] ++ [sL (eW due)]) S4.length, am (S4 ++ [sL (eW bD)] ++ [sL (eW due)]) (S4 ++ [sL (eW bD)]).length with
   | some xs, some ys => lEq xs ys
   | _, _ => none) with
   | some p => some (!p)
   | none => none) = _
  rw [aj (aN _ _), aN, sf hperm]
  dsimp only
  rw [Gj]; rfl
 have up : ∀ {i : Nat} {ys : List MV}, am S i = some ys → am (S4 ++ [sL (eW bD)] ++ [sL (eW due)]) i = some ys := fun h => aj (aj (aj (aj (aj (aj h)))))
 refine e22 (Gd f F4 ((lkn (by decide)).trans ha) ((lkn (by decide)).trans hn) le4 (up hS0) (up hSn) (up hSl)) fun V' S' run h0 => ?_
 exact ⟨V', S', rbC (bp comp3) (rbC (aW cmp aM) run), h0⟩
end
section
variable {c0' c1 w way dash each : Nat} {rest ref asked : List Nat} {L0 bD : List (List Nat)} {xs : List Int}
theorem Gf {V : ap} {S : ac} {ci nr la : Nat} {cs : List Nat} (f : oj c0' c1 rest w way dash each ref asked L0 bD) (hF : LF V ci w way dash (NM w) ref) (ha : lk V bK = some (.str asked)) (hn : lk V bB = some (.ref nr)) (hla : lk V aF = some (.ref la)) (hS0 : am S 0 = some (miz xs)) (hSn : am S nr = some (mis (L0.map fun wd => fp asked wd 3))) (hSl : am S la = some (sL L0)) (hSc : am S ci = some (mis cs)) (hcs : cs.drop 2 = rest) (hcl : cs.length = 7) :
  ∃ V' S', NR V S = some (some (.bool true), V', S') ∧ am S' 0 = some (miz xs) := by
 refine cps fun _ Kz => ?_
 have hp : 1 ≤ S.length := by have := bx hS0; lia
 obtain ⟨e, he⟩ : ∃ e, S.length = e + 1 := ⟨S.length - 1, by lia⟩
 let V1 := put V dF (.ref S.length)
 have F1 : LF V1 ci w way dash (NM w) ref := hF.put (by decide)
 have l1 : lk V1 dF = some (.ref (e + 1)) := by rw [← he]; exact lkp
 have s1 : am (S ++ [sL []]) (e + 1) = some (sL []) := by rw [← he]; exact aN _ _
 have b1 := bx hSl
 have b2 := bx hSn
 have b3 := bx hSc
 refine e26 (lY (mi := mis [0, 1, 2, 3]) (nn := 4) [0, 1, 2, 3] V1 (S ++ [sL []]) la L0 [] bD F1 ((lkn (by decide)).trans hla) l1 (by lia) (aj hSl) s1 f.rk (by simp) f.ro) fun V' S' run F' e' o' s' k' => ?_
 refine e22 (Ge f F' ((o' _ (by decide) (by decide) (by decide)).trans ((lkn (by decide)).trans ha)) ((o' _ (by decide) (by decide) (by decide)).trans ((lkn (by decide)).trans hn)) e' (k' 0 _ (by lia) (aj hS0)) (k' nr _ (by lia) (aj hSn)) s' (k' ci _ (by lia) (aj hSc)) hcs hcl) fun V2 S2 run2 h0 => ?_
 exact Kz <| ⟨V2, S2, rbC (bp (c7 aD rfl)) (rbC (kr (aK (af rK aD) rfl) (its := mis [0, 1, 2, 3]) rfl run) run2), h0⟩
theorem Gg {V : ap} {S : ac} {ci la : Nat} {cs : List Nat} (f : oj c0' c1 rest w way dash each ref asked L0 bD) (hF : LF V ci w way dash (NM w) ref) (hla : lk V aF = some (.ref la)) (hS0 : am S 0 = some (miz xs)) (hSl : am S la = some (sL L0)) (hSc : am S ci = some (mis cs)) (hcs : cs.drop 2 = rest) (hcl : cs.length = 7) (hc1 : cs[1]? = some c1) (hok : ∀ wd ∈ L0, okW wd) (hL0 : L0.length ≤ 10) :
  ∃ V' S', NS V S = some (some (.bool true), V', S') ∧ am S' 0 = some (miz xs) := by
 have hp : 1 ≤ S.length := by have := bx hS0; lia
 have ask : ag f0 (aa (mV bg) (aa (m2 bS (m2 az (mV bG) (mK (.int 1))) (mK (.int 8))) (aa (mK (.int 0)) (aa (mV aP) ah)))) V S = some (.str asked, S) := by
  have := pF (σ := S) (low := c1 % 8) (d := 0) (dash := dash) hp (iW w)
  rw [f.ask] at this
  exact aK (af (rV hF.nm) (af (r2 (r2 (rV hF.ce) rK (cC (i := 1) hSc (x := .int (c1 : Nat)) (by unfold mis; rw [List.getElem?_map, hc1]; rfl) (by simp [mis]; lia))) rK (gf (b := 8) (by decide))) (af rK (af (rV hF.da) aD)))) this
 have F1 : LF (put V bK (.str asked)) ci w way dash (NM w) ref := hF.put (by decide)
 have a1 : lk (put V bK (.str asked)) bK = some (.str asked) := lkp
 have l1 : lk (put V bK (.str asked)) aF = some (.ref la) := (lkn (by decide)).trans hla
 generalize hV1 : put V bK (.str asked) = V1 at F1 a1 l1
 obtain ⟨x, y, z, hask⟩ : ∃ x y z, asked = [x, y, z] := by rw [← f.ask]; exact j5 (iW w)
 obtain ⟨τ, comp⟩ := bP (it := mV aF) (x := ay) (c := cK true) (e := ag e9 (aa (mV bK) (aa (mV ay) (aa (mK (.int 3)) ah)))) (V := V1) (σ := S) (fun _ => true) (fun v => match v with | .str wd => .int (fp asked wd 3 : Nat) | _ => .none) (rV l1) (show cW (.ref la) S = some (sL L0) from hSl) F1.z hp (cy hSl) (by rw [fX]; lia) (fun v hv τ => aY rfl)
  (fun v hv _ τ => by
   refine e12 (List.mem_map.mp hv) fun wd hw z2 => ?_; subst z2
   refine e03 (hok wd hw) fun z0 hA _ => ?_; obtain ⟨p, q, r, hpq⟩ := z0
   have := iG (σ := S ++ τ) (mx := 3) (by rw [List.length_append]; lia) f.askA hA (by rw [hask]; simp) (by rw [hpq]; simp)
   exact aY (aK (af (rV ((lkn (by decide)).trans a1)) (af (rV lkp) (af rK aD))) this))
 have hmap : ((sL L0).filter fun _ => true).map (fun v => match v with | .str wd => MV.int (fp asked wd 3 : Nat) | _ => .none) = mis (L0.map fun wd => fp asked wd 3) := by
  rw [List.filter_eq_self.mpr (fun _ _ => rfl)]
  unfold sL mis
  rw [List.map_map, List.map_map]
  rfl
 rw [hmap] at comp
 refine e22 (Gf f (hF := (F1.put (x := bB) (v := .ref S.length) (by decide))) ((lkn (by decide)).trans a1) lkp ((lkn (by decide)).trans l1) (aj hS0) (cw (τ := τ)) (aj hSl) (aj hSc) hcs hcl) fun V' S' run h0 => ?_
 refine ⟨V', S', rbC (bp ask) ?_, h0⟩
 rw [hV1]
 exact rbC (bp comp) run
theorem Gh {V : ap} {S : ac} {ci : Nat} {cs : List Nat} (f : oj c0' c1 rest w way dash each ref asked L0 bD) (hF : LF V ci w way dash (NM w) ref) (hw4 : w < 4) (hS0 : am S 0 = some (miz xs)) (hSc : am S ci = some (mis cs)) (hcs : cs.drop 2 = rest) (hcl : cs.length = 7) (hc1 : cs[1]? = some c1) (hok : ∀ wd ∈ L0, okW wd) (hL0 : L0.length ≤ 10) :
  ∃ V' S', Pv V S = some (some (.bool true), V', S') ∧ am S' 0 = some (miz xs) := by
 refine cps fun _ Kz => ?_
 have hp : 1 ≤ S.length := by have := bx hS0; lia
 obtain ⟨e, he⟩ : ∃ e, S.length = e + 1 := ⟨S.length - 1, by lia⟩
 let V1 := put V aF (.ref S.length)
 have F1 : LF V1 ci w way dash (NM w) ref := hF.put (by decide)
 have l1 : lk V1 aF = some (.ref (e + 1)) := by rw [← he]; exact lkp
 let S1 := S ++ [sL []]
 let S2 := S1 ++ [mis rest]
 have g1 : am S2 (e + 1) = some (sL []) := by rw [← he]; exact aj (aN _ _)
 have g2 : am S2 S1.length = some (mis rest) := aN _ _
 have hS1l : S1.length = e + 2 := by simp [S1, he]
 have hrl : rest.length = 5 := by rw [← hcs, List.length_drop, hcl]
 have hdrop : (mis cs).drop 2 = mis rest := by unfold mis; rw [← List.map_drop, hcs]
 have gc : am S1 ci = some (mis cs) := aj hSc
 have cutr : bW (mV bG) (bc (mK (.int 2))) be V1 S1 = some (.ref S1.length, S2) := by
  unfold bW bc be mK
  rw [rV F1.ce]
  dsimp only
  rw [gc]
  dsimp only
  rw [Nat.ble_eq_true_of_le (show (mis cs).length ≤ 1000000 by simp [mis]; lia)]
  dsimp only
  rw [show cut (some 2) none (mis cs) = (mis cs).drop 2 from rJ (p := 2), hdrop]
 have b3 := bx hSc
 obtain ⟨V', S', run, F', l', s', k'⟩ := pv (l := e) (q := S1.length) (items := mis rest) (Wf := fun r => b0 (NM w) r 0 dash) hw4 (iW w) (by lia) (fun _ => rfl) f.small rest V1 S2 [] F1 l1 g1 g2 (by simp; lia) (fun c hc => ⟨f.rd c hc, Aj w c⟩)
 rw [f.l0] at s'
 refine e22 (Gg f F' l' (k' 0 _ (by lia) (aj (aj hS0))) s' (k' ci _ (by lia) (aj gc)) hcs hcl hc1 hok hL0) fun V2 S3 run2 h0 => ?_
 exact Kz <| ⟨V2, S3, rbC (bp (c7 aD rfl)) (rbC (kr cutr g2 run) run2), h0⟩
theorem HQ {c2 c3 c4 c5 c6 : Nat} (hxl : xs.length ≤ 1000) (hcs : iU xs = [c0', c1, c2, c3, c4, c5, c6]) (f : oj c0' c1 [c2, c3, c4, c5, c6] w way dash each ref asked L0 bD) (hok : ∀ wd ∈ L0, okW wd) (hL0 : L0.length ≤ 10) :
  HR [.ref 0] [miz xs] = some (.bool true, [miz xs]) := by
 have hw4 : w < 4 := by rw [← f.hw]; exact Nat.mod_lt _ (by decide)
 have hv5 : way < 5 := by rw [← f.hway]; exact Nat.mod_lt _ (by decide)
 let cs := [c0', c1, c2, c3, c4, c5, c6]
 let S0 : ac := [miz xs]
 let S1 := S0 ++ [mis cs]
 have cel := wc (σ := S0) (t := 0) (xs := xs) (by simp [S0]) rfl hxl
 rw [hcs] at cel
 have gc : am S1 1 = some (mis cs) := rfl
 let S2 := S1 ++ [[.str [107, 112, 97], .str [109, 112, 97], .str [104, 112, 97], .str [107, 104, 122]]]
 let S3 := S2 ++ [[.fn 169, .fn 176, .fn 183, .fn 190, .fn 197]]
 let S4 := S3 ++ [[.str [38, 60, 62], .str [38, 60, 62, 34, 13, 10, 9], .str [38, 62, 34], .str [38, 60, 62, 13], .str [38, 60, 34, 13, 10, 9]]]
 have it0 : ∀ S, am S 1 = some (mis cs) → az (.ref 1) (.int 0) S = some (.int (c0' : Nat), S) := fun S h => cC (i := 0) h rfl (by simp [mis, cs])
 have p2 := (IG way hv5)
 let V1 : ap := [(b5, .ref 0), (bG, .ref 1), (c9, .int (w : Nat)), (bg, .str (NM w)), (g7, .int (way : Nat)), (ic, .fn (tT way)), (de, .str (WR way)), (aP, .str [dash]), (b6, .str ref), (iM, .str jT)]
 have F1 : LF V1 1 w way dash (NM w) ref := ⟨rfl, rfl, rfl, rfl, rfl, rfl, by rw [gQ]; rfl⟩
 have hp4 : 1 ≤ S4.length := by simp [S4]
 have wh : m2 bS (m2 az (mV bG) (mK (.int 0))) (mK (.int 4)) [(b5, .ref 0), (bG, .ref 1)] S1 = some (.int (w : Nat), S1) := by
  have := gf (a := c0') (b := 4) (σ := S1) (by decide)
  rw [f.hw] at this
  exact r2 (r2 (rV rfl) rK (it0 S1 gc)) rK this
 have wy : m2 bS (m2 cZ (m2 az (mV bG) (mK (.int 0))) (mK (.int 4))) (mK (.int 5)) [(b5, .ref 0), (bG, .ref 1), (c9, .int (w : Nat)), (bg, .str (NM w))] S2 = some (.int (way : Nat), S2) := by
  have := gf (a := c0' / 4) (b := 5) (σ := S2) (by decide)
  rw [f.hway] at this
  exact r2 (r2 (r2 (rV rfl) rK (it0 S2 (aj gc))) rK (k5 (b := 4) (by decide) (by decide))) rK this
 have hwl : 1 ≤ (WR way).length := by
  have : way = 0 ∨ way = 1 ∨ way = 2 ∨ way = 3 ∨ way = 4 := by lia
  rcases this with rfl | rfl | rfl | rfl | rfl <;> decide
 have da : m2 az (mV de) (m2 bS (m2 cZ (m2 az (mV bG) (mK (.int 0))) (mK (.int 20))) (ag bZ (aa (mV de) ah))) [(b5, .ref 0), (bG, .ref 1), (c9, .int (w : Nat)), (bg, .str (NM w)), (g7, .int (way : Nat)), (ic, .fn (tT way)), (de, .str (WR way))] S4 = some (.str [dash], S4) :=
  r2 (rV rfl) (r2 (r2 (r2 (rV rfl) rK (it0 S4 (aj (aj (aj gc))))) rK (k5 (b := 20) (by decide) (by decide))) (aK (af (rV rfl) aD) len_str) (gf hwl)) (eg f.hd)
 refine e12 (pD (way := way) (σ := S4) hp4 f.sv) fun g hT hg => ?_
 have pg : ie ic oh (aa (mV iM) ah) V1 S4 = some (.str (fW way).flatten, S4) := B0 rfl hT (af (rV rfl) aD) hg
 obtain ⟨τ, comp⟩ := bP (it := mV iM) (x := ar) (c := cK true) (e := mIf (aE cIn (mV ar) (mV de)) (ag jP (aa (mV g7) (aa (mV ar) ah))) (mV ar)) (V := V1) (σ := S4) (fun _ => true) (fun v => match v with | .str [c] => .str (match bI (WR way) c with | true => (ln way c).getD [] | false => [c]) | _ => .none) (rV rfl) (its := aC jT) rfl F1.z hp4 jJ (by decide) (fun v hv τ => aY rfl)
  (fun v hv _ τ => by
   refine e12 (List.mem_map.mp hv) fun c hc z2 => ?_; subst z2
   have cc : aE cIn (mV ar) (mV de) (put V1 ar (.str [c])) (S4 ++ τ) = some (bI (WR way) c, S4 ++ τ) := aU (rV lkp) (rV rfl) rfl
   refine aY ?_
   show _ = some (MV.str (match bI (WR way) c with | true => (ln way c).getD [] | false => [c]), _)
   match q : bI (WR way) c with
   | true =>
    rw [q] at cc
    obtain ⟨l, hl⟩ := f.svr c hc q
    dsimp only
    rw [hl]
    exact BW cc (aK (af (rV rfl) (af (rV lkp) aD)) (ol (by rw [List.length_append]; lia) hl))
   | false => rw [q] at cc; exact BX cc (rV lkp))
 have hmap : ((aC jT).filter fun _ => true).map (fun v => match v with | .str [c] => MV.str (match bI (WR way) c with | true => (ln way c).getD [] | false => [c]) | _ => .none) = sL (fW way) := by
  rw [List.filter_eq_self.mpr (fun _ _ => rfl)]
  unfold aC sL fW
  rw [List.map_map, List.map_map]
  rfl
 rw [hmap] at comp
 have jr : cz (mK (.str [])) cO (aa (aX (mV iM) (bd1 ar) (cK true) (mIf (aE cIn (mV ar) (mV de)) (ag jP (aa (mV g7) (aa (mV ar) ah))) (mV ar))) ah) V1 S4 = some (.str (fW way).flatten, S4 ++ (sL (fW way) :: τ)) :=
  jd rK (af comp aD) (rf (cw (x := sL (fW way))) f.svl (by simp [fW, jT]))
 refine e22 (Gh (xs := xs) (cs := cs) (ci := 1) (S := S4 ++ (sL (fW way) :: τ)) f F1 hw4 rfl rfl rfl rfl rfl hok hL0) fun V' S' run h0 => ?_
 have hS' : ∃ τ', S' = [miz xs] ++ τ' := by
  cases S' with
  | nil => exact nS h0
  | cons a r => cases h0; exact ⟨r, rfl⟩
 obtain ⟨τ', rfl⟩ := hS'
 refine bH (V := V') (σ' := [miz xs] ++ τ') rfl (by simp) ?_ (io rfl)
 refine rbC (bp (aK (af (rV rfl) aD) cel)) ?_
 refine rbC (bp wh) ?_
 refine rbC (bp (r2 (c7 (af rK (af rK (af rK (af rK aD)))) rfl) (rV rfl) (cC (i := w) (aN _ _) (IJ w hw4) (by decide)))) ?_
 refine rbC (bp wy) ?_
 refine rbC (bp (r2 (c7 (af rK (af rK (af rK (af rK (af rK aD))))) rfl) (rV rfl) (cC (i := way) (aN _ _) p2.2 (by decide)))) ?_
 refine rbC (bp (r2 (c7 (af rK (af rK (af rK (af rK (af rK aD))))) rfl) (rV rfl) (cC (i := way) (aN _ _) p2.1 (by decide)))) ?_
 refine rbC (bp da) ?_
 refine rbC (bp (aK (af (rV rfl) (af (rV rfl) aD)) (ol hp4 f.hr))) ?_
 refine rbC (bp rK) ?_
 exact rbC (aW (aU pg jr ne_str) aM) run
end
noncomputable def BE : Nat → List (Nat × List Nat)
 | 0 => [(107, [107]), (75, [107]), (119818, [107]), (119870, [107]), (119922, [107]), (120026, [107]), (120182, [107]), (120234, [107]), (120286, [107]), (120338, [107]), (120390, [107]), (120442, [107]), (112, [112]), (80, [112]), (119823, [112]), (119875, [112]), (119927, [112]), (120031, [112]), (120187, [112]), (120239, [112]), (120291, [112]), (120343, [112]), (120395, [112]), (120447, [112]), (97, [97]), (65, [97]), (119808, [97]), (119860, [97]), (119912, [97]), (120016, [97]), (120172, [97]), (120224, [97]), (120276, [97]), (120328, [97]), (120380, [97]), (120432, [97]), (13188, [107, 97]), (13184, [112, 97]), (13225, [112, 97]), (13226, [107, 112, 97])]
 | 1 => [(109, [109]), (77, [109]), (119820, [109]), (119872, [109]), (119924, [109]), (120028, [109]), (120184, [109]), (120236, [109]), (120288, [109]), (120340, [109]), (120392, [109]), (120444, [109]), (112, [112]), (80, [112]), (119823, [112]), (119875, [112]), (119927, [112]), (120031, [112]), (120187, [112]), (120239, [112]), (120291, [112]), (120343, [112]), (120395, [112]), (120447, [112]), (97, [97]), (65, [97]), (119808, [97]), (119860, [97]), (119912, [97]), (120016, [97]), (120172, [97]), (120224, [97]), (120276, [97]), (120328, [97]), (120380, [97]), (120432, [97]), (13187, [109, 97]), (13184, [112, 97]), (13225, [112, 97]), (13227, [109, 112, 97])]
 | 2 => [(104, [104]), (72, [104]), (119815, [104]), (119867, [104]), (119919, [104]), (120023, [104]), (120179, [104]), (120231, [104]), (120283, [104]), (120335, [104]), (120387, [104]), (120439, [104]), (112, [112]), (80, [112]), (119823, [112]), (119875, [112]), (119927, [112]), (120031, [112]), (120187, [112]), (120239, [112]), (120291, [112]), (120343, [112]), (120395, [112]), (120447, [112]), (97, [97]), (65, [97]), (119808, [97]), (119860, [97]), (119912, [97]), (120016, [97]), (120172, [97]), (120224, [97]), (120276, [97]), (120328, [97]), (120380, [97]), (120432, [97]), (13259, [104, 112]), (13184, [112, 97]), (13271, [112, 104]), (13169, [104, 112, 97])]
 | _ => [(107, [107]), (75, [107]), (119818, [107]), (119870, [107]), (119922, [107]), (120026, [107]), (120182, [107]), (120234, [107]), (120286, [107]), (120338, [107]), (120390, [107]), (120442, [107]), (104, [104]), (72, [104]), (119815, [104]), (119867, [104]), (119919, [104]), (120023, [104]), (120179, [104]), (120231, [104]), (120283, [104]), (120335, [104]), (120387, [104]), (120439, [104]), (122, [122]), (90, [122]), (119833, [122]), (119885, [122]), (119937, [122]), (120041, [122]), (120197, [122]), (120249, [122]), (120301, [122]), (120353, [122]), (120405, [122]), (120457, [122]), (13200, [104, 122]), (13201, [107, 104, 122])]
noncomputable def tE : List (Nat × List Nat) → Nat → Option (List Nat)
 | [], _ => none
 | p :: r, c => match Nat.beq p.1 c with
  | true => some p.2
  | false => tE r c
def Nh (w : Nat) : Bool := (BE w).all fun p => !iE (p.1 : Int) && (match iY p.1 with
 | some l => leq l p.2
 | none => false)
theorem H0 : (List.range 4).all Nh = true := by decide +kernel
def su (T : List (Nat × List Nat)) (nn : List Nat) : List Nat → List Nat → Option (List Nat)
 | [], codes => some codes
 | s :: ss, codes => match tE T s with
  | none => none
  | some f => match sj nn (gI f s) f codes with
   | none => none
   | some codes => su T nn ss codes
theorem oV : ∀ {T : List (Nat × List Nat)} {c : Nat} {f : List Nat}, tE T c = some f → (c, f) ∈ T
 | p :: r, c, f, h => by
  unfold tE at h
  rw [dU] at h
  by_cases e : p.1 = c
  ·rw [decide_eq_true e] at h
   cases h
   subst e
   exact List.mem_cons_self
  ·rw [decide_eq_false e] at h
   exact List.mem_cons_of_mem _ (oV h)
theorem sr {w : Nat} (hw : w < 4) {nn : List Nat} : ∀ (ss codes r : List Nat), su (BE w) nn ss codes = some r → fg nn ss codes = some r
 | [], codes, r, h => h
 | s :: ss, codes, r, h => by
  unfold su at h
  unfold fg
  match q : tE (BE w) s with
  | none => rw [q] at h; exact nS h
  | some f =>
   rw [q] at h
   dsimp only at h
   have ok := List.all_eq_true.mp (List.all_eq_true.mp H0 w (List.mem_range.mpr hw)) _ (oV q)
   rw [Bool.and_eq_true] at ok
   have h1 : iE (s : Int) = false := by simpa using ok.1
   rw [h1]
   dsimp only
   have h2 := ok.2
   dsimp only at h2
   match q2 : iY s with
   | none => rw [q2] at h2; exact nB h2
   | some l =>
    rw [q2] at h2
    have h2 : leq l f = true := h2
    have : l = f := by rw [eF] at h2; exact of_decide_eq_true h2
    subst this
    dsimp only
    match q3 : sj nn (gI l s) l codes with
    | none => rw [q3] at h; exact nS h
    | some c1 => rw [q3] at h; exact sr hw ss c1 r h
def nk (a : Option (List Nat)) (b : List Nat) : Bool := match a with
 | some x => leq x b
 | none => false
def BV (w l j v t : Nat) : Bool := nk (su (BE w) (NM w ++ NM w) (eP t (jW w l j v)) [0, 0, 0]) (b0 (NM w) l 0 0)
def sw (w l : Nat) : Bool := (List.range 5).all fun j => (List.range 11).all fun v => (List.range 3).all fun t => BV w l j v t
theorem rd0 : (List.range 8).all (sw 0) = true := by decide +kernel
theorem rd1 : (List.range 8).all (sw 1) = true := by decide +kernel
theorem rd2 : (List.range 8).all (sw 2) = true := by decide +kernel
theorem rd3 : (List.range 8).all (sw 3) = true := by decide +kernel
theorem MH : fs.all (fun c => iE (c : Int)) = true := by decide +kernel
theorem j8 {nn : List Nat} {h : Nat} (hh : iE (h : Int) = true) : ∀ (a b codes : List Nat), fg nn (a ++ h :: b) codes = fg nn (a ++ b) codes
 | [], b, codes => by
  show fg nn (h :: b) codes = fg nn b codes
  unfold fg
  rw [hh]
  cases b <;> rfl
 | s :: a, b, codes => by
  show fg nn (s :: (a ++ h :: b)) codes = fg nn (s :: (a ++ b)) codes
  unfold fg
  cases iE (s : Int) with
  | true => exact j8 hh a b codes
  | false =>
   dsimp only
   cases iY s with
   | none => rfl
   | some f =>
    dsimp only
    cases sj nn (gI f s) f codes with
    | none => rfl
    | some c => exact j8 hh a b c
theorem rU (c k : Nat) (h : k < 3) : fI c k = fI (c % 8) k := by
 unfold fI
 match k, h with
 | 0, _ => rw [Nat.pow_zero, Nat.div_one, Nat.div_one]; exact (Nat.mod_mod_of_dvd c (by decide)).symm
 | 1, _ => exact ((congrArg (· % 2) (Nat.mod_mul_right_div_self c 2 4)).trans (Nat.mod_mod_of_dvd _ (by decide))).symm
 | 2, _ => exact ((congrArg (· % 2) (Nat.mod_mul_right_div_self c 4 2)).trans (Nat.mod_mod _ _)).symm
theorem IA (c : Nat) (nm : List Nat) : gr3 c nm = gr3 (c % 8) nm := by
 unfold gr3
 split
 ·rw [← rU c 0 (by decide), ← rU c 1 (by decide), ← rU c 2 (by decide)]
 ·rfl
theorem AM (w c j v : Nat) : jW w c j v = jW w (c % 8) j v := by
 unfold jW
 rw [IA]
theorem Og (k : Nat) : fI 0 k = 0 := by unfold fI; simp
theorem uA (nm : List Nat) (r dash dash' : Nat) : b0 nm r 0 dash = b0 nm r 0 dash' := by
 unfold b0
 split
 ·unfold wSg
  simp only [Og]
 ·rfl
theorem Ml {w l j v t : Nat} (hw : w < 4) (hl : l < 8) (hj : j < 5) (hv : v < 11) (ht : t < 3) : BV w l j v t = true := by
 have h : (List.range 8).all (sw w) = true := by
  have : w = 0 ∨ w = 1 ∨ w = 2 ∨ w = 3 := by lia
  rcases this with rfl | rfl | rfl | rfl
  ·exact rd0
  ·exact rd1
  ·exact rd2
  ·exact rd3
 have h := List.all_eq_true.mp h l (List.mem_range.mpr hl)
 have h := List.all_eq_true.mp h j (List.mem_range.mpr hj)
 have h := List.all_eq_true.mp h v (List.mem_range.mpr hv)
 exact List.all_eq_true.mp h t (List.mem_range.mpr ht)
theorem Aq {w : Nat} (hw : w < 4) (c dash : Nat) : fg (NM w ++ NM w) (eo w c) [0, 0, 0] = some (b0 (NM w) (c % 8) 0 dash) := by
 have h := Ml hw (Nat.mod_lt c (show 0 < 8 by decide)) (Nat.mod_lt (c / 8) (show 0 < 5 by decide)) (Nat.mod_lt (c / 40) (show 0 < 11 by decide)) (Nat.mod_lt (c / 440) (show 0 < 3 by decide))
 have hb : iE ((fs.getD (c / 1320 % 27) 0 : Nat) : Int) = true := by
  have hh := Nat.mod_lt (c / 1320) (show 0 < 27 by decide)
  have hm : fs.getD (c / 1320 % 27) 0 ∈ fs := by
   rw [List.getD_eq_getElem?_getD, List.getElem?_eq_getElem (show c / 1320 % 27 < fs.length from hh)]
   exact List.getElem_mem _
  exact List.all_eq_true.mp MH _ hm
 unfold eo
 dsimp only
 rw [j8 hb, List.take_append_drop, AM]
 unfold BV nk at h
 match q : su (BE w) (NM w ++ NM w) (eP (c / 440 % 3) (jW w (c % 8) (c / 8 % 5) (c / 40 % 11))) [0, 0, 0] with
 | none => rw [q] at h; exact nB h
 | some r =>
  rw [q] at h
  have h : leq r (b0 (NM w) (c % 8) 0 0) = true := h
  rw [eF] at h
  have h := of_decide_eq_true h
  rw [sr hw _ _ _ q, h, uA _ _ 0 dash]
def Wd (w dash k : Nat) : List Nat := b0 (NM w) (k % 8) (k / 8) dash
noncomputable def V27 : List Nat := (List.range 64).filter fun k => Nat.beq ((k % 8) &&& (k / 8)) 0
noncomputable def bz : List Nat := [38, 60, 62, 34, 13, 10, 9]
noncomputable def ku (i j : Nat) : Option Nat := match Nat.beq (i / 8) (j / 8) with
 | false => none
 | true => match Nat.xor i j with
  | x => match Nat.beq x 1 || (Nat.beq x 2 || Nat.beq x 4) with
   | true => some (Nat.land i j + 8 * x)
   | false => none
def BK (w : Nat) : List Nat := bz ++ (NM w ++ (NM w).map fun c => c - 32)
def N7 (w : Nat) : Bool := (BK w).all fun c => isA c && nk (iY c) [lo1 c]
theorem IB : (List.range 4).all N7 = true := by decide +kernel
def wt (dash : Nat) (wi wj : List Nat) : Option (Option (List Nat)) := match leq (wi.map lo1) (wj.map lo1) == eqB (eh dash wi) (eh dash wj) with
 | false => none
 | true => match leq (wi.map lo1) (wj.map lo1) && Nat.beq (fp wj wi 1) 1 with
  | false => some none
  | true => match nH (neL wi wj) with
   | some k => some (some (wi.set k dash))
   | none => none
def uQ (w dash : Nat) : Option (Option (List Nat)) → Option Nat → Bool
 | some none, none => true
 | some (some s), some k => leq s (Wd w dash k) && bI V27 k
 | _, _ => false
def wu (w dash i j : Nat) : Bool := uQ w dash (wt dash (Wd w dash i) (Wd w dash j)) (ku i j) && (leq (Wd w dash i) (Wd w dash j) == Nat.beq i j)
def kw (w dash : Nat) : Bool := V27.all fun i => (Wd w dash i).all (bI (BK w)) && V27.all fun j => wu w dash i j
theorem Mr : bz.all (kw 0) = true := by decide +kernel
theorem Mq : bz.all (kw 1) = true := by decide +kernel
theorem Mp : bz.all (kw 2) = true := by decide +kernel
theorem Mo : bz.all (kw 3) = true := by decide +kernel
noncomputable def pP (n : Nat) : Nat := n % 2 + (n / 2 % 2 + n / 4)
def qX (a k : Nat) : Nat := pP (Nat.land (Nat.xor (k % 8) a) (7 - k / 8))
noncomputable def pp (ref : List Nat) (dash : Nat) : Nat := match Nat.beq dash 38 with
 | true => 2 * ref.length - 2
 | false => 2 * ref.length
def L9 (w way dash : Nat) (ref : List Nat) (k : Nat) : Bool := match Wd w dash k with
 | wd => match f3 ref dash wd with
  | pg => nk (oA (nU way) wd) pg && (pg.all isA && (Nat.ble pg.length 40 && (match pp ref dash * fU dash wd with
   | pr => Nat.beq (fp wd pg pr) pr)))
def Ai (w dash k : Nat) : Bool := match Wd w dash k with
 | wd => Nat.beq (fp wd (wm wd) 4) 4 && (Nat.beq (fp (wm wd) wd 4) 4 && (List.range 8).all fun a => match Wd w dash a with
  | aw => match 2 * fU dash wd + qX a k with
   | n => Nat.beq (mH aw wd dash) (qX a k) && Nat.beq (fp aw wd n) n)
def V26 : List Nat := V27.filter fun k => !Nat.beq k 56
def mX (w way : Nat) : Bool := (WR way).all fun dash => match ln way dash with
 | none => false
 | some ref => Nat.ble 2 ref.length && (Nat.ble ref.length 100 && V26.all (L9 w way dash ref))
def IO (way : Nat) : Bool := nk (oA (nU way) jT) (fW way).flatten && (jT.all (fun s => !bI (WR way) s || (ln way s).isSome) && (Nat.ble (fW way).flatten.length 1000 && (WR way).all (bI bz)))
theorem Mh : (List.range 5).all IO = true := by decide +kernel
theorem Ng : (List.range 5).all (mX 0) = true := by decide +kernel
theorem Nf : (List.range 5).all (mX 1) = true := by decide +kernel
theorem Nd : (List.range 5).all (mX 2) = true := by decide +kernel
theorem Nc : (List.range 5).all (mX 3) = true := by decide +kernel
theorem PH : bz.all (fun d => V26.all (Ai 0 d)) = true := by decide +kernel
theorem PG : bz.all (fun d => V26.all (Ai 1 d)) = true := by decide +kernel
theorem PF : bz.all (fun d => V26.all (Ai 2 d)) = true := by decide +kernel
theorem PD : bz.all (fun d => V26.all (Ai 3 d)) = true := by decide +kernel
def My (w : Nat) : Bool := (List.range 8).all fun a => (List.range 8).all fun r => Nat.beq (fp (Wd w 0 a) (Wd w 0 r) 3) (pP (Nat.xor r a))
theorem Ik : (List.range 4).all My = true := by decide +kernel
def iF (M : List Nat) (s : Nat) : List Nat := match bI M s with
 | true => M
 | false => M ++ [s]
abbrev NU := List Nat × List Nat
def mY (i j : Nat) : NU → NU
 | (M, U) => match ku i j with
  | none => (M, U)
  | some s => (iF M s, U ++ [i, j])
def uL (i : Nat) : List Nat → NU → NU
 | [], q => q
 | j :: r, q => uL i r (mY i j q)
def uu : List Nat → List Nat → NU → NU
 | _, [], q => q
 | done, i :: r, q => uu (done ++ [i]) r (uL i done q)
def dK (L : List Nat) : NU := match uu [] L ([], []) with
 | (M, U) => (M, L.filter fun k => !bI U k)
def pJ : Nat → List Nat → List Nat → List Nat
 | 0, _, bD => bD
 | n + 1, L, bD => match dK L with
  | (M, lone) => pJ n M (bD ++ lone)
def tI : Nat → List Nat → Bool
 | 0, _ => true
 | n + 1, L => Nat.ble L.length 10 && match dK L with
  | (M, _) => tI n M
noncomputable def lf : List (List Nat) := [[], [0], [1], [8], [2], [16], [1, 2], [8, 16], [3], [0, 3], [17], [8, 17], [10], [10, 16], [10, 17], [24], [4], [32], [1, 4], [8, 32], [2, 4], [16, 32], [1, 2, 4], [8, 16, 32], [3, 4], [3, 32], [4, 17], [8, 17, 32], [4, 10], [10, 16, 32], [4, 10, 17], [24, 32], [5], [0, 5], [33], [8, 33], [2, 5], [5, 16], [2, 33], [8, 16, 33], [3, 5], [0, 3, 5], [17, 33], [8, 17, 33], [5, 10], [5, 10, 16], [10, 17, 33], [24, 33], [12], [12, 32], [12, 33], [40], [2, 12], [12, 16, 32], [2, 12, 33], [16, 40], [3, 12], [3, 12, 32], [12, 17, 33], [17, 40], [10, 12], [10, 12, 16, 32], [10, 12, 17, 33], [], [6], [0, 6], [1, 6], [6, 8], [34], [16, 34], [1, 34], [8, 16, 34], [3, 6], [0, 3, 6], [6, 17], [6, 8, 17], [10, 34], [10, 16, 34], [10, 17, 34], [24, 34], [20], [20, 32], [1, 20], [8, 20, 32], [20, 34], [48], [1, 20, 34], [8, 48], [3, 20], [3, 20, 32], [17, 20], [8, 17, 20, 32], [10, 20, 34], [10, 48], [10, 17, 20, 34], [], [5, 6], [0, 5, 6], [6, 33], [6, 8, 33], [5, 34], [5, 16, 34], [33, 34], [8, 16, 33, 34], [3, 5, 6], [0, 3, 5, 6], [6, 17, 33], [6, 8, 17, 33], [5, 10, 34], [5, 10, 16, 34], [10, 17, 33, 34], [], [12, 20], [12, 20, 32], [12, 20, 33], [20, 40], [12, 20, 34], [12, 48], [12, 20, 33, 34], [], [3, 12, 20], [3, 12, 20, 32], [12, 17, 20, 33], [], [10, 12, 20, 34], [], [], [], [7], [0, 7], [1, 7], [7, 8], [2, 7], [7, 16], [1, 2, 7], [7, 8, 16], [35], [0, 35], [17, 35], [8, 17, 35], [10, 35], [10, 16, 35], [10, 17, 35], [24, 35], [4, 7], [7, 32], [1, 4, 7], [7, 8, 32], [2, 4, 7], [7, 16, 32], [1, 2, 4, 7], [7, 8, 16, 32], [4, 35], [32, 35], [4, 17, 35], [8, 17, 32, 35], [4, 10, 35], [10, 16, 32, 35], [4, 10, 17, 35], [], [21], [0, 21], [21, 33], [8, 21, 33], [2, 21], [16, 21], [2, 21, 33], [8, 16, 21, 33], [21, 35], [0, 21, 35], [49], [8, 49], [10, 21, 35], [10, 16, 21, 35], [10, 49], [], [12, 21], [12, 21, 32], [12, 21, 33], [21, 40], [2, 12, 21], [12, 16, 21, 32], [2, 12, 21, 33], [], [12, 21, 35], [12, 21, 32, 35], [12, 49], [], [10, 12, 21, 35], [], [], [], [14], [0, 14], [1, 14], [8, 14], [14, 34], [14, 16, 34], [1, 14, 34], [8, 14, 16, 34], [14, 35], [0, 14, 35], [14, 17, 35], [8, 14, 17, 35], [42], [16, 42], [17, 42], [], [14, 20], [14, 20, 32], [1, 14, 20], [8, 14, 20, 32], [14, 20, 34], [14, 48], [1, 14, 20, 34], [], [14, 20, 35], [14, 20, 32, 35], [14, 17, 20, 35], [], [20, 42], [], [], [], [14, 21], [0, 14, 21], [14, 21, 33], [8, 14, 21, 33], [14, 21, 34], [14, 16, 21, 34], [14, 21, 33, 34], [], [14, 21, 35], [0, 14, 21, 35], [14, 49], [], [21, 42], [], [], [], [28], [28, 32], [28, 33], [], [28, 34], [], [], [], [28, 35], [], [], [], [], [], [], []]
noncomputable def Qj (m k : Nat) : Bool := Nat.beq (m / 2 ^ k % 2) 1
def ff (m : Nat) : List Nat := (List.range 8).filter (Qj m)
noncomputable def lD : List Nat → Nat
 | [] => 0
 | k :: r => 2 ^ k + lD r
def Qy : List Nat → List Nat → Bool := leq
def jH (m : Nat) : Bool := !Nat.ble (ff m).length 5 || leq ((a8 (ff m)).map fun p => p.1 + 8 * p.2) (lf.getD m [])
theorem Me : (List.range' 0 64).all jH = true := by decide +kernel
theorem Md : (List.range' 64 64).all jH = true := by decide +kernel
theorem Mc : (List.range' 128 64).all jH = true := by decide +kernel
theorem Mb : (List.range' 192 64).all jH = true := by decide +kernel
noncomputable def gH : List Nat → Option Nat
 | [] => none
 | a :: r => match gH r with
  | none => some a
  | some b => match Nat.ble a b with
   | true => some a
   | false => some b
noncomputable def oEq (a b : Option Nat) : Bool := match a, b with
 | some x, some y => Nat.beq x y
 | _, _ => false
def FT (m : Nat) : Bool := !(Nat.ble 1 (ff m).length && Nat.ble (ff m).length 5) || ((lf.getD m []).all (bI V26) && (List.range 8).all fun a => oEq (gH ((lf.getD m []).map (qX a))) (gH ((ff m).map fun r => pP (Nat.xor r a))))
theorem MA : (List.range 256).all FT = true := by decide +kernel
noncomputable def Ao : List Nat → Nat → Option (List Nat)
 | [], _ => none
 | a :: r, x => match Nat.beq a x with
  | true => some r
  | false => match Ao r x with
   | some t => some (a :: t)
   | none => none
def sz : List Nat → List Nat → Bool
 | [], [] => true
 | [], _ :: _ => false
 | x :: a, b => match Ao b x with
  | some t => sz a t
  | none => false
def jL : Nat → List Nat → List Nat → Option (List Nat)
 | 0, _, bD => some bD
 | n + 1, L, bD => match Nat.ble L.length 10 with
  | false => none
  | true => match dK L with
   | (M, lone) => jL n M (bD ++ lone)
def ib (L : List Nat) : Bool := match jL 4 L [] with
 | none => false
 | some bD => sz bD (lf.getD (lD L) []) && (sz L (ff (lD L)) && Nat.blt (lD L) 256)
def og (p : List Nat → Bool) : Nat → List Nat → Bool
 | 0, L => p L
 | n + 1, L => p L && (List.range 8).all fun c => bI L c || og p n (L ++ [c])
theorem O6 : og ib 4 [0] = true := by decide +kernel
theorem O5 : og ib 4 [1] = true := by decide +kernel
theorem O4 : og ib 4 [2] = true := by decide +kernel
theorem O3 : og ib 4 [3] = true := by decide +kernel
theorem O2 : og ib 4 [4] = true := by decide +kernel
theorem O1 : og ib 4 [5] = true := by decide +kernel
theorem O0 : og ib 4 [6] = true := by decide +kernel
theorem OZ : og ib 4 [7] = true := by decide +kernel
theorem dR : ∀ {l : List Nat} {c : Nat}, bI l c = true ↔ c ∈ l
 | [], c => by simp [bI]
 | a :: l, c => by
  show (match Nat.beq a c with | true => true | false => bI l c) = true ↔ _
  rw [dU]
  by_cases h : a = c
  ·rw [decide_eq_true h]; simp [h]
  ·rw [decide_eq_false h]
   have : ¬ c = a := fun e => h e.symm
   simp [this, dR (l := l)]
theorem vG {l l' : List Nat} (h : ∀ x, x ∈ l ↔ x ∈ l') (c : Nat) : bI l c = bI l' c := by
 rw [Bool.eq_iff_iff, dR, dR]; exact h c
theorem kb {a : Option (List Nat)} {b : List Nat} (h : nk a b = true) : a = some b := by
 unfold nk at h
 split at h
 ·rw [eF] at h; rw [of_decide_eq_true h]
 ·cases h
theorem uw {a b : Nat} (h : Nat.beq a b = true) : a = b := by rw [dU] at h; exact of_decide_eq_true h
theorem oQ : ∀ {b t : List Nat} {x : Nat}, Ao b x = some t → b.Perm (x :: t)
 | a :: r, t, x, h => by
  unfold Ao at h
  cases q : Nat.beq a x with
  | true => rw [q] at h; cases h; rw [uw q]
  | false =>
   rw [q] at h
   cases q2 : Ao r x with
   | none => rw [q2] at h; cases h
   | some s =>
    rw [q2] at h; cases h
    exact ((oQ q2).cons a).trans (List.Perm.swap x a s)
theorem ka : ∀ {a b : List Nat}, sz a b = true → a.Perm b
 | [], [], _ => .nil
 | [], _ :: _, h => by cases h
 | x :: a, b, h => by
  unfold sz at h
  cases q : Ao b x with
  | none => rw [q] at h; cases h
  | some t =>
   rw [q] at h
   exact ((ka h).cons x).trans (oQ q).symm
theorem gm {p : List Nat → Bool} : ∀ {n : Nat} {L : List Nat}, og p n L = true → ∀ e : List Nat, (L ++ e).Nodup → (∀ x ∈ e, x < 8) → e.length ≤ n → p (L ++ e) = true
 | 0, L, h, e, hn, h8, hl => by
  have : e = [] := List.length_eq_zero_iff.mp (by lia)
  subst this
  rw [List.append_nil]; exact h
 | n + 1, L, h, e, hn, h8, hl => by
  unfold og at h
  rw [Bool.and_eq_true] at h
  cases e with
  | nil => rw [List.append_nil]; exact h.1
  | cons c e =>
   have hc := List.all_eq_true.mp h.2 c (List.mem_range.mpr (h8 c List.mem_cons_self))
   have hnc : bI L c = false := by
    rw [Bool.eq_false_iff]
    intro q
    have := dR.mp q
    exact (List.nodup_append.mp hn).2.2 c this c List.mem_cons_self rfl
   rw [hnc, Bool.false_or] at hc
   have := gm hc e (by simpa using hn) (fun x hx => h8 x (List.mem_cons_of_mem _ hx)) (by simpa using hl)
   simpa using this
def Sub (L : List Nat) : Prop := ∀ x ∈ L, x ∈ V27
theorem qY {r : Nat} (h : r < 8) : r ∈ V27 := by
 have : ∀ r : Fin 8, r.1 ∈ V27 := by decide +kernel
 exact this ⟨r, h⟩
theorem cL {p : Nat → Bool} {n : Nat} (h : (List.range n).all p = true) {k : Nat} (hk : k < n) : p k = true := List.all_eq_true.mp h k (List.mem_range.mpr hk)
section
variable {w dash : Nat}
theorem oR (hw : w < 4) (hd : dash ∈ bz) : kw w dash = true := by
 have : w = 0 ∨ w = 1 ∨ w = 2 ∨ w = 3 := by lia
 rcases this with rfl | rfl | rfl | rfl
 ·exact List.all_eq_true.mp Mr dash hd
 ·exact List.all_eq_true.mp Mq dash hd
 ·exact List.all_eq_true.mp Mp dash hd
 ·exact List.all_eq_true.mp Mo dash hd
theorem m3 (hw : w < 4) {c : Nat} (h : c ∈ BK w) : isA c = true ∧ iY c = some [lo1 c] := by
 have := List.all_eq_true.mp (cL IB hw) c h
 rw [Bool.and_eq_true] at this
 exact ⟨this.1, kb this.2⟩
theorem mU (hw : w < 4) (hd : dash ∈ bz) {k : Nat} (hk : k ∈ V27) : ∀ c ∈ Wd w dash k, c ∈ BK w := by
 have := List.all_eq_true.mp (oR hw hd) k hk
 rw [Bool.and_eq_true] at this
 exact fun c hc => dR.mp (List.all_eq_true.mp this.1 c hc)
theorem zZ (hw : w < 4) (hd : dash ∈ bz) {i j : Nat} (hi : i ∈ V27) (hj : j ∈ V27) : uQ w dash (wt dash (Wd w dash i) (Wd w dash j)) (ku i j) = true ∧ leq (Wd w dash i) (Wd w dash j) = Nat.beq i j := by
 have := List.all_eq_true.mp (oR hw hd) i hi
 rw [Bool.and_eq_true] at this
 have := List.all_eq_true.mp this.2 j hj
 unfold wu at this
 rw [Bool.and_eq_true] at this
 exact ⟨this.1, by simpa using this.2⟩
theorem Ab (k : Nat) : ∃ x y z, Wd w dash k = [x, y, z] := j5 (iW w)
theorem Aa (hw : w < 4) (hd : dash ∈ bz) {k : Nat} (hk : k ∈ V27) : okW (Wd w dash k) := by
 refine ⟨Ab k, ?_, fun c hc => ⟨_, (m3 hw (mU hw hd hk c hc)).2, by simp⟩⟩
 exact List.all_eq_true.mpr fun c hc => (m3 hw (mU hw hd hk c hc)).1
theorem uM (hw : w < 4) : ∀ l : List Nat, (∀ c ∈ l, c ∈ BK w) → rdW l = l.map lo1
 | [], _ => rfl
 | c :: r, h => by
  unfold rdW
  rw [List.flatMap_cons, List.map_cons, jz (m3 hw (h c List.mem_cons_self)).2]
  have := uM hw r fun x hx => h x (List.mem_cons_of_mem _ hx)
  unfold rdW at this
  rw [this]; rfl
set_option tactic.hygienic true in
theorem B4 (hw : w < 4) (hd : dash ∈ bz) {i j : Nat} (hi : i ∈ V27) (hj : j ∈ V27) : sH dash (Wd w dash i) (Wd w dash j) = some ((ku i j).map (Wd w dash)) ∧ ∀ k, ku i j = some k → k ∈ V27 := by
 have h := (zZ hw hd hi hj).1
 have e : sH dash (Wd w dash i) (Wd w dash j) = wt dash (Wd w dash i) (Wd w dash j) := by
  unfold sH wt
  rw [uM hw _ (mU hw hd hi), uM hw _ (mU hw hd hj)] <;> rfl
 rw [e]
 unfold uQ at h
 split at h
 ·rename_i h1 h2
  rw [h1, h2]
  exact ⟨rfl, fun k h => by cases h⟩
 ·rename_i s k h1 h2
  rw [h1, h2]
  rw [Bool.and_eq_true, eF] at h
  refine ⟨by rw [of_decide_eq_true h.1]; rfl, fun k' h' => by cases h'; exact dR.mp h.2⟩
 ·cases h
theorem nI (hw : w < 4) (hd : dash ∈ bz) : ∀ {L : List Nat} {k : Nat}, Sub L → k ∈ V27 → gM (L.map (Wd w dash)) (Wd w dash k) = bI L k
 | [], k, _, _ => rfl
 | a :: l, k, h, hk => by
  show (leq (Wd w dash a) (Wd w dash k) || gM (l.map (Wd w dash)) (Wd w dash k)) = (match Nat.beq a k with | true => true | false => bI l k)
  rw [(zZ hw hd (h a List.mem_cons_self) hk).2, nI hw hd (fun x hx => h x (List.mem_cons_of_mem _ hx)) hk]
  cases Nat.beq a k <;> rfl
theorem uv (hw : w < 4) (hd : dash ∈ bz) {L : List Nat} {k : Nat} (h : Sub L) (hk : k ∈ V27) : jC (L.map (Wd w dash)) (Wd w dash k) = (iF L k).map (Wd w dash) ∧ Sub (iF L k) := by
 unfold jC iF
 rw [nI hw hd h hk]
 cases bI L k with
 | true => exact ⟨rfl, h⟩
 | false => exact ⟨by simp, fun x hx => by
   rcases List.mem_append.mp hx with hx | hx
   ·exact h x hx
   ·rw [List.mem_singleton.mp hx]; exact hk⟩
theorem BI (hw : w < 4) (hd : dash ∈ bz) {i j : Nat} (hi : i ∈ V27) (hj : j ∈ V27) (q : NU) (h1 : Sub q.1) (h2 : Sub q.2) : lV dash (Wd w dash i) (Wd w dash j) (q.1.map (Wd w dash), q.2.map (Wd w dash)) = some ((mY i j q).1.map (Wd w dash), (mY i j q).2.map (Wd w dash)) ∧ Sub (mY i j q).1 ∧ Sub (mY i j q).2 := by
 obtain ⟨M, U⟩ := q
 have hp := B4 hw hd hi hj
 unfold lV
 rw [hp.1]
 show _ ∧ Sub (match ku i j with | none => (M, U) | some s => (iF M s, U ++ [i, j])).1 ∧ Sub (match ku i j with | none => (M, U) | some s => (iF M s, U ++ [i, j])).2
 have e : mY i j (M, U) = (match ku i j with | none => (M, U) | some s => (iF M s, U ++ [i, j])) := rfl
 rw [e]
 cases q : ku i j with
 | none => exact ⟨rfl, h1, h2⟩
 | some s =>
  have hs := hp.2 s q
  have ad := uv hw hd h1 hs
  refine ⟨?_, ad.2, fun x hx => ?_⟩
  ·show some (jC (M.map (Wd w dash)) (Wd w dash s), U.map (Wd w dash) ++ [Wd w dash i, Wd w dash j]) = _
   rw [ad.1]; simp
  ·rcases List.mem_append.mp hx with hx | hx
   ·exact h2 x hx
   ·rcases List.mem_cons.mp hx with rfl | hx
    ·exact hi
    ·rw [List.mem_singleton.mp hx]; exact hj
theorem wq (hw : w < 4) (hd : dash ∈ bz) {i : Nat} (hi : i ∈ V27) : ∀ (r : List Nat) (q : NU), Sub r → Sub q.1 → Sub q.2 → uJ dash (Wd w dash i) (r.map (Wd w dash)) (q.1.map (Wd w dash), q.2.map (Wd w dash)) = some ((uL i r q).1.map (Wd w dash), (uL i r q).2.map (Wd w dash)) ∧ Sub (uL i r q).1 ∧ Sub (uL i r q).2
 | [], q, hr, h1, h2 => ⟨rfl, h1, h2⟩
 | j :: r, q, hr, h1, h2 => by
  refine e03 (BI hw hd hi (hr j List.mem_cons_self) q h1 h2) fun e s1 s2 => ?_
  rw [List.map_cons]
  unfold uJ
  rw [e]
  exact wq hw hd hi r (mY i j q) (fun x hx => hr x (List.mem_cons_of_mem _ hx)) s1 s2
theorem all_map (hw : w < 4) (hd : dash ∈ bz) : ∀ (r done : List Nat) (q : NU), Sub done → Sub r → Sub q.1 → Sub q.2 → ut dash (done.map (Wd w dash)) (r.map (Wd w dash)) (q.1.map (Wd w dash), q.2.map (Wd w dash)) = some ((uu done r q).1.map (Wd w dash), (uu done r q).2.map (Wd w dash)) ∧ Sub (uu done r q).1 ∧ Sub (uu done r q).2
 | [], done, q, hdn, hr, h1, h2 => ⟨rfl, h1, h2⟩
 | i :: r, done, q, hdn, hr, h1, h2 => by
  have hi := hr i List.mem_cons_self
  refine e03 (wq hw hd hi done q hdn h1 h2) fun e s1 s2 => ?_
  rw [List.map_cons]
  unfold ut
  rw [e]
  dsimp only
  have hm : done.map (Wd w dash) ++ [Wd w dash i] = (done ++ [i]).map (Wd w dash) := by simp
  rw [hm]
  refine all_map hw hd r (done ++ [i]) (uL i done q) (fun x hx => ?_) (fun x hx => hr x (List.mem_cons_of_mem _ hx)) s1 s2
  rcases List.mem_append.mp hx with hx | hx
  ·exact hdn x hx
  ·rw [List.mem_singleton.mp hx]; exact hi
theorem nQ (hw : w < 4) (hd : dash ∈ bz) {U : List Nat} (hU : Sub U) : ∀ L : List Nat, Sub L → (L.map (Wd w dash)).filter (fun x => !gM (U.map (Wd w dash)) x) = (L.filter fun k => !bI U k).map (Wd w dash)
 | [], _ => rfl
 | a :: l, h => by
  rw [List.map_cons, List.filter_cons, List.filter_cons, nI hw hd hU (h a List.mem_cons_self), nQ hw hd hU l fun x hx => h x (List.mem_cons_of_mem _ hx)]
  cases bI U a <;> rfl
theorem nz (hw : w < 4) (hd : dash ∈ bz) {L : List Nat} (hL : Sub L) : fN dash (L.map (Wd w dash)) = some ((dK L).1.map (Wd w dash), (dK L).2.map (Wd w dash)) ∧ Sub (dK L).1 ∧ Sub (dK L).2 := by
 refine e03 (all_map hw hd L [] ([], []) (fun x hx => by cases hx) hL (fun x hx => by cases hx) (fun x hx => by cases hx)) fun e s1 s2 => ?_
 have e' : ut dash [] (L.map (Wd w dash)) ([], []) = _ := e
 unfold fN
 rw [e']
 have hm : dK L = ((uu [] L ([], [])).1, L.filter fun k => !bI (uu [] L ([], [])).2 k) := rfl
 rw [hm]
 refine ⟨?_, s1, fun x hx => hL x (List.mem_filter.mp hx).1⟩
 show some (_, _) = some (_, _)
 rw [nQ hw hd s2 L hL]
theorem m9 (hw : w < 4) (hd : dash ∈ bz) : ∀ (n : Nat) (L bD : List Nat), Sub L → jK dash n (L.map (Wd w dash)) (bD.map (Wd w dash)) = some ((pJ n L bD).map (Wd w dash))
 | 0, L, bD, _ => rfl
 | n + 1, L, bD, h => by
  refine e03 (nz hw hd h) fun e s1 _ => ?_
  unfold jK
  rw [e]
  dsimp only
  rw [← List.map_append]
  exact m9 hw hd n (dK L).1 (bD ++ (dK L).2) s1
theorem tH (hw : w < 4) (hd : dash ∈ bz) : ∀ (n : Nat) (L : List Nat), Sub L → tI n L = true → kq dash n (L.map (Wd w dash))
 | 0, L, _, _ => trivial
 | n + 1, L, h, hl => by
  have hl : (Nat.ble L.length 10 && tI n (dK L).1) = true := hl
  rw [Bool.and_eq_true] at hl
  refine e03 (nz hw hd h) fun e s1 _ => ?_
  refine ⟨by rw [List.length_map]; exact Nat.le_of_ble_eq_true hl.1, fun x hx => ?_, fun q hq => ?_⟩
  ·refine e12 (List.mem_map.mp hx) fun k hk z2 => ?_; subst z2
   exact Aa hw hd (h k hk)
  ·rw [e] at hq
   cases hq
   exact tH hw hd n _ s1 hl.2
end
theorem lB : ∀ {l : List Nat} {m : Nat}, gH l = some m → m ∈ l ∧ ∀ x ∈ l, m ≤ x
 | a :: r, m, h => by
  unfold gH at h
  cases q : gH r with
  | none =>
   rw [q] at h; cases h
   have : r = [] := by
    cases r with
    | nil => rfl
    | cons b t =>
     unfold gH at q
     cases q2 : gH t with
     | none => rw [q2] at q; cases q
     | some c => rw [q2] at q; dsimp only at q; cases q3 : Nat.ble b c <;> rw [q3] at q <;> cases q
   subst this
   simp
  | some b =>
   rw [q] at h
   dsimp only at h
   obtain ⟨hb, hx⟩ := lB q
   cases q3 : Nat.ble a b with
   | true =>
    rw [q3] at h; cases h
    have := Nat.le_of_ble_eq_true q3
    exact ⟨List.mem_cons_self, fun x hx' => by
     rcases List.mem_cons.mp hx' with rfl | hx'
     ·exact Nat.le_refl _
     ·exact Nat.le_trans this (hx x hx')⟩
   | false =>
    rw [q3] at h; cases h
    rw [fH] at q3
    have := of_decide_eq_false q3
    exact ⟨List.mem_cons_of_mem _ hb, fun x hx' => by
     rcases List.mem_cons.mp hx' with rfl | hx'
     ·lia
     ·exact hx x hx'⟩
theorem iB : ∀ {l : List Nat}, l ≠ [] → ∃ m, gH l = some m
 | [], h => absurd rfl h
 | a :: r, _ => by
  unfold gH
  cases gH r with
  | none => exact ⟨_, rfl⟩
  | some b => dsimp only; cases Nat.ble a b <;> exact ⟨_, rfl⟩
theorem oU {l l' : List Nat} (h : l.Perm l') : gH l = gH l' := by
 cases l with
 | nil => rw [List.nil_perm.mp h]
 | cons a r =>
  have hne : l' ≠ [] := fun e => by subst e; exact absurd h.length_eq (by simp)
  obtain ⟨m, hm⟩ := iB (show a :: r ≠ [] by simp)
  obtain ⟨m', hm'⟩ := iB hne
  rw [hm, hm']
  obtain ⟨a1, a2⟩ := lB hm
  obtain ⟨b1, b2⟩ := lB hm'
  have := a2 m' (h.mem_iff.mpr b1)
  have := b2 m (h.mem_iff.mp a1)
  rw [show m = m' by lia]
theorem ny : ∀ l : List Nat, kc (mis l) = (gH l).map (fun (n : Nat) => (n : Int))
 | [] => rfl
 | [a] => rfl
 | a :: b :: r => by
  have ih := ny (b :: r)
  have e1 : kc (mis (a :: b :: r)) = match kc (mis (b :: r)) with
   | some t => some (if (a : Int) ≤ t then (a : Int) else t)
   | none => none := rfl
  have e2 : gH (a :: b :: r) = match gH (b :: r) with
   | none => some a
   | some t => match Nat.ble a t with
    | true => some a
    | false => some t := rfl
  rw [e1, e2, ih]
  obtain ⟨m, hm⟩ := iB (show b :: r ≠ [] by simp)
  rw [hm]
  show some (if (a : Int) ≤ (m : Int) then (a : Int) else (m : Int)) = (match Nat.ble a m with | true => some a | false => some m).map _
  rw [fH]
  by_cases h : a ≤ m
  ·rw [decide_eq_true h, if_pos (by lia)]; rfl
  ·rw [decide_eq_false h, if_neg (by lia)]; rfl
theorem tD : ∀ l : List Nat, kW (miz (l.map fun (n : Nat) => -(n : Int))) = (gH l).map fun (n : Nat) => -(n : Int)
 | [] => rfl
 | [a] => rfl
 | a :: b :: r => by
  have ih := tD (b :: r)
  have e1 : kW (miz ((a :: b :: r).map fun (n : Nat) => -(n : Int))) = match kW (miz ((b :: r).map fun (n : Nat) => -(n : Int))) with
   | some t => some (if t ≤ -(a : Int) then -(a : Int) else t)
   | none => none := rfl
  have e2 : gH (a :: b :: r) = match gH (b :: r) with
   | none => some a
   | some t => match Nat.ble a t with
    | true => some a
    | false => some t := rfl
  rw [e1, e2, ih]
  obtain ⟨m, hm⟩ := iB (show b :: r ≠ [] by simp)
  rw [hm]
  show some (if -(m : Int) ≤ -(a : Int) then -(a : Int) else -(m : Int)) = (match Nat.ble a m with | true => some a | false => some m).map _
  rw [fH]
  by_cases h : a ≤ m
  ·rw [decide_eq_true h, if_pos (by lia)]; rfl
  ·rw [decide_eq_false h, if_neg (by lia)]; rfl
theorem nM {a b : List Nat} (h : ∀ r, bI a r = bI b r) : a8 a = a8 b := by
 have e1 : ∀ low d, uK a low d = uK b low d := fun low d => by funext r; unfold uK; rw [h]
 have e2 : ∀ low d, kZ a low d = kZ b low d := fun low d => by unfold kZ; rw [e1]
 have e3 : ∀ d ls, d0 a d ls = d0 b d ls := fun d ls => by unfold d0; simp only [e2]
 have e4 : gL a = gL b := by unfold gL; simp only [e3]
 unfold a8
 rw [e4]
theorem AF (rows : List Nat) : ∀ p ∈ a8 rows, p.1 < 8 := by
 intro p hp
 have := (List.mem_filter.mp hp).1
 unfold gL d0 at this
 refine e12 (List.mem_flatMap.mp this) fun d hd h => ?_
 refine e12 (List.mem_map.mp h) fun low hl z2 => ?_; subst z2
 have := List.mem_range'_1.mp (List.mem_filter.mp hl).1
 lia
def Oa (rest : List Nat) : List Nat := rest.foldl (fun L c => iF L (c % 8)) []
theorem ub : ∀ (rest L : List Nat), L.Nodup → (∀ x ∈ L, x < 8) → (rest.foldl (fun L c => iF L (c % 8)) L).Nodup ∧ (∀ x ∈ rest.foldl (fun L c => iF L (c % 8)) L, x < 8) ∧ (∀ x, x ∈ rest.foldl (fun L c => iF L (c % 8)) L ↔ x ∈ L ∨ x ∈ rest.map (· % 8)) ∧ (rest.foldl (fun L c => iF L (c % 8)) L).length ≤ L.length + rest.length
 | [], L, hn, h8 => ⟨hn, h8, fun x => by simp, by simp⟩
 | c :: rest, L, hn, h8 => by
  have hc : c % 8 < 8 := Nat.mod_lt _ (by decide)
  have step : (iF L (c % 8)).Nodup ∧ (∀ x ∈ iF L (c % 8), x < 8) ∧ (∀ x, x ∈ iF L (c % 8) ↔ x ∈ L ∨ x = c % 8) ∧ (iF L (c % 8)).length ≤ L.length + 1 := by
   unfold iF
   cases q : bI L (c % 8) with
   | true =>
    have := dR.mp q
    exact ⟨hn, h8, fun x => ⟨.inl, fun h => h.elim id fun e => by rw [e]; exact this⟩, Nat.le_succ _⟩
   | false =>
    have hnm : c % 8 ∉ L := fun h => by rw [dR.mpr h] at q; cases q
    refine ⟨List.nodup_append.mpr ⟨hn, by simp, fun x hx y hy e => ?_⟩, fun x hx => ?_, fun x => by simp, by simp⟩
    ·have hy := List.mem_singleton.mp hy
     rw [e, hy] at hx
     exact hnm hx
    ·rcases List.mem_append.mp hx with hx | hx
     ·exact h8 x hx
     ·rw [List.mem_singleton.mp hx]; exact hc
  refine e04 (ub rest (iF L (c % 8)) step.1 step.2.1) fun a b d l => ?_
  refine ⟨a, b, fun x => ?_, ?_⟩
  ·rw [List.foldl_cons, d x, step.2.2.1 x, List.map_cons, List.mem_cons]
   exact or_assoc
  ·rw [List.foldl_cons, List.length_cons]
   have := step.2.2.2
   lia
theorem H7 {L : List Nat} (hn : L.Nodup) (h8 : ∀ x ∈ L, x < 8) (hl : L.length ≤ 5) (hne : L ≠ []) : ib L = true := by
 cases L with
 | nil => exact absurd rfl hne
 | cons a e =>
  have ha := h8 a List.mem_cons_self
  have hl4 : e.length ≤ 4 := by simpa using hl
  have he : ∀ x ∈ e, x < 8 := fun x hx => h8 x (List.mem_cons_of_mem _ hx)
  have : a = 0 ∨ a = 1 ∨ a = 2 ∨ a = 3 ∨ a = 4 ∨ a = 5 ∨ a = 6 ∨ a = 7 := by lia
  rcases this with rfl | rfl | rfl | rfl | rfl | rfl | rfl | rfl
  ·exact gm O6 e hn he hl4
  ·exact gm O5 e hn he hl4
  ·exact gm O4 e hn he hl4
  ·exact gm O3 e hn he hl4
  ·exact gm O2 e hn he hl4
  ·exact gm O1 e hn he hl4
  ·exact gm O0 e hn he hl4
  ·exact gm OZ e hn he hl4
theorem H2 {m : Nat} (hm : m < 256) (hl : (ff m).length ≤ 5) : (a8 (ff m)).map (fun p => p.1 + 8 * p.2) = lf.getD m [] := by
 have h : jH m = true := by
  have : m < 64 ∨ (64 ≤ m ∧ m < 128) ∨ (128 ≤ m ∧ m < 192) ∨ (192 ≤ m ∧ m < 256) := by lia
  rcases this with h | h | h | h
  ·exact List.all_eq_true.mp Me m (List.mem_range'_1.mpr (by lia))
  ·exact List.all_eq_true.mp Md m (List.mem_range'_1.mpr (by lia))
  ·exact List.all_eq_true.mp Mc m (List.mem_range'_1.mpr (by lia))
  ·exact List.all_eq_true.mp Mb m (List.mem_range'_1.mpr (by lia))
 unfold jH at h
 rw [Nat.ble_eq_true_of_le hl] at h
 have h : leq _ _ = true := h
 rw [eF] at h
 exact of_decide_eq_true h
theorem na : ∀ {n : Nat} {L bD r : List Nat}, jL n L bD = some r → pJ n L bD = r ∧ tI n L = true
 | 0, L, bD, r, h => by cases h; exact ⟨rfl, rfl⟩
 | n + 1, L, bD, r, h => by
  unfold jL at h
  cases q : Nat.ble L.length 10 with
  | false => rw [q] at h; cases h
  | true =>
   rw [q] at h
   have h : jL n (dK L).1 (bD ++ (dK L).2) = some r := h
   obtain ⟨a, b⟩ := na h
   refine ⟨a, ?_⟩
   show (Nat.ble L.length 10 && tI n (dK L).1) = true
   rw [q, b]; rfl
section
variable {w way dash : Nat} {ref : List Nat}
theorem oJ (hw : w < 4) (hv : way < 5) (hd : dash ∈ WR way) (hr : ln way dash = some ref) : 2 ≤ ref.length ∧ ref.length ≤ 100 ∧ ∀ k ∈ V26, L9 w way dash ref k = true := by
 have h : mX w way = true := by
  have : w = 0 ∨ w = 1 ∨ w = 2 ∨ w = 3 := by lia
  rcases this with rfl | rfl | rfl | rfl
  ·exact cL Ng hv
  ·exact cL Nf hv
  ·exact cL Nd hv
  ·exact cL Nc hv
 have h := List.all_eq_true.mp h dash hd
 rw [hr] at h
 dsimp only at h
 rw [Bool.and_eq_true, Bool.and_eq_true] at h
 exact ⟨Nat.le_of_ble_eq_true h.1, Nat.le_of_ble_eq_true h.2.1, fun k hk => List.all_eq_true.mp h.2.2 k hk⟩
theorem Ah (hw : w < 4) (hd : dash ∈ bz) {k : Nat} (hk : k ∈ V26) : Ai w dash k = true := by
 have : w = 0 ∨ w = 1 ∨ w = 2 ∨ w = 3 := by lia
 rcases this with rfl | rfl | rfl | rfl
 ·exact List.all_eq_true.mp (List.all_eq_true.mp PH dash hd) k hk
 ·exact List.all_eq_true.mp (List.all_eq_true.mp PG dash hd) k hk
 ·exact List.all_eq_true.mp (List.all_eq_true.mp PF dash hd) k hk
 ·exact List.all_eq_true.mp (List.all_eq_true.mp PD dash hd) k hk
theorem Hb (hw : w < 4) (hv : way < 5) (hd : dash ∈ WR way) (hd7 : dash ∈ bz) (hr : ln way dash = some ref) {k a : Nat} (hk : k ∈ V26) (ha : a < 8) :
  WOk way dash (pp ref dash) ref (Wd w dash a) (Wd w dash k) ∧ mH (Wd w dash a) (Wd w dash k) dash = qX a k := by
 have hA := (oJ hw hv hd hr).2.2 k hk
 have hB := Ah hw hd7 hk
 have hV : k ∈ V27 := (List.mem_filter.mp hk).1
 unfold L9 at hA
 dsimp only at hA
 rw [Bool.and_eq_true, Bool.and_eq_true, Bool.and_eq_true] at hA
 unfold Ai at hB
 dsimp only at hB
 rw [Bool.and_eq_true, Bool.and_eq_true] at hB
 have hBa := cL hB.2.2 ha
 rw [Bool.and_eq_true] at hBa
 have hm := uw hBa.1
 have hf := uw hBa.2
 have ok := Aa (w := w) hw hd7 hV
 exact ⟨⟨Ab k, ok.2.1, kb hA.1, hA.2.1, Nat.le_of_ble_eq_true hA.2.2.1, uw hA.2.2.2, by rw [hm]; exact hf, uw hB.1, uw hB.2.1⟩, hm⟩
end
theorem uh (xs : List Int) : ∃ c0 c1 c2 c3 c4 c5 c6, iU xs = [c0, c1, c2, c3, c4, c5, c6] := ⟨_, _, _, _, _, _, _, rfl⟩
theorem uE (w : Nat) (dash : Nat) : ∀ r, ∀ x ∈ b0 (NM w) r 0 dash, x ≤ 1114111 := by
 intro r x hx
 obtain ⟨a, b, c, h, ha, hb, hc⟩ := iW w
 rw [h] at hx
 unfold b0 wSg at hx
 simp only [Og] at hx
 have h1 : ∀ y n, eZ y → y - n ≤ 1114111 := fun y n hy => Nat.le_trans (Nat.sub_le _ _) hy.2
 rcases List.mem_cons.mp hx with rfl | hx
 ·exact h1 _ _ ha
 ·rcases List.mem_cons.mp hx with rfl | hx
  ·exact h1 _ _ hb
  ·rw [List.mem_singleton.mp hx]; exact h1 _ _ hc
set_option tactic.hygienic true in
theorem Gc (xs : List Int) (hxl : xs.length ≤ 1000) : HR [.ref 0] [miz xs] = some (.bool true, [miz xs]) := by
 obtain ⟨c0, c1, c2, c3, c4, c5, c6, hcs⟩ := uh xs
 have hw : c0 % 4 < 4 := Nat.mod_lt _ (by decide)
 have hv : c0 / 4 % 5 < 5 := Nat.mod_lt _ (by decide)
 generalize hwd : c0 % 4 = w at hw
 generalize hwy : c0 / 4 % 5 = way at hv
 have hsev := cL Mh hv
 unfold IO at hsev
 rw [Bool.and_eq_true, Bool.and_eq_true, Bool.and_eq_true] at hsev
 have hwl : 0 < (WR way).length := by
  have : way = 0 ∨ way = 1 ∨ way = 2 ∨ way = 3 ∨ way = 4 := by lia
  rcases this with rfl | rfl | rfl | rfl | rfl <;> decide
 obtain ⟨dash, hdash⟩ : ∃ d, (WR way)[c0 / 20 % (WR way).length]? = some d := ⟨_, List.getElem?_eq_getElem (Nat.mod_lt _ hwl)⟩
 have hdm : dash ∈ WR way := List.mem_of_getElem? hdash
 have hd7 : dash ∈ bz := dR.mp (List.all_eq_true.mp hsev.2.2.2 dash hdm)
 have hd7s : dash ∈ jT := hd7
 obtain ⟨ref, href⟩ : ∃ l, ln way dash = some l := by
  have := List.all_eq_true.mp hsev.2.1 dash hd7s
  rw [dR.mpr hdm] at this
  exact Option.isSome_iff_exists.mp (by simpa using this)
 have hA := oJ hw hv hdm href
 let rest := [c2, c3, c4, c5, c6]
 refine e04 (ub rest [] List.nodup_nil (fun x hx => by cases hx)) fun dn d8 dm dl => ?_
 have hLdef : rest.foldl (fun L c => iF L (c % 8)) [] = Oa rest := rfl
 rw [hLdef] at dn d8 dm dl
 generalize hL : Oa rest = L at dn d8 dm dl
 have hl5 : L.length ≤ 5 := dl
 have hne : L ≠ [] := fun e => by
  have := (dm (c2 % 8)).mpr (.inr (by simp [rest]))
  rw [e] at this; cases this
 have hSub : Sub L := fun x hx => qY (d8 x hx)
 have hseq := H7 dn d8 hl5 hne
 unfold ib at hseq
 cases hB : jL 4 L [] with
 | none => rw [hB] at hseq; cases hseq
 | some leftC =>
 rw [hB] at hseq
 dsimp only at hseq
 rw [Bool.and_eq_true, Bool.and_eq_true] at hseq
 obtain ⟨hro, hlens⟩ := na hB
 have hp1 := ka hseq.1
 have hp2 := ka hseq.2.1
 have hmk : lD L < 256 := by have := hseq.2.2; rwa [Nat.blt_eq] at this
 generalize lD L = m at hp1 hp2 hmk
 have hrl : (ff m).length ≤ 5 := by rw [← hp2.length_eq]; exact hl5
 have hr1 : 1 ≤ (ff m).length := by
  rw [← hp2.length_eq]
  cases L with
  | nil => exact absurd rfl hne
  | cons a r => simp
 have Gp := H2 hmk hrl
 have hmin := cL MA hmk
 unfold FT at hmin
 rw [Nat.ble_eq_true_of_le hr1, Nat.ble_eq_true_of_le hrl] at hmin
 have hmin : ((lf.getD m []).all (bI V26) && (List.range 8).all fun a => oEq (gH ((lf.getD m []).map (qX a))) (gH ((ff m).map fun r => pP (Nat.xor r a)))) = true := hmin
 rw [Bool.and_eq_true] at hmin
 have hl26 : ∀ k ∈ leftC, k ∈ V26 := fun k hk => dR.mp (List.all_eq_true.mp hmin.1 k (hp1.mem_iff.mp hk))
 have ha8 : c1 % 8 < 8 := Nat.mod_lt _ (by decide)
 generalize hask : c1 % 8 = a at ha8
 have haV : a ∈ V27 := qY ha8
 have hWa : ∀ r, r < 8 → Wd w dash r = b0 (NM w) r 0 dash := fun r hr => by
  unfold Wd
  rw [Nat.mod_eq_of_lt hr, Nat.div_eq_of_lt hr]
 have hmod : ∀ c : Nat, c % 8 < 8 := fun c => Nat.mod_lt _ (by decide)
 have hlay : ∀ (cs M : List Nat), Sub M → cs.foldl (fun L c => jC L (b0 (NM w) (c % 8) 0 dash)) (M.map (Wd w dash)) = (cs.foldl (fun L c => iF L (c % 8)) M).map (Wd w dash) := by
  intro cs
  induction cs with
  | nil => intro M _; rfl
  | cons c cs ih =>
   intro M hM
   rw [List.foldl_cons, List.foldl_cons, ← hWa _ (hmod c)]
   have ad := uv (w := w) hw hd7 hM (qY (hmod c))
   rw [ad.1]
   exact ih _ ad.2
 have hL0 : rest.foldl (fun L c => jC L (b0 (NM w) (c % 8) 0 dash)) [] = L.map (Wd w dash) := by
  have := hlay rest [] (fun x hx => by cases hx)
  rw [show ([] : List Nat).map (Wd w dash) = [] from rfl] at this
  rw [this, ← hL]; rfl
 have hgr : a8 (rest.map (· % 8)) = a8 (ff m) := nM fun r => vG (fun x => by
  have h1 := dm x
  have h2 := hp2.mem_iff (a := x)
  constructor
  ·intro hx; exact h2.mp (h1.mpr (.inr hx))
  ·intro hx; exact (h1.mp (h2.mpr hx)).resolve_left (by simp)) r
 have hnear : ∀ r, r < 8 → fp (Wd w dash a) (Wd w dash r) 3 = pP (Nat.xor r a) := fun r hr => by
  have := cL (cL (cL Ik hw) ha8) hr
  have := uw this
  rw [hWa a ha8, hWa r hr, uA _ _ dash 0, uA _ _ dash 0]
  unfold Wd at this
  rw [Nat.mod_eq_of_lt ha8, Nat.div_eq_of_lt ha8, Nat.mod_eq_of_lt hr, Nat.div_eq_of_lt hr] at this
  exact this
 have hnl : (L.map (Wd w dash)).map (fun wd => fp (Wd w dash a) wd 3) = L.map fun r => pP (Nat.xor r a) := by
  rw [List.map_map]
  exact List.map_congr_left fun r hr => hnear r (d8 r hr)
 have hmis : (leftC.map (Wd w dash)).map (fun wd => -(mH (Wd w dash a) wd dash : Int)) = (leftC.map (qX a)).map fun (n : Nat) => -(n : Int) := by
  rw [List.map_map, List.map_map]
  exact List.map_congr_left fun k hk => by
   show -((mH (Wd w dash a) (Wd w dash k) dash : Nat) : Int) = -((qX a k : Nat) : Int)
   rw [(Hb hw hv hdm hd7 href (hl26 k hk) ha8).2]
 have hmm : gH (leftC.map (qX a)) = gH (L.map fun r => pP (Nat.xor r a)) := by
  rw [oU (hp1.map (qX a)), oU (hp2.map fun r => pP (Nat.xor r a))]
  have := cL hmin.2 ha8
  unfold oEq at this
  split at this
  ·rename_i x y h1 h2
   rw [h1, h2, uw this]
  ·cases this
 have hls : leftC.length ≤ 63 := by
  rw [hp1.length_eq, ← Gp, List.length_map]
  have : (lf.getD m []).length ≤ 63 := by
   have : lf.all (fun l => Nat.ble l.length 63) = true := by decide +kernel
   have ht : lf.getD m [] ∈ lf ∨ lf.getD m [] = [] := by
    rw [List.getD_eq_getElem?_getD]
    cases q : lf[m]? with
    | none => exact .inr rfl
    | some l => exact .inl (List.mem_of_getElem? q)
   rcases ht with h | h
   ·exact Nat.le_of_ble_eq_true (List.all_eq_true.mp this _ h)
   ·rw [h]; simp
  rw [← Gp, List.length_map] at this
  exact this
 have facts : oj c0 c1 rest w way dash (pp ref dash) ref (Wd w dash a) (L.map (Wd w dash)) (leftC.map (Wd w dash)) := by
  refine ⟨hwd, hwy, hdash, href, kb hsev.1, fun s hs hh => ?_, Nat.le_of_ble_eq_true hsev.2.2.1, fun c _ => Aq hw c dash, uE w dash, ?_, (Aa hw hd7 haV).2.1, hL0, tH hw hd7 4 L hSub hlens, ?_, by rw [List.length_map]; exact hls, ?_, ?_, ?_, ?_, fun wd hwd' => ?_, ?_, ?_⟩
  ·have := List.all_eq_true.mp hsev.2.1 s hs
   rw [hh] at this
   exact Option.isSome_iff_exists.mp (by simpa using this)
  ·rw [hask, hWa a ha8]
  ·have := m9 (w := w) hw hd7 4 L [] hSub
   rw [hro] at this
   exact this
  ·rw [hgr]
   have h1 : (a8 (ff m)).map (fun p => b0 (NM w) p.1 p.2 dash) = ((a8 (ff m)).map fun p => p.1 + 8 * p.2).map (Wd w dash) := by
    rw [List.map_map]
    exact List.map_congr_left fun p hp => by
     have := AF _ p hp
     show _ = b0 (NM w) ((p.1 + 8 * p.2) % 8) ((p.1 + 8 * p.2) / 8) dash
     rw [show (p.1 + 8 * p.2) % 8 = p.1 by lia, show (p.1 + 8 * p.2) / 8 = p.2 by lia]
   rw [h1, Gp]
   exact hp1.map _
  ·unfold pp
   cases q : Nat.beq dash 38 with
   | true => simp only [if_true]; have := hA.1; lia
   | false => simp
  ·unfold pp; have := hA.1; cases Nat.beq dash 38 <;> dsimp only <;> lia
  ·unfold pp; have := hA.2.1; cases Nat.beq dash 38 <;> dsimp only <;> lia
  ·refine e12 (List.mem_map.mp hwd') fun k hk z2 => ?_; subst z2
   exact (Hb hw hv hdm hd7 href (hl26 k hk) ha8).1
  ·rw [hnl, hmis, tD, ny, hmm, Option.map_map]
   rfl
  ·rw [hnl, ny]
   obtain ⟨x, hx⟩ := iB (show L.map (fun r => pP (Nat.xor r a)) ≠ [] by simpa using hne)
   rw [hx]; rfl
 exact HQ hxl hcs facts (fun wd hwd' => by
  refine e12 (List.mem_map.mp hwd') fun k hk z2 => ?_; subst z2
  exact Aa hw hd7 (hSub k hk)) (by rw [List.length_map]; lia)
end Mine
end
noncomputable section
open PySem PySem.W PyProof.Rows PySem.W.X
namespace Mine
theorem Pw : ∀ P, KA = (KF P).map (·.1) := fun P => by kernel_rfl
theorem H5 (w : World) : ∃ o es ep, (KF w.params).lookup cStatics = some o ∧ o.data = .dict es ep ∧ nsFind es sharingNotToldKey = none := ⟨_, _, _, rfl, rfl, by kernel_rfl⟩
theorem MZ {w : World} {h : Heap} {mc : Str → Option Value} (X : (KF w.params).In h) (hn : h.Ns cStatics mc) : NoneBooked h := by
 refine ⟨mc, hn, ?_⟩
 obtain ⟨o, es, ep, ho, hd, hk, hf⟩ := hn
 obtain ⟨o', es', ep', hl, hd', hn'⟩ := H5 w
 have := X _ _ hl
 rw [ho] at this
 cases this
 rw [hd] at hd'
 cases hd'
 rw [← hf]; exact hn'
set_option tactic.hygienic true in
theorem Go {w : World} {n : Nat} {h : Heap} {ρ : List Addr} : ∀ {vs : List Value} {xs : List Int}, IntsAre vs xs → bV w n h ρ vs (miz xs) := by
 intro vs xs hI
 induction hI with
 | nil => exact .nil
 | cons => rename_i ih; exact .cons ⟨_, rfl⟩ ih
theorem Mj : PySem.Challenge.rw_tc0074_01.wellSaid = true := by
 unfold OpenLaw.wellSaid OpenRow.wellSaid OpenRow.partSaid looksOpen
 refine look_both (look_both (look_both (look_both (look_both (look_both (look_both (look_both (look_both (look_both (look_both (look_both (look_both (look_both (look_both (look_both (look_both (look_both (look_both (look_both (look_both (look_both (look_both (look_both (look_both (look_both (look_both (look_both (look_both (look_both (look_both (look_both (look_both (look_both (look_both (look_both (look_both ?_ ?_) ?_) ?_) ?_) ?_) ?_) ?_) ?_) ?_) ?_) ?_) ?_) ?_) ?_) ?_) ?_) ?_) ?_) ?_) ?_) ?_) ?_) ?_) ?_) ?_) ?_) ?_) ?_) ?_) ?_) ?_) ?_) ?_) ?_) ?_) ?_) ?_
 all_goals decide +kernel
set_option tactic.hygienic true in
theorem main : PySem.Challenge.rw_tc0074_01.Holds := by
 w_on; refine holds_law Mj fun _said => ?_
 refine MI ?hc ?hw (by assumption)
 case hw => w_witness2
 case hc =>
  intro w s₀ s₁ mg mb G y fa o pm cd doc dV kV ho hd hcd hD hmg hg args vals as L hpre hlay hrd hwl hlo
  obtain ⟨_, KX0, ZN, ZT⟩ := z_facts Pw y
  have KX : (KF w.params).In s₁.heap := InK.keeps w s₀.heap s₁.heap KX0 L.keeps
  refine Ground.open G ?_
  intro T B D TE TW
  wrow_args hpre hlay hrd hwl hlo
  rename_i xs hs1 hlay0 hLa hr1 hl2 as1 as2 la vs as3 hLL hra hw1 hr0 hI hr hc1 hc2
  have htk := script_toks L ZT
  have hobj := script_obj L hLL
  have hfa : fa = 241 := by
   have h1 : mg dL.name = some (.ref 241) := mg_of KX T.g (by kernel_rfl)
   rw [h1] at hmg
   cases hmg; rfl
  subst hfa
  obtain ⟨mc, hmc, _⟩ := T.nodigits
  let C : Sys := { w := w, h₁ := s₁.heap, os := s₁.os, mg := mg, mb := mb, nsg := T.g, nsb := T.b, hb := T.builtins, lim := T.nolimit, nb := MZ KX hmc, X := KX }
  have st : MSt C [miz xs] [la] s₁ := {
   len := rfl
   nodup := by simp
   fresh := fun i a h h0 => by cases i with
    | zero => exact absurd rfl h0
    | succ i => simp at h
   keep := fun _ _ e => e
   gens := hg
   os := rfl
   tk0 := htk
   cells := fun i ys a e1 e2 => by
    cases i with
    | succ i => simp at e2
    | zero =>
     cases e1; cases e2
     exact ⟨vs, ⟨_, hobj⟩, Go hI⟩ }
  have hA : AOk callerA (0 + 4) := by
   refine ⟨rfl, ?_, ?_⟩ <;> decide +kernel
  have hlen : xs.length ≤ 1000 := by omega
  refine (Mu (C := C) 0).h callerA [miz xs] [miz xs] [.ref 0] (.bool true) [.ref la] s₁ [la] _ _ hA st (.cons ⟨la, rfl, rfl⟩ .nil) (Gc xs hlen) ?_
  intro v s' ρ' hst hv
  have hv : v = .bool true := hv
  subst hv
  have hpost : rw.row.claim.post [ofPy (PyData.list (List.map PyData.int xs))] (WData.bool true) [ofPy (PyData.list (List.map PyData.int xs))] = true := by wrow_post
  exact ⟨.inl ⟨_, .bool true, [], rfl, fun _ => rfl, .bool true, hpost, fun _ => ⟨List.nodup_nil, fun a ha => by cases ha⟩⟩, .of_keep hst.st.keep, hst.st.os, .of_eq hst.st.gens⟩
end Mine
end
theorem PySem.Challenge.cw_tc0074_01_holds : PySem.Challenge.rw_tc0074_01.Holds := by
  exact Mine.main
